import JvmDerived
import JvmDerived.Pilot.@@N@@Statement
import JvmDerived.Pilot.@@N@@Code
set_option linter.unusedVariables false
set_option linter.unusedSimpArgs false
namespace Jvm.RoadKit
open Sem ClassFile Op Lib Jvm.Stand Jvm.Free Jvm.LawKit
section New
variable {p : Program} {l : Launch} {e : Env} {R : Room} {s : State} {m : MethodId} {args : Array Value} {below : List Frame} {meth : Method} {c : Code} {T : State} {locs : List Loc} {cells slots : Nat}
theorem retI (X : Stand p l e R s m args below meth c T locs cells slots) (hx : p.tables.exec = Jvm.exec) {pc : Nat} {Ls : Array Slot} {z : Int32} {rest : List Value} (hret : meth.sig.returnType = some .int) (hd : decode c.code pc = .ok (.ireturn, 1)) {fs : List Frame}
    (hl : ∀ (f : JFrame) (acts : List Action), f.method = m → f.locked = none → f.entered = [] → (doReturn e (T.setTop f) acts (some (.int z))).1 = T.setFrames fs) : Steps p.tables e below (T.setTop (mkF m pc Ls (.int z :: rest))) (T.setFrames fs) := by
  have hm' : T.vm.method? m = some meth := X.method'
  have hn : narrow .int (.int z) = .int z := rfl
  show Steps p.tables e below (T.setTop { method := m, pc := pc, locals := Ls, stack := _ :: rest, locked := none }) _
  jvm_step X.here [X.here.top, hx, hd, hm', hret, hn]
  first | (intro acts; rw [hl _ acts rfl rfl rfl]) | rw [hl _ _ rfl rfl rfl]
  exact Steps.refl _
theorem lremM {g : JFrame} {target : State} (X : Stand p l e R s m args below meth c T locs cells slots) (hx : p.tables.exec = Jvm.exec) (hg : g.method = m) {x y : Int64} {rest : List Value} (hd : decode c.code g.pc = .ok (.lrem, 1)) (hs : g.stack = .long y :: .long x :: rest) (hy : y ≠ 0)
    (hr : Steps p.tables e below (T.setTop { g with pc := g.pc + 1, stack := .long (x % y) :: rest }) target) : Steps p.tables e below (T.setTop g) target := by
  have q : x - x / y * y = x % y := lrem_mod x y
  exact XS.lrem X.here hx hg hd hs hy (by rw [q]; exact hr)
theorem own_mvX (X : Stand p l e R s m args below meth c T locs cells slots) {a b : Nat} (y : cells = a) (z : slots = b) : Stand p l e R s m args below meth c T locs a b := by subst y z; exact X
theorem own_mvN {k : Nat} {A B L : List Loc} (q : L = A ++ B) (N : Fr k A) (N' : Fr k B) : Fr k L := q ▸ N.app N'
end New
section Own
variable {Z : State} {h0 h h' : Heap} {ws ws' : List (Addr × Nat)} {wa wa' : List Addr} {a : Addr} {sl : Nat} {v : Value} {C n d : String}
/-- own: what a call leaves as it was, by places (ws) and whole cells (wa): every cell is kept in class, kind and size; a place that isn't listed keeps its value -/
def KSx (h h' : Heap) (ws : List (Addr × Nat)) (wa : List Addr) : Prop := h.size ≤ h'.size ∧ ∀ (x : Addr) (c : Cell), h[x]? = some c → ∃ c' : Cell, h'[x]? = some c' ∧ c'.cls = c.cls ∧ c'.vm = c.vm ∧ c'.slots.size = c.slots.size ∧ (∀ j, (∀ p ∈ ws, x ≠ p.1 ∨ j ≠ p.2) → (∀ p ∈ wa, x ≠ p) → c'.slots[j]? = c.slots[j]?) ∧ ((c.vm.isStatics = true ∨ ((∀ p ∈ ws, x ≠ p.1) ∧ ∀ p ∈ wa, x ≠ p)) → c' = c)
theorem ks0 {P : Addr × Nat → Prop} : ∀ p ∈ ([] : List (Addr × Nat)), P p := fun _ q => nomatch q
theorem ksS {P : Addr × Nat → Prop} {y : Addr × Nat} {L : List (Addr × Nat)} (q : P y) (r : ∀ p ∈ L, P p) : ∀ p ∈ y :: L, P p := fun x z => (List.mem_cons.mp z).elim (fun u => u ▸ q) (r x)
theorem KSx.refl (h : Heap) (ws : List (Addr × Nat)) (wa : List Addr) : KSx h h ws wa := ⟨Nat.le_refl _, fun _ c q => ⟨c, q, rfl, rfl, rfl, fun _ _ _ => rfl, fun _ => rfl⟩⟩
theorem KSx.ext (K : KSx h0 h ws wa) (E : Ext h h') : KSx h0 h' ws wa := ⟨Nat.le_trans K.1 E.1, fun x c q => by obtain ⟨c', q', r⟩ := K.2 x c q; exact ⟨c', E.2 x c' q', r⟩⟩
theorem KSx.trans (K : KSx h0 h ws wa) (K' : KSx h h' ws' wa') (q : ∀ p ∈ ws', p ∈ ws ∨ h0.size ≤ p.1) (q2 : ∀ p ∈ wa', p ∈ wa ∨ h0.size ≤ p) : KSx h0 h' ws wa := by
  refine ⟨Nat.le_trans K.1 K'.1, fun x c hc => ?_⟩
  obtain ⟨c1, a1, a2, a3, a4, a5, a6⟩ := K.2 x c hc
  obtain ⟨c2, b1, b2, b3, b4, b5, b6⟩ := K'.2 x c1 a1
  have hx : x < h0.size := (Array.getElem?_eq_some_iff.mp hc).1
  refine ⟨c2, b1, b2.trans a2, b3.trans a3, b4.trans a4, fun j hj hj2 => ?_, fun hs => ?_⟩
  · refine (b5 j (fun p hp => ?_) fun p hp => ?_).trans (a5 j hj hj2)
    · rcases q p hp with w | g
      · exact hj p w
      · exact Or.inl fun e => by subst e; exact absurd hx (Nat.not_lt.mpr g)
    · rcases q2 p hp with w | g
      · exact hj2 p w
      · exact fun e => by subst e; exact absurd hx (Nat.not_lt.mpr g)
  · have e1 : c1 = c := a6 hs
    refine (b6 ?_).trans e1
    rcases hs with w | ⟨w, w2⟩
    · exact Or.inl (by rw [e1]; exact w)
    · refine Or.inr ⟨fun p hp => ?_, fun p hp => ?_⟩
      · rcases q p hp with y | g
        · exact w p y
        · exact fun e => by subst e; exact absurd hx (Nat.not_lt.mpr g)
      · rcases q2 p hp with y | g
        · exact w2 p y
        · exact fun e => by subst e; exact absurd hx (Nat.not_lt.mpr g)
theorem KSx.of_wr (W : Wr h h' a sl v) : KSx h h' [(a, sl)] [] := by
  refine ⟨Nat.le_of_eq W.size.symm, fun x c hc => ?_⟩
  obtain ⟨c', e1, e2, e3, e4, e5, e6, e7⟩ := wr_at W hc
  refine ⟨c', e1, e2, e3, e4, fun j hj _ => ?_, fun hs => ?_⟩
  · rcases hj (a, sl) (List.mem_singleton.mpr rfl) with y | y
    · rw [e5 y]
    · exact e6 j y
  · rcases hs with y | y
    · by_cases z : x = a
      · rw [(e7 z).2.2] at y; cases y
      · exact e5 z
    · exact e5 (y.1 (a, sl) (List.mem_singleton.mpr rfl))
theorem KSx.of_wrA (W : Wr h h' a sl v) : KSx h h' [] [a] := by
  refine ⟨Nat.le_of_eq W.size.symm, fun x c hc => ?_⟩
  obtain ⟨c', e1, e2, e3, e4, e5, e6, e7⟩ := wr_at W hc
  refine ⟨c', e1, e2, e3, e4, fun j _ hj => ?_, fun hs => ?_⟩
  · rw [e5 (hj a (List.mem_singleton.mpr rfl))]
  · rcases hs with y | y
    · by_cases z : x = a
      · rw [(e7 z).2.2] at y; cases y
      · exact e5 z
    · exact e5 (y.2 a (List.mem_singleton.mpr rfl))
theorem KSx.wr (K : KSx h0 h ws wa) (W : Wr h h' a sl v) (q : (a, sl) ∈ ws ∨ h0.size ≤ a) : KSx h0 h' ws wa := K.trans (KSx.of_wr W) (fun p hp => by cases List.mem_singleton.mp hp; exact q) all0
theorem KSx.wrA (K : KSx h0 h ws wa) (W : Wr h h' a sl v) (q : a ∈ wa ∨ h0.size ≤ a) : KSx h0 h' ws wa := K.trans (KSx.of_wrA W) ks0 (fun p hp => by cases List.mem_singleton.mp hp; exact q)
theorem KSx.of_keep {L : List Addr} (K : Keep h h' L) (hs : ∀ x ∈ L, ∀ cell : Cell, h[x]? = some cell → cell.vm.isStatics = false) : KSx h h' [] L := by
  refine ⟨K.1, fun x c hc => ?_⟩
  obtain ⟨c', e1, e2, e3, e4⟩ := K.2.2 x c hc
  have key : (∀ p ∈ L, x ≠ p) → c' = c := fun q => Option.some.inj (e1.symm.trans (K.2.1 x c hc fun m => q x m rfl))
  refine ⟨c', e1, e2, e3, e4, fun j _ hj => by rw [key hj], fun hst => ?_⟩
  rcases hst with y | y
  · by_cases z : x ∈ L
    · rw [hs x z c hc] at y; cases y
    · exact key fun p hp e => z (e ▸ hp)
  · exact key y.2
theorem Fld.ks (F : Fld Z h a C n d v) (K : KSx h h' ws wa) (q : ∀ p ∈ ws, a ≠ p.1 ∨ slotOf Z C n d ≠ p.2) (q2 : ∀ p ∈ wa, a ≠ p) : Fld Z h' a C n d v := by
  obtain ⟨cell, cf, k, i, f, h1, h2, h3, h4, h5, h6, h7⟩ := F
  obtain ⟨c', e1, e2, e3, -, e5, -⟩ := K.2 _ _ h1
  refine ⟨c', cf, k, i, f, e1, h2, h3, by rw [e3]; exact h4, by rw [e3]; exact h5, by rw [e2]; exact h6, ?_⟩
  refine (e5 _ (fun p hp => ?_) q2).trans h7
  simpa [slotOf, h2] using q p hp
theorem Exa.ks (F : Exa Z h a C) (K : KSx h h' ws wa) : Exa Z h' a C := by
  obtain ⟨cell, k, h1, h2, h3, h4, h5⟩ := F
  obtain ⟨c', e1, e2, e3, e4, -⟩ := K.2 _ _ h1
  exact ⟨c', k, e1, by rw [e2]; exact h2, by rw [e2]; exact h3, by rw [e3]; exact h4, by rw [e4]; exact h5⟩
theorem Sta.ks (F : Sta Z h C n d v) (K : KSx h h' ws wa) : Sta Z h' C n d v := by
  obtain ⟨cf, i, k, f, st, cell, h1, h2, h3, h4, h5, h6, h7⟩ := F
  obtain ⟨c', e1, -, -, -, -, e6⟩ := K.2 _ _ h5
  exact ⟨cf, i, k, f, st, cell, h1, h2, h3, h4, (e6 (Or.inl h6)) ▸ e1, h6, h7⟩
theorem Arr.ks {c : Cell} {ty : FieldType} (F : Arr Z h a c ty) (K : KSx h h' ws wa) (q : ∀ p ∈ ws, a ≠ p.1) (q2 : ∀ p ∈ wa, a ≠ p) : Arr Z h' a c ty := by
  obtain ⟨c', e1, -, -, -, -, e6⟩ := K.2 _ _ F.1
  exact ⟨(e6 (Or.inr ⟨q, q2⟩)) ▸ e1, F.2⟩
theorem Arv.ks {k : ClassId} {ty : FieldType} {z : Int32} {vs : List Value} {dv : Value} (F : Arv Z h a k ty z vs dv) (K : KSx h h' ws wa) (q : ∀ p ∈ ws, a ≠ p.1) (q2 : ∀ p ∈ wa, a ≠ p) : Arv Z h' a k ty z vs dv := by obtain ⟨c, A, r⟩ := F; exact ⟨c, A.ks K q q2, r⟩
theorem own_fi {args : Array Value} {s : State} {t : Term} {k : Int32} (ht : t.eval args s none [] s = some (.ref a)) (hq : (Cond.eq (.field t C n d) (.int k)).value args s none s [] = some true) : Fld s s.heap a C n d (.int k) := by
  have e2 : (Term.int k).eval args s none [] s = some (.int k) := Term.int_eval k
  obtain ⟨x, y, e1, e3, -, k2⟩ := cmp_v (Or.inl hq)
  cases e2.symm.trans e3
  obtain ⟨z, rfl⟩ := k2
  have q : z = k := by simpa [Cond.value, e1, e2] using hq
  subst q
  exact Fld.start (by rw [← fld_at ht]; exact e1)
theorem own_fr {args : Array Value} {s : State} {t u : Term} {b : Addr} (ht : t.eval args s none [] s = some (.ref a)) (hu : u.eval args s none [] s = some (.ref b)) (hq : (Cond.eq (.field t C n d) u).value args s none s [] = some true) : Fld s s.heap a C n d (.ref b) := by
  obtain ⟨x, y, e1, e3, k1, k2⟩ := cmp_v (Or.inl hq)
  cases hu.symm.trans e3
  have hr : x.isRef = true := k2.2
  have q : x = .ref b := gotT (eq_R e1 hu hr rfl) hq
  subst q
  exact Fld.start (by rw [← fld_at ht]; exact e1)
theorem own_len {args : Array Value} {s : State} {t : Term} {k : Int32} {cl : Cell} {ty : FieldType} (ht : t.eval args s none [] s = some (.ref a)) (A : Arr s s.heap a cl ty) (hq : (Cond.eq (.length t) (.int k)).value args s none s [] = some true) : cl.slots.size < 2 ^ 31 ∧ cl.slots.size.toInt32 = k := by
  have e2 : (Term.int k).eval args s none [] s = some (.int k) := Term.int_eval k
  have ha : s.arrayAt? a = some cl := A.fin (Vm.Alike.refl _)
  obtain ⟨x, y, e1, e3, -, k2⟩ := cmp_v (Or.inl hq)
  cases e2.symm.trans e3
  obtain ⟨z, rfl⟩ := k2
  have q : z = k := by simpa [Cond.value, e1, e2] using hq
  subst q
  by_cases hl : cl.slots.size < 2 ^ 31
  · rw [len_f ht ha hl] at e1
    cases e1; exact ⟨hl, rfl⟩
  · simp [Term.eval, ht, ha, hl] at e1
theorem own_el {args : Array Value} {s : State} {t u : Term} {k : Int32} {b : Addr} {cl : Cell} {ty : FieldType} (ht : t.eval args s none [] s = some (.ref a)) (hu : u.eval args s none [] s = some (.ref b)) (A : Arr s s.heap a cl ty) (hq : (Cond.eq (.elem t (.int k)) u).value args s none s [] = some true) : cl.slots[k.toNatClampNeg]? = some (.ref b) := by
  obtain ⟨x, y, e1, e3, k1, k2⟩ := cmp_v (Or.inl hq)
  cases hu.symm.trans e3
  have q : x = .ref b := gotT (eq_R e1 hu k2.2 rfl) hq
  subst q
  exact (elem_in e1 ht (Term.int_eval k) A.1).2
theorem own_sel {s : State} {a0 args : Array Value} {y : MethodName} {k : Nat} (hZ : Z.Warmed39 s.vm) (wi : (Cond.instantiable y.cls k).before a0 Z = true) (wp : (Cond.privateMethod y).before a0 Z = true) (wm : (Cond.instanceMethod y).before a0 Z = true) (hy : y.cls ≠ "java/lang/invoke/MethodHandle" ∧ y.cls ≠ "java/lang/invoke/VarHandle") : (Cond.selects y.cls y y).before args s = true := by
  obtain ⟨c, kc, h1, h2, -, h4, -⟩ := Cond.instantiable_spec (mvT (args := args) hZ wi)
  exact selects_self_of_private h1 h2 (Bool.or_eq_false_iff.mp h4).1 (Cond.privateMethod_at (mvP hZ wp (args := args))) (mvT hZ wm) hy
end Own
end Jvm.RoadKit
namespace Jvm.RoadKit
open Sem ClassFile Op Lib Jvm.Stand Jvm.Free Jvm.LawKit
section BAs
variable {Z : State} {h h' : Heap} {a b : Addr} {k k' : ClassId} {ty : FieldType} {z z' : Int32} {f g : Nat → Int32} {ws : List (Addr × Nat)} {wa : List Addr} {sl : Nat} {v : Value}
/-- own: an array of ints (bytes, chars) as a function -/
def BA (Z : State) (h : Heap) (a : Addr) (k : ClassId) (ty : FieldType) (z : Int32) (f : Nat → Int32) : Prop := ∃ c : Cell, Arr Z h a c ty ∧ c.cls = k ∧ c.slots.size = z.toNatClampNeg ∧ ¬ z < 0 ∧ (∀ i, i < c.slots.size → c.slots[i]? = some (.int (f i))) ∧ ∀ i, i < c.slots.size → fits ty (.int (f i)) = true
theorem BA.lt (F : BA Z h a k ty z f) : a < h.size := by obtain ⟨c, A, -⟩ := F; exact A.lt
theorem BA.ext (F : BA Z h a k ty z f) (E : Ext h h') : BA Z h' a k ty z f := by obtain ⟨c, A, r⟩ := F; exact ⟨c, A.ext E, r⟩
theorem BA.other (F : BA Z h b k ty z f) (W : Wr h h' a sl v) (q : b ≠ a) : BA Z h' b k ty z f := by obtain ⟨c, A, r⟩ := F; exact ⟨c, A.other W q, r⟩
theorem BA.ks (F : BA Z h a k ty z f) (K : KSx h h' ws wa) (q : ∀ p ∈ ws, a ≠ p.1) (q2 : ∀ p ∈ wa, a ≠ p) : BA Z h' a k ty z f := by obtain ⟨c, A, r⟩ := F; exact ⟨c, A.ks K q q2, r⟩
theorem BA.congr (F : BA Z h a k ty z f) (e : ∀ i, i < z.toNatClampNeg → f i = g i) : BA Z h a k ty z g := by
  obtain ⟨c, A, q1, S, q3, H, G⟩ := F
  exact ⟨c, A, q1, S, q3, fun i hi => by rw [← e i (S ▸ hi)]; exact H i hi, fun i hi => by rw [← e i (S ▸ hi)]; exact G i hi⟩
theorem BA.set {x j : Int32} (F : BA Z h a k ty z f) (W : Wr h h' a j.toNatClampNeg (.int x)) (hf : fits ty (.int x) = true) : BA Z h' a k ty z (fun i => if i = j.toNatClampNeg then x else f i) := by
  obtain ⟨c, A, q1, S, q3, H, G⟩ := F
  have hs : (c.setSlot j.toNatClampNeg (.int x)).slots.size = c.slots.size := by simp [Cell.setSlot]
  refine ⟨_, A.same W, q1, by rw [hs]; exact S, q3, fun i hi => ?_, fun i hi => ?_⟩
  · rw [hs] at hi
    show _ = some (Value.int (if i = j.toNatClampNeg then x else f i))
    by_cases e : i = j.toNatClampNeg
    · subst e; simp [Cell.setSlot, hi]
    · rw [if_neg e]
      refine Eq.trans ?_ (H i hi)
      simp only [Cell.setSlot]
      exact Array.getElem?_setIfInBounds_ne (Ne.symm e)
  · rw [hs] at hi
    show fits ty (Value.int (if i = j.toNatClampNeg then x else f i)) = true
    by_cases e : i = j.toNatClampNeg
    · rw [if_pos e]; exact hf
    · rw [if_neg e]; exact G i hi
theorem BA.new (A : Arr Z h a (newA k ty z) ty) (q : ¬ z < 0) (hd : defaultValue ty = .int 0) (hf : fits ty (.int 0) = true) : BA Z h a k ty z (fun _ => 0) :=
  ⟨_, A, rfl, sz_new _ _ _, q, fun i hi => by rw [← hd]; simp only [newA] at hi ⊢; rw [Array.size_replicate] at hi; simp [hi], fun _ _ => hf⟩
theorem BA.arv (F : BA Z h a k ty z f) {vs : List Value} (hv : ∀ i, i < z.toNatClampNeg → vs.getD i (.int 0) = .int (f i)) : Arv Z h a k ty z vs (.int 0) := by
  obtain ⟨c, A, q1, S, q3, H, G⟩ := F
  exact ⟨c, A, q1, S, q3, fun i hi => by rw [hv i (S ▸ hi)]; exact H i hi, fun i hi => by rw [hv i (S ▸ hi)]; exact G i hi⟩
theorem BA.of_arv {vs : List Value} {dv : Value} (F : Arv Z h a k ty z vs dv) (hv : ∀ i, i < z.toNatClampNeg → vs.getD i dv = .int (f i)) : BA Z h a k ty z f := by
  obtain ⟨c, A, q1, S, q3, H, G⟩ := F
  exact ⟨c, A, q1, S, q3, fun i hi => by rw [← hv i (S ▸ hi)]; exact H i hi, fun i hi => by rw [← hv i (S ▸ hi)]; exact G i hi⟩
def vls (n : Nat) (f : Nat → Int32) : List Value := (List.range n).map fun i => Value.int (f i)
theorem vls_at {n i : Nat} {d : Value} (hi : i < n) : (vls n f).getD i d = .int (f i) := by simp [vls, hi]
theorem BA.vls (F : BA Z h a k ty z f) : Arv Z h a k ty z (vls z.toNatClampNeg f) (.int 0) := F.arv fun i hi => vls_at hi
theorem BA.nostat (F : BA Z h a k ty z f) : ∀ cell : Cell, h[a]? = some cell → cell.vm.isStatics = false := by obtain ⟨c, A, -⟩ := F; exact A.nostat
variable {p : Program} {l : Launch} {e : Env} {R : Room} {s : State} {m : MethodId} {args : Array Value} {below : List Frame} {meth : Method} {c : Code} {T : State} {locs : List Loc} {cells slots : Nat}
theorem cpB (X : Stand p l e R s m args below meth c T locs cells slots) (hx : p.tables.exec = Jvm.exec) (hZ : Z.Warmed39 s.vm) {a0 : Array Value} {own : String} {index : Nat} (hown : s.vm.findClass own = some m.cls)
    (w1 : (Cond.methodLink own index Jvm.Stand.acN).before a0 Z = true) (w2 : (Cond.native Jvm.Stand.acN).before a0 Z = true) (w3 : (Cond.static Jvm.Stand.acN).before a0 Z = true) (w4 : (Cond.initialized "java/lang/System").before a0 Z = true) (eT : T.heap = h)
    {sp dp nn : Int32} (A : BA Z h a k ty z f) (B : BA Z h b k' ty z' g) (hty : refKind ty = false)
    (h1 : ¬ sp < 0) (h2 : ¬ dp < 0) (h3 : ¬ nn < 0) (h4 : sp.toNatClampNeg + nn.toNatClampNeg ≤ z.toNatClampNeg) (h5 : dp.toNatClampNeg + nn.toNatClampNeg ≤ z'.toNatClampNeg) {n0 : Nat} (N : Fr n0 locs) (ge : n0 ≤ b)
    {g0 : JFrame} (hg : g0.method = m) (hsize : g0.locals.size = c.maxLocals) {rest : List Value} (hs : g0.stack = .int nn :: .int dp :: .ref b :: .int sp :: .ref a :: rest) (hd : decode c.code g0.pc = .ok (.invokestatic index, 3))
    (hf : 1 ≤ R.frames) {W : Nat} (hW : 2 * g0.monitorRoom + (rest.map fun v => v.category).sum ≤ W) (hlo : W + (nativeFrameWords "java/lang/System" "arraycopy" 5 + 11) ≤ R.locals) :
    ∃ T' h' L, Stand p l e R s m args below meth c T' L cells slots ∧ T'.heap = h' ∧ Fr n0 L ∧ KSx h h' [] [b] ∧ BA Z h' b k' ty z' (fun i => if dp.toNatClampNeg ≤ i ∧ i < dp.toNatClampNeg + nn.toNatClampNeg then f (sp.toNatClampNeg + (i - dp.toNatClampNeg)) else g i) ∧
      ∀ target, Steps p.tables e below (T'.setTop { g0 with pc := g0.pc + 3, stack := rest }) target → Steps p.tables e below (T.setTop g0) target := by
  have hl : (vls z'.toNatClampNeg g).length = z'.toNatClampNeg := by simp [vls]
  obtain ⟨T', h', L, X', e', N', K', V', st⟩ := cpA X hx hZ hown w1 w2 w3 w4 eT A.vls B.vls (Or.inl ⟨rfl, hty⟩) h1 h2 h3 h4 h5 rfl (by rw [hl]; exact h5) N ge hg hsize hs hd hf hW hlo
  refine ⟨T', h', L, X', e', N', KSx.of_keep K' (fun x hx' => by cases List.mem_singleton.mp hx'; exact B.nostat), BA.of_arv V' fun i hi => ?_, st⟩
  have hlt : (List.take dp.toNatClampNeg (vls z'.toNatClampNeg g)).length = dp.toNatClampNeg := by rw [List.length_take, hl]; omega
  rw [List.append_assoc, List.getD_eq_getElem?_getD]
  by_cases c1 : i < dp.toNatClampNeg
  · rw [if_neg (by omega), List.getElem?_append_left (by rw [hlt]; exact c1), List.getElem?_take_of_lt c1]
    simp [vls, hi]
  · rw [List.getElem?_append_right (by rw [hlt]; omega), hlt]
    by_cases c2 : i < dp.toNatClampNeg + nn.toNatClampNeg
    · rw [if_pos ⟨by omega, c2⟩, List.getElem?_append_left (by simp; omega)]
      have q : i - dp.toNatClampNeg < nn.toNatClampNeg := by omega
      have q2 : sp.toNatClampNeg + (i - dp.toNatClampNeg) < z.toNatClampNeg := by omega
      simp [vls, q, q2]
    · rw [if_neg (by omega), List.getElem?_append_right (by simp; omega), List.getElem?_drop]
      have q : dp.toNatClampNeg + nn.toNatClampNeg + (i - dp.toNatClampNeg - nn.toNatClampNeg) = i := by omega
      simp [vls, q, hi]
/-- own: a class that declares a selected method is no interface, so no method of it is one's -/
theorem own_nf {s : State} {args : Array Value} {C : String} {y w : MethodName} (hc : y.cls = w.cls) (hsel : (Cond.selects C w w).before args s = true) : NotFace s y := fun r0 h0 => by
  obtain ⟨c2, r2, m2, q1, q2, q3, q4, kP, hkP, hkPi⟩ := Cond.selects_spec hsel
  have e1 := findClass_of_methodNamed h0
  have e2 := findClass_of_methodNamed q3
  rw [hc] at e1
  have e3 : r0.cls = m2.cls := Option.some.inj (e1.symm.trans e2)
  exact ⟨kP, by rw [e3]; exact hkP, hkPi⟩
theorem own_decl {s : State} {args : Array Value} {y : MethodName} {bytes : ByteArray} {ml : Nat} {rt : Option FieldType} (h1 : (Cond.instanceMethod y).before args s = true) (h2 : (Cond.code y bytes ml rt).before args s = true) : (Cond.declares y).before args s = true := by
  obtain ⟨m, meth, e1, e2, e3, -⟩ := Cond.instanceMethod_spec h1
  obtain ⟨meth', c, g1, -, -, -, -, -, -, g8⟩ := Cond.code_spec e1 h2
  cases e2.symm.trans g1
  simp [Cond.before, Cond.holds, Cond.value, e1, e2, e3, g8]
theorem own_same {s : State} {args : Array Value} {y : MethodName} (hx : y.cls ≠ "java/lang/invoke/MethodHandle" ∧ y.cls ≠ "java/lang/invoke/VarHandle") (h1 : (Cond.instanceMethod y).before args s = true) (hf : NotFace s y) : (Cond.sameMethod y.cls y.cls y.name y.desc).before args s = true := by
  obtain ⟨m, meth, e1, -⟩ := Cond.instanceMethod_spec h1
  obtain ⟨k, hk, hki⟩ := hf _ e1
  have e2 := State.methodFound?_of_named e1 hx
  have e1' : s.methodNamed? ⟨y.cls, y.name, y.desc⟩ = some m := e1
  simp [Cond.before, Cond.holds, Cond.value, findClass_of_methodNamed e1, e2, e1', hk, hki]
theorem KSx.more {ws' : List (Addr × Nat)} {wa' : List Addr} (K : KSx h h' ws wa) (q : ∀ p ∈ ws, p ∈ ws') (q2 : ∀ p ∈ wa, p ∈ wa') : KSx h h' ws' wa' := ⟨K.1, fun x c hc => by obtain ⟨c', e1, e2, e3, e4, e5, e6⟩ := K.2 x c hc; exact ⟨c', e1, e2, e3, e4, fun j a1 a2 => e5 j (fun p hp => a1 p (q p hp)) (fun p hp => a2 p (q2 p hp)), fun r => e6 (r.imp id fun z => ⟨fun p hp => z.1 p (q p hp), fun p hp => z.2 p (q2 p hp)⟩)⟩⟩
theorem own_alt {b b' : Addr} {m n : Nat} (q : b' = b ∨ n ≤ b') (g : m ≤ b) (w : m ≤ n) : m ≤ b' := q.elim (fun e => by rw [e]; exact g) (fun e => Nat.le_trans w e)
theorem own_bz (e : z = z') (B : BA Z h a k ty z f) : BA Z h a k ty z' f := e ▸ B
end BAs
end Jvm.RoadKit
namespace Jvm.RoadKit
open Sem ClassFile Op Lib Jvm.Stand Jvm.Free Jvm.LawKit
section Starts
variable {args : Array Value} {s : State}
theorem own_cs {t : Term} (h1 : (Cond.isInt t).value args s none s [] = some true) (h2 : (Cond.not (Cond.eq t (.int 0))).value args s none s [] = some true) : ∃ w : Int32, t.eval args s none [] s = some (.int w) ∧ ¬ (w = (0 : Int32)) := by
  obtain ⟨w, ew⟩ := is_v h1
  refine ⟨w, ew, fun e => ?_⟩
  subst e
  have e2 : (Term.int 0).eval args s none [] s = some (.int 0) := Term.int_eval 0
  simp [Cond.value, ew, e2] at h2
theorem own_rf {t : Term} (h1 : (Cond.isRef t).value args s none s [] = some true) : ∃ v : Value, t.eval args s none [] s = some v ∧ v.isRef = true := by
  cases ev : t.eval args s none [] s with
  | none => simp [Cond.value, ev] at h1
  | some v => exact ⟨v, rfl, by cases v <;> simp_all [Cond.value, Value.isRef]⟩
/-- own: a JDK table of bytes, out of its words -/
theorem own_tab {C name : String} {rhs : Term} {n : Nat} {k : Int32} {F : Nat → Int32} (harr : (Cond.arrayClass .byte).before args s = true) (w2 : (Cond.exactly (.static C name "[B") "[B").before args s = true) (w3 : (Cond.eq (.length (.static C name "[B")) (.int k)).before args s = true)
    (w4 : (Cond.all (.static C name "[B") (.eq (.elem (.static C name "[B") (.index 0)) rhs)).before args s = true) (hk : k = Int32.ofNat n) (hn : n < 2 ^ 31)
    (hrhs : ∀ r, r < n → rhs.eval args s none [r] s = some (.int (F r))) (hF : ∀ r, r < n → fits .byte (.int (F r)) = true) : ∃ (d : Addr) (c : ClassId), (Term.static C name "[B").eval args s none [] s = some (.ref d) ∧ BA s s.heap d c .byte k F := by
  obtain ⟨d, cB, D, kB, hev, hfcB, hcellD, hkB, hstatD, hclsD, -⟩ := Cond.exactly_spec w2
  have hevAll : ∀ idx, (Term.static C name "[B").eval args s none idx s = some (.ref d) := fun idx => by
    have : (Term.static C name "[B").eval args s none idx s = (Term.static C name "[B").eval args s none [] s := by simp only [Term.eval]
    rw [this]; exact hev
  have hl := Cond.eq_int w3 rfl
  obtain ⟨d', D', hev', harrAt, hlen⟩ := Term.length_spec hl
  cases hev.symm.trans hev'
  obtain ⟨hcellD', hknD, -, -⟩ := State.arrayAt?_spec harrAt
  cases hcellD.symm.trans hcellD'
  have h31 := Jvm.Free.SBG.length_lt hev harrAt hl
  have hsz : D.slots.size = n := by
    have h2 : Int32.ofNat D.slots.size = Int32.ofNat n := by rw [← hk]; exact (Value.int.inj hlen).symm
    have := congrArg Int32.toInt h2
    rw [Int32.toInt_ofNat_small h31, Int32.toInt_ofNat_small hn] at this; omega
  obtain ⟨cB', kB', comp, hnameB, hkB', hkindB⟩ := Cond.arrayClass_spec harr
  have eBA : ("[" ++ FieldType.toString .byte) = "[B" := by decide
  rw [eBA] at hnameB
  cases hfcB.symm.trans hnameB
  cases hkB.symm.trans hkB'
  have hc : (Int32.ofNat n).toNatClampNeg = n := by show (Int32.ofNat n).toInt.toNat = n; rw [Int32.toInt_ofNat_small hn]; rfl
  refine ⟨d, D.cls, hev, D, ⟨hcellD, ⟨(fun q h => by rw [h] at hstatD; cases hstatD), kB, (by rw [hclsD]; exact hkB), comp, hkindB⟩, hknD⟩, rfl, by rw [hk, hc, hsz], by rw [hk]; exact Int32.ofNat_not_neg hn, fun r hr => ?_, fun r hr => hF r (by omega)⟩
  have h := Cond.all_elim (hevAll []) harrAt (Jvm.Free.AList.val_of_holds w4) r hr
  have eL : (Term.elem (.static C name "[B") (.index 0)).eval args s none [r] s = D.slots[r]? := Jvm.Free.SBG.elem_at (ix := .index 0) (hevAll [r]) harrAt hr h31 rfl
  obtain ⟨x, y, e1, e3, -, k2⟩ := cmp_v (Or.inl h)
  cases (hrhs r (by omega)).symm.trans e3
  obtain ⟨z, rfl⟩ := k2
  have q : z = F r := by simpa [Cond.value, e1, e3] using h
  subst q
  rw [← eL]; exact e1
end Starts
end Jvm.RoadKit
namespace Jvm.Free.SBG
open Sem ClassFile Op Lib Jvm.Free.AList Jvm.Stand Jvm.Free.SB Jvm.Free.SubstrLeaves
/-- own: the char of the q-th digit from the right -/
def odg (n q : Nat) : Int32 := Int32.ofNat (48 + n / 10 ^ q % 10)
theorem odg_byte : ∀ t : Fin 58, (Int32.ofNat t.1).toInt8.toInt32 = Int32.ofNat t.1 := by decide +kernel
theorem own_put_at {A : Cell} {pos i : Nat} {x : Int32} (hi : i < A.slots.size) : (put A pos x).slots[i]? = if i = pos then some (.int x.toInt8.toInt32) else A.slots[i]? := by
  by_cases e : i = pos
  · subst e; rw [if_pos rfl]; simp [put, Cell.setSlot, hi]
  · rw [if_neg e]; simp only [put, Cell.setSlot]; exact Array.getElem?_setIfInBounds_ne (Ne.symm e)
theorem own_put_size {A : Cell} {pos : Nat} {x : Int32} : (put A pos x).slots.size = A.slots.size := (put_facts A pos x).2.2
theorem odg0 (n : Nat) : odg n 0 = Int32.ofNat (48 + n % 10) := by simp [odg]
theorem odg1 (n : Nat) : odg n 1 = Int32.ofNat (48 + n / 10 % 10) := by simp [odg]
theorem odg2 (n q : Nat) : odg n (q + 2) = odg (n / 100) q := by
  have : 10 ^ (q + 2) = 100 * 10 ^ q := by rw [Nat.pow_add, Nat.mul_comm]
  rw [odg, odg, this, Nat.div_div_eq_div_mul]
theorem own_wN (f n : Nat) : wN (f + 1) n = if 100 ≤ n then 2 + wN f (n / 100) else if 9 < n then 2 else 1 := rfl
theorem own_wN0 (n : Nat) : wN 0 n = 0 := rfl
theorem own_dlS (D1 D2 : Cell) (f : Nat) (A : Cell) (n pos : Nat) : digLoop D1 D2 (f + 1) A n pos = if 100 ≤ n then digLoop D1 D2 f (put (put A (pos - 1) (iAt D1 (n % 100))) (pos - 2) (iAt D2 (n % 100))) (n / 100) (pos - 2)
      else if 9 < n then (put (put A (pos - 1) (iAt D1 n)) (pos - 2) (iAt D2 n), pos - 2) else (put A (pos - 1) (iAt D1 n), pos - 1) := rfl
theorem own_dl {D1 D2 : Cell} (hD1 : ∀ r, r < 100 → iAt D1 r = Int32.ofNat (48 + r % 10)) (hD2 : ∀ r, r < 100 → iAt D2 r = Int32.ofNat (48 + r / 10)) :
    ∀ (f : Nat) (A : Cell) (n pos : Nat), n < 100 ^ f → wN f n ≤ pos → pos ≤ A.slots.size → ∀ i, i < A.slots.size → (digLoop D1 D2 f A n pos).1.slots[i]? = if pos ≤ i + wN f n ∧ i < pos then some (.int (odg n (pos - 1 - i))) else A.slots[i]? := by
  intro f
  induction f with
  | zero => intro A n pos hn hw hp i hi; rw [if_neg (by rw [own_wN0]; omega)]; rfl
  | succ f ih =>
    intro A n pos hn hw hp i hi
    have b1 : (iAt D1 (n % 100)).toInt8.toInt32 = odg n 0 := by
      rw [hD1 _ (by omega), odg0, show n % 100 % 10 = n % 10 by omega]
      exact odg_byte ⟨48 + n % 10, by omega⟩
    have b2 : (iAt D2 (n % 100)).toInt8.toInt32 = odg n 1 := by
      rw [hD2 _ (by omega), odg1, show n % 100 / 10 = n / 10 % 10 by omega]
      exact odg_byte ⟨48 + n / 10 % 10, by omega⟩
    by_cases h1 : 100 ≤ n
    · have ew : wN (f + 1) n = 2 + wN f (n / 100) := by rw [own_wN, if_pos h1]
      rw [ew] at hw
      rw [own_dlS, if_pos h1, ew]
      have hn' : n / 100 < 100 ^ f := by rw [Nat.pow_succ] at hn; exact Nat.div_lt_of_lt_mul (by rw [Nat.mul_comm]; exact hn)
      rw [ih _ (n / 100) (pos - 2) hn' (by omega) (by rw [own_put_size, own_put_size]; omega) i (by rw [own_put_size, own_put_size]; exact hi)]
      by_cases c1 : pos - 2 ≤ i + wN f (n / 100) ∧ i < pos - 2
      · rw [if_pos c1, if_pos (by omega), show pos - 1 - i = (pos - 2 - 1 - i) + 2 by omega, odg2]
      · rw [if_neg c1, own_put_at (by rw [own_put_size]; exact hi), own_put_at hi]
        by_cases c2 : i = pos - 2
        · rw [if_pos c2, if_pos (by omega), b2, show pos - 1 - i = 1 by omega]
        · rw [if_neg c2]
          by_cases c3 : i = pos - 1
          · rw [if_pos c3, if_pos (by omega), b1, show pos - 1 - i = 0 by omega]
          · rw [if_neg c3, if_neg (by omega)]
    · have e100 : n % 100 = n := Nat.mod_eq_of_lt (by omega)
      rw [e100] at b1 b2
      by_cases h2 : 9 < n
      · have ew : wN (f + 1) n = 2 := by rw [own_wN, if_neg h1, if_pos h2]
        rw [ew] at hw
        rw [own_dlS, if_neg h1, if_pos h2, ew]
        show (put (put A (pos - 1) (iAt D1 n)) (pos - 2) (iAt D2 n)).slots[i]? = _
        rw [own_put_at (by rw [own_put_size]; exact hi), own_put_at hi]
        by_cases c2 : i = pos - 2
        · rw [if_pos c2, if_pos (by omega), b2, show pos - 1 - i = 1 by omega]
        · rw [if_neg c2]
          by_cases c3 : i = pos - 1
          · rw [if_pos c3, if_pos (by omega), b1, show pos - 1 - i = 0 by omega]
          · rw [if_neg c3, if_neg (by omega)]
      · have ew : wN (f + 1) n = 1 := by rw [own_wN, if_neg h1, if_neg h2]
        rw [ew] at hw
        rw [own_dlS, if_neg h1, if_neg h2, ew]
        show (put A (pos - 1) (iAt D1 n)).slots[i]? = _
        rw [own_put_at hi]
        by_cases c3 : i = pos - 1
        · rw [if_pos c3, if_pos (by omega), b1, show pos - 1 - i = 0 by omega]
        · rw [if_neg c3, if_neg (by omega)]
/-- own: what getChars leaves, as a function -/
def ogc (neg : Bool) (n w idx : Nat) (f : Nat → Int32) : Nat → Int32 := fun i => if idx ≤ i + w ∧ i < idx then odg n (idx - 1 - i) else if neg = true ∧ i + w + 1 = idx then 45 else f i
theorem own_out {D1 D2 : Cell} (hD1 : ∀ r, r < 100 → iAt D1 r = Int32.ofNat (48 + r % 10)) (hD2 : ∀ r, r < 100 → iAt D2 r = Int32.ofNat (48 + r / 10)) {F : Nat} {A : Cell} {n idx : Nat} {neg : Bool} {f : Nat → Int32} (hn : n < 100 ^ F) (hw : wN F n + (if neg = true then 1 else 0) ≤ idx) (hp : idx ≤ A.slots.size)
    (hA : ∀ i, i < A.slots.size → A.slots[i]? = some (.int (f i))) : ∀ i, i < A.slots.size → (if neg = true then put (digLoop D1 D2 F A n idx).1 ((digLoop D1 D2 F A n idx).2 - 1) 45 else (digLoop D1 D2 F A n idx).1).slots[i]? = some (.int (ogc neg n (wN F n) idx f i)) := by
  intro i hi
  obtain ⟨-, -, s3, s4⟩ := digLoop_facts D1 D2 F A n idx
  have key := own_dl hD1 hD2 F A n idx hn (by split at hw <;> omega) hp i hi
  cases neg with
  | false =>
    simp only [Bool.false_eq_true, if_false] at hw ⊢
    rw [key]; simp only [ogc, Bool.false_eq_true, false_and, if_false]
    split
    · rfl
    · exact hA i hi
  | true =>
    simp only [if_true] at hw ⊢
    rw [own_put_at (by rw [s3]; exact hi), key, s4]
    simp only [ogc, true_and]
    by_cases c1 : i = idx - wN F n - 1
    · rw [if_pos c1, if_neg (by omega), if_pos (by omega)]; rfl
    · rw [if_neg c1]
      by_cases c2 : idx ≤ i + wN F n ∧ i < idx
      · rw [if_pos c2, if_pos c2]
      · rw [if_neg c2, if_neg c2, if_neg (by omega)]; exact hA i hi
end Jvm.Free.SBG
namespace Jvm.RoadKit
open Sem ClassFile Op Lib Jvm.Stand Jvm.Free Jvm.LawKit Jvm.Free.SBG
section Pays
variable {Z : State} {h0 : Heap} {l : Launch} {a0 : Array Value}
abbrev OMet (l : Launch) (Z : State) (y : MethodName) (bytes : ByteArray) (ml : Nat) (rt : Option FieldType) (ws : List Jvm.Cond) (rm : Room) (h0 : Heap) (as : Array Value) (Q : Option Value → Heap → List Loc → Prop) : Prop :=
  MetFree l y (head1 (Jvm.Cond.code y bytes ml rt :: ws) rm) (fun a U => a = as ∧ Z.Warmed39 U.vm ∧ U.heap = h0) (fun _ _ _ _ _ => True) (fun _ U o U' => ∃ v L, o = .returned v ∧ Q v U'.heap L ∧ FrameEnd U o U' L rm.cells rm.slots)
abbrev OMetS (l : Launch) (Z : State) (y : MethodName) (bytes : ByteArray) (ml : Nat) (rt : Option FieldType) (ws : List Jvm.Cond) (rm : Room) (h0 : Heap) (as : Array Value) (Q : Option Value → Heap → List Loc → Prop) : Prop :=
  MetFree l y (head1 (Jvm.Cond.code y bytes ml rt :: ws) rm) (fun a U => a = as ∧ Z.Warmed39 U.vm ∧ U.heap = h0) (fun _ _ _ _ _ => True) (fun _ U o U' => ∃ v L, o = .returned v ∧ Q v U'.heap L ∧ ReturnedEndW U o U' L rm.cells rm.slots)
abbrev OMetH (EL : List (String × Nat)) (l : Launch) (Z : State) (y : MethodName) (bytes : ByteArray) (ml : Nat) (rt : Option FieldType) (ws : List Jvm.Cond) (rm : Room) (h0 : Heap) (as : Array Value) (Q : Option Value → Heap → List Loc → Prop) : Prop :=
  MetFree l y (head1 (Jvm.Cond.code y bytes ml rt :: ws) rm) (fun a U => a = as ∧ Z.Warmed39 U.vm ∧ U.heap = h0 ∧ CHv Z EL U.vm h0) (fun _ _ _ _ _ => True) (fun _ U o U' => ∃ v L, o = .returned v ∧ Q v U'.heap L ∧ CHr Z EL U.vm U.heap U'.vm U'.heap ∧ ReturnedEndW U o U' L rm.cells rm.slots)
def OQp (r : Option Value) (h0 : Heap) (n0 : Nat) (v : Option Value) (h : Heap) (L : List Loc) : Prop := v = r ∧ Fr n0 L ∧ h = h0
def OQl (r : Option Value) (n0 : Nat) (v : Option Value) (h : Heap) (L : List Loc) : Prop := v = r ∧ Fr n0 L
/-- own: a free law of the library, said as a contract of this text's form -/
theorem own_of {y : MethodName} {bytes : ByteArray} {ml : Nat} {rt : Option FieldType} {S : Spec} {rm : Room} {as : Array Value} {P : Array Value → State → Prop} {Q' : Array Value → State → Outcome → State → Prop} {Q : Option Value → Heap → List Loc → Prop}
    (M : MetFree l y S P (fun _ _ _ _ _ => True) Q') (hf : S.room.frames ≤ rm.frames) (hl : S.room.locals ≤ rm.locals) (hc : S.room.cells ≤ rm.cells) (hs : S.room.slots ≤ rm.slots)
    (hpre : ∀ U : State, Z.Warmed39 U.vm → S.pre.before as U = true) (hP : ∀ U : State, Z.Warmed39 U.vm → U.heap = h0 → P as U)
    (hQ : ∀ (U : State) (o : Outcome) (U' : State), Z.Warmed39 U.vm → U.heap = h0 → Q' as U o U' → ∃ v L, o = .returned v ∧ Q v U'.heap L ∧ FrameEnd U o U' L rm.cells rm.slots) : OMet l Z y bytes ml rt [] rm h0 as Q := by
  intro p e ha hcs hk s m args below hfr happ hP' _
  obtain ⟨rfl, hZ, hh⟩ := hP'
  obtain ⟨a1, a2, a3, a4, a5, a6, a7, -⟩ := (Spec.appliesLoose_iff hfr).mp happ
  obtain ⟨n, o, h1, h2, h3, h4⟩ := M p e ha hcs hk s m _ below hfr ((Spec.appliesLoose_iff hfr).mpr ⟨a1, a2, a3, a4, a5, a6, hasRoom_mono hf hl hc hs a7, hpre s hZ⟩) (hP s hZ hh) trivial
  exact ⟨n, o, h1, h2, h3, hQ _ _ _ hZ hh h4⟩
theorem own_ss {x : Int32} {n0 : Nat} (wc : (Cond.code StrSize.ssN StrSize.ssB 4 (some .int)).before a0 Z = true) : OMet l Z StrSize.ssN StrSize.ssB 4 (some .int) [] ({ frames := 1, cells := 0, slots := 0, locals := 40 } : Room) h0 #[.int x] (OQp (some (.int (strSizeOf x))) h0 n0) :=
  own_of (StrSize.gets l x) (Nat.le_refl _) (Nat.le_refl _) (Nat.zero_le _) (Nat.zero_le _) (fun U hZ => by show (Cond.and (.count 1) (.code StrSize.ssN StrSize.ssB 4 (some .int))).before _ U = true; rw [Cond.before_and, mv hZ wc]; rfl) (fun U _ _ => rfl)
    (fun U o U' _ hh q => by obtain ⟨rfl, e2, e3⟩ := q; exact ⟨_, [], rfl, ⟨rfl, Fr.nil _, e2.trans hh⟩, e3⟩)
theorem own_tbls {d1 d2 : Addr} {k1 k2 : ClassId} {f1 f2 : Nat → Int32} (S1 : Sta Z h0 INT "DigitOnes" "[B" (.ref d1)) (S2 : Sta Z h0 INT "DigitTens" "[B" (.ref d2)) (w1 : (Cond.laysStatic INT "DigitOnes" "[B").before a0 Z = true) (w2 : (Cond.laysStatic INT "DigitTens" "[B").before a0 Z = true)
    (B1 : BA Z h0 d1 k1 .byte 100 f1) (B2 : BA Z h0 d2 k2 .byte 100 f2) : ∃ (st : Addr) (D1 D2 cs : Cell), (∀ U : State, Z.Warmed39 U.vm → U.heap = h0 → Tbl U "DigitOnes" st d1 D1 ∧ Tbl U "DigitTens" st d2 D2) ∧ h0[st]? = some cs ∧ cs.vm.isStatics = true ∧ (∀ r, r < 100 → iAt D1 r = f1 r) ∧ ∀ r, r < 100 → iAt D2 r = f2 r := by
  obtain ⟨cf, i, k, f, st, cell, h1, h2, h3, h4, h5, h6, h7⟩ := S1
  obtain ⟨cf', i', k', f', st', cell', g1, g2, g3, g4, g5, g6, g7⟩ := S2
  obtain ⟨c2, k2', _, _, _, _, q1, q2, -⟩ := Cond.laysStatic_spec w1
  obtain ⟨c3, k3', _, _, _, _, r1, r2, -⟩ := Cond.laysStatic_spec w2
  cases h1.symm.trans q2
  cases g1.symm.trans r2
  cases q1.symm.trans r1
  have ek := State.fieldFound?_class h1
  have ek' := State.fieldFound?_class g1
  cases ek.symm.trans ek'
  cases h4.symm.trans g4
  cases h5.symm.trans g5
  obtain ⟨D1, A1, -, s1, -, H1, -⟩ := B1
  obtain ⟨D2, A2, -, s2, -, H2, -⟩ := B2
  have z1 : D1.slots.size = 100 := s1
  have z2 : D2.slots.size = 100 := s2
  have v1 : ∀ r, r < 100 → iAt D1 r = f1 r := fun r hr => by have q := H1 r (by rw [z1]; exact hr); simp [iAt, Array.getD_eq_getD_getElem?, q]
  have v2 : ∀ r, r < 100 → iAt D2 r = f2 r := fun r hr => by have q := H2 r (by rw [z2]; exact hr); simp [iAt, Array.getD_eq_getD_getElem?, q]
  refine ⟨st, D1, D2, cell, fun U hZ hh => ⟨?_, ?_⟩, h5, h6, v1, v2⟩
  · obtain ⟨kx, y1, y2⟩ := State.fieldFound?_setVm (s := Z) hZ.alike h1
    exact ⟨_, _, kx, f, cell, y1, h2, by rw [y2]; exact h3, by rw [y2]; exact h4, by rw [hh]; exact h5, (fun e => by rw [e] at h6; cases h6), h7, by rw [hh]; exact A1.1, State.isArrayOf_alike hZ.alike A1.2.1, A1.2.2, z1, fun r hr => by rw [v1 r hr]; exact H1 r (by rw [z1]; exact hr)⟩
  · obtain ⟨kx, y1, y2⟩ := State.fieldFound?_setVm (s := Z) hZ.alike g1
    exact ⟨_, _, kx, f', cell, y1, g2, by rw [y2]; exact h3, by rw [y2]; exact h4, by rw [hh]; exact h5, (fun e => by rw [e] at h6; cases h6), g7, by rw [hh]; exact A2.1, State.isArrayOf_alike hZ.alike A2.2.1, A2.2.2, z2, fun r hr => by rw [v2 r hr]; exact H2 r (by rw [z2]; exact hr)⟩
theorem own_grown {h h' : Heap} (q : ∀ (y : Addr) (c : Cell), h[y]? = some c → ∃ c' : Cell, h'[y]? = some c') : h.size ≤ h'.size := by
  rcases Nat.eq_zero_or_pos h.size with z | z
  · omega
  · obtain ⟨c', e⟩ := q (h.size - 1) _ (Array.getElem?_eq_getElem (by omega))
    have := (Array.getElem?_eq_some_iff.mp e).1
    omega
def OQg (Z : State) (r : Int32) (da : Addr) (k : ClassId) (z : Int32) (f : Nat → Int32) (h0 : Heap) (n0 : Nat) (v : Option Value) (h : Heap) (L : List Loc) : Prop := Fr n0 L ∧ v = some (.int r) ∧ KSx h0 h [] [da] ∧ BA Z h da k .byte z f
/-- own: one cell turned, its class, kind and size kept -/
theorem own_ks1 {h h' : Heap} {da : Addr} {A B : Cell} (hA : h[da]? = some A) (hs : A.vm.isStatics = false) (hB : h'[da]? = some B) (e1 : B.cls = A.cls) (e2 : B.vm = A.vm) (e3 : B.slots.size = A.slots.size) (q : ∀ (y : Addr) (c : Cell), y ≠ da → h[y]? = some c → h'[y]? = some c) : KSx h h' [] [da] := by
  refine ⟨own_grown fun y c hc => ?_, fun x c hc => ?_⟩
  · by_cases e : y = da
    · subst e; exact ⟨_, hB⟩
    · exact ⟨_, q y c e hc⟩
  · by_cases e : x = da
    · subst e
      cases hA.symm.trans hc
      refine ⟨B, hB, e1, e2, e3, fun j _ hj => absurd rfl (hj _ (List.mem_singleton.mpr rfl)), fun hst => ?_⟩
      rcases hst with y | y
      · rw [hs] at y; cases y
      · exact absurd rfl (y.2 _ (List.mem_singleton.mpr rfl))
    · exact ⟨c, q x c e hc, rfl, rfl, rfl, fun _ _ _ => rfl, fun _ => rfl⟩
theorem own_gc {x : Int32} {n idx n0 : Nat} {da d1 d2 : Addr} {k k1 k2 : ClassId} {z j : Int32} {f : Nat → Int32} (wc : (Cond.code GetChars.gcN GetChars.gcB 7 (some .int)).before a0 Z = true) (wf1 : (Cond.fieldLink INT 83 INT "DigitOnes" "[B").before a0 Z = true) (wf2 : (Cond.fieldLink INT 87 INT "DigitTens" "[B").before a0 Z = true)
    (S1 : Sta Z h0 INT "DigitOnes" "[B" (.ref d1)) (S2 : Sta Z h0 INT "DigitTens" "[B" (.ref d2)) (w1 : (Cond.laysStatic INT "DigitOnes" "[B").before a0 Z = true) (w2 : (Cond.laysStatic INT "DigitTens" "[B").before a0 Z = true)
    (B1 : BA Z h0 d1 k1 .byte 100 (fun r => Int32.ofNat (48 + r % 10))) (B2 : BA Z h0 d2 k2 .byte 100 (fun r => Int32.ofNat (48 + r / 10))) (B : BA Z h0 da k .byte z f) (ne1 : da ≠ d1) (ne2 : da ≠ d2) (ge : n0 ≤ da)
    (hj : j = Int32.ofNat idx) (hi : idx ≤ z.toNatClampNeg) (hw : Jvm.Free.SBG.digits n + (if x < 0 then 1 else 0) ≤ idx) (hn : n ≤ 2 ^ 31) (hneg : (if x < 0 then x else -x) = negI n) (hz : z.toNatClampNeg < 2 ^ 31) :
    OMet l Z GetChars.gcN GetChars.gcB 7 (some .int) [] ({ frames := 1, cells := 0, slots := 0, locals := 60 } : Room) h0 #[.int x, .int j, .ref da] (OQg Z (Int32.ofNat (idx - (Jvm.Free.SBG.digits n + (if x < 0 then 1 else 0)))) da k z (ogc (decide (x < 0)) n (Jvm.Free.SBG.digits n) idx f) h0 n0) := by
  subst hj
  obtain ⟨st, D1, D2, cs, hT, hst, hss, v1, v2⟩ := own_tbls S1 S2 w1 w2 B1 B2
  obtain ⟨A, hA, q1, S, q3, H, G⟩ := B
  have nst : da ≠ st := fun e => by subst e; have := Arr.nostat hA cs hst; rw [this] at hss; cases hss
  have hb : ∀ i, i < A.slots.size → fits .byte (A.slots.getD i .null) = true := fun i hi => by rw [Array.getD_eq_getD_getElem?, H i hi]; exact G i hi
  have esg : GetChars.sgn x = if x < 0 then 1 else 0 := rfl
  refine own_of (GetChars.gets l ⟨x, n, idx, da, A, st, d1, D1, d2, D2⟩) (Nat.le_refl _) (Nat.le_refl _) (Nat.zero_le _) (Nat.zero_le _) (fun U hZ => ?_) (fun U hZ hh => ?_) (fun U o U' hZ hh q => ?_)
  · show (Cond.and (.count 3) (.and (.code GetChars.gcN GetChars.gcB 7 (some .int)) (.and (.fieldLink INT 83 INT "DigitOnes" "[B") (.fieldLink INT 87 INT "DigitTens" "[B")))).before _ U = true
    rw [Cond.before_and, Cond.before_and, Cond.before_and, mv hZ wc, mv hZ wf1, mv hZ wf2]; rfl
  · exact ⟨rfl, by rw [hh]; exact hA.1, State.isArrayOf_alike hZ.alike hA.2.1, hA.2.2, by show A.slots.size < _; rw [S]; exact hz, by show idx ≤ A.slots.size; rw [S]; exact hi, by rw [esg]; exact hw, hn, hneg, (hT U hZ hh).1, (hT U hZ hh).2, nst, ne1, ne2⟩
  · obtain ⟨rfl, c1, c2, L, hL, hF⟩ := q
    obtain ⟨o1, o2, o3, o4, -⟩ := GetChars.outCell_facts ⟨x, n, idx, da, A, st, d1, D1, d2, D2⟩ hn (by rw [esg]; exact hw) hb
    refine ⟨_, L, rfl, ⟨fun w hw' => by rw [hL w hw']; exact ge, rfl, own_ks1 (B := GetChars.outCell ⟨x, n, idx, da, A, st, d1, D1, d2, D2⟩) hA.1 (Arr.nostat hA _ hA.1) c1 o1 o2 o3 (fun y c hy hc => c2 y c hy (by rw [hh]; exact hc)), ?_⟩, hF⟩
    have key := own_out (D1 := D1) (D2 := D2) v1 v2 (F := 5) (A := A) (n := n) (idx := idx) (neg := decide (x < 0)) (f := f) (by omega) (by rw [wN_digits hn]; simpa using hw) (by rw [S]; exact hi) H
    rw [wN_digits hn] at key
    have eo : GetChars.outCell ⟨x, n, idx, da, A, st, d1, D1, d2, D2⟩ = if decide (x < 0) = true then put (digLoop D1 D2 5 A n idx).1 ((digLoop D1 D2 5 A n idx).2 - 1) 45 else (digLoop D1 D2 5 A n idx).1 := by
      show (if x < 0 then _ else _) = _
      by_cases hx : x < 0
      · rw [if_pos hx, if_pos (by simpa using hx)]
      · rw [if_neg hx, if_neg (by simpa using hx)]
    rw [← eo] at key
    obtain ⟨a1, kA, a2, comp, a3⟩ := hA.2.1
    refine ⟨_, ⟨c1, ⟨fun q e => a1 q (o2 ▸ e), kA, by rw [o1]; exact a2, comp, a3⟩, by rw [o2]; exact hA.2.2⟩, o1.trans q1, o3.trans S, q3, fun i hi' => key i (o3 ▸ hi'), fun i hi' => ?_⟩
    have e := key i (o3 ▸ hi')
    have e2 := o4 i hi'
    rw [Array.getD_eq_getD_getElem?, e] at e2
    exact e2
theorem own_negI (x : Int32) : (if x < 0 then x else -x) = negI x.toInt.natAbs := by
  have h1 := x.le_toInt; have h2 := x.toInt_lt
  apply Int32.toInt_inj.mp
  have e : (negI x.toInt.natAbs).toInt = -(x.toInt.natAbs : Int) := Int32.toInt_ofInt_of_le (by omega) (by omega)
  rw [e]
  by_cases hx : x < 0
  · rw [if_pos hx]; rw [Int32.lt_iff_toInt_lt] at hx; have z0 : (0 : Int32).toInt = 0 := rfl; omega
  · rw [if_neg hx]; rw [Int32.lt_iff_toInt_lt] at hx; have z0 : (0 : Int32).toInt = 0 := rfl
    have q := c_ineg x; have r1 := (-x).le_toInt; have r2 := (-x).toInt_lt; omega
theorem own_abs (x : Int32) : x.toInt.natAbs ≤ 2 ^ 31 := by have h1 := x.le_toInt; have h2 := x.toInt_lt; omega
theorem own_ofNat {j : Int32} (h : ¬ j < 0) : j = Int32.ofNat j.toNatClampNeg := by
  apply Int32.toInt_inj.mp
  rw [Int32.lt_iff_toInt_lt] at h; have z0 : (0 : Int32).toInt = 0 := rfl
  have h2 := j.toInt_lt
  have e : j.toNatClampNeg = j.toInt.toNat := rfl
  rw [e, Int32.toInt_ofNat_small (by omega)]; omega
theorem own_cap {n : Int32} {k : Nat} (hk : k < 2 ^ 31) (h : ¬ Int32.ofNat k < n) : n.toNatClampNeg ≤ k := by
  rw [Int32.lt_iff_toInt_lt, Int32.toInt_ofNat_small hk] at h
  have e : n.toNatClampNeg = n.toInt.toNat := rfl
  omega
theorem own_ishr0 (x : Int32) : x >>> ((0 : Int32) &&& 31) = x := by
  apply Int32.toInt_inj.mp; rw [c_ishr x 0 0 (by decide)]; simp
theorem own_ishl0 (x : Int32) : x <<< ((0 : Int32) &&& 31) = x := by
  rw [shlm (m := 1) (by decide)]; simp
theorem own_clt (z : Int32) : z.toNatClampNeg < 2 ^ 31 := by have := z.toInt_lt; show z.toInt.toNat < _; omega
theorem own_gc2 {x j : Int32} {n0 : Nat} {da d1 d2 : Addr} {k k1 k2 : ClassId} {z : Int32} {f u1 u2 : Nat → Int32} (wc : (Cond.code GetChars.gcN GetChars.gcB 7 (some .int)).before a0 Z = true) (wf1 : (Cond.fieldLink INT 83 INT "DigitOnes" "[B").before a0 Z = true) (wf2 : (Cond.fieldLink INT 87 INT "DigitTens" "[B").before a0 Z = true)
    (S1 : Sta Z h0 INT "DigitOnes" "[B" (.ref d1)) (S2 : Sta Z h0 INT "DigitTens" "[B" (.ref d2)) (w1 : (Cond.laysStatic INT "DigitOnes" "[B").before a0 Z = true) (w2 : (Cond.laysStatic INT "DigitTens" "[B").before a0 Z = true)
    (e1 : u1 = fun r => Int32.ofNat (48 + r % 10)) (B1 : BA Z h0 d1 k1 .byte 100 u1) (e2 : u2 = fun r => Int32.ofNat (48 + r / 10)) (B2 : BA Z h0 d2 k2 .byte 100 u2) (B : BA Z h0 da k .byte z f) (ne1 : da ≠ d1) (ne2 : da ≠ d2) (ge : n0 ≤ da)
    (hj : ¬ j < 0) (hi : j.toNatClampNeg ≤ z.toNatClampNeg) (hw : Jvm.Free.SBG.digits x.toInt.natAbs + (if x < 0 then 1 else 0) ≤ j.toNatClampNeg) :
    OMet l Z GetChars.gcN GetChars.gcB 7 (some .int) [] ({ frames := 1, cells := 0, slots := 0, locals := 60 } : Room) h0 #[.int x, .int j, .ref da] (OQg Z (Int32.ofNat (j.toNatClampNeg - (Jvm.Free.SBG.digits x.toInt.natAbs + (if x < 0 then 1 else 0)))) da k z (ogc (decide (x < 0)) x.toInt.natAbs (Jvm.Free.SBG.digits x.toInt.natAbs) j.toNatClampNeg f) h0 n0) := by
  subst e1 e2
  exact own_gc wc wf1 wf2 S1 S2 w1 w2 B1 B2 B ne1 ne2 ge (own_ofNat hj) hi hw (own_abs x) (own_negI x) (own_clt z)
theorem own_imp {y : MethodName} {bytes : ByteArray} {ml : Nat} {rt : Option FieldType} {ws : List Jvm.Cond} {rm : Room} {as : Array Value} {Q Q' : Option Value → Heap → List Loc → Prop} (M : OMet l Z y bytes ml rt ws rm h0 as Q) (hq : ∀ v h L, Q v h L → Q' v h L) : OMet l Z y bytes ml rt ws rm h0 as Q' := fun p e ha hc hk s m args below hf happ hP hK => by
  obtain ⟨n, o, a, b, c, v, L, h1, h2, h3⟩ := M p e ha hc hk s m args below hf happ hP hK
  exact ⟨n, o, a, b, c, v, L, h1, hq _ _ _ h2, h3⟩
theorem own_impH {EL : List (String × Nat)} {y : MethodName} {bytes : ByteArray} {ml : Nat} {rt : Option FieldType} {ws : List Jvm.Cond} {rm : Room} {as : Array Value} {Q Q' : Option Value → Heap → List Loc → Prop} (M : OMetH EL l Z y bytes ml rt ws rm h0 as Q) (hq : ∀ v h L, Q v h L → Q' v h L) : OMetH EL l Z y bytes ml rt ws rm h0 as Q' := fun p e ha hc hk s m args below hf happ hP hK => by
  obtain ⟨n, o, a, b, c, v, L, h1, h2, h3⟩ := M p e ha hc hk s m args below hf happ hP hK
  exact ⟨n, o, a, b, c, v, L, h1, hq _ _ _ h2, h3⟩
/-- own: nothing that was there is written -/
def OQk (r : Option Value) (h0 : Heap) (n0 : Nat) (v : Option Value) (h : Heap) (L : List Loc) : Prop := Fr n0 L ∧ v = r ∧ KSx h0 h [] []
section CHs
variable {EL : List (String × Nat)} {vm : Vm} {h h' : Heap} {ws : List (Addr × Nat)} {wa : List Addr} {x : Addr}
theorem CHv.ksStep (K : KSx h h' ws wa) (q : ∀ p ∈ ws, Safe Z EL vm h p.1) (q2 : ∀ p ∈ wa, Safe Z EL vm h p) (H : CHv Z EL vm h) : CHv Z EL vm h' ∧ ∀ y, Bk Z EL vm h' y → Bk Z EL vm h y :=
  H.step fun y B cell hc => by
    obtain ⟨c', e1, -, -, -, -, e6⟩ := K.2 y cell hc
    rw [← e6 (Or.inr ⟨fun p hp e => q p hp (e ▸ B), fun p hp e => q2 p hp (e ▸ B)⟩)]; exact e1
theorem CHr.ks (K : KSx h h' ws wa) (q : ∀ p ∈ ws, Safe Z EL vm h p.1) (q2 : ∀ p ∈ wa, Safe Z EL vm h p) (H : CHv Z EL vm h) : CHr Z EL vm h vm h' := ⟨(H.ksStep K q q2).1, K.1, fun y B => Or.inl ((H.ksStep K q q2).2 y B)⟩
theorem Safe.ks (K : KSx h h' ws wa) (q : ∀ p ∈ ws, Safe Z EL vm h p.1) (q2 : ∀ p ∈ wa, Safe Z EL vm h p) (H : CHv Z EL vm h) (S : Safe Z EL vm h x) : Safe Z EL vm h' x := fun B => S ((H.ksStep K q q2).2 _ B)
theorem own_safeB {k : ClassId} {ty : FieldType} {z : Int32} {f : Nat → Int32} (hal : Z.vm.Alike vm) (F : BA Z h x k ty z f) (ht : ty ≠ .byte) : Safe Z EL vm h x := by obtain ⟨c, A, -⟩ := F; exact Safe.arr hal A ht
end CHs
end Pays
end Jvm.RoadKit
namespace Jvm.RoadKit
open Sem ClassFile Op Lib Jvm.Stand Jvm.Free Jvm.LawKit
section CloneB
variable {p : Program} {l : Launch} {e : Env} {R : Room} {s : State} {m : MethodId} {args : Array Value} {below : List Frame} {meth : Method} {c : Code} {T : State} {locs : List Loc} {cells slots : Nat} {Z : State} {h : Heap} {a : Addr} {ty : FieldType}
theorem cloneB (X : Stand p l e R s m args below meth c T locs cells slots) (hx : p.tables.exec = Jvm.exec) (hZ : Z.Warmed39 s.vm) {a0 : Array Value} {own ad : String} {index : Nat} (hown : s.vm.findClass own = some m.cls)
    (w1 : (Cond.methodLink own index ⟨ad, "clone", "()Ljava/lang/Object;"⟩).before a0 Z = true) (w2 : (Cond.sameMethod ad "java/lang/Object" "clone" "()Ljava/lang/Object;").before a0 Z = true) (w3 : (Cond.native ⟨"java/lang/Object", "clone", "()Ljava/lang/Object;"⟩).before a0 Z = true)
    (w4 : (Cond.instanceMethod ⟨"java/lang/Object", "clone", "()Ljava/lang/Object;"⟩).before a0 Z = true) (w5 : (Cond.selects ad ⟨ad, "clone", "()Ljava/lang/Object;"⟩ ⟨"java/lang/Object", "clone", "()Ljava/lang/Object;"⟩).before a0 Z = true) (w6 : (Cond.castable ad "java/lang/Cloneable").before a0 Z = true)
    (eT : T.heap = h) {k : ClassId} {z : Int32} {f : Nat → Int32} (F : BA Z h a k ty z f) (E : Exa Z h a ad) {g : JFrame} (hg : g.method = m) (hsize : g.locals.size = c.maxLocals) {rest : List Value} (hst : g.stack = .ref a :: rest) (hd : decode c.code g.pc = .ok (.invokevirtual index, 3))
    (hf : 1 ≤ R.frames) {W cap : Nat} (hW : 2 * g.monitorRoom + (rest.map fun v => v.category).sum ≤ W) (hl : W + 14 ≤ R.locals) (hcap : z.toNatClampNeg ≤ cap) (hc : cells + 1 ≤ R.cells) (hsl : slots + cap ≤ R.slots) :
    ∃ T' h', Stand p l e R s m args below meth c T' locs (cells + 1) (slots + cap) ∧ T'.heap = h' ∧ Ext h h' ∧ BA Z h' h.size k ty z f ∧ Exa Z h' h.size ad ∧
      ∀ target, Steps p.tables e below (T'.setTop { g with pc := g.pc + 3, stack := .ref h.size :: rest }) target → Steps p.tables e below (T.setTop g) target := by
  obtain ⟨cl, A, q1, S, q3, H, G⟩ := F
  have FC : FitC Z cl := fitC_of A fun i hi v hv => by rw [H i hi] at hv; cases hv; exact G i hi
  obtain ⟨T', h', X', e', ex, A', E', st⟩ := cloneA X hx hZ hown w1 w2 w3 w4 w5 w6 eT A E FC hg hsize hst hd hf hW hl (by rw [S]; exact hcap) hc hsl
  exact ⟨T', h', X', e', ex, ⟨cloneOf cl, A', q1, S, q3, H, G⟩, E', st⟩
end CloneB
end Jvm.RoadKit
namespace Jvm.RoadKit
open Sem ClassFile Op Lib Jvm.Stand Jvm.Free Jvm.LawKit Jvm.Free.SBG
section PaysL
variable {Z : State} {h0 : Heap} {l : Launch} {a0 : Array Value}
theorem own_ssL {x : Int64} {n0 : Nat} (wc : (Cond.code StrSizeL.ssN StrSizeL.ssB 6 (some .int)).before a0 Z = true) (w1 : (Cond.constantLong LNG 140 (-10)).before a0 Z = true) (w2 : (Cond.constantLong LNG 53 10).before a0 Z = true) : OMet l Z StrSizeL.ssN StrSizeL.ssB 6 (some .int) [] ({ frames := 1, cells := 0, slots := 0, locals := 40 } : Room) h0 #[.long x] (OQp (some (.int (strSizeOfL x))) h0 n0) :=
  own_of (StrSizeL.gets l x) (Nat.le_refl _) (Nat.le_refl _) (Nat.zero_le _) (Nat.zero_le _) (fun U hZ => by show (Cond.and (.count 1) (.and (.code StrSizeL.ssN StrSizeL.ssB 6 (some .int)) (.and (.constantLong LNG 140 (-10)) (.constantLong LNG 53 10)))).before _ U = true; rw [Cond.before_and, Cond.before_and, Cond.before_and, mv hZ wc, mv hZ w1, mv hZ w2]; rfl) (fun U _ _ => rfl)
    (fun U o U' _ hh q => by obtain ⟨rfl, e2, e3⟩ := q; exact ⟨_, [], rfl, ⟨rfl, Fr.nil _, e2.trans hh⟩, e3⟩)
theorem own_negL (x : Int64) : (if x < 0 then x else -x) = negL x.toInt.natAbs := by
  have h1 := x.le_toInt; have h2 := x.toInt_lt
  apply Int64.toInt_inj.mp
  have e : (negL x.toInt.natAbs).toInt = -(x.toInt.natAbs : Int) := Int64.toInt_ofInt_of_le (by omega) (by omega)
  rw [e]
  by_cases hx : x < 0
  · rw [if_pos hx]; rw [Int64.lt_iff_toInt_lt] at hx; have z0 : (0 : Int64).toInt = 0 := rfl; omega
  · rw [if_neg hx]; rw [Int64.lt_iff_toInt_lt] at hx; have z0 : (0 : Int64).toInt = 0 := rfl
    have q := c_lneg x; have r1 := (-x).le_toInt; have r2 := (-x).toInt_lt; omega
theorem own_absL (x : Int64) : x.toInt.natAbs ≤ 2 ^ 63 := by have h1 := x.le_toInt; have h2 := x.toInt_lt; omega
theorem own_gcL {x : Int64} {n idx n0 : Nat} {da d1 d2 : Addr} {k k1 k2 : ClassId} {z j : Int32} {f : Nat → Int32} (wc : (Cond.code GetCharsL.gcN GetCharsL.gcB 11 (some .int)).before a0 Z = true) (wf1 : (Cond.fieldLink LNG 133 INT "DigitOnes" "[B").before a0 Z = true) (wf2 : (Cond.fieldLink LNG 137 INT "DigitTens" "[B").before a0 Z = true) (wl1 : (Cond.constantLong LNG 129 (-2147483648)).before a0 Z = true) (wl2 : (Cond.constantLong LNG 131 100).before a0 Z = true)
    (S1 : Sta Z h0 INT "DigitOnes" "[B" (.ref d1)) (S2 : Sta Z h0 INT "DigitTens" "[B" (.ref d2)) (w1 : (Cond.laysStatic INT "DigitOnes" "[B").before a0 Z = true) (w2 : (Cond.laysStatic INT "DigitTens" "[B").before a0 Z = true)
    (B1 : BA Z h0 d1 k1 .byte 100 (fun r => Int32.ofNat (48 + r % 10))) (B2 : BA Z h0 d2 k2 .byte 100 (fun r => Int32.ofNat (48 + r / 10))) (B : BA Z h0 da k .byte z f) (ne1 : da ≠ d1) (ne2 : da ≠ d2) (ge : n0 ≤ da)
    (hj : j = Int32.ofNat idx) (hi : idx ≤ z.toNatClampNeg) (hw : digitsL n + (if x < 0 then 1 else 0) ≤ idx) (hn : n ≤ 2 ^ 63) (hneg : (if x < 0 then x else -x) = negL n) (hz : z.toNatClampNeg < 2 ^ 31) :
    OMet l Z GetCharsL.gcN GetCharsL.gcB 11 (some .int) [] ({ frames := 1, cells := 0, slots := 0, locals := 80 } : Room) h0 #[.long x, .int j, .ref da] (OQg Z (Int32.ofNat (idx - (digitsL n + (if x < 0 then 1 else 0)))) da k z (ogc (decide (x < 0)) n (digitsL n) idx f) h0 n0) := by
  subst hj
  obtain ⟨st, D1, D2, cs, hT, hst, hss, v1, v2⟩ := own_tbls S1 S2 w1 w2 B1 B2
  obtain ⟨A, hA, q1, S, q3, H, G⟩ := B
  have nst : da ≠ st := fun e => by subst e; have := Arr.nostat hA cs hst; rw [this] at hss; cases hss
  have hb : ∀ i, i < A.slots.size → fits .byte (A.slots.getD i .null) = true := fun i hi => by rw [Array.getD_eq_getD_getElem?, H i hi]; exact G i hi
  have esg : GetCharsL.sgnL x = if x < 0 then 1 else 0 := rfl
  refine own_of (GetCharsL.gets l ⟨x, n, idx, da, A, st, d1, D1, d2, D2⟩) (Nat.le_refl _) (Nat.le_refl _) (Nat.zero_le _) (Nat.zero_le _) (fun U hZ => ?_) (fun U hZ hh => ?_) (fun U o U' hZ hh q => ?_)
  · show (Cond.and (.count 3) (.and (.code GetCharsL.gcN GetCharsL.gcB 11 (some .int)) (.and (.fieldLink LNG 133 INT "DigitOnes" "[B") (.and (.fieldLink LNG 137 INT "DigitTens" "[B") (.and (.constantLong LNG 129 (-2147483648)) (.constantLong LNG 131 100)))))).before _ U = true
    rw [Cond.before_and, Cond.before_and, Cond.before_and, Cond.before_and, Cond.before_and, mv hZ wc, mv hZ wf1, mv hZ wf2, mv hZ wl1, mv hZ wl2]; rfl
  · exact ⟨rfl, by rw [hh]; exact hA.1, State.isArrayOf_alike hZ.alike hA.2.1, hA.2.2, by show A.slots.size < _; rw [S]; exact hz, by show idx ≤ A.slots.size; rw [S]; exact hi, by rw [esg]; exact hw, hn, hneg, (hT U hZ hh).1, (hT U hZ hh).2, nst, ne1, ne2⟩
  · obtain ⟨rfl, c1, c2, L, hL, hF⟩ := q
    obtain ⟨o1, o2, o3, o4, -⟩ := GetCharsL.outCell_facts ⟨x, n, idx, da, A, st, d1, D1, d2, D2⟩ hn (by rw [esg]; exact hw) hb
    refine ⟨_, L, rfl, ⟨fun w hw' => by rw [hL w hw']; exact ge, rfl, own_ks1 (B := GetCharsL.outCell ⟨x, n, idx, da, A, st, d1, D1, d2, D2⟩) hA.1 (Arr.nostat hA _ hA.1) c1 o1 o2 o3 (fun y c hy hc => c2 y c hy (by rw [hh]; exact hc)), ?_⟩, hF⟩
    have key := own_out (D1 := D1) (D2 := D2) v1 v2 (F := 10) (A := A) (n := n) (idx := idx) (neg := decide (x < 0)) (f := f) (by omega) (by show digitsL n + _ ≤ _; simpa using hw) (by rw [S]; exact hi) H
    have eo : GetCharsL.outCell ⟨x, n, idx, da, A, st, d1, D1, d2, D2⟩ = if decide (x < 0) = true then put (digLoop D1 D2 10 A n idx).1 ((digLoop D1 D2 10 A n idx).2 - 1) 45 else (digLoop D1 D2 10 A n idx).1 := by
      show (if x < 0 then _ else _) = _
      by_cases hx : x < 0
      · rw [if_pos hx, if_pos (by simpa using hx)]
      · rw [if_neg hx, if_neg (by simpa using hx)]
    rw [← eo] at key
    obtain ⟨a1, kA, a2, comp, a3⟩ := hA.2.1
    refine ⟨_, ⟨c1, ⟨fun q e => a1 q (o2 ▸ e), kA, by rw [o1]; exact a2, comp, a3⟩, by rw [o2]; exact hA.2.2⟩, o1.trans q1, o3.trans S, q3, fun i hi' => key i (o3 ▸ hi'), fun i hi' => ?_⟩
    have e := key i (o3 ▸ hi')
    have e2 := o4 i hi'
    rw [Array.getD_eq_getD_getElem?, e] at e2
    exact e2
theorem own_gcL2 {x : Int64} {j : Int32} {n0 : Nat} {da d1 d2 : Addr} {k k1 k2 : ClassId} {z : Int32} {f u1 u2 : Nat → Int32} (wc : (Cond.code GetCharsL.gcN GetCharsL.gcB 11 (some .int)).before a0 Z = true) (wf1 : (Cond.fieldLink LNG 133 INT "DigitOnes" "[B").before a0 Z = true) (wf2 : (Cond.fieldLink LNG 137 INT "DigitTens" "[B").before a0 Z = true) (wl1 : (Cond.constantLong LNG 129 (-2147483648)).before a0 Z = true) (wl2 : (Cond.constantLong LNG 131 100).before a0 Z = true)
    (S1 : Sta Z h0 INT "DigitOnes" "[B" (.ref d1)) (S2 : Sta Z h0 INT "DigitTens" "[B" (.ref d2)) (w1 : (Cond.laysStatic INT "DigitOnes" "[B").before a0 Z = true) (w2 : (Cond.laysStatic INT "DigitTens" "[B").before a0 Z = true)
    (e1 : u1 = fun r => Int32.ofNat (48 + r % 10)) (B1 : BA Z h0 d1 k1 .byte 100 u1) (e2 : u2 = fun r => Int32.ofNat (48 + r / 10)) (B2 : BA Z h0 d2 k2 .byte 100 u2) (B : BA Z h0 da k .byte z f) (ne1 : da ≠ d1) (ne2 : da ≠ d2) (ge : n0 ≤ da)
    (hj : ¬ j < 0) (hi : j.toNatClampNeg ≤ z.toNatClampNeg) (hw : digitsL x.toInt.natAbs + (if x < 0 then 1 else 0) ≤ j.toNatClampNeg) :
    OMet l Z GetCharsL.gcN GetCharsL.gcB 11 (some .int) [] ({ frames := 1, cells := 0, slots := 0, locals := 80 } : Room) h0 #[.long x, .int j, .ref da] (OQg Z (Int32.ofNat (j.toNatClampNeg - (digitsL x.toInt.natAbs + (if x < 0 then 1 else 0)))) da k z (ogc (decide (x < 0)) x.toInt.natAbs (digitsL x.toInt.natAbs) j.toNatClampNeg f) h0 n0) := by
  subst e1 e2
  exact own_gcL wc wf1 wf2 wl1 wl2 S1 S2 w1 w2 B1 B2 B ne1 ne2 ge (own_ofNat hj) hi hw (own_absL x) (own_negL x) (own_clt z)
end PaysL
end Jvm.RoadKit
namespace Jvm.Pilot.@@N@@
open Jvm Jvm.ClassFile Sem Op Lib Jvm.Free Jvm.Stand Jvm.LawKit Jvm.RoadKit Bundle Jvm.Pilot.@@N@@.Jvm.D
theorem own_rng {k n : Int32} {N : Nat} (h : 0 ≤ k.toInt ∧ k.toInt < N) : ∃ i : Fin N, k = Int32.ofInt i.1 := by
  refine ⟨⟨k.toInt.toNat, by omega⟩, ?_⟩
  show k = Int32.ofInt ((k.toInt.toNat : Nat) : Int)
  rw [Int.toNat_of_nonneg h.1]; exact (Int32.ofInt_toInt k).symm
theorem own_mod (x : Int32) (y : Int32) (hy : 0 < y.toInt) : 0 ≤ ((x &&& (2147483647 : Int32)) % y).toInt ∧ ((x &&& (2147483647 : Int32)) % y).toInt < y.toInt := by
  have h1 := c_mask x 2147483647 31 (by decide) (by decide)
  have h2 := (c_iremV (x &&& (2147483647 : Int32)) y).1 (by rw [h1]; exact Int.emod_nonneg _ (by decide)) hy
  exact ⟨h2.1, h2.2.1⟩
theorem own_b1 (x : Int32) : (x &&& (1 : Int32)) = (0 : Int32) ∨ (x &&& (1 : Int32)) = (1 : Int32) := by
  have h := c_mask x 1 1 (by decide) (by decide)
  have q : (x &&& (1 : Int32)).toInt = 0 ∨ (x &&& (1 : Int32)).toInt = 1 := by rw [h]; omega
  rcases q with q | q <;> simp [← Int32.toInt_inj, q]
theorem tw {a0 : Array Value} {Z : State} {d : Jvm.Cond} (hw : ∀ d ∈ tables_1, d.before a0 Z = true) (i : Nat) (h : tables_1[i]? = some d) : d.before a0 Z = true := hw d (List.mem_of_getElem? h)
theorem own_w (W : Nat) : 2 * 0 + W ≤ W := by omega
abbrev SG (p : Program) (e : Env) (below : List Frame) (T : State) (f : JFrame) (t : State) : Prop := Steps p.tables e below (T.setTop f) t
abbrev vU : Slot := .unset
abbrev vS : Slot := .second
abbrev vI (x : Int32) : Slot := .val (.int x)
abbrev vJ (x : Int64) : Slot := .val (.long x)
abbrev vR (x : Addr) : Slot := .val (.ref x)
set_option maxRecDepth 65536
set_option maxHeartbeats 40000000
abbrev mN1 : MethodName := ⟨"java/lang/String", "isLatin1", "()Z"⟩
abbrev mN2 : MethodName := ⟨"jdk/internal/util/Preconditions", "checkIndex", "(IILjava/util/function/BiFunction;)I"⟩
abbrev mN3 : MethodName := ⟨"java/lang/String", "checkIndex", "(II)V"⟩
abbrev mN4 : MethodName := ⟨"java/lang/StringLatin1", "charAt", "([BI)C"⟩
abbrev mN5 : MethodName := ⟨"java/lang/String", "charAt", "(I)C"⟩
abbrev mN6 : MethodName := ⟨"java/lang/Math", "abs", "(J)J"⟩
abbrev mN7 : MethodName := ⟨"com/example/eta4/eta4/bench/FillFiguresLinesPinLaw", "pow10", "(I)J"⟩
abbrev mN8 : MethodName := ⟨"com/example/eta4/eta4/bench/FillFiguresLinesPinLaw", "more", "(JI)I"⟩
abbrev mN9 : MethodName := ⟨"com/example/eta4/eta4/bench/FillFiguresLinesPinLaw", "digits", "(J)I"⟩
abbrev mN10 : MethodName := ⟨"java/lang/String", "coder", "()B"⟩
abbrev mN11 : MethodName := ⟨"java/lang/String", "length", "()I"⟩
abbrev mN12 : MethodName := ⟨"com/example/eta4/eta4/bench/FillFiguresLinesPinLaw", "expected", "(Ljava/lang/String;JI)C"⟩
abbrev mN13 : MethodName := ⟨"com/example/eta4/eta4/bench/FillFiguresLinesPinLaw", "lineOk", "(Ljava/lang/String;Ljava/lang/String;JI)Z"⟩
abbrev mN14 : MethodName := ⟨"java/lang/AbstractStringBuilder", "getValue", "()[B"⟩
abbrev mN15 : MethodName := ⟨"java/lang/AbstractStringBuilder", "length", "()I"⟩
abbrev mN16 : MethodName := ⟨"java/lang/AbstractStringBuilder", "ensureCapacityInternal", "(I)V"⟩
abbrev mN17 : MethodName := ⟨"java/lang/StringBuilder", "length", "()I"⟩
abbrev mN18 : MethodName := ⟨"java/lang/AbstractStringBuilder", "isLatin1", "()Z"⟩
abbrev mN19 : MethodName := ⟨"java/util/Arrays", "checkLength", "(II)V"⟩
abbrev mN20 : MethodName := ⟨"java/lang/Math", "min", "(II)I"⟩
abbrev mN21 : MethodName := ⟨"java/util/Arrays", "copyOfRangeByte", "([BII)[B"⟩
abbrev mN22 : MethodName := ⟨"java/util/Arrays", "copyOfRange", "([BII)[B"⟩
abbrev mN23 : MethodName := ⟨"java/lang/String", "<init>", "(Ljava/lang/AbstractStringBuilder;Ljava/lang/Void;)V"⟩
abbrev mN24 : MethodName := ⟨"java/lang/String", "<init>", "(Ljava/lang/StringBuilder;)V"⟩
abbrev mN25 : MethodName := ⟨"java/lang/StringBuilder", "toString", "()Ljava/lang/String;"⟩
abbrev mN26 : MethodName := ⟨"java/lang/Long", "stringSize", "(J)I"⟩
abbrev mN27 : MethodName := ⟨"java/lang/Long", "getChars", "(JI[B)I"⟩
abbrev mN28 : MethodName := ⟨"java/lang/AbstractStringBuilder", "append", "(J)Ljava/lang/AbstractStringBuilder;"⟩
abbrev mN29 : MethodName := ⟨"java/lang/StringBuilder", "append", "(J)Ljava/lang/StringBuilder;"⟩
abbrev mN30 : MethodName := ⟨"java/lang/Math", "max", "(II)I"⟩
abbrev mN31 : MethodName := ⟨"jdk/internal/util/ArraysSupport", "newLength", "(III)I"⟩
abbrev mN32 : MethodName := ⟨"java/lang/AbstractStringBuilder", "newCapacity", "(I)I"⟩
abbrev mN33 : MethodName := ⟨"java/util/Arrays", "copyOf", "([BI)[B"⟩
abbrev mN34 : MethodName := ⟨"java/lang/AbstractStringBuilder", "<init>", "(I)V"⟩
abbrev mN35 : MethodName := ⟨"java/lang/StringBuilder", "<init>", "()V"⟩
abbrev mN36 : MethodName := ⟨"java/lang/AbstractStringBuilder", "inflateIfNeededFor", "(Ljava/lang/String;)V"⟩
abbrev mN37 : MethodName := ⟨"java/lang/String", "getBytes", "([BIB)V"⟩
abbrev mN38 : MethodName := ⟨"java/lang/AbstractStringBuilder", "putStringAt", "(ILjava/lang/String;)V"⟩
abbrev mN39 : MethodName := ⟨"java/lang/AbstractStringBuilder", "append", "(Ljava/lang/String;)Ljava/lang/AbstractStringBuilder;"⟩
abbrev mN40 : MethodName := ⟨"java/lang/StringBuilder", "append", "(Ljava/lang/String;)Ljava/lang/StringBuilder;"⟩
abbrev mN41 : MethodName := ⟨"java/util/AbstractCollection", "<init>", "()V"⟩
abbrev mN42 : MethodName := ⟨"java/util/ImmutableCollections$AbstractImmutableCollection", "<init>", "()V"⟩
abbrev mN43 : MethodName := ⟨"java/util/ImmutableCollections$AbstractImmutableList", "<init>", "()V"⟩
abbrev mN44 : MethodName := ⟨"java/util/Objects", "requireNonNull", "(Ljava/lang/Object;)Ljava/lang/Object;"⟩
abbrev mN45 : MethodName := ⟨"java/util/ImmutableCollections$List12", "<init>", "(Ljava/lang/Object;Ljava/lang/Object;)V"⟩
abbrev mN46 : MethodName := ⟨"java/util/List", "of", "(Ljava/lang/Object;Ljava/lang/Object;)Ljava/util/List;"⟩
abbrev mN47 : MethodName := ⟨"com/example/eta4/eta4/bench/FillFigures", "lines", "()Ljava/util/List;"⟩
abbrev mN48 : MethodName := ⟨"java/lang/Record", "<init>", "()V"⟩
abbrev mN49 : MethodName := ⟨"com/example/eta4/eta4/bench/FillFigures", "<init>", "(JJ)V"⟩
abbrev mN50 : MethodName := ⟨"java/util/ImmutableCollections$List12", "size", "()I"⟩
abbrev mN51 : MethodName := ⟨"java/util/List", "size", "()I"⟩
abbrev mN52 : MethodName := ⟨"java/util/ImmutableCollections$List12", "get", "(I)Ljava/lang/Object;"⟩
abbrev mN53 : MethodName := ⟨"java/util/List", "get", "(I)Ljava/lang/Object;"⟩
abbrev EL : List (String × Nat) := [("com/example/eta4/eta4/bench/FillFigures", 19), ("com/example/eta4/eta4/bench/FillFigures", 32), ("com/example/eta4/eta4/bench/FillFiguresLinesPinLaw", 28), ("com/example/eta4/eta4/bench/FillFiguresLinesPinLaw", 36)]
theorem el_ok {Z : State} {a0 : Array Value} (hw : ∀ d ∈ tables_1, d.before a0 Z = true) : EW Z a0 EL := (EW.cons (text := "pushed_ok ") (tw hw 43 rfl) (by decide) (EW.cons (text := "push_errors ") (tw hw 167 rfl) (by decide) (EW.cons (text := "pushed_ok ") (tw hw 226 rfl) (by decide) (EW.cons (text := "push_errors ") (tw hw 286 rfl) (by decide) EW.nil))))
/-! m663: plain arithmetic of the text -/
def oc8 (v : Int32) : Int32 := ((v &&& (255 : Int32)).toUInt32.toUInt16.toUInt32.toInt32)
theorem own_n16 (u : UInt16) : u.toUInt32.toInt32.toUInt32.toUInt16 = u := by simp
theorem own_oc8 (v : Int32) : nar .char (oc8 v) = oc8 v := by
 show ((v &&& (255 : Int32)).toUInt32.toUInt16.toUInt32.toInt32.toUInt32.toUInt16).toUInt32.toInt32 = _
 rw [own_n16]; rfl
theorem own_lc {q c : Int64} {n : Int} (hc : c.toInt = n) (h : q.toInt < n) : lcmpW q c < 0 := (lw_lt q c).mpr (Int64.lt_iff_toInt_lt.mpr (by omega))
theorem own_lcn {q c : Int64} {n : Int} (hc : c.toInt = n) (h : n ≤ q.toInt) : ¬ (lcmpW q c < 0) := fun k => by have := Int64.lt_iff_toInt_lt.mp ((lw_lt q c).mp k); omega
theorem own_nt {a : Nat} (h : a < 2 ^ 31) : (Int32.ofNat a).toInt = a := Int32.toInt_ofNat_small h
theorem own_add (a b : Nat) : Int32.ofNat a + Int32.ofNat b = Int32.ofNat (a + b) := (Int32.ofNat_add a b).symm
theorem own_sub {a b : Nat} (h : b ≤ a) (ha : a < 2 ^ 31) : Int32.ofNat a - Int32.ofNat b = Int32.ofNat (a - b) := by
 apply Int32.toInt_inj.mp
 have q := c_isub (Int32.ofNat a) (Int32.ofNat b)
 have r1 := (Int32.ofNat a - Int32.ofNat b).toInt_lt
 have r2 := (Int32.ofNat a - Int32.ofNat b).le_toInt
 rw [own_nt ha, own_nt (by omega)] at q
 rw [own_nt (a := a - b) (by omega)]
 omega
theorem own_lt {a b : Nat} (ha : a < 2 ^ 31) (hb : b < 2 ^ 31) : Int32.ofNat a < Int32.ofNat b ↔ a < b := by rw [Int32.lt_iff_toInt_lt, own_nt ha, own_nt hb]; omega
theorem own_cl {a : Nat} (h : a < 2 ^ 31) : (Int32.ofNat a).toNatClampNeg = a := by show (Int32.ofNat a).toInt.toNat = a; rw [own_nt h]; rfl
theorem own_a1 {I D s : Nat} (h : I < D + s) (hb : D + s < 2 ^ 31) : Int32.ofNat I < Int32.ofNat D + Int32.ofNat s := by rw [own_add]; exact (own_lt (by omega) hb).mpr h
theorem own_a2 {I D s : Nat} (h : D + s ≤ I) (hb : I < 2 ^ 31) : ¬ (Int32.ofNat I < Int32.ofNat D + Int32.ofNat s) := by rw [own_add, own_lt hb (by omega)]; omega
theorem own_a3 {I D s : Nat} (h1 : s ≤ I) (h2 : I - s + 1 ≤ D) (hD : D < 2 ^ 31) (hI : I < 2 ^ 31) : (Int32.ofNat D - (1 : Int32)) - (Int32.ofNat I - Int32.ofNat s) = Int32.ofNat (D - 1 - (I - s)) := by
 show (Int32.ofNat D - Int32.ofNat 1) - (Int32.ofNat I - Int32.ofNat s) = _
 rw [own_sub (by omega) hD, own_sub h1 hI, own_sub (by omega) (by omega)]
theorem own_n0 {K : Nat} (h : K < 2 ^ 31) : ¬ (Int32.ofNat K < (0 : Int32)) := by show ¬ (Int32.ofNat K < Int32.ofNat 0); rw [own_lt h (by decide)]; omega
theorem own_ten : ∀ K : Fin 19, ([(.long (1 : Int64)), (.long (10 : Int64)), (.long (100 : Int64)), (.long (1000 : Int64)), (.long (10000 : Int64)), (.long (100000 : Int64)), (.long (1000000 : Int64)), (.long (10000000 : Int64)), (.long (100000000 : Int64)), (.long (1000000000 : Int64)), (.long (10000000000 : Int64)), (.long (100000000000 : Int64)), (.long (1000000000000 : Int64)), (.long (10000000000000 : Int64)), (.long (100000000000000 : Int64)), (.long (1000000000000000 : Int64)), (.long (10000000000000000 : Int64)), (.long (100000000000000000 : Int64)), (.long (1000000000000000000 : Int64))] : List Value).getD K.1 (.long (0 : Int64)) = (.long (Int64.ofNat (10 ^ K.1))) := by decide
theorem own_ten0 : ∀ K : Fin 19, ¬ (Int64.ofNat (10 ^ K.1) = (0 : Int64)) := by decide
theorem own_tenv : ∀ K : Fin 19, (Int64.ofNat (10 ^ K.1)).toInt = ((10 ^ K.1 : Nat) : Int) ∧ Int64.ofNat (10 ^ K.1) ≠ -1 := by decide
def oabl (q : Int64) : Int64 := if q < 0 then -q else q
theorem own_dg : ∀ t : Fin 10, oc8 (Int32.ofNat (48 + t.1)) = (((48 : Int32) + (Int64.ofNat t.1).toInt32).toUInt32.toUInt16.toUInt32.toInt32) := by decide
theorem own_dv {v : Int64} {K : Nat} (hK : K < 19) : (v / Int64.ofNat (10 ^ K)).toInt = (if v < 0 then -((v.toInt.natAbs / 10 ^ K : Nat) : Int) else ((v.toInt.natAbs / 10 ^ K : Nat) : Int)) := by
 have w := own_tenv ⟨K, hK⟩
 have h := c_ldiv v (Int64.ofNat (10 ^ K)) _ w.1 w.2
 have z0 : (0 : Int64).toInt = 0 := rfl
 by_cases hv : v < 0
 · rw [if_pos hv]
   have hv' := Int64.lt_iff_toInt_lt.mp hv
   rw [z0] at hv'
   rw [h.2 hv', show -v.toInt = ((v.toInt.natAbs : Nat) : Int) from by omega]; rfl
 · rw [if_neg hv]
   rw [Int64.lt_iff_toInt_lt, z0] at hv
   rw [h.1 (by omega), show v.toInt = ((v.toInt.natAbs : Nat) : Int) from by omega]; rfl
theorem own_abd {v : Int64} {K : Nat} (hK : K < 19) : oabl ((v / Int64.ofNat (10 ^ K)) % (10 : Int64)) = Int64.ofNat (v.toInt.natAbs / 10 ^ K % 10) := by
 have e := own_dv (v := v) hK
 have ht : v.toInt.natAbs / 10 ^ K % 10 < 10 := Nat.mod_lt _ (by decide)
 have m := c_lrem (v / Int64.ofNat (10 ^ K)) 10 10 (by decide)
 rw [lrem_mod] at m
 have z0 : (0 : Int64).toInt = 0 := rfl
 apply Int64.toInt_inj.mp
 rw [Int64.toInt_ofNat_of_lt (by omega)]
 generalize hy : (v / Int64.ofNat (10 ^ K)) % (10 : Int64) = y at m
 generalize v.toInt.natAbs / 10 ^ K = N at e ht ⊢
 have hr : y.toInt = ((N % 10 : Nat) : Int) ∨ y.toInt = -((N % 10 : Nat) : Int) := by
   by_cases hv : v < 0
   · rw [if_pos hv] at e
     rw [e] at m
     by_cases h0 : N = 0
     · left; have := m.1 (by omega); rw [this]; omega
     · right; have := m.2 (by omega); rw [this]; omega
   · rw [if_neg hv] at e
     rw [e] at m
     left; have := m.1 (by omega); rw [this]; omega
 have q := c_lneg y
 have r1 := (-y).toInt_lt; have r2 := (-y).le_toInt
 unfold oabl
 by_cases hy0 : y < 0
 · rw [if_pos hy0]; rw [Int64.lt_iff_toInt_lt, z0] at hy0; omega
 · rw [if_neg hy0]; rw [Int64.lt_iff_toInt_lt, z0] at hy0; omega
theorem own_dgt {v : Int64} {K : Nat} (hK : K < 19) : oc8 (SBG.odg v.toInt.natAbs K) = (((48 : Int32) + ((oabl ((v / Int64.ofNat (10 ^ K)) % (10 : Int64))).toInt32)).toUInt32.toUInt16.toUInt32.toInt32) := by
 rw [own_abd hK]
 exact own_dg ⟨_, Nat.mod_lt _ (by decide)⟩
/-- is |v| of more than k digits? -/
def omr (v : Int64) (k : Nat) : Nat := if 10 ^ k ≤ v.toInt.natAbs then 1 else 0
theorem own_mr1 {v : Int64} {K : Nat} (hK : K < 19) (h : 10 ^ K ≤ v.toInt.natAbs) : ¬ ((lcmpW (v / Int64.ofNat (10 ^ K)) (0 : Int64)) = (0 : Int32)) := by
 have e := own_dv (v := v) hK
 have p : 0 < v.toInt.natAbs / 10 ^ K := Nat.div_pos h (Nat.pow_pos (by decide))
 rw [lw_eq]; intro q
 rw [q] at e
 have z0 : (0 : Int64).toInt = 0 := rfl
 rw [z0] at e
 split at e <;> omega
theorem own_mr0 {v : Int64} {K : Nat} (hK : K < 19) (h : ¬ 10 ^ K ≤ v.toInt.natAbs) : (lcmpW (v / Int64.ofNat (10 ^ K)) (0 : Int64)) = (0 : Int32) := by
 have e := own_dv (v := v) hK
 have p : v.toInt.natAbs / 10 ^ K = 0 := Nat.div_eq_of_lt (by omega)
 rw [lw_eq]
 apply Int64.toInt_inj.mp
 rw [e, p]
 split <;> rfl

theorem own_om1 {v : Int64} {j c : Nat} (hc : 10 ^ j = c) (h : c ≤ v.toInt.natAbs) : omr v j = 1 := if_pos (by rw [hc]; exact h)
theorem own_om0 {v : Int64} {j c : Nat} (hc : 10 ^ j = c) (h : v.toInt.natAbs < c) : omr v j = 0 := if_neg (by rw [hc]; omega)
theorem own_wk1 {n : Nat} (h2 : n < 10) : SBG.digitsL n = 1 := by
 show SBG.wN 10 n = 1
 rw [SBG.own_wN, if_neg (by omega), if_neg (by omega)]
theorem own_wk2 {n : Nat} (h1 : 10 ≤ n) (h2 : n < 100) : SBG.digitsL n = 2 := by
 show SBG.wN 10 n = 2
 rw [SBG.own_wN, if_neg (by omega), if_pos (by omega)]
theorem own_wk3 {n : Nat} (h1 : 100 ≤ n) (h2 : n < 1000) : SBG.digitsL n = 3 := by
 show SBG.wN 10 n = 3
 rw [SBG.own_wN, if_pos (by omega), SBG.own_wN, if_neg (by omega), if_neg (by omega)]
theorem own_wk4 {n : Nat} (h1 : 1000 ≤ n) (h2 : n < 10000) : SBG.digitsL n = 4 := by
 show SBG.wN 10 n = 4
 rw [SBG.own_wN, if_pos (by omega), SBG.own_wN, if_neg (by omega), if_pos (by omega)]
theorem own_wk5 {n : Nat} (h1 : 10000 ≤ n) (h2 : n < 100000) : SBG.digitsL n = 5 := by
 show SBG.wN 10 n = 5
 rw [SBG.own_wN, if_pos (by omega), SBG.own_wN, if_pos (by omega), SBG.own_wN, if_neg (by omega), if_neg (by omega)]
theorem own_wk6 {n : Nat} (h1 : 100000 ≤ n) (h2 : n < 1000000) : SBG.digitsL n = 6 := by
 show SBG.wN 10 n = 6
 rw [SBG.own_wN, if_pos (by omega), SBG.own_wN, if_pos (by omega), SBG.own_wN, if_neg (by omega), if_pos (by omega)]
theorem own_wk7 {n : Nat} (h1 : 1000000 ≤ n) (h2 : n < 10000000) : SBG.digitsL n = 7 := by
 show SBG.wN 10 n = 7
 rw [SBG.own_wN, if_pos (by omega), SBG.own_wN, if_pos (by omega), SBG.own_wN, if_pos (by omega), SBG.own_wN, if_neg (by omega), if_neg (by omega)]
theorem own_wk8 {n : Nat} (h1 : 10000000 ≤ n) (h2 : n < 100000000) : SBG.digitsL n = 8 := by
 show SBG.wN 10 n = 8
 rw [SBG.own_wN, if_pos (by omega), SBG.own_wN, if_pos (by omega), SBG.own_wN, if_pos (by omega), SBG.own_wN, if_neg (by omega), if_pos (by omega)]
theorem own_wk9 {n : Nat} (h1 : 100000000 ≤ n) (h2 : n < 1000000000) : SBG.digitsL n = 9 := by
 show SBG.wN 10 n = 9
 rw [SBG.own_wN, if_pos (by omega), SBG.own_wN, if_pos (by omega), SBG.own_wN, if_pos (by omega), SBG.own_wN, if_pos (by omega), SBG.own_wN, if_neg (by omega), if_neg (by omega)]
theorem own_wk10 {n : Nat} (h1 : 1000000000 ≤ n) (h2 : n < 10000000000) : SBG.digitsL n = 10 := by
 show SBG.wN 10 n = 10
 rw [SBG.own_wN, if_pos (by omega), SBG.own_wN, if_pos (by omega), SBG.own_wN, if_pos (by omega), SBG.own_wN, if_pos (by omega), SBG.own_wN, if_neg (by omega), if_pos (by omega)]
theorem own_wk11 {n : Nat} (h1 : 10000000000 ≤ n) (h2 : n < 100000000000) : SBG.digitsL n = 11 := by
 show SBG.wN 10 n = 11
 rw [SBG.own_wN, if_pos (by omega), SBG.own_wN, if_pos (by omega), SBG.own_wN, if_pos (by omega), SBG.own_wN, if_pos (by omega), SBG.own_wN, if_pos (by omega), SBG.own_wN, if_neg (by omega), if_neg (by omega)]
theorem own_wk12 {n : Nat} (h1 : 100000000000 ≤ n) (h2 : n < 1000000000000) : SBG.digitsL n = 12 := by
 show SBG.wN 10 n = 12
 rw [SBG.own_wN, if_pos (by omega), SBG.own_wN, if_pos (by omega), SBG.own_wN, if_pos (by omega), SBG.own_wN, if_pos (by omega), SBG.own_wN, if_pos (by omega), SBG.own_wN, if_neg (by omega), if_pos (by omega)]
theorem own_wk13 {n : Nat} (h1 : 1000000000000 ≤ n) (h2 : n < 10000000000000) : SBG.digitsL n = 13 := by
 show SBG.wN 10 n = 13
 rw [SBG.own_wN, if_pos (by omega), SBG.own_wN, if_pos (by omega), SBG.own_wN, if_pos (by omega), SBG.own_wN, if_pos (by omega), SBG.own_wN, if_pos (by omega), SBG.own_wN, if_pos (by omega), SBG.own_wN, if_neg (by omega), if_neg (by omega)]
theorem own_wk14 {n : Nat} (h1 : 10000000000000 ≤ n) (h2 : n < 100000000000000) : SBG.digitsL n = 14 := by
 show SBG.wN 10 n = 14
 rw [SBG.own_wN, if_pos (by omega), SBG.own_wN, if_pos (by omega), SBG.own_wN, if_pos (by omega), SBG.own_wN, if_pos (by omega), SBG.own_wN, if_pos (by omega), SBG.own_wN, if_pos (by omega), SBG.own_wN, if_neg (by omega), if_pos (by omega)]
theorem own_wk15 {n : Nat} (h1 : 100000000000000 ≤ n) (h2 : n < 1000000000000000) : SBG.digitsL n = 15 := by
 show SBG.wN 10 n = 15
 rw [SBG.own_wN, if_pos (by omega), SBG.own_wN, if_pos (by omega), SBG.own_wN, if_pos (by omega), SBG.own_wN, if_pos (by omega), SBG.own_wN, if_pos (by omega), SBG.own_wN, if_pos (by omega), SBG.own_wN, if_pos (by omega), SBG.own_wN, if_neg (by omega), if_neg (by omega)]
theorem own_wk16 {n : Nat} (h1 : 1000000000000000 ≤ n) (h2 : n < 10000000000000000) : SBG.digitsL n = 16 := by
 show SBG.wN 10 n = 16
 rw [SBG.own_wN, if_pos (by omega), SBG.own_wN, if_pos (by omega), SBG.own_wN, if_pos (by omega), SBG.own_wN, if_pos (by omega), SBG.own_wN, if_pos (by omega), SBG.own_wN, if_pos (by omega), SBG.own_wN, if_pos (by omega), SBG.own_wN, if_neg (by omega), if_pos (by omega)]
theorem own_wk17 {n : Nat} (h1 : 10000000000000000 ≤ n) (h2 : n < 100000000000000000) : SBG.digitsL n = 17 := by
 show SBG.wN 10 n = 17
 rw [SBG.own_wN, if_pos (by omega), SBG.own_wN, if_pos (by omega), SBG.own_wN, if_pos (by omega), SBG.own_wN, if_pos (by omega), SBG.own_wN, if_pos (by omega), SBG.own_wN, if_pos (by omega), SBG.own_wN, if_pos (by omega), SBG.own_wN, if_pos (by omega), SBG.own_wN, if_neg (by omega), if_neg (by omega)]
theorem own_wk18 {n : Nat} (h1 : 100000000000000000 ≤ n) (h2 : n < 1000000000000000000) : SBG.digitsL n = 18 := by
 show SBG.wN 10 n = 18
 rw [SBG.own_wN, if_pos (by omega), SBG.own_wN, if_pos (by omega), SBG.own_wN, if_pos (by omega), SBG.own_wN, if_pos (by omega), SBG.own_wN, if_pos (by omega), SBG.own_wN, if_pos (by omega), SBG.own_wN, if_pos (by omega), SBG.own_wN, if_pos (by omega), SBG.own_wN, if_neg (by omega), if_pos (by omega)]
theorem own_wk19 {n : Nat} (h1 : 1000000000000000000 ≤ n) (h2 : n < 10000000000000000000) : SBG.digitsL n = 19 := by
 show SBG.wN 10 n = 19
 rw [SBG.own_wN, if_pos (by omega), SBG.own_wN, if_pos (by omega), SBG.own_wN, if_pos (by omega), SBG.own_wN, if_pos (by omega), SBG.own_wN, if_pos (by omega), SBG.own_wN, if_pos (by omega), SBG.own_wN, if_pos (by omega), SBG.own_wN, if_pos (by omega), SBG.own_wN, if_pos (by omega), SBG.own_wN, if_neg (by omega), if_neg (by omega)]
theorem own_dsum (v : Int64) : ((((((((((((((((((1 + omr v 1) + omr v 2) + omr v 3) + omr v 4) + omr v 5) + omr v 6) + omr v 7) + omr v 8) + omr v 9) + omr v 10) + omr v 11) + omr v 12) + omr v 13) + omr v 14) + omr v 15) + omr v 16) + omr v 17) + omr v 18) = SBG.digitsL v.toInt.natAbs := by
 have hb := own_absL v
 by_cases h1 : v.toInt.natAbs < 10
 · rw [own_wk1 (by omega), own_om0 (j := 1) (c := 10) (by decide) (by omega), own_om0 (j := 2) (c := 100) (by decide) (by omega), own_om0 (j := 3) (c := 1000) (by decide) (by omega), own_om0 (j := 4) (c := 10000) (by decide) (by omega), own_om0 (j := 5) (c := 100000) (by decide) (by omega), own_om0 (j := 6) (c := 1000000) (by decide) (by omega), own_om0 (j := 7) (c := 10000000) (by decide) (by omega), own_om0 (j := 8) (c := 100000000) (by decide) (by omega), own_om0 (j := 9) (c := 1000000000) (by decide) (by omega), own_om0 (j := 10) (c := 10000000000) (by decide) (by omega), own_om0 (j := 11) (c := 100000000000) (by decide) (by omega), own_om0 (j := 12) (c := 1000000000000) (by decide) (by omega), own_om0 (j := 13) (c := 10000000000000) (by decide) (by omega), own_om0 (j := 14) (c := 100000000000000) (by decide) (by omega), own_om0 (j := 15) (c := 1000000000000000) (by decide) (by omega), own_om0 (j := 16) (c := 10000000000000000) (by decide) (by omega), own_om0 (j := 17) (c := 100000000000000000) (by decide) (by omega), own_om0 (j := 18) (c := 1000000000000000000) (by decide) (by omega)]
 by_cases h2 : v.toInt.natAbs < 100
 · rw [own_wk2 (by omega) (by omega), own_om1 (j := 1) (c := 10) (by decide) (by omega), own_om0 (j := 2) (c := 100) (by decide) (by omega), own_om0 (j := 3) (c := 1000) (by decide) (by omega), own_om0 (j := 4) (c := 10000) (by decide) (by omega), own_om0 (j := 5) (c := 100000) (by decide) (by omega), own_om0 (j := 6) (c := 1000000) (by decide) (by omega), own_om0 (j := 7) (c := 10000000) (by decide) (by omega), own_om0 (j := 8) (c := 100000000) (by decide) (by omega), own_om0 (j := 9) (c := 1000000000) (by decide) (by omega), own_om0 (j := 10) (c := 10000000000) (by decide) (by omega), own_om0 (j := 11) (c := 100000000000) (by decide) (by omega), own_om0 (j := 12) (c := 1000000000000) (by decide) (by omega), own_om0 (j := 13) (c := 10000000000000) (by decide) (by omega), own_om0 (j := 14) (c := 100000000000000) (by decide) (by omega), own_om0 (j := 15) (c := 1000000000000000) (by decide) (by omega), own_om0 (j := 16) (c := 10000000000000000) (by decide) (by omega), own_om0 (j := 17) (c := 100000000000000000) (by decide) (by omega), own_om0 (j := 18) (c := 1000000000000000000) (by decide) (by omega)]
 by_cases h3 : v.toInt.natAbs < 1000
 · rw [own_wk3 (by omega) (by omega), own_om1 (j := 1) (c := 10) (by decide) (by omega), own_om1 (j := 2) (c := 100) (by decide) (by omega), own_om0 (j := 3) (c := 1000) (by decide) (by omega), own_om0 (j := 4) (c := 10000) (by decide) (by omega), own_om0 (j := 5) (c := 100000) (by decide) (by omega), own_om0 (j := 6) (c := 1000000) (by decide) (by omega), own_om0 (j := 7) (c := 10000000) (by decide) (by omega), own_om0 (j := 8) (c := 100000000) (by decide) (by omega), own_om0 (j := 9) (c := 1000000000) (by decide) (by omega), own_om0 (j := 10) (c := 10000000000) (by decide) (by omega), own_om0 (j := 11) (c := 100000000000) (by decide) (by omega), own_om0 (j := 12) (c := 1000000000000) (by decide) (by omega), own_om0 (j := 13) (c := 10000000000000) (by decide) (by omega), own_om0 (j := 14) (c := 100000000000000) (by decide) (by omega), own_om0 (j := 15) (c := 1000000000000000) (by decide) (by omega), own_om0 (j := 16) (c := 10000000000000000) (by decide) (by omega), own_om0 (j := 17) (c := 100000000000000000) (by decide) (by omega), own_om0 (j := 18) (c := 1000000000000000000) (by decide) (by omega)]
 by_cases h4 : v.toInt.natAbs < 10000
 · rw [own_wk4 (by omega) (by omega), own_om1 (j := 1) (c := 10) (by decide) (by omega), own_om1 (j := 2) (c := 100) (by decide) (by omega), own_om1 (j := 3) (c := 1000) (by decide) (by omega), own_om0 (j := 4) (c := 10000) (by decide) (by omega), own_om0 (j := 5) (c := 100000) (by decide) (by omega), own_om0 (j := 6) (c := 1000000) (by decide) (by omega), own_om0 (j := 7) (c := 10000000) (by decide) (by omega), own_om0 (j := 8) (c := 100000000) (by decide) (by omega), own_om0 (j := 9) (c := 1000000000) (by decide) (by omega), own_om0 (j := 10) (c := 10000000000) (by decide) (by omega), own_om0 (j := 11) (c := 100000000000) (by decide) (by omega), own_om0 (j := 12) (c := 1000000000000) (by decide) (by omega), own_om0 (j := 13) (c := 10000000000000) (by decide) (by omega), own_om0 (j := 14) (c := 100000000000000) (by decide) (by omega), own_om0 (j := 15) (c := 1000000000000000) (by decide) (by omega), own_om0 (j := 16) (c := 10000000000000000) (by decide) (by omega), own_om0 (j := 17) (c := 100000000000000000) (by decide) (by omega), own_om0 (j := 18) (c := 1000000000000000000) (by decide) (by omega)]
 by_cases h5 : v.toInt.natAbs < 100000
 · rw [own_wk5 (by omega) (by omega), own_om1 (j := 1) (c := 10) (by decide) (by omega), own_om1 (j := 2) (c := 100) (by decide) (by omega), own_om1 (j := 3) (c := 1000) (by decide) (by omega), own_om1 (j := 4) (c := 10000) (by decide) (by omega), own_om0 (j := 5) (c := 100000) (by decide) (by omega), own_om0 (j := 6) (c := 1000000) (by decide) (by omega), own_om0 (j := 7) (c := 10000000) (by decide) (by omega), own_om0 (j := 8) (c := 100000000) (by decide) (by omega), own_om0 (j := 9) (c := 1000000000) (by decide) (by omega), own_om0 (j := 10) (c := 10000000000) (by decide) (by omega), own_om0 (j := 11) (c := 100000000000) (by decide) (by omega), own_om0 (j := 12) (c := 1000000000000) (by decide) (by omega), own_om0 (j := 13) (c := 10000000000000) (by decide) (by omega), own_om0 (j := 14) (c := 100000000000000) (by decide) (by omega), own_om0 (j := 15) (c := 1000000000000000) (by decide) (by omega), own_om0 (j := 16) (c := 10000000000000000) (by decide) (by omega), own_om0 (j := 17) (c := 100000000000000000) (by decide) (by omega), own_om0 (j := 18) (c := 1000000000000000000) (by decide) (by omega)]
 by_cases h6 : v.toInt.natAbs < 1000000
 · rw [own_wk6 (by omega) (by omega), own_om1 (j := 1) (c := 10) (by decide) (by omega), own_om1 (j := 2) (c := 100) (by decide) (by omega), own_om1 (j := 3) (c := 1000) (by decide) (by omega), own_om1 (j := 4) (c := 10000) (by decide) (by omega), own_om1 (j := 5) (c := 100000) (by decide) (by omega), own_om0 (j := 6) (c := 1000000) (by decide) (by omega), own_om0 (j := 7) (c := 10000000) (by decide) (by omega), own_om0 (j := 8) (c := 100000000) (by decide) (by omega), own_om0 (j := 9) (c := 1000000000) (by decide) (by omega), own_om0 (j := 10) (c := 10000000000) (by decide) (by omega), own_om0 (j := 11) (c := 100000000000) (by decide) (by omega), own_om0 (j := 12) (c := 1000000000000) (by decide) (by omega), own_om0 (j := 13) (c := 10000000000000) (by decide) (by omega), own_om0 (j := 14) (c := 100000000000000) (by decide) (by omega), own_om0 (j := 15) (c := 1000000000000000) (by decide) (by omega), own_om0 (j := 16) (c := 10000000000000000) (by decide) (by omega), own_om0 (j := 17) (c := 100000000000000000) (by decide) (by omega), own_om0 (j := 18) (c := 1000000000000000000) (by decide) (by omega)]
 by_cases h7 : v.toInt.natAbs < 10000000
 · rw [own_wk7 (by omega) (by omega), own_om1 (j := 1) (c := 10) (by decide) (by omega), own_om1 (j := 2) (c := 100) (by decide) (by omega), own_om1 (j := 3) (c := 1000) (by decide) (by omega), own_om1 (j := 4) (c := 10000) (by decide) (by omega), own_om1 (j := 5) (c := 100000) (by decide) (by omega), own_om1 (j := 6) (c := 1000000) (by decide) (by omega), own_om0 (j := 7) (c := 10000000) (by decide) (by omega), own_om0 (j := 8) (c := 100000000) (by decide) (by omega), own_om0 (j := 9) (c := 1000000000) (by decide) (by omega), own_om0 (j := 10) (c := 10000000000) (by decide) (by omega), own_om0 (j := 11) (c := 100000000000) (by decide) (by omega), own_om0 (j := 12) (c := 1000000000000) (by decide) (by omega), own_om0 (j := 13) (c := 10000000000000) (by decide) (by omega), own_om0 (j := 14) (c := 100000000000000) (by decide) (by omega), own_om0 (j := 15) (c := 1000000000000000) (by decide) (by omega), own_om0 (j := 16) (c := 10000000000000000) (by decide) (by omega), own_om0 (j := 17) (c := 100000000000000000) (by decide) (by omega), own_om0 (j := 18) (c := 1000000000000000000) (by decide) (by omega)]
 by_cases h8 : v.toInt.natAbs < 100000000
 · rw [own_wk8 (by omega) (by omega), own_om1 (j := 1) (c := 10) (by decide) (by omega), own_om1 (j := 2) (c := 100) (by decide) (by omega), own_om1 (j := 3) (c := 1000) (by decide) (by omega), own_om1 (j := 4) (c := 10000) (by decide) (by omega), own_om1 (j := 5) (c := 100000) (by decide) (by omega), own_om1 (j := 6) (c := 1000000) (by decide) (by omega), own_om1 (j := 7) (c := 10000000) (by decide) (by omega), own_om0 (j := 8) (c := 100000000) (by decide) (by omega), own_om0 (j := 9) (c := 1000000000) (by decide) (by omega), own_om0 (j := 10) (c := 10000000000) (by decide) (by omega), own_om0 (j := 11) (c := 100000000000) (by decide) (by omega), own_om0 (j := 12) (c := 1000000000000) (by decide) (by omega), own_om0 (j := 13) (c := 10000000000000) (by decide) (by omega), own_om0 (j := 14) (c := 100000000000000) (by decide) (by omega), own_om0 (j := 15) (c := 1000000000000000) (by decide) (by omega), own_om0 (j := 16) (c := 10000000000000000) (by decide) (by omega), own_om0 (j := 17) (c := 100000000000000000) (by decide) (by omega), own_om0 (j := 18) (c := 1000000000000000000) (by decide) (by omega)]
 by_cases h9 : v.toInt.natAbs < 1000000000
 · rw [own_wk9 (by omega) (by omega), own_om1 (j := 1) (c := 10) (by decide) (by omega), own_om1 (j := 2) (c := 100) (by decide) (by omega), own_om1 (j := 3) (c := 1000) (by decide) (by omega), own_om1 (j := 4) (c := 10000) (by decide) (by omega), own_om1 (j := 5) (c := 100000) (by decide) (by omega), own_om1 (j := 6) (c := 1000000) (by decide) (by omega), own_om1 (j := 7) (c := 10000000) (by decide) (by omega), own_om1 (j := 8) (c := 100000000) (by decide) (by omega), own_om0 (j := 9) (c := 1000000000) (by decide) (by omega), own_om0 (j := 10) (c := 10000000000) (by decide) (by omega), own_om0 (j := 11) (c := 100000000000) (by decide) (by omega), own_om0 (j := 12) (c := 1000000000000) (by decide) (by omega), own_om0 (j := 13) (c := 10000000000000) (by decide) (by omega), own_om0 (j := 14) (c := 100000000000000) (by decide) (by omega), own_om0 (j := 15) (c := 1000000000000000) (by decide) (by omega), own_om0 (j := 16) (c := 10000000000000000) (by decide) (by omega), own_om0 (j := 17) (c := 100000000000000000) (by decide) (by omega), own_om0 (j := 18) (c := 1000000000000000000) (by decide) (by omega)]
 by_cases h10 : v.toInt.natAbs < 10000000000
 · rw [own_wk10 (by omega) (by omega), own_om1 (j := 1) (c := 10) (by decide) (by omega), own_om1 (j := 2) (c := 100) (by decide) (by omega), own_om1 (j := 3) (c := 1000) (by decide) (by omega), own_om1 (j := 4) (c := 10000) (by decide) (by omega), own_om1 (j := 5) (c := 100000) (by decide) (by omega), own_om1 (j := 6) (c := 1000000) (by decide) (by omega), own_om1 (j := 7) (c := 10000000) (by decide) (by omega), own_om1 (j := 8) (c := 100000000) (by decide) (by omega), own_om1 (j := 9) (c := 1000000000) (by decide) (by omega), own_om0 (j := 10) (c := 10000000000) (by decide) (by omega), own_om0 (j := 11) (c := 100000000000) (by decide) (by omega), own_om0 (j := 12) (c := 1000000000000) (by decide) (by omega), own_om0 (j := 13) (c := 10000000000000) (by decide) (by omega), own_om0 (j := 14) (c := 100000000000000) (by decide) (by omega), own_om0 (j := 15) (c := 1000000000000000) (by decide) (by omega), own_om0 (j := 16) (c := 10000000000000000) (by decide) (by omega), own_om0 (j := 17) (c := 100000000000000000) (by decide) (by omega), own_om0 (j := 18) (c := 1000000000000000000) (by decide) (by omega)]
 by_cases h11 : v.toInt.natAbs < 100000000000
 · rw [own_wk11 (by omega) (by omega), own_om1 (j := 1) (c := 10) (by decide) (by omega), own_om1 (j := 2) (c := 100) (by decide) (by omega), own_om1 (j := 3) (c := 1000) (by decide) (by omega), own_om1 (j := 4) (c := 10000) (by decide) (by omega), own_om1 (j := 5) (c := 100000) (by decide) (by omega), own_om1 (j := 6) (c := 1000000) (by decide) (by omega), own_om1 (j := 7) (c := 10000000) (by decide) (by omega), own_om1 (j := 8) (c := 100000000) (by decide) (by omega), own_om1 (j := 9) (c := 1000000000) (by decide) (by omega), own_om1 (j := 10) (c := 10000000000) (by decide) (by omega), own_om0 (j := 11) (c := 100000000000) (by decide) (by omega), own_om0 (j := 12) (c := 1000000000000) (by decide) (by omega), own_om0 (j := 13) (c := 10000000000000) (by decide) (by omega), own_om0 (j := 14) (c := 100000000000000) (by decide) (by omega), own_om0 (j := 15) (c := 1000000000000000) (by decide) (by omega), own_om0 (j := 16) (c := 10000000000000000) (by decide) (by omega), own_om0 (j := 17) (c := 100000000000000000) (by decide) (by omega), own_om0 (j := 18) (c := 1000000000000000000) (by decide) (by omega)]
 by_cases h12 : v.toInt.natAbs < 1000000000000
 · rw [own_wk12 (by omega) (by omega), own_om1 (j := 1) (c := 10) (by decide) (by omega), own_om1 (j := 2) (c := 100) (by decide) (by omega), own_om1 (j := 3) (c := 1000) (by decide) (by omega), own_om1 (j := 4) (c := 10000) (by decide) (by omega), own_om1 (j := 5) (c := 100000) (by decide) (by omega), own_om1 (j := 6) (c := 1000000) (by decide) (by omega), own_om1 (j := 7) (c := 10000000) (by decide) (by omega), own_om1 (j := 8) (c := 100000000) (by decide) (by omega), own_om1 (j := 9) (c := 1000000000) (by decide) (by omega), own_om1 (j := 10) (c := 10000000000) (by decide) (by omega), own_om1 (j := 11) (c := 100000000000) (by decide) (by omega), own_om0 (j := 12) (c := 1000000000000) (by decide) (by omega), own_om0 (j := 13) (c := 10000000000000) (by decide) (by omega), own_om0 (j := 14) (c := 100000000000000) (by decide) (by omega), own_om0 (j := 15) (c := 1000000000000000) (by decide) (by omega), own_om0 (j := 16) (c := 10000000000000000) (by decide) (by omega), own_om0 (j := 17) (c := 100000000000000000) (by decide) (by omega), own_om0 (j := 18) (c := 1000000000000000000) (by decide) (by omega)]
 by_cases h13 : v.toInt.natAbs < 10000000000000
 · rw [own_wk13 (by omega) (by omega), own_om1 (j := 1) (c := 10) (by decide) (by omega), own_om1 (j := 2) (c := 100) (by decide) (by omega), own_om1 (j := 3) (c := 1000) (by decide) (by omega), own_om1 (j := 4) (c := 10000) (by decide) (by omega), own_om1 (j := 5) (c := 100000) (by decide) (by omega), own_om1 (j := 6) (c := 1000000) (by decide) (by omega), own_om1 (j := 7) (c := 10000000) (by decide) (by omega), own_om1 (j := 8) (c := 100000000) (by decide) (by omega), own_om1 (j := 9) (c := 1000000000) (by decide) (by omega), own_om1 (j := 10) (c := 10000000000) (by decide) (by omega), own_om1 (j := 11) (c := 100000000000) (by decide) (by omega), own_om1 (j := 12) (c := 1000000000000) (by decide) (by omega), own_om0 (j := 13) (c := 10000000000000) (by decide) (by omega), own_om0 (j := 14) (c := 100000000000000) (by decide) (by omega), own_om0 (j := 15) (c := 1000000000000000) (by decide) (by omega), own_om0 (j := 16) (c := 10000000000000000) (by decide) (by omega), own_om0 (j := 17) (c := 100000000000000000) (by decide) (by omega), own_om0 (j := 18) (c := 1000000000000000000) (by decide) (by omega)]
 by_cases h14 : v.toInt.natAbs < 100000000000000
 · rw [own_wk14 (by omega) (by omega), own_om1 (j := 1) (c := 10) (by decide) (by omega), own_om1 (j := 2) (c := 100) (by decide) (by omega), own_om1 (j := 3) (c := 1000) (by decide) (by omega), own_om1 (j := 4) (c := 10000) (by decide) (by omega), own_om1 (j := 5) (c := 100000) (by decide) (by omega), own_om1 (j := 6) (c := 1000000) (by decide) (by omega), own_om1 (j := 7) (c := 10000000) (by decide) (by omega), own_om1 (j := 8) (c := 100000000) (by decide) (by omega), own_om1 (j := 9) (c := 1000000000) (by decide) (by omega), own_om1 (j := 10) (c := 10000000000) (by decide) (by omega), own_om1 (j := 11) (c := 100000000000) (by decide) (by omega), own_om1 (j := 12) (c := 1000000000000) (by decide) (by omega), own_om1 (j := 13) (c := 10000000000000) (by decide) (by omega), own_om0 (j := 14) (c := 100000000000000) (by decide) (by omega), own_om0 (j := 15) (c := 1000000000000000) (by decide) (by omega), own_om0 (j := 16) (c := 10000000000000000) (by decide) (by omega), own_om0 (j := 17) (c := 100000000000000000) (by decide) (by omega), own_om0 (j := 18) (c := 1000000000000000000) (by decide) (by omega)]
 by_cases h15 : v.toInt.natAbs < 1000000000000000
 · rw [own_wk15 (by omega) (by omega), own_om1 (j := 1) (c := 10) (by decide) (by omega), own_om1 (j := 2) (c := 100) (by decide) (by omega), own_om1 (j := 3) (c := 1000) (by decide) (by omega), own_om1 (j := 4) (c := 10000) (by decide) (by omega), own_om1 (j := 5) (c := 100000) (by decide) (by omega), own_om1 (j := 6) (c := 1000000) (by decide) (by omega), own_om1 (j := 7) (c := 10000000) (by decide) (by omega), own_om1 (j := 8) (c := 100000000) (by decide) (by omega), own_om1 (j := 9) (c := 1000000000) (by decide) (by omega), own_om1 (j := 10) (c := 10000000000) (by decide) (by omega), own_om1 (j := 11) (c := 100000000000) (by decide) (by omega), own_om1 (j := 12) (c := 1000000000000) (by decide) (by omega), own_om1 (j := 13) (c := 10000000000000) (by decide) (by omega), own_om1 (j := 14) (c := 100000000000000) (by decide) (by omega), own_om0 (j := 15) (c := 1000000000000000) (by decide) (by omega), own_om0 (j := 16) (c := 10000000000000000) (by decide) (by omega), own_om0 (j := 17) (c := 100000000000000000) (by decide) (by omega), own_om0 (j := 18) (c := 1000000000000000000) (by decide) (by omega)]
 by_cases h16 : v.toInt.natAbs < 10000000000000000
 · rw [own_wk16 (by omega) (by omega), own_om1 (j := 1) (c := 10) (by decide) (by omega), own_om1 (j := 2) (c := 100) (by decide) (by omega), own_om1 (j := 3) (c := 1000) (by decide) (by omega), own_om1 (j := 4) (c := 10000) (by decide) (by omega), own_om1 (j := 5) (c := 100000) (by decide) (by omega), own_om1 (j := 6) (c := 1000000) (by decide) (by omega), own_om1 (j := 7) (c := 10000000) (by decide) (by omega), own_om1 (j := 8) (c := 100000000) (by decide) (by omega), own_om1 (j := 9) (c := 1000000000) (by decide) (by omega), own_om1 (j := 10) (c := 10000000000) (by decide) (by omega), own_om1 (j := 11) (c := 100000000000) (by decide) (by omega), own_om1 (j := 12) (c := 1000000000000) (by decide) (by omega), own_om1 (j := 13) (c := 10000000000000) (by decide) (by omega), own_om1 (j := 14) (c := 100000000000000) (by decide) (by omega), own_om1 (j := 15) (c := 1000000000000000) (by decide) (by omega), own_om0 (j := 16) (c := 10000000000000000) (by decide) (by omega), own_om0 (j := 17) (c := 100000000000000000) (by decide) (by omega), own_om0 (j := 18) (c := 1000000000000000000) (by decide) (by omega)]
 by_cases h17 : v.toInt.natAbs < 100000000000000000
 · rw [own_wk17 (by omega) (by omega), own_om1 (j := 1) (c := 10) (by decide) (by omega), own_om1 (j := 2) (c := 100) (by decide) (by omega), own_om1 (j := 3) (c := 1000) (by decide) (by omega), own_om1 (j := 4) (c := 10000) (by decide) (by omega), own_om1 (j := 5) (c := 100000) (by decide) (by omega), own_om1 (j := 6) (c := 1000000) (by decide) (by omega), own_om1 (j := 7) (c := 10000000) (by decide) (by omega), own_om1 (j := 8) (c := 100000000) (by decide) (by omega), own_om1 (j := 9) (c := 1000000000) (by decide) (by omega), own_om1 (j := 10) (c := 10000000000) (by decide) (by omega), own_om1 (j := 11) (c := 100000000000) (by decide) (by omega), own_om1 (j := 12) (c := 1000000000000) (by decide) (by omega), own_om1 (j := 13) (c := 10000000000000) (by decide) (by omega), own_om1 (j := 14) (c := 100000000000000) (by decide) (by omega), own_om1 (j := 15) (c := 1000000000000000) (by decide) (by omega), own_om1 (j := 16) (c := 10000000000000000) (by decide) (by omega), own_om0 (j := 17) (c := 100000000000000000) (by decide) (by omega), own_om0 (j := 18) (c := 1000000000000000000) (by decide) (by omega)]
 by_cases h18 : v.toInt.natAbs < 1000000000000000000
 · rw [own_wk18 (by omega) (by omega), own_om1 (j := 1) (c := 10) (by decide) (by omega), own_om1 (j := 2) (c := 100) (by decide) (by omega), own_om1 (j := 3) (c := 1000) (by decide) (by omega), own_om1 (j := 4) (c := 10000) (by decide) (by omega), own_om1 (j := 5) (c := 100000) (by decide) (by omega), own_om1 (j := 6) (c := 1000000) (by decide) (by omega), own_om1 (j := 7) (c := 10000000) (by decide) (by omega), own_om1 (j := 8) (c := 100000000) (by decide) (by omega), own_om1 (j := 9) (c := 1000000000) (by decide) (by omega), own_om1 (j := 10) (c := 10000000000) (by decide) (by omega), own_om1 (j := 11) (c := 100000000000) (by decide) (by omega), own_om1 (j := 12) (c := 1000000000000) (by decide) (by omega), own_om1 (j := 13) (c := 10000000000000) (by decide) (by omega), own_om1 (j := 14) (c := 100000000000000) (by decide) (by omega), own_om1 (j := 15) (c := 1000000000000000) (by decide) (by omega), own_om1 (j := 16) (c := 10000000000000000) (by decide) (by omega), own_om1 (j := 17) (c := 100000000000000000) (by decide) (by omega), own_om0 (j := 18) (c := 1000000000000000000) (by decide) (by omega)]
 rw [own_wk19 (by omega) (by omega), own_om1 (j := 1) (c := 10) (by decide) (by omega), own_om1 (j := 2) (c := 100) (by decide) (by omega), own_om1 (j := 3) (c := 1000) (by decide) (by omega), own_om1 (j := 4) (c := 10000) (by decide) (by omega), own_om1 (j := 5) (c := 100000) (by decide) (by omega), own_om1 (j := 6) (c := 1000000) (by decide) (by omega), own_om1 (j := 7) (c := 10000000) (by decide) (by omega), own_om1 (j := 8) (c := 100000000) (by decide) (by omega), own_om1 (j := 9) (c := 1000000000) (by decide) (by omega), own_om1 (j := 10) (c := 10000000000) (by decide) (by omega), own_om1 (j := 11) (c := 100000000000) (by decide) (by omega), own_om1 (j := 12) (c := 1000000000000) (by decide) (by omega), own_om1 (j := 13) (c := 10000000000000) (by decide) (by omega), own_om1 (j := 14) (c := 100000000000000) (by decide) (by omega), own_om1 (j := 15) (c := 1000000000000000) (by decide) (by omega), own_om1 (j := 16) (c := 10000000000000000) (by decide) (by omega), own_om1 (j := 17) (c := 100000000000000000) (by decide) (by omega), own_om1 (j := 18) (c := 1000000000000000000) (by decide) (by omega)]
theorem own_dsum32 (v : Int64) : (((((((((((((((((((1 : Int32) + (Int32.ofNat (omr v 1))) + (Int32.ofNat (omr v 2))) + (Int32.ofNat (omr v 3))) + (Int32.ofNat (omr v 4))) + (Int32.ofNat (omr v 5))) + (Int32.ofNat (omr v 6))) + (Int32.ofNat (omr v 7))) + (Int32.ofNat (omr v 8))) + (Int32.ofNat (omr v 9))) + (Int32.ofNat (omr v 10))) + (Int32.ofNat (omr v 11))) + (Int32.ofNat (omr v 12))) + (Int32.ofNat (omr v 13))) + (Int32.ofNat (omr v 14))) + (Int32.ofNat (omr v 15))) + (Int32.ofNat (omr v 16))) + (Int32.ofNat (omr v 17))) + (Int32.ofNat (omr v 18))) = Int32.ofNat (SBG.digitsL v.toInt.natAbs) := by
 rw [← own_dsum]
 show ((((((((((((((((((Int32.ofNat 1 + (Int32.ofNat (omr v 1))) + (Int32.ofNat (omr v 2))) + (Int32.ofNat (omr v 3))) + (Int32.ofNat (omr v 4))) + (Int32.ofNat (omr v 5))) + (Int32.ofNat (omr v 6))) + (Int32.ofNat (omr v 7))) + (Int32.ofNat (omr v 8))) + (Int32.ofNat (omr v 9))) + (Int32.ofNat (omr v 10))) + (Int32.ofNat (omr v 11))) + (Int32.ofNat (omr v 12))) + (Int32.ofNat (omr v 13))) + (Int32.ofNat (omr v 14))) + (Int32.ofNat (omr v 15))) + (Int32.ofNat (omr v 16))) + (Int32.ofNat (omr v 17))) + (Int32.ofNat (omr v 18))) = _
 simp only [own_add]
def osgL (v : Int64) : Nat := if v < 0 then 1 else 0
def oszL (v : Int64) : Nat := SBG.digitsL v.toInt.natAbs + osgL v
def otcL (v : Int64) (j : Nat) : Int32 := if v < 0 ∧ j = 0 then 45 else SBG.odg v.toInt.natAbs (oszL v - 1 - j)
def otxL (f : Nat → Int32) (n : Nat) (v : Int64) (i : Nat) : Int32 := if i < n then f i else otcL v (i - n)
theorem own_dle (v : Int64) : 1 ≤ SBG.digitsL v.toInt.natAbs ∧ SBG.digitsL v.toInt.natAbs ≤ 19 := by
 have h : ∀ k, omr v k ≤ 1 := fun k => by unfold omr; split <;> omega
 rw [← own_dsum]
 have := h 1; have := h 2; have := h 3; have := h 4; have := h 5; have := h 6; have := h 7; have := h 8; have := h 9; have := h 10; have := h 11; have := h 12; have := h 13; have := h 14; have := h 15; have := h 16; have := h 17; have := h 18
 omega
theorem oszL_le (v : Int64) : 1 ≤ oszL v ∧ oszL v ≤ 20 := by
 have h := own_dle v
 have q : osgL v ≤ 1 := by unfold osgL; split <;> omega
 unfold oszL; omega
theorem own_a4 {I D s : Nat} (h1 : s + 1 ≤ I) (h2 : I - s ≤ D) (hD : D < 2 ^ 31) (hI : I < 2 ^ 31) : (Int32.ofNat D - (1 : Int32)) - ((Int32.ofNat I - Int32.ofNat s) - (1 : Int32)) = Int32.ofNat (D - 1 - (I - s - 1)) := by
 show (Int32.ofNat D - Int32.ofNat 1) - ((Int32.ofNat I - Int32.ofNat s) - Int32.ofNat 1) = _
 rw [own_sub (by omega) hD, own_sub (by omega) hI, own_sub (a := I - s) (by omega) (by omega), own_sub (by omega) (by omega)]
theorem own_nc (x : Int32) : nar .char (x.toUInt32.toUInt16.toUInt32.toInt32) = x.toUInt32.toUInt16.toUInt32.toInt32 := by
 show (x.toUInt32.toUInt16.toUInt32.toInt32.toUInt32.toUInt16).toUInt32.toInt32 = _
 rw [own_n16]
theorem own_subs (x : Int32) : x - x = (0 : Int32) := by simp
theorem own_ne0 {T : Nat} (h0 : T ≠ 0) (h : T < 2 ^ 31) : ¬ (Int32.ofNat T = (0 : Int32)) := fun e => by have := congrArg Int32.toNatClampNeg e; rw [own_cl h] at this; exact h0 this
theorem own_ln {n D s T : Nat} (h : n + s + D = T) : ((Int32.ofNat n >>> ((0 : Int32) &&& 31)) + Int32.ofNat s) + Int32.ofNat D = Int32.ofNat T := by rw [own_ishr0, own_add, own_add, h]
theorem own_ix (pk : Int32) {T : Nat} (h0 : 0 < T) (h : T < 2 ^ 31) : ¬ (((pk &&& (2147483647 : Int32)) % Int32.ofNat T) < (0 : Int32)) ∧ ((pk &&& (2147483647 : Int32)) % Int32.ofNat T) < Int32.ofNat T ∧ ((pk &&& (2147483647 : Int32)) % Int32.ofNat T).toNatClampNeg < T := by
 have m := own_mod pk (Int32.ofNat T) (by rw [own_nt h]; omega)
 rw [own_nt h] at m
 have z0 : (0 : Int32).toInt = 0 := rfl
 refine ⟨?_, ?_, ?_⟩
 · rw [Int32.lt_iff_toInt_lt, z0]; omega
 · rw [Int32.lt_iff_toInt_lt, own_nt h]; exact m.2
 · show ((pk &&& (2147483647 : Int32)) % Int32.ofNat T).toInt.toNat < T; omega
theorem own_t0 {n z : Int32} (hn : ¬ n < 0) (hz : ¬ z < 0) (h : n.toNatClampNeg ≤ z.toNatClampNeg) : n.toInt ≤ z.toInt ∧ 0 ≤ n.toInt := by
 rw [Int32.lt_iff_toInt_lt] at hn hz
 have e : (0 : Int32).toInt = 0 := rfl
 have a : n.toNatClampNeg = n.toInt.toNat := rfl
 have b : z.toNatClampNeg = z.toInt.toNat := rfl
 omega
theorem own_t1 {n z : Int32} (hn : ¬ n < 0) (hz : ¬ z < 0) (h : n.toNatClampNeg ≤ z.toNatClampNeg) (ne : ¬ n = z) : n - (0 : Int32) < z - (0 : Int32) := by
 rw [Int32.sub_zero, Int32.sub_zero, Int32.lt_iff_toInt_lt]
 have q := own_t0 hn hz h
 have : n.toInt ≠ z.toInt := fun e => ne (Int32.toInt_inj.mp e)
 omega
theorem own_t2 {n z : Int32} (hn : ¬ n < 0) (hz : ¬ z < 0) (h : n.toNatClampNeg ≤ z.toNatClampNeg) (hc : ¬ ((34 : Int32) < z)) : ¬ ((34 : Int32) < n - (0 : Int32)) := by
 rw [Int32.sub_zero]
 rw [Int32.lt_iff_toInt_lt] at hc ⊢
 have q := own_t0 hn hz h
 omega
def oz16 (n : Int32) (v : Int64) : Int32 := if n.toNatClampNeg + oszL v ≤ 16 then 16 else 34
theorem own_ssxL (v : Int64) : SBG.strSizeOfL v = Int32.ofNat (oszL v) := by rw [SBG.strSizeOfL_eq (own_absL v) (own_negL v)]; rfl
theorem own_g1 {A : Nat} (h : A ≤ 16) : ¬ ((0 : Int32) < Int32.ofNat A - (16 : Int32)) := by
 have q := c_isub (Int32.ofNat A) 16
 have r1 := (Int32.ofNat A - (16 : Int32)).toInt_lt
 have r2 := (Int32.ofNat A - (16 : Int32)).le_toInt
 have e : (16 : Int32).toInt = 16 := rfl
 have e0 : (0 : Int32).toInt = 0 := rfl
 rw [own_nt (by omega), e] at q
 rw [Int32.lt_iff_toInt_lt, e0]; omega
theorem own_g5 {A : Nat} (h : 16 < A) (hA : A < 2 ^ 31) : (0 : Int32) < Int32.ofNat A - (16 : Int32) := by
 show Int32.ofNat 0 < Int32.ofNat A - Int32.ofNat 16
 rw [own_sub (by omega) hA]; exact (own_lt (by decide) (by omega)).mpr (by omega)
theorem own_g6 {A : Nat} (h : 16 ≤ A) (hA : A < 34) : Int32.ofNat A - (16 : Int32) < (16 : Int32) + (2 : Int32) := by
 show Int32.ofNat A - Int32.ofNat 16 < Int32.ofNat 18
 rw [own_sub h (by omega)]; exact (own_lt (by omega) (by decide)).mpr (by omega)
theorem own_gcc {neg : Bool} {n w idx i : Nat} {f g : Nat → Int32} (h : f i = g i) : SBG.ogc neg n w idx f i = SBG.ogc neg n w idx g i := by simp only [SBG.ogc, h]
theorem own_c0' : (0 : Int32).toNatClampNeg = 0 := rfl
theorem own_c16' : (16 : Int32).toNatClampNeg = 16 := rfl
theorem own_10 : (0 : Int32) + (10 : Int32) = Int32.ofNat 10 := rfl
theorem own_12 : (0 : Int32) + (12 : Int32) = Int32.ofNat 12 := rfl
theorem own_ozl {N : Nat} (hN : N ≤ 12) (v : Int64) : (N + oszL v ≤ (oz16 (Int32.ofNat N) v).toNatClampNeg) ∧ ¬ ((34 : Int32) < oz16 (Int32.ofNat N) v) := by
 have h := oszL_le v
 unfold oz16
 rw [own_cl (by omega)]
 by_cases q : N + oszL v ≤ 16
 · rw [if_pos q]; exact ⟨q, by decide⟩
 · rw [if_neg q]; exact ⟨by show _ ≤ 34; omega, by decide⟩
/-- the text that a builder of 16 places holds behind append(long) -/
theorem own_txt {v : Int64} {N i : Nat} {pf : Nat → Int32} (hN : N ≤ 12) (hi : i < N + oszL v) : SBG.ogc (decide (v < 0)) v.toInt.natAbs (SBG.digitsL v.toInt.natAbs) (N + oszL v) (fun i => if i < 16 then (fun i => if 0 ≤ i ∧ i < 0 + N then pf (0 + (i - 0)) else 0) i else 0) i = otxL pf N v i := by
 have hos : oszL v = SBG.digitsL v.toInt.natAbs + osgL v := rfl
 have hsg : osgL v = if v < 0 then 1 else 0 := rfl
 have hd := own_dle v
 unfold SBG.ogc otxL
 dsimp only
 by_cases q : i < N
 · by_cases hv : v < 0
   · rw [if_pos hv] at hsg
     rw [if_neg (by omega), if_neg (by omega), if_pos (by omega), if_pos (by omega), if_pos q, Nat.zero_add, Nat.sub_zero]
   · rw [if_neg hv] at hsg
     rw [if_neg (by omega), if_neg (fun r => hv (by simpa using r.1)), if_pos (by omega), if_pos (by omega), if_pos q, Nat.zero_add, Nat.sub_zero]
 · rw [if_neg q]
   unfold otcL
   by_cases hv : v < 0
   · rw [if_pos hv] at hsg
     by_cases q5 : i = N
     · rw [if_neg (by omega), if_pos ⟨by simp [hv], by omega⟩, if_pos ⟨hv, by omega⟩]
     · rw [if_pos (by omega), if_neg (fun r => by omega), show N + oszL v - 1 - i = oszL v - 1 - (i - N) from by omega]
   · rw [if_neg hv] at hsg
     rw [if_pos (by omega), if_neg (fun r => hv r.1), show N + oszL v - 1 - i = oszL v - 1 - (i - N) from by omega]
theorem own_k0 : (0 : Int32).toNatClampNeg = 0 := rfl
theorem own_k10 : (10 : Int32).toNatClampNeg = 10 := rfl
theorem own_k12 : (12 : Int32).toNatClampNeg = 12 := rfl

theorem d42_0 : decode jdk_42_method_56_code 0 = .ok (.aload_n 0, 1) := by decide +kernel
theorem d42_1 : decode jdk_42_method_56_code 1 = .ok (.invokevirtual 492, 3) := by decide +kernel
theorem d43_0 : decode jdk_42_method_154_code 0 = .ok (.getstatic 38, 3) := by decide +kernel
theorem d43_3 : decode jdk_42_method_154_code 3 = .ok (.ifCond .eq 14, 3) := by decide +kernel
theorem d43_6 : decode jdk_42_method_154_code 6 = .ok (.aload_n 0, 1) := by decide +kernel
theorem d43_7 : decode jdk_42_method_154_code 7 = .ok (.getfield 15, 3) := by decide +kernel
theorem d43_10 : decode jdk_42_method_154_code 10 = .ok (.ifCond .ne 7, 3) := by decide +kernel
theorem d43_13 : decode jdk_42_method_154_code 13 = .ok (.iconst 1, 1) := by decide +kernel
theorem d43_14 : decode jdk_42_method_154_code 14 = .ok (.goto 4, 3) := by decide +kernel
theorem d43_18 : decode jdk_42_method_154_code 18 = .ok (.ireturn, 1) := by decide +kernel
theorem pn_java_lang_String : plainName "java/lang/String" = true := by first | (simp [plainName, overriddenIn]; done) | decide +kernel
theorem ef_43_v (m : MethodId) (x0 : Addr) : entryFrame m #[(.ref x0)] 1 = mkF m 0 #[.val (.ref x0)] [] := by first | (simp [entryFrame, mkF, argsToLocals, Value.category]; done) | rfl
theorem r43_1 (l : Launch) (Z : State) (a0 : Array Value) (hw : ∀ d ∈ tables_1, d.before a0 Z = true) (a3 : Addr) (w4 : Int32) (w6 : Int32) (h0 : Heap) (n0 : Nat) (Z0 : n0 ≤ h0.size) (H0 : Sta Z h0 "java/lang/String" "COMPACT_STRINGS" "Z" (.int w4)) (H1 : ¬ (w4 = (0 : Int32))) (H2 : Fld Z h0 a3 "java/lang/String" "coder" "B" (.int w6)) (H3 : w6 = (0 : Int32)) :
   OMet l Z mN1 jdk_42_method_154_code 1 (some .boolean) [] ({ frames := 0, cells := 0, slots := 0, locals := 0 } : Room) h0 #[(.ref a3)] (OQp (some (.int (1 : Int32))) h0 n0) := by
 refine MetFree.of_bodySF (plainFor_of_name pn_java_lang_String) hisR ?_
 intro p e s m args below meth c s₁ Bd hml0 hP hK
 obtain ⟨rfl, hZ, hh⟩ := hP
 have hx := Bd.exec
 have hby := Bd.bytes
 have hml : c.maxLocals = 1 := hml0
 have hown : s.vm.findClass "java/lang/String" = some m.cls := findClass_of_methodNamed Bd.named
 have hnm := (name_of_methodNamed Bd.named Bd.method).1
 have X0 : Stand p l e ({ frames := 0, cells := 0, slots := 0, locals := 0 } : Room) s m #[(.ref a3)] below meth c s₁ [] 0 0 := Stand.of_body Bd
 have e0 : s₁.heap = h0 := by rw [← hh, Bd.state]; rfl
 have N0 := Fr.nil n0
 have pre0 : ∀ t, Steps p.tables e below (s₁.setTop (mkF m 0 #[vR a3] [])) t → Steps p.tables e below (s₁.setTop (entryFrame m #[(.ref a3)] 1)) t := fun t k => castTop (ef_43_v m a3) k
 obtain ⟨T5, X5, e5, st5⟩ := getS2 X0 hx hZ hown (host := "") (Or.inl (tw hw 70 rfl)) Via.refl e0 H0 (g := (mkF m 0 #[vR a3] [])) rfl (hb hby d43_0)
 obtain ⟨T7, X7, e7, st7⟩ := getF X5 hx hZ hown (host := "") (Or.inl (tw hw 71 rfl)) Via.refl e5 H2 (g := (mkF m 7 #[vR a3] [(.ref a3)])) rfl rfl (hb hby d43_7)
 obtain ⟨fs, hr, hrun, hended, hW, hsame⟩ := X7.leave (v := some (.int (1 : Int32))) (fun h => by rw [Bd.returns] at h; cases h)
 refine ⟨_, _, pre0 _ ?_, hrun, hended, _, _, rfl, ?_, ⟨_, rfl⟩, hW, hsame.mono (by decide) (by decide)⟩
 · show SG p e below s₁ (mkF m 0 #[vR a3] []) _
   refine st5 _ ?_
   show SG p e below T5 (mkF m 3 #[vR a3] [(.int w4)]) _
   refine XS.ifNo X5.here hx rfl (hb hby d43_3) rfl ((if0 _ _).trans (feq H1).1) ?_
   show SG p e below T5 (mkF m 6 #[vR a3] []) _
   refine XS.aloadN X5.here hx rfl (hb hby d43_6) rfl rfl ?_
   show SG p e below T5 (mkF m 7 #[vR a3] [(.ref a3)]) _
   refine st7 _ ?_
   show SG p e below T7 (mkF m 10 #[vR a3] [(.int w6)]) _
   refine XS.ifNo X7.here hx rfl (hb hby d43_10) rfl ((if0 _ _).trans (teq H3).2) ?_
   show SG p e below T7 (mkF m 13 #[vR a3] []) _
   refine XS.iconst X7.here hx rfl (hb hby d43_13) ?_
   show SG p e below T7 (mkF m 14 #[vR a3] [(.int (1 : Int32))]) _
   refine XS.goto X7.here hx rfl (pc0 := 14) (pc' := 18) rfl (hb hby d43_14) (by decide) (by decide) ?_
   show SG p e below T7 (mkF m 18 #[vR a3] [(.int (1 : Int32))]) _
   exact retN X7 hx (t := .boolean) Bd.returns (by simp) (hb hby d43_18) hr
 · show OQp (some (.int (1 : Int32))) h0 n0 _ T7.heap _
   rw [e7]
   exact ⟨rfl, N0, rfl⟩
theorem pd_0 : parseMethodDescriptor "()Z" = some ⟨[], some .boolean⟩ := by decide +kernel
theorem d42_4 : decode jdk_42_method_56_code 4 = .ok (.ifCond .eq 12, 3) := by decide +kernel
theorem d42_7 : decode jdk_42_method_56_code 7 = .ok (.aload_n 0, 1) := by decide +kernel
theorem d42_8 : decode jdk_42_method_56_code 8 = .ok (.getfield 9, 3) := by decide +kernel
theorem d42_11 : decode jdk_42_method_56_code 11 = .ok (.iload_n 1, 1) := by decide +kernel
theorem d42_12 : decode jdk_42_method_56_code 12 = .ok (.invokestatic 495, 3) := by decide +kernel
theorem d44_0 : decode jdk_43_method_2_code 0 = .ok (.iload_n 1, 1) := by decide +kernel
theorem d44_1 : decode jdk_43_method_2_code 1 = .ok (.aload_n 0, 1) := by decide +kernel
theorem d44_2 : decode jdk_43_method_2_code 2 = .ok (.arraylength, 1) := by decide +kernel
theorem d44_3 : decode jdk_43_method_2_code 3 = .ok (.invokestatic 9, 3) := by decide +kernel
theorem d45_0 : decode jdk_42_method_155_code 0 = .ok (.iload_n 0, 1) := by decide +kernel
theorem d45_1 : decode jdk_42_method_155_code 1 = .ok (.iload_n 1, 1) := by decide +kernel
theorem d45_2 : decode jdk_42_method_155_code 2 = .ok (.getstatic 1053, 3) := by decide +kernel
theorem d45_5 : decode jdk_42_method_155_code 5 = .ok (.invokestatic 1059, 3) := by decide +kernel
theorem d46_0 : decode jdk_41_method_11_code 0 = .ok (.iload_n 0, 1) := by decide +kernel
theorem d46_1 : decode jdk_41_method_11_code 1 = .ok (.ifCond .lt 8, 3) := by decide +kernel
theorem d46_4 : decode jdk_41_method_11_code 4 = .ok (.iload_n 0, 1) := by decide +kernel
theorem d46_5 : decode jdk_41_method_11_code 5 = .ok (.iload_n 1, 1) := by decide +kernel
theorem d46_6 : decode jdk_41_method_11_code 6 = .ok (.if_icmp .lt 10, 3) := by decide +kernel
theorem d46_16 : decode jdk_41_method_11_code 16 = .ok (.iload_n 0, 1) := by decide +kernel
theorem d46_17 : decode jdk_41_method_11_code 17 = .ok (.ireturn, 1) := by decide +kernel
theorem pn_jdk_internal_util_Preconditions : plainName "jdk/internal/util/Preconditions" = true := by first | (simp [plainName, overriddenIn]; done) | decide +kernel
theorem ef_46_vvn (m : MethodId) (x0 : Int32) (x1 : Int32) : entryFrame m #[(.int x0), (.int x1), .null] 3 = mkF m 0 #[.val (.int x0), .val (.int x1), .val .null] [] := by first | (simp [entryFrame, mkF, argsToLocals, Value.category]; done) | rfl
theorem r46_1 (l : Launch) (Z : State) (a0 : Array Value) (hw : ∀ d ∈ tables_1, d.before a0 Z = true) (p22 : Int32) (p23 : Int32) (h0 : Heap) (n0 : Nat) (Z0 : n0 ≤ h0.size) (H0 : ¬ (p22 < (0 : Int32))) (H1 : p22 < p23) :
   OMet l Z mN2 jdk_41_method_11_code 3 (some .int) [] ({ frames := 0, cells := 0, slots := 0, locals := 0 } : Room) h0 #[(.int p22), (.int p23), .null] (OQp (some (.int p22)) h0 n0) := by
 refine MetFree.of_bodySF (plainFor_of_name pn_jdk_internal_util_Preconditions) hisR ?_
 intro p e s m args below meth c s₁ Bd hml0 hP hK
 obtain ⟨rfl, hZ, hh⟩ := hP
 have hx := Bd.exec
 have hby := Bd.bytes
 have hml : c.maxLocals = 3 := hml0
 have hown : s.vm.findClass "jdk/internal/util/Preconditions" = some m.cls := findClass_of_methodNamed Bd.named
 have hnm := (name_of_methodNamed Bd.named Bd.method).1
 have X0 : Stand p l e ({ frames := 0, cells := 0, slots := 0, locals := 0 } : Room) s m #[(.int p22), (.int p23), .null] below meth c s₁ [] 0 0 := Stand.of_body Bd
 have e0 : s₁.heap = h0 := by rw [← hh, Bd.state]; rfl
 have N0 := Fr.nil n0
 have pre0 : ∀ t, Steps p.tables e below (s₁.setTop (mkF m 0 #[vI p22, vI p23, .val .null] [])) t → Steps p.tables e below (s₁.setTop (entryFrame m #[(.int p22), (.int p23), .null] 3)) t := fun t k => castTop (ef_46_vvn m p22 p23) k

 obtain ⟨fs, hr, hrun, hended, hW, hsame⟩ := X0.leave (v := some (.int p22)) (fun h => by rw [Bd.returns] at h; cases h)
 refine ⟨_, _, pre0 _ ?_, hrun, hended, _, _, rfl, ?_, ⟨_, rfl⟩, hW, hsame.mono (by decide) (by decide)⟩
 · show SG p e below s₁ (mkF m 0 #[vI p22, vI p23, .val .null] []) _
   refine XS.iloadN X0.here hx rfl (hb hby d46_0) rfl ?_
   show SG p e below s₁ (mkF m 1 #[vI p22, vI p23, .val .null] [(.int p22)]) _
   refine XS.ifNo X0.here hx rfl (hb hby d46_1) rfl ((if0 _ _).trans (flt H0).1) ?_
   show SG p e below s₁ (mkF m 4 #[vI p22, vI p23, .val .null] []) _
   refine XS.iloadN X0.here hx rfl (hb hby d46_4) rfl ?_
   show SG p e below s₁ (mkF m 5 #[vI p22, vI p23, .val .null] [(.int p22)]) _
   refine XS.iloadN X0.here hx rfl (hb hby d46_5) rfl ?_
   show SG p e below s₁ (mkF m 6 #[vI p22, vI p23, .val .null] [(.int p23), (.int p22)]) _
   refine XS.icmpYes X0.here hx rfl (pc0 := 6) (pc' := 16) rfl (hb hby d46_6) rfl (tlt H1).1 (by decide) (by decide) ?_
   show SG p e below s₁ (mkF m 16 #[vI p22, vI p23, .val .null] []) _
   refine XS.iloadN X0.here hx rfl (hb hby d46_16) rfl ?_
   show SG p e below s₁ (mkF m 17 #[vI p22, vI p23, .val .null] [(.int p22)]) _
   exact retI X0 hx Bd.returns (hb hby d46_17) hr
 · show OQp (some (.int p22)) h0 n0 _ s₁.heap _
   rw [e0]
   exact ⟨rfl, N0, rfl⟩
theorem pd_1 : parseMethodDescriptor "(IILjava/util/function/BiFunction;)I" = some ⟨[.int, .int, (.object "java/util/function/BiFunction")], some .int⟩ := by decide +kernel
theorem d45_8 : decode jdk_42_method_155_code 8 = .ok (.pop, 1) := by decide +kernel
theorem d45_9 : decode jdk_42_method_155_code 9 = .ok (.return_, 1) := by decide +kernel
theorem ef_45_vv (m : MethodId) (x0 : Int32) (x1 : Int32) : entryFrame m #[(.int x0), (.int x1)] 2 = mkF m 0 #[.val (.int x0), .val (.int x1)] [] := by first | (simp [entryFrame, mkF, argsToLocals, Value.category]; done) | rfl
theorem r45_1 (l : Launch) (Z : State) (a0 : Array Value) (hw : ∀ d ∈ tables_1, d.before a0 Z = true) (p19 : Int32) (p20 : Int32) (h0 : Heap) (n0 : Nat) (Z0 : n0 ≤ h0.size) (H0 : Sta Z h0 "jdk/internal/util/Preconditions" "SIOOBE_FORMATTER" "Ljava/util/function/BiFunction;" .null) (H1 : ¬ (p19 < (0 : Int32))) (H2 : p19 < p20) :
   OMet l Z mN3 jdk_42_method_155_code 2 none [] ({ frames := 1, cells := 0, slots := 0, locals := 14 } : Room) h0 #[(.int p19), (.int p20)] (OQp (none) h0 n0) := by
 refine MetFree.of_bodySF (plainFor_of_name pn_java_lang_String) hisR ?_
 intro p e s m args below meth c s₁ Bd hml0 hP hK
 obtain ⟨rfl, hZ, hh⟩ := hP
 have hx := Bd.exec
 have hby := Bd.bytes
 have hml : c.maxLocals = 2 := hml0
 have hown : s.vm.findClass "java/lang/String" = some m.cls := findClass_of_methodNamed Bd.named
 have hnm := (name_of_methodNamed Bd.named Bd.method).1
 have X0 : Stand p l e ({ frames := 1, cells := 0, slots := 0, locals := 14 } : Room) s m #[(.int p19), (.int p20)] below meth c s₁ [] 0 0 := Stand.of_body Bd
 have e0 : s₁.heap = h0 := by rw [← hh, Bd.state]; rfl
 have N0 := Fr.nil n0
 have pre0 : ∀ t, Steps p.tables e below (s₁.setTop (mkF m 0 #[vI p19, vI p20] [])) t → Steps p.tables e below (s₁.setTop (entryFrame m #[(.int p19), (.int p20)] 2)) t := fun t k => castTop (ef_45_vv m p19 p20) k
 obtain ⟨T21, X21, e21, st21⟩ := getS2 X0 hx hZ hown (host := "") (Or.inl (tw hw 278 rfl)) Via.refl e0 H0 (g := (mkF m 2 #[vI p19, vI p20] [(.int p20), (.int p19)])) rfl (hb hby d45_2)
 obtain ⟨_, _, ⟨T24, L24, k24, n24⟩, -, X24, ⟨Lc24, hQ24, l24, y24, z24⟩, st24⟩ := Jvm.LawKit.callS X21 hx (y := mN2) hown (mvT hZ (tw hw 280 rfl)) (mvT hZ (tw hw 281 rfl)) (mvT hZ (tw hw 279 rfl)) (mvT hZ (tw hw 282 rfl)) (by decide) (backOf (W := 0) (r46_1 l Z a0 hw p19 p20 h0 n0 Z0 H1 H2) hZ (tw hw 282 rfl) (tw hw 279 rfl) (by decide) (by decide)) (g := (mkF m 5 #[vI p19, vI p20] [.null, (.int p20), (.int p19)])) rfl (by rw [hml]; rfl) (argsL := [(.int p19), (.int p20), .null]) (rest := []) (lenOf pd_1 rfl) rfl (own_w _) (hb hby d45_5) (fun _ _ => ⟨rfl, e21, (by decide : 0 + 0 ≤ _), (by decide : 0 + 0 ≤ _)⟩)
 dsimp only [Pt.U, Pt.locs, Pt.cells, Pt.slots] at X24 l24 y24 z24 st24 hQ24
 replace X24 := own_mvX X24 (a := 0) (b := 0) y24 z24
 obtain ⟨rfl, N24q, e24⟩ := hQ24
 have N24 := own_mvN l24 N0 N24q
 obtain ⟨fs, hr, hrun, hended, hW, hsame⟩ := X24.leave (v := none) (fun _ => rfl)
 refine ⟨_, _, pre0 _ ?_, hrun, hended, _, _, rfl, ?_, ⟨_, rfl⟩, hW, hsame.mono (by decide) (by decide)⟩
 · show SG p e below s₁ (mkF m 0 #[vI p19, vI p20] []) _
   refine XS.iloadN X0.here hx rfl (hb hby d45_0) rfl ?_
   show SG p e below s₁ (mkF m 1 #[vI p19, vI p20] [(.int p19)]) _
   refine XS.iloadN X0.here hx rfl (hb hby d45_1) rfl ?_
   show SG p e below s₁ (mkF m 2 #[vI p19, vI p20] [(.int p20), (.int p19)]) _
   refine st21 _ ?_
   show SG p e below T21 (mkF m 5 #[vI p19, vI p20] [.null, (.int p20), (.int p19)]) _
   refine st24 _ ?_
   show SG p e below T24 (mkF m 8 #[vI p19, vI p20] [(.int p19)]) _
   refine XS.pop X24.here hx rfl (hb hby d45_8) rfl rfl ?_
   show SG p e below T24 (mkF m 9 #[vI p19, vI p20] []) _
   exact X24.returnOut hx Bd.returns (hb hby d45_9) hr
 · show OQp (none) h0 n0 _ T24.heap _
   rw [e24]
   exact ⟨rfl, N24, rfl⟩
theorem pd_2 : parseMethodDescriptor "(II)V" = some ⟨[.int, .int], none⟩ := by decide +kernel
theorem d44_6 : decode jdk_43_method_2_code 6 = .ok (.aload_n 0, 1) := by decide +kernel
theorem d44_7 : decode jdk_43_method_2_code 7 = .ok (.iload_n 1, 1) := by decide +kernel
theorem d44_8 : decode jdk_43_method_2_code 8 = .ok (.baload, 1) := by decide +kernel
theorem d44_9 : decode jdk_43_method_2_code 9 = .ok (.sipush 255, 3) := by decide +kernel
theorem d44_12 : decode jdk_43_method_2_code 12 = .ok (.iand, 1) := by decide +kernel
theorem d44_13 : decode jdk_43_method_2_code 13 = .ok (.i2c, 1) := by decide +kernel
theorem d44_14 : decode jdk_43_method_2_code 14 = .ok (.ireturn, 1) := by decide +kernel
theorem pn_java_lang_StringLatin1 : plainName "java/lang/StringLatin1" = true := by first | (simp [plainName, overriddenIn]; done) | decide +kernel
theorem ef_44_vv (m : MethodId) (x0 : Addr) (x1 : Int32) : entryFrame m #[(.ref x0), (.int x1)] 2 = mkF m 0 #[.val (.ref x0), .val (.int x1)] [] := by first | (simp [entryFrame, mkF, argsToLocals, Value.category]; done) | rfl
theorem r44_1 (l : Launch) (Z : State) (a0 : Array Value) (hw : ∀ d ∈ tables_1, d.before a0 Z = true) (a13 : Addr) (p14 : Int32) (k15 : ClassId) (u16 : Nat → Int32) (p17 : Int32) (h0 : Heap) (n0 : Nat) (Z0 : n0 ≤ h0.size) (H0 : BA Z h0 a13 k15 .byte p17 u16) (H1 : Sta Z h0 "jdk/internal/util/Preconditions" "SIOOBE_FORMATTER" "Ljava/util/function/BiFunction;" .null) (H2 : ¬ (p14 < (0 : Int32))) (H3 : p14 < p17) (H4 : nar .char (((u16 (p14).toNatClampNeg) &&& (255 : Int32)).toUInt32.toUInt16.toUInt32.toInt32) = (((u16 (p14).toNatClampNeg) &&& (255 : Int32)).toUInt32.toUInt16.toUInt32.toInt32)) :
   OMet l Z mN4 jdk_43_method_2_code 2 (some .char) [] ({ frames := 2, cells := 0, slots := 0, locals := 27 } : Room) h0 #[(.ref a13), (.int p14)] (OQp (some (.int (((u16 (p14).toNatClampNeg) &&& (255 : Int32)).toUInt32.toUInt16.toUInt32.toInt32))) h0 n0) := by
 refine MetFree.of_bodySF (plainFor_of_name pn_java_lang_StringLatin1) hisR ?_
 intro p e s m args below meth c s₁ Bd hml0 hP hK
 obtain ⟨rfl, hZ, hh⟩ := hP
 have hx := Bd.exec
 have hby := Bd.bytes
 have hml : c.maxLocals = 2 := hml0
 have hown : s.vm.findClass "java/lang/StringLatin1" = some m.cls := findClass_of_methodNamed Bd.named
 have hnm := (name_of_methodNamed Bd.named Bd.method).1
 have X0 : Stand p l e ({ frames := 2, cells := 0, slots := 0, locals := 27 } : Room) s m #[(.ref a13), (.int p14)] below meth c s₁ [] 0 0 := Stand.of_body Bd
 have e0 : s₁.heap = h0 := by rw [← hh, Bd.state]; rfl
 have N0 := Fr.nil n0
 have pre0 : ∀ t, Steps p.tables e below (s₁.setTop (mkF m 0 #[vR a13, vI p14] [])) t → Steps p.tables e below (s₁.setTop (entryFrame m #[(.ref a13), (.int p14)] 2)) t := fun t k => castTop (ef_44_vv m a13 p14) k
 have vc18 := H0
 obtain ⟨cl18, Ar18, q18, S18, N18, Hh18, G18⟩ := vc18
 obtain ⟨_, _, ⟨T25, L25, k25, n25⟩, -, X25, ⟨Lc25, hQ25, l25, y25, z25⟩, st25⟩ := Jvm.LawKit.callS X0 hx (y := mN3) hown (mvT hZ (tw hw 275 rfl)) (mvT hZ (tw hw 276 rfl)) (mvT hZ (tw hw 37 rfl)) (mvT hZ (tw hw 277 rfl)) (by decide) (backOf (W := 0) (r45_1 l Z a0 hw p14 p17 h0 n0 Z0 H1 H2 H3) hZ (tw hw 277 rfl) (tw hw 37 rfl) (by decide) (by decide)) (g := (mkF m 3 #[vR a13, vI p14] [(.int p17), (.int p14)])) rfl (by rw [hml]; rfl) (argsL := [(.int p14), (.int p17)]) (rest := []) (lenOf pd_2 rfl) rfl (own_w _) (hb hby d44_3) (fun _ _ => ⟨rfl, e0, (by decide : 0 + 0 ≤ _), (by decide : 0 + 0 ≤ _)⟩)
 dsimp only [Pt.U, Pt.locs, Pt.cells, Pt.slots] at X25 l25 y25 z25 st25 hQ25
 replace X25 := own_mvX X25 (a := 0) (b := 0) y25 z25
 obtain ⟨rfl, N25q, e25⟩ := hQ25
 have N25 := own_mvN l25 N0 N25q
 have vc26 := H0
 obtain ⟨cl26, Ar26, q26, S26, N26, Hh26, G26⟩ := vc26
 have hin26 : ¬ (p14 < 0 ∨ cl26.slots.size ≤ (p14).toNatClampNeg) := inb_of S26 ⟨H2, H3⟩
 have hat26 : cl26.slots[(p14).toNatClampNeg]? = some (.int (u16 (p14).toNatClampNeg)) := Hh26 _ (Nat.lt_of_not_le fun y => hin26 (Or.inr y))
 obtain ⟨fs, hr, hrun, hended, hW, hsame⟩ := X25.leave (v := some (.int (((u16 (p14).toNatClampNeg) &&& (255 : Int32)).toUInt32.toUInt16.toUInt32.toInt32))) (fun h => by rw [Bd.returns] at h; cases h)
 refine ⟨_, _, pre0 _ ?_, hrun, hended, _, _, rfl, ?_, ⟨_, rfl⟩, hW, hsame.mono (by decide) (by decide)⟩
 · show SG p e below s₁ (mkF m 0 #[vR a13, vI p14] []) _
   refine XS.iloadN X0.here hx rfl (hb hby d44_0) rfl ?_
   show SG p e below s₁ (mkF m 1 #[vR a13, vI p14] [(.int p14)]) _
   refine XS.aloadN X0.here hx rfl (hb hby d44_1) rfl rfl ?_
   show SG p e below s₁ (mkF m 2 #[vR a13, vI p14] [(.ref a13), (.int p14)]) _
   refine X0.arraylength hx (by rw [e0]; exact Ar18.1) (State.isArrayOf_alike hZ.alike Ar18.2.1) (g := (mkF m 2 #[vR a13, vI p14] [(.ref a13), (.int p14)])) rfl rfl (hb hby d44_2) _ ?_
   rw [len_of S18 N18]
   show SG p e below s₁ (mkF m 3 #[vR a13, vI p14] [(.int p17), (.int p14)]) _
   refine st25 _ ?_
   show SG p e below T25 (mkF m 6 #[vR a13, vI p14] []) _
   refine XS.aloadN X25.here hx rfl (hb hby d44_6) rfl rfl ?_
   show SG p e below T25 (mkF m 7 #[vR a13, vI p14] [(.ref a13)]) _
   refine XS.iloadN X25.here hx rfl (hb hby d44_7) rfl ?_
   show SG p e below T25 (mkF m 8 #[vR a13, vI p14] [(.int p14), (.ref a13)]) _
   refine X25.baloadBytes hx (j := p14) (v := (.int (u16 (p14).toNatClampNeg))) (by rw [e25]; exact Ar26.1) (State.isArrayOf_alike hZ.alike Ar26.2.1) Ar26.2.2 hin26 hat26 (g := (mkF m 8 #[vR a13, vI p14] [(.int p14), (.ref a13)])) rfl rfl (hb hby d44_8) _ ?_
   show SG p e below T25 (mkF m 9 #[vR a13, vI p14] [(.int (u16 (p14).toNatClampNeg))]) _
   refine XS.sipush X25.here hx rfl (hb hby d44_9) ?_
   show SG p e below T25 (mkF m 12 #[vR a13, vI p14] [(.int (255 : Int32)), (.int (u16 (p14).toNatClampNeg))]) _
   refine XS.iand X25.here hx rfl (hb hby d44_12) rfl ?_
   show SG p e below T25 (mkF m 13 #[vR a13, vI p14] [(.int ((u16 (p14).toNatClampNeg) &&& (255 : Int32)))]) _
   refine XS.i2c X25.here hx rfl (hb hby d44_13) rfl ?_
   show SG p e below T25 (mkF m 14 #[vR a13, vI p14] [(.int (((u16 (p14).toNatClampNeg) &&& (255 : Int32)).toUInt32.toUInt16.toUInt32.toInt32))]) _
   exact retN X25 hx (t := .char) Bd.returns (by simp) (hb hby d44_14) (by rw [H4]; exact hr)
 · show OQp (some (.int (((u16 (p14).toNatClampNeg) &&& (255 : Int32)).toUInt32.toUInt16.toUInt32.toInt32))) h0 n0 _ T25.heap _
   rw [e25]
   exact ⟨rfl, N25, rfl⟩
theorem pd_3 : parseMethodDescriptor "([BI)C" = some ⟨[(.array .byte), .int], some .char⟩ := by decide +kernel
theorem d42_15 : decode jdk_42_method_56_code 15 = .ok (.ireturn, 1) := by decide +kernel
theorem ef_42_vv (m : MethodId) (x0 : Addr) (x1 : Int32) : entryFrame m #[(.ref x0), (.int x1)] 2 = mkF m 0 #[.val (.ref x0), .val (.int x1)] [] := by first | (simp [entryFrame, mkF, argsToLocals, Value.category]; done) | rfl
theorem r42_1 (l : Launch) (Z : State) (a0 : Array Value) (hw : ∀ d ∈ tables_1, d.before a0 Z = true) (a1 : Addr) (p2 : Int32) (w9 : Int32) (w10 : Int32) (w11 : Addr) (k28 : ClassId) (u29 : Nat → Int32) (p30 : Int32) (h0 : Heap) (n0 : Nat) (Z0 : n0 ≤ h0.size) (H0 : Sta Z h0 "java/lang/String" "COMPACT_STRINGS" "Z" (.int w9)) (H1 : ¬ (w9 = (0 : Int32))) (H2 : Fld Z h0 a1 "java/lang/String" "coder" "B" (.int w10)) (H3 : w10 = (0 : Int32)) (H4 : Exa Z h0 a1 "java/lang/String") (H5 : Fld Z h0 a1 "java/lang/String" "value" "[B" (.ref w11)) (H6 : BA Z h0 w11 k28 .byte p30 u29) (H7 : Sta Z h0 "jdk/internal/util/Preconditions" "SIOOBE_FORMATTER" "Ljava/util/function/BiFunction;" .null) (H8 : ¬ (p2 < (0 : Int32))) (H9 : p2 < p30) (H10 : nar .char (((u29 (p2).toNatClampNeg) &&& (255 : Int32)).toUInt32.toUInt16.toUInt32.toInt32) = (((u29 (p2).toNatClampNeg) &&& (255 : Int32)).toUInt32.toUInt16.toUInt32.toInt32)) :
   OMet l Z mN5 jdk_42_method_56_code 2 (some .char) [] ({ frames := 3, cells := 0, slots := 0, locals := 40 } : Room) h0 #[(.ref a1), (.int p2)] (OQp (some (.int (((u29 (p2).toNatClampNeg) &&& (255 : Int32)).toUInt32.toUInt16.toUInt32.toInt32))) h0 n0) := by
 refine MetFree.of_bodySF (plainFor_of_name pn_java_lang_String) hisR ?_
 intro p e s m args below meth c s₁ Bd hml0 hP hK
 obtain ⟨rfl, hZ, hh⟩ := hP
 have hx := Bd.exec
 have hby := Bd.bytes
 have hml : c.maxLocals = 2 := hml0
 have hown : s.vm.findClass "java/lang/String" = some m.cls := findClass_of_methodNamed Bd.named
 have hnm := (name_of_methodNamed Bd.named Bd.method).1
 have X0 : Stand p l e ({ frames := 3, cells := 0, slots := 0, locals := 40 } : Room) s m #[(.ref a1), (.int p2)] below meth c s₁ [] 0 0 := Stand.of_body Bd
 have e0 : s₁.heap = h0 := by rw [← hh, Bd.state]; rfl
 have N0 := Fr.nil n0
 have pre0 : ∀ t, Steps p.tables e below (s₁.setTop (mkF m 0 #[vR a1, vI p2] [])) t → Steps p.tables e below (s₁.setTop (entryFrame m #[(.ref a1), (.int p2)] 2)) t := fun t k => castTop (ef_42_vv m a1 p2) k
 obtain ⟨cq8, kq8, q8a, q8b, q8c⟩ := isOf hZ e0 H4
 obtain ⟨_, _, ⟨T8, L8, k8, n8⟩, -, X8, ⟨Lc8, hQ8, l8, y8, z8⟩, st8⟩ := X0.virtualBack hx (y := mN1) (z := mN1) hown (mvT hZ (tw hw 266 rfl)) (mvT hZ (tw hw 267 rfl)) (notFace_of_selects (args := #[]) (mvT hZ (tw hw 269 rfl))) (mvT hZ (tw hw 269 rfl)) (mvT hZ (tw hw 268 rfl)) (by decide) (backOf (W := 0) (r43_1 l Z a0 hw a1 w9 w10 h0 n0 Z0 H0 H1 H2 H3) hZ (tw hw 270 rfl) (tw hw 37 rfl) (by decide) (by decide)) q8a q8c (g := (mkF m 1 #[vR a1, vI p2] [(.ref a1)])) rfl (by rw [hml]; rfl) (Steps.refl _) (argsL := []) (rest := []) (lenOf pd_0 rfl) rfl (own_w _) (hb hby d42_1) (fun _ _ => ⟨rfl, e0, (by decide : 0 + 0 ≤ _), (by decide : 0 + 0 ≤ _)⟩)
 dsimp only [Pt.U, Pt.locs, Pt.cells, Pt.slots] at X8 l8 y8 z8 st8 hQ8
 replace X8 := own_mvX X8 (a := 0) (b := 0) y8 z8
 obtain ⟨rfl, N8q, e8⟩ := hQ8
 have N8 := own_mvN l8 N0 N8q
 obtain ⟨T12, X12, e12, st12⟩ := getF X8 hx hZ hown (host := "") (Or.inl (tw hw 64 rfl)) Via.refl e8 H5 (g := (mkF m 8 #[vR a1, vI p2] [(.ref a1)])) rfl rfl (hb hby d42_8)
 obtain ⟨_, _, ⟨T27, L27, k27, n27⟩, -, X27, ⟨Lc27, hQ27, l27, y27, z27⟩, st27⟩ := Jvm.LawKit.callS X12 hx (y := mN4) hown (mvT hZ (tw hw 271 rfl)) (mvT hZ (tw hw 272 rfl)) (mvT hZ (tw hw 273 rfl)) (mvT hZ (tw hw 274 rfl)) (by decide) (backOf (W := 0) (r44_1 l Z a0 hw w11 p2 k28 u29 p30 h0 n0 Z0 H6 H7 H8 H9 H10) hZ (tw hw 274 rfl) (tw hw 273 rfl) (by decide) (by decide)) (g := (mkF m 12 #[vR a1, vI p2] [(.int p2), (.ref w11)])) rfl (by rw [hml]; rfl) (argsL := [(.ref w11), (.int p2)]) (rest := []) (lenOf pd_3 rfl) rfl (own_w _) (hb hby d42_12) (fun _ _ => ⟨rfl, e12, (by decide : 0 + 0 ≤ _), (by decide : 0 + 0 ≤ _)⟩)
 dsimp only [Pt.U, Pt.locs, Pt.cells, Pt.slots] at X27 l27 y27 z27 st27 hQ27
 replace X27 := own_mvX X27 (a := 0) (b := 0) y27 z27
 obtain ⟨rfl, N27q, e27⟩ := hQ27
 have N27 := own_mvN l27 N8 N27q
 obtain ⟨fs, hr, hrun, hended, hW, hsame⟩ := X27.leave (v := some (.int (((u29 (p2).toNatClampNeg) &&& (255 : Int32)).toUInt32.toUInt16.toUInt32.toInt32))) (fun h => by rw [Bd.returns] at h; cases h)
 refine ⟨_, _, pre0 _ ?_, hrun, hended, _, _, rfl, ?_, ⟨_, rfl⟩, hW, hsame.mono (by decide) (by decide)⟩
 · show SG p e below s₁ (mkF m 0 #[vR a1, vI p2] []) _
   refine XS.aloadN X0.here hx rfl (hb hby d42_0) rfl rfl ?_
   show SG p e below s₁ (mkF m 1 #[vR a1, vI p2] [(.ref a1)]) _
   refine st8.trans ?_
   show SG p e below T8 (mkF m 4 #[vR a1, vI p2] [(.int (1 : Int32))]) _
   refine XS.ifNo X8.here hx rfl (hb hby d42_4) rfl ((if0 _ _).trans (feq (by decide : ¬ ((1 : Int32) = (0 : Int32)))).1) ?_
   show SG p e below T8 (mkF m 7 #[vR a1, vI p2] []) _
   refine XS.aloadN X8.here hx rfl (hb hby d42_7) rfl rfl ?_
   show SG p e below T8 (mkF m 8 #[vR a1, vI p2] [(.ref a1)]) _
   refine st12 _ ?_
   show SG p e below T12 (mkF m 11 #[vR a1, vI p2] [(.ref w11)]) _
   refine XS.iloadN X12.here hx rfl (hb hby d42_11) rfl ?_
   show SG p e below T12 (mkF m 12 #[vR a1, vI p2] [(.int p2), (.ref w11)]) _
   refine st27 _ ?_
   show SG p e below T27 (mkF m 15 #[vR a1, vI p2] [(.int (((u29 (p2).toNatClampNeg) &&& (255 : Int32)).toUInt32.toUInt16.toUInt32.toInt32))]) _
   exact retN X27 hx (t := .char) Bd.returns (by simp) (hb hby d42_15) (by rw [H10]; exact hr)
 · show OQp (some (.int (((u29 (p2).toNatClampNeg) &&& (255 : Int32)).toUInt32.toUInt16.toUInt32.toInt32))) h0 n0 _ T27.heap _
   rw [e27]
   exact ⟨rfl, N27, rfl⟩
theorem ef_46_vvv (m : MethodId) (x0 : Int32) (x1 : Int32) (x2 : Addr) : entryFrame m #[(.int x0), (.int x1), (.ref x2)] 3 = mkF m 0 #[.val (.int x0), .val (.int x1), .val (.ref x2)] [] := by first | (simp [entryFrame, mkF, argsToLocals, Value.category]; done) | rfl
theorem r46_2 (l : Launch) (Z : State) (a0 : Array Value) (hw : ∀ d ∈ tables_1, d.before a0 Z = true) (p53 : Int32) (p54 : Int32) (a55 : Addr) (h0 : Heap) (n0 : Nat) (Z0 : n0 ≤ h0.size) (H0 : ¬ (p53 < (0 : Int32))) (H1 : p53 < p54) :
   OMet l Z mN2 jdk_41_method_11_code 3 (some .int) [] ({ frames := 0, cells := 0, slots := 0, locals := 0 } : Room) h0 #[(.int p53), (.int p54), (.ref a55)] (OQp (some (.int p53)) h0 n0) := by
 refine MetFree.of_bodySF (plainFor_of_name pn_jdk_internal_util_Preconditions) hisR ?_
 intro p e s m args below meth c s₁ Bd hml0 hP hK
 obtain ⟨rfl, hZ, hh⟩ := hP
 have hx := Bd.exec
 have hby := Bd.bytes
 have hml : c.maxLocals = 3 := hml0
 have hown : s.vm.findClass "jdk/internal/util/Preconditions" = some m.cls := findClass_of_methodNamed Bd.named
 have hnm := (name_of_methodNamed Bd.named Bd.method).1
 have X0 : Stand p l e ({ frames := 0, cells := 0, slots := 0, locals := 0 } : Room) s m #[(.int p53), (.int p54), (.ref a55)] below meth c s₁ [] 0 0 := Stand.of_body Bd
 have e0 : s₁.heap = h0 := by rw [← hh, Bd.state]; rfl
 have N0 := Fr.nil n0
 have pre0 : ∀ t, Steps p.tables e below (s₁.setTop (mkF m 0 #[vI p53, vI p54, vR a55] [])) t → Steps p.tables e below (s₁.setTop (entryFrame m #[(.int p53), (.int p54), (.ref a55)] 3)) t := fun t k => castTop (ef_46_vvv m p53 p54 a55) k

 obtain ⟨fs, hr, hrun, hended, hW, hsame⟩ := X0.leave (v := some (.int p53)) (fun h => by rw [Bd.returns] at h; cases h)
 refine ⟨_, _, pre0 _ ?_, hrun, hended, _, _, rfl, ?_, ⟨_, rfl⟩, hW, hsame.mono (by decide) (by decide)⟩
 · show SG p e below s₁ (mkF m 0 #[vI p53, vI p54, vR a55] []) _
   refine XS.iloadN X0.here hx rfl (hb hby d46_0) rfl ?_
   show SG p e below s₁ (mkF m 1 #[vI p53, vI p54, vR a55] [(.int p53)]) _
   refine XS.ifNo X0.here hx rfl (hb hby d46_1) rfl ((if0 _ _).trans (flt H0).1) ?_
   show SG p e below s₁ (mkF m 4 #[vI p53, vI p54, vR a55] []) _
   refine XS.iloadN X0.here hx rfl (hb hby d46_4) rfl ?_
   show SG p e below s₁ (mkF m 5 #[vI p53, vI p54, vR a55] [(.int p53)]) _
   refine XS.iloadN X0.here hx rfl (hb hby d46_5) rfl ?_
   show SG p e below s₁ (mkF m 6 #[vI p53, vI p54, vR a55] [(.int p54), (.int p53)]) _
   refine XS.icmpYes X0.here hx rfl (pc0 := 6) (pc' := 16) rfl (hb hby d46_6) rfl (tlt H1).1 (by decide) (by decide) ?_
   show SG p e below s₁ (mkF m 16 #[vI p53, vI p54, vR a55] []) _
   refine XS.iloadN X0.here hx rfl (hb hby d46_16) rfl ?_
   show SG p e below s₁ (mkF m 17 #[vI p53, vI p54, vR a55] [(.int p53)]) _
   exact retI X0 hx Bd.returns (hb hby d46_17) hr
 · show OQp (some (.int p53)) h0 n0 _ s₁.heap _
   rw [e0]
   exact ⟨rfl, N0, rfl⟩
theorem r45_2 (l : Launch) (Z : State) (a0 : Array Value) (hw : ∀ d ∈ tables_1, d.before a0 Z = true) (p49 : Int32) (p50 : Int32) (w51 : Addr) (h0 : Heap) (n0 : Nat) (Z0 : n0 ≤ h0.size) (H0 : Sta Z h0 "jdk/internal/util/Preconditions" "SIOOBE_FORMATTER" "Ljava/util/function/BiFunction;" (.ref w51)) (H1 : ¬ (p49 < (0 : Int32))) (H2 : p49 < p50) :
   OMet l Z mN3 jdk_42_method_155_code 2 none [] ({ frames := 1, cells := 0, slots := 0, locals := 14 } : Room) h0 #[(.int p49), (.int p50)] (OQp (none) h0 n0) := by
 refine MetFree.of_bodySF (plainFor_of_name pn_java_lang_String) hisR ?_
 intro p e s m args below meth c s₁ Bd hml0 hP hK
 obtain ⟨rfl, hZ, hh⟩ := hP
 have hx := Bd.exec
 have hby := Bd.bytes
 have hml : c.maxLocals = 2 := hml0
 have hown : s.vm.findClass "java/lang/String" = some m.cls := findClass_of_methodNamed Bd.named
 have hnm := (name_of_methodNamed Bd.named Bd.method).1
 have X0 : Stand p l e ({ frames := 1, cells := 0, slots := 0, locals := 14 } : Room) s m #[(.int p49), (.int p50)] below meth c s₁ [] 0 0 := Stand.of_body Bd
 have e0 : s₁.heap = h0 := by rw [← hh, Bd.state]; rfl
 have N0 := Fr.nil n0
 have pre0 : ∀ t, Steps p.tables e below (s₁.setTop (mkF m 0 #[vI p49, vI p50] [])) t → Steps p.tables e below (s₁.setTop (entryFrame m #[(.int p49), (.int p50)] 2)) t := fun t k => castTop (ef_45_vv m p49 p50) k
 obtain ⟨T52, X52, e52, st52⟩ := getS2 X0 hx hZ hown (host := "") (Or.inl (tw hw 278 rfl)) Via.refl e0 H0 (g := (mkF m 2 #[vI p49, vI p50] [(.int p50), (.int p49)])) rfl (hb hby d45_2)
 obtain ⟨_, _, ⟨T56, L56, k56, n56⟩, -, X56, ⟨Lc56, hQ56, l56, y56, z56⟩, st56⟩ := Jvm.LawKit.callS X52 hx (y := mN2) hown (mvT hZ (tw hw 280 rfl)) (mvT hZ (tw hw 281 rfl)) (mvT hZ (tw hw 279 rfl)) (mvT hZ (tw hw 282 rfl)) (by decide) (backOf (W := 0) (r46_2 l Z a0 hw p49 p50 w51 h0 n0 Z0 H1 H2) hZ (tw hw 282 rfl) (tw hw 279 rfl) (by decide) (by decide)) (g := (mkF m 5 #[vI p49, vI p50] [(.ref w51), (.int p50), (.int p49)])) rfl (by rw [hml]; rfl) (argsL := [(.int p49), (.int p50), (.ref w51)]) (rest := []) (lenOf pd_1 rfl) rfl (own_w _) (hb hby d45_5) (fun _ _ => ⟨rfl, e52, (by decide : 0 + 0 ≤ _), (by decide : 0 + 0 ≤ _)⟩)
 dsimp only [Pt.U, Pt.locs, Pt.cells, Pt.slots] at X56 l56 y56 z56 st56 hQ56
 replace X56 := own_mvX X56 (a := 0) (b := 0) y56 z56
 obtain ⟨rfl, N56q, e56⟩ := hQ56
 have N56 := own_mvN l56 N0 N56q
 obtain ⟨fs, hr, hrun, hended, hW, hsame⟩ := X56.leave (v := none) (fun _ => rfl)
 refine ⟨_, _, pre0 _ ?_, hrun, hended, _, _, rfl, ?_, ⟨_, rfl⟩, hW, hsame.mono (by decide) (by decide)⟩
 · show SG p e below s₁ (mkF m 0 #[vI p49, vI p50] []) _
   refine XS.iloadN X0.here hx rfl (hb hby d45_0) rfl ?_
   show SG p e below s₁ (mkF m 1 #[vI p49, vI p50] [(.int p49)]) _
   refine XS.iloadN X0.here hx rfl (hb hby d45_1) rfl ?_
   show SG p e below s₁ (mkF m 2 #[vI p49, vI p50] [(.int p50), (.int p49)]) _
   refine st52 _ ?_
   show SG p e below T52 (mkF m 5 #[vI p49, vI p50] [(.ref w51), (.int p50), (.int p49)]) _
   refine st56 _ ?_
   show SG p e below T56 (mkF m 8 #[vI p49, vI p50] [(.int p49)]) _
   refine XS.pop X56.here hx rfl (hb hby d45_8) rfl rfl ?_
   show SG p e below T56 (mkF m 9 #[vI p49, vI p50] []) _
   exact X56.returnOut hx Bd.returns (hb hby d45_9) hr
 · show OQp (none) h0 n0 _ T56.heap _
   rw [e56]
   exact ⟨rfl, N56, rfl⟩
theorem r44_2 (l : Launch) (Z : State) (a0 : Array Value) (hw : ∀ d ∈ tables_1, d.before a0 Z = true) (a43 : Addr) (p44 : Int32) (k45 : ClassId) (u46 : Nat → Int32) (p47 : Int32) (w58 : Addr) (h0 : Heap) (n0 : Nat) (Z0 : n0 ≤ h0.size) (H0 : BA Z h0 a43 k45 .byte p47 u46) (H1 : Sta Z h0 "jdk/internal/util/Preconditions" "SIOOBE_FORMATTER" "Ljava/util/function/BiFunction;" (.ref w58)) (H2 : ¬ (p44 < (0 : Int32))) (H3 : p44 < p47) (H4 : nar .char (((u46 (p44).toNatClampNeg) &&& (255 : Int32)).toUInt32.toUInt16.toUInt32.toInt32) = (((u46 (p44).toNatClampNeg) &&& (255 : Int32)).toUInt32.toUInt16.toUInt32.toInt32)) :
   OMet l Z mN4 jdk_43_method_2_code 2 (some .char) [] ({ frames := 2, cells := 0, slots := 0, locals := 27 } : Room) h0 #[(.ref a43), (.int p44)] (OQp (some (.int (((u46 (p44).toNatClampNeg) &&& (255 : Int32)).toUInt32.toUInt16.toUInt32.toInt32))) h0 n0) := by
 refine MetFree.of_bodySF (plainFor_of_name pn_java_lang_StringLatin1) hisR ?_
 intro p e s m args below meth c s₁ Bd hml0 hP hK
 obtain ⟨rfl, hZ, hh⟩ := hP
 have hx := Bd.exec
 have hby := Bd.bytes
 have hml : c.maxLocals = 2 := hml0
 have hown : s.vm.findClass "java/lang/StringLatin1" = some m.cls := findClass_of_methodNamed Bd.named
 have hnm := (name_of_methodNamed Bd.named Bd.method).1
 have X0 : Stand p l e ({ frames := 2, cells := 0, slots := 0, locals := 27 } : Room) s m #[(.ref a43), (.int p44)] below meth c s₁ [] 0 0 := Stand.of_body Bd
 have e0 : s₁.heap = h0 := by rw [← hh, Bd.state]; rfl
 have N0 := Fr.nil n0
 have pre0 : ∀ t, Steps p.tables e below (s₁.setTop (mkF m 0 #[vR a43, vI p44] [])) t → Steps p.tables e below (s₁.setTop (entryFrame m #[(.ref a43), (.int p44)] 2)) t := fun t k => castTop (ef_44_vv m a43 p44) k
 have vc48 := H0
 obtain ⟨cl48, Ar48, q48, S48, N48, Hh48, G48⟩ := vc48
 obtain ⟨_, _, ⟨T57, L57, k57, n57⟩, -, X57, ⟨Lc57, hQ57, l57, y57, z57⟩, st57⟩ := Jvm.LawKit.callS X0 hx (y := mN3) hown (mvT hZ (tw hw 275 rfl)) (mvT hZ (tw hw 276 rfl)) (mvT hZ (tw hw 37 rfl)) (mvT hZ (tw hw 277 rfl)) (by decide) (backOf (W := 0) (r45_2 l Z a0 hw p44 p47 w58 h0 n0 Z0 H1 H2 H3) hZ (tw hw 277 rfl) (tw hw 37 rfl) (by decide) (by decide)) (g := (mkF m 3 #[vR a43, vI p44] [(.int p47), (.int p44)])) rfl (by rw [hml]; rfl) (argsL := [(.int p44), (.int p47)]) (rest := []) (lenOf pd_2 rfl) rfl (own_w _) (hb hby d44_3) (fun _ _ => ⟨rfl, e0, (by decide : 0 + 0 ≤ _), (by decide : 0 + 0 ≤ _)⟩)
 dsimp only [Pt.U, Pt.locs, Pt.cells, Pt.slots] at X57 l57 y57 z57 st57 hQ57
 replace X57 := own_mvX X57 (a := 0) (b := 0) y57 z57
 obtain ⟨rfl, N57q, e57⟩ := hQ57
 have N57 := own_mvN l57 N0 N57q
 have vc59 := H0
 obtain ⟨cl59, Ar59, q59, S59, N59, Hh59, G59⟩ := vc59
 have hin59 : ¬ (p44 < 0 ∨ cl59.slots.size ≤ (p44).toNatClampNeg) := inb_of S59 ⟨H2, H3⟩
 have hat59 : cl59.slots[(p44).toNatClampNeg]? = some (.int (u46 (p44).toNatClampNeg)) := Hh59 _ (Nat.lt_of_not_le fun y => hin59 (Or.inr y))
 obtain ⟨fs, hr, hrun, hended, hW, hsame⟩ := X57.leave (v := some (.int (((u46 (p44).toNatClampNeg) &&& (255 : Int32)).toUInt32.toUInt16.toUInt32.toInt32))) (fun h => by rw [Bd.returns] at h; cases h)
 refine ⟨_, _, pre0 _ ?_, hrun, hended, _, _, rfl, ?_, ⟨_, rfl⟩, hW, hsame.mono (by decide) (by decide)⟩
 · show SG p e below s₁ (mkF m 0 #[vR a43, vI p44] []) _
   refine XS.iloadN X0.here hx rfl (hb hby d44_0) rfl ?_
   show SG p e below s₁ (mkF m 1 #[vR a43, vI p44] [(.int p44)]) _
   refine XS.aloadN X0.here hx rfl (hb hby d44_1) rfl rfl ?_
   show SG p e below s₁ (mkF m 2 #[vR a43, vI p44] [(.ref a43), (.int p44)]) _
   refine X0.arraylength hx (by rw [e0]; exact Ar48.1) (State.isArrayOf_alike hZ.alike Ar48.2.1) (g := (mkF m 2 #[vR a43, vI p44] [(.ref a43), (.int p44)])) rfl rfl (hb hby d44_2) _ ?_
   rw [len_of S48 N48]
   show SG p e below s₁ (mkF m 3 #[vR a43, vI p44] [(.int p47), (.int p44)]) _
   refine st57 _ ?_
   show SG p e below T57 (mkF m 6 #[vR a43, vI p44] []) _
   refine XS.aloadN X57.here hx rfl (hb hby d44_6) rfl rfl ?_
   show SG p e below T57 (mkF m 7 #[vR a43, vI p44] [(.ref a43)]) _
   refine XS.iloadN X57.here hx rfl (hb hby d44_7) rfl ?_
   show SG p e below T57 (mkF m 8 #[vR a43, vI p44] [(.int p44), (.ref a43)]) _
   refine X57.baloadBytes hx (j := p44) (v := (.int (u46 (p44).toNatClampNeg))) (by rw [e57]; exact Ar59.1) (State.isArrayOf_alike hZ.alike Ar59.2.1) Ar59.2.2 hin59 hat59 (g := (mkF m 8 #[vR a43, vI p44] [(.int p44), (.ref a43)])) rfl rfl (hb hby d44_8) _ ?_
   show SG p e below T57 (mkF m 9 #[vR a43, vI p44] [(.int (u46 (p44).toNatClampNeg))]) _
   refine XS.sipush X57.here hx rfl (hb hby d44_9) ?_
   show SG p e below T57 (mkF m 12 #[vR a43, vI p44] [(.int (255 : Int32)), (.int (u46 (p44).toNatClampNeg))]) _
   refine XS.iand X57.here hx rfl (hb hby d44_12) rfl ?_
   show SG p e below T57 (mkF m 13 #[vR a43, vI p44] [(.int ((u46 (p44).toNatClampNeg) &&& (255 : Int32)))]) _
   refine XS.i2c X57.here hx rfl (hb hby d44_13) rfl ?_
   show SG p e below T57 (mkF m 14 #[vR a43, vI p44] [(.int (((u46 (p44).toNatClampNeg) &&& (255 : Int32)).toUInt32.toUInt16.toUInt32.toInt32))]) _
   exact retN X57 hx (t := .char) Bd.returns (by simp) (hb hby d44_14) (by rw [H4]; exact hr)
 · show OQp (some (.int (((u46 (p44).toNatClampNeg) &&& (255 : Int32)).toUInt32.toUInt16.toUInt32.toInt32))) h0 n0 _ T57.heap _
   rw [e57]
   exact ⟨rfl, N57, rfl⟩
theorem r42_2 (l : Launch) (Z : State) (a0 : Array Value) (hw : ∀ d ∈ tables_1, d.before a0 Z = true) (a31 : Addr) (p32 : Int32) (w39 : Int32) (w40 : Int32) (w41 : Addr) (k61 : ClassId) (u62 : Nat → Int32) (p63 : Int32) (w64 : Addr) (h0 : Heap) (n0 : Nat) (Z0 : n0 ≤ h0.size) (H0 : Sta Z h0 "java/lang/String" "COMPACT_STRINGS" "Z" (.int w39)) (H1 : ¬ (w39 = (0 : Int32))) (H2 : Fld Z h0 a31 "java/lang/String" "coder" "B" (.int w40)) (H3 : w40 = (0 : Int32)) (H4 : Exa Z h0 a31 "java/lang/String") (H5 : Fld Z h0 a31 "java/lang/String" "value" "[B" (.ref w41)) (H6 : BA Z h0 w41 k61 .byte p63 u62) (H7 : Sta Z h0 "jdk/internal/util/Preconditions" "SIOOBE_FORMATTER" "Ljava/util/function/BiFunction;" (.ref w64)) (H8 : ¬ (p32 < (0 : Int32))) (H9 : p32 < p63) (H10 : nar .char (((u62 (p32).toNatClampNeg) &&& (255 : Int32)).toUInt32.toUInt16.toUInt32.toInt32) = (((u62 (p32).toNatClampNeg) &&& (255 : Int32)).toUInt32.toUInt16.toUInt32.toInt32)) :
   OMet l Z mN5 jdk_42_method_56_code 2 (some .char) [] ({ frames := 3, cells := 0, slots := 0, locals := 40 } : Room) h0 #[(.ref a31), (.int p32)] (OQp (some (.int (((u62 (p32).toNatClampNeg) &&& (255 : Int32)).toUInt32.toUInt16.toUInt32.toInt32))) h0 n0) := by
 refine MetFree.of_bodySF (plainFor_of_name pn_java_lang_String) hisR ?_
 intro p e s m args below meth c s₁ Bd hml0 hP hK
 obtain ⟨rfl, hZ, hh⟩ := hP
 have hx := Bd.exec
 have hby := Bd.bytes
 have hml : c.maxLocals = 2 := hml0
 have hown : s.vm.findClass "java/lang/String" = some m.cls := findClass_of_methodNamed Bd.named
 have hnm := (name_of_methodNamed Bd.named Bd.method).1
 have X0 : Stand p l e ({ frames := 3, cells := 0, slots := 0, locals := 40 } : Room) s m #[(.ref a31), (.int p32)] below meth c s₁ [] 0 0 := Stand.of_body Bd
 have e0 : s₁.heap = h0 := by rw [← hh, Bd.state]; rfl
 have N0 := Fr.nil n0
 have pre0 : ∀ t, Steps p.tables e below (s₁.setTop (mkF m 0 #[vR a31, vI p32] [])) t → Steps p.tables e below (s₁.setTop (entryFrame m #[(.ref a31), (.int p32)] 2)) t := fun t k => castTop (ef_42_vv m a31 p32) k
 obtain ⟨cq38, kq38, q38a, q38b, q38c⟩ := isOf hZ e0 H4
 obtain ⟨_, _, ⟨T38, L38, k38, n38⟩, -, X38, ⟨Lc38, hQ38, l38, y38, z38⟩, st38⟩ := X0.virtualBack hx (y := mN1) (z := mN1) hown (mvT hZ (tw hw 266 rfl)) (mvT hZ (tw hw 267 rfl)) (notFace_of_selects (args := #[]) (mvT hZ (tw hw 269 rfl))) (mvT hZ (tw hw 269 rfl)) (mvT hZ (tw hw 268 rfl)) (by decide) (backOf (W := 0) (r43_1 l Z a0 hw a31 w39 w40 h0 n0 Z0 H0 H1 H2 H3) hZ (tw hw 270 rfl) (tw hw 37 rfl) (by decide) (by decide)) q38a q38c (g := (mkF m 1 #[vR a31, vI p32] [(.ref a31)])) rfl (by rw [hml]; rfl) (Steps.refl _) (argsL := []) (rest := []) (lenOf pd_0 rfl) rfl (own_w _) (hb hby d42_1) (fun _ _ => ⟨rfl, e0, (by decide : 0 + 0 ≤ _), (by decide : 0 + 0 ≤ _)⟩)
 dsimp only [Pt.U, Pt.locs, Pt.cells, Pt.slots] at X38 l38 y38 z38 st38 hQ38
 replace X38 := own_mvX X38 (a := 0) (b := 0) y38 z38
 obtain ⟨rfl, N38q, e38⟩ := hQ38
 have N38 := own_mvN l38 N0 N38q
 obtain ⟨T42, X42, e42, st42⟩ := getF X38 hx hZ hown (host := "") (Or.inl (tw hw 64 rfl)) Via.refl e38 H5 (g := (mkF m 8 #[vR a31, vI p32] [(.ref a31)])) rfl rfl (hb hby d42_8)
 obtain ⟨_, _, ⟨T60, L60, k60, n60⟩, -, X60, ⟨Lc60, hQ60, l60, y60, z60⟩, st60⟩ := Jvm.LawKit.callS X42 hx (y := mN4) hown (mvT hZ (tw hw 271 rfl)) (mvT hZ (tw hw 272 rfl)) (mvT hZ (tw hw 273 rfl)) (mvT hZ (tw hw 274 rfl)) (by decide) (backOf (W := 0) (r44_2 l Z a0 hw w41 p32 k61 u62 p63 w64 h0 n0 Z0 H6 H7 H8 H9 H10) hZ (tw hw 274 rfl) (tw hw 273 rfl) (by decide) (by decide)) (g := (mkF m 12 #[vR a31, vI p32] [(.int p32), (.ref w41)])) rfl (by rw [hml]; rfl) (argsL := [(.ref w41), (.int p32)]) (rest := []) (lenOf pd_3 rfl) rfl (own_w _) (hb hby d42_12) (fun _ _ => ⟨rfl, e42, (by decide : 0 + 0 ≤ _), (by decide : 0 + 0 ≤ _)⟩)
 dsimp only [Pt.U, Pt.locs, Pt.cells, Pt.slots] at X60 l60 y60 z60 st60 hQ60
 replace X60 := own_mvX X60 (a := 0) (b := 0) y60 z60
 obtain ⟨rfl, N60q, e60⟩ := hQ60
 have N60 := own_mvN l60 N38 N60q
 obtain ⟨fs, hr, hrun, hended, hW, hsame⟩ := X60.leave (v := some (.int (((u62 (p32).toNatClampNeg) &&& (255 : Int32)).toUInt32.toUInt16.toUInt32.toInt32))) (fun h => by rw [Bd.returns] at h; cases h)
 refine ⟨_, _, pre0 _ ?_, hrun, hended, _, _, rfl, ?_, ⟨_, rfl⟩, hW, hsame.mono (by decide) (by decide)⟩
 · show SG p e below s₁ (mkF m 0 #[vR a31, vI p32] []) _
   refine XS.aloadN X0.here hx rfl (hb hby d42_0) rfl rfl ?_
   show SG p e below s₁ (mkF m 1 #[vR a31, vI p32] [(.ref a31)]) _
   refine st38.trans ?_
   show SG p e below T38 (mkF m 4 #[vR a31, vI p32] [(.int (1 : Int32))]) _
   refine XS.ifNo X38.here hx rfl (hb hby d42_4) rfl ((if0 _ _).trans (feq (by decide : ¬ ((1 : Int32) = (0 : Int32)))).1) ?_
   show SG p e below T38 (mkF m 7 #[vR a31, vI p32] []) _
   refine XS.aloadN X38.here hx rfl (hb hby d42_7) rfl rfl ?_
   show SG p e below T38 (mkF m 8 #[vR a31, vI p32] [(.ref a31)]) _
   refine st42 _ ?_
   show SG p e below T42 (mkF m 11 #[vR a31, vI p32] [(.ref w41)]) _
   refine XS.iloadN X42.here hx rfl (hb hby d42_11) rfl ?_
   show SG p e below T42 (mkF m 12 #[vR a31, vI p32] [(.int p32), (.ref w41)]) _
   refine st60 _ ?_
   show SG p e below T60 (mkF m 15 #[vR a31, vI p32] [(.int (((u62 (p32).toNatClampNeg) &&& (255 : Int32)).toUInt32.toUInt16.toUInt32.toInt32))]) _
   exact retN X60 hx (t := .char) Bd.returns (by simp) (hb hby d42_15) (by rw [H10]; exact hr)
 · show OQp (some (.int (((u62 (p32).toNatClampNeg) &&& (255 : Int32)).toUInt32.toUInt16.toUInt32.toInt32))) h0 n0 _ T60.heap _
   rw [e60]
   exact ⟨rfl, N60, rfl⟩
theorem own_ch (l : Launch) (Z : State) (a0 : Array Value) (hw : ∀ d ∈ tables_1, d.before a0 Z = true) (a : Addr) (wS wc : Int32) (b : Addr) (k : ClassId) (z : Int32) (f : Nat → Int32) (o : Value) (i : Int32) (h0 : Heap) (n0 : Nat) (Z0 : n0 ≤ h0.size) (H1 : Sta Z h0 "java/lang/String" "COMPACT_STRINGS" "Z" (.int wS)) (H2 : ¬ (wS = (0 : Int32))) (H3 : Fld Z h0 a "java/lang/String" "coder" "B" (.int wc)) (H4 : wc = (0 : Int32)) (H5 : Exa Z h0 a "java/lang/String") (H6 : Fld Z h0 a "java/lang/String" "value" "[B" (.ref b)) (H7 : BA Z h0 b k .byte z f) (H8 : Sta Z h0 "jdk/internal/util/Preconditions" "SIOOBE_FORMATTER" "Ljava/util/function/BiFunction;" o) (H9 : o.isRef = true) (H10 : ¬ (i < (0 : Int32))) (H11 : i < z) :
   OMet l Z mN5 jdk_42_method_56_code 2 (some .char) [] ({ frames := 3, cells := 0, slots := 0, locals := 40 } : Room) h0 #[(.ref a), (.int i)] (OQp (some (.int (oc8 (f (i).toNatClampNeg)))) h0 n0) := by
 rcases ref_cases H9 with rfl | ⟨o, rfl⟩
 · exact r42_1 l Z a0 hw a i wS wc b k f z h0 n0 Z0 H1 H2 H3 H4 H5 H6 H7 H8 H10 H11 (own_oc8 _)
 · exact r42_2 l Z a0 hw a i wS wc b k f z o h0 n0 Z0 H1 H2 H3 H4 H5 H6 H7 H8 H10 H11 (own_oc8 _)
theorem d52_0 : decode jdk_29_method_61_code 0 = .ok (.lload_n 0, 1) := by decide +kernel
theorem d52_1 : decode jdk_29_method_61_code 1 = .ok (.lconst 0, 1) := by decide +kernel
theorem d52_2 : decode jdk_29_method_61_code 2 = .ok (.lcmp, 1) := by decide +kernel
theorem d52_3 : decode jdk_29_method_61_code 3 = .ok (.ifCond .ge 8, 3) := by decide +kernel
theorem d52_11 : decode jdk_29_method_61_code 11 = .ok (.lload_n 0, 1) := by decide +kernel
theorem d52_12 : decode jdk_29_method_61_code 12 = .ok (.lreturn, 1) := by decide +kernel
theorem ef_52_v (m : MethodId) (x0 : Int64) : entryFrame m #[(.long x0)] 2 = mkF m 0 #[.val (.long x0), .second] [] := by first | (simp [entryFrame, mkF, argsToLocals, Value.category]; done) | rfl
theorem r52_1 (l : Launch) (Z : State) (a0 : Array Value) (hw : ∀ d ∈ tables_1, d.before a0 Z = true) (q65 : Int64) (h0 : Heap) (n0 : Nat) (Z0 : n0 ≤ h0.size) (H0 : ¬ ((lcmpW q65 (0 : Int64)) < (0 : Int32))) :
   OMet l Z mN6 jdk_29_method_61_code 2 (some .long) [] ({ frames := 0, cells := 0, slots := 0, locals := 0 } : Room) h0 #[(.long q65)] (OQp (some (.long q65)) h0 n0) := by
 refine MetFree.of_bodySF (Jvm.Free.JP.mathPlain rfl (by decide +kernel)) hisR ?_
 intro p e s m args below meth c s₁ Bd hml0 hP hK
 obtain ⟨rfl, hZ, hh⟩ := hP
 have hx := Bd.exec
 have hby := Bd.bytes
 have hml : c.maxLocals = 2 := hml0
 have hown : s.vm.findClass "java/lang/Math" = some m.cls := findClass_of_methodNamed Bd.named
 have hnm := (name_of_methodNamed Bd.named Bd.method).1
 have X0 : Stand p l e ({ frames := 0, cells := 0, slots := 0, locals := 0 } : Room) s m #[(.long q65)] below meth c s₁ [] 0 0 := Stand.of_body Bd
 have e0 : s₁.heap = h0 := by rw [← hh, Bd.state]; rfl
 have N0 := Fr.nil n0
 have pre0 : ∀ t, Steps p.tables e below (s₁.setTop (mkF m 0 #[vJ q65, vS] [])) t → Steps p.tables e below (s₁.setTop (entryFrame m #[(.long q65)] 2)) t := fun t k => castTop (ef_52_v m q65) k

 obtain ⟨fs, hr, hrun, hended, hW, hsame⟩ := X0.leave (v := some (.long q65)) (fun h => by rw [Bd.returns] at h; cases h)
 refine ⟨_, _, pre0 _ ?_, hrun, hended, _, _, rfl, ?_, ⟨_, rfl⟩, hW, hsame.mono (by decide) (by decide)⟩
 · show SG p e below s₁ (mkF m 0 #[vJ q65, vS] []) _
   refine XS.lloadN X0.here hx rfl (hb hby d52_0) rfl ?_
   show SG p e below s₁ (mkF m 1 #[vJ q65, vS] [(.long q65)]) _
   refine XS.lconst X0.here hx rfl (hb hby d52_1) ?_
   show SG p e below s₁ (mkF m 2 #[vJ q65, vS] [(.long (0 : Int64)), (.long q65)]) _
   refine XS.lcmp X0.here hx rfl (hb hby d52_2) rfl ?_
   show SG p e below s₁ (mkF m 3 #[vJ q65, vS] [(.int (lcmpW q65 (0 : Int64)))]) _
   refine XS.ifYes X0.here hx rfl (pc0 := 3) (pc' := 11) rfl (hb hby d52_3) rfl ((if0 _ _).trans (flt H0).2.1) (by decide) (by decide) ?_
   show SG p e below s₁ (mkF m 11 #[vJ q65, vS] []) _
   refine XS.lloadN X0.here hx rfl (hb hby d52_11) rfl ?_
   show SG p e below s₁ (mkF m 12 #[vJ q65, vS] [(.long q65)]) _
   jvm_step X0.here [X0.here.top, hx, (hb hby d52_12), X0.method', Bd.returns, narrow]
   first | (intro acts; rw [hr _ acts rfl rfl rfl]) | rw [hr _ _ rfl rfl rfl]
   exact Steps.refl _
 · show OQp (some (.long q65)) h0 n0 _ s₁.heap _
   rw [e0]
   exact ⟨rfl, N0, rfl⟩
theorem d52_6 : decode jdk_29_method_61_code 6 = .ok (.lload_n 0, 1) := by decide +kernel
theorem d52_7 : decode jdk_29_method_61_code 7 = .ok (.lneg, 1) := by decide +kernel
theorem d52_8 : decode jdk_29_method_61_code 8 = .ok (.goto 4, 3) := by decide +kernel
theorem r52_2 (l : Launch) (Z : State) (a0 : Array Value) (hw : ∀ d ∈ tables_1, d.before a0 Z = true) (q66 : Int64) (h0 : Heap) (n0 : Nat) (Z0 : n0 ≤ h0.size) (H0 : (lcmpW q66 (0 : Int64)) < (0 : Int32)) :
   OMet l Z mN6 jdk_29_method_61_code 2 (some .long) [] ({ frames := 0, cells := 0, slots := 0, locals := 0 } : Room) h0 #[(.long q66)] (OQp (some (.long (-q66))) h0 n0) := by
 refine MetFree.of_bodySF (Jvm.Free.JP.mathPlain rfl (by decide +kernel)) hisR ?_
 intro p e s m args below meth c s₁ Bd hml0 hP hK
 obtain ⟨rfl, hZ, hh⟩ := hP
 have hx := Bd.exec
 have hby := Bd.bytes
 have hml : c.maxLocals = 2 := hml0
 have hown : s.vm.findClass "java/lang/Math" = some m.cls := findClass_of_methodNamed Bd.named
 have hnm := (name_of_methodNamed Bd.named Bd.method).1
 have X0 : Stand p l e ({ frames := 0, cells := 0, slots := 0, locals := 0 } : Room) s m #[(.long q66)] below meth c s₁ [] 0 0 := Stand.of_body Bd
 have e0 : s₁.heap = h0 := by rw [← hh, Bd.state]; rfl
 have N0 := Fr.nil n0
 have pre0 : ∀ t, Steps p.tables e below (s₁.setTop (mkF m 0 #[vJ q66, vS] [])) t → Steps p.tables e below (s₁.setTop (entryFrame m #[(.long q66)] 2)) t := fun t k => castTop (ef_52_v m q66) k

 obtain ⟨fs, hr, hrun, hended, hW, hsame⟩ := X0.leave (v := some (.long (-q66))) (fun h => by rw [Bd.returns] at h; cases h)
 refine ⟨_, _, pre0 _ ?_, hrun, hended, _, _, rfl, ?_, ⟨_, rfl⟩, hW, hsame.mono (by decide) (by decide)⟩
 · show SG p e below s₁ (mkF m 0 #[vJ q66, vS] []) _
   refine XS.lloadN X0.here hx rfl (hb hby d52_0) rfl ?_
   show SG p e below s₁ (mkF m 1 #[vJ q66, vS] [(.long q66)]) _
   refine XS.lconst X0.here hx rfl (hb hby d52_1) ?_
   show SG p e below s₁ (mkF m 2 #[vJ q66, vS] [(.long (0 : Int64)), (.long q66)]) _
   refine XS.lcmp X0.here hx rfl (hb hby d52_2) rfl ?_
   show SG p e below s₁ (mkF m 3 #[vJ q66, vS] [(.int (lcmpW q66 (0 : Int64)))]) _
   refine XS.ifNo X0.here hx rfl (hb hby d52_3) rfl ((if0 _ _).trans (tlt H0).2.1) ?_
   show SG p e below s₁ (mkF m 6 #[vJ q66, vS] []) _
   refine XS.lloadN X0.here hx rfl (hb hby d52_6) rfl ?_
   show SG p e below s₁ (mkF m 7 #[vJ q66, vS] [(.long q66)]) _
   refine XS.lneg X0.here hx rfl (hb hby d52_7) rfl ?_
   show SG p e below s₁ (mkF m 8 #[vJ q66, vS] [(.long (-q66))]) _
   refine XS.goto X0.here hx rfl (pc0 := 8) (pc' := 12) rfl (hb hby d52_8) (by decide) (by decide) ?_
   show SG p e below s₁ (mkF m 12 #[vJ q66, vS] [(.long (-q66))]) _
   jvm_step X0.here [X0.here.top, hx, (hb hby d52_12), X0.method', Bd.returns, narrow]
   first | (intro acts; rw [hr _ acts rfl rfl rfl]) | rw [hr _ _ rfl rfl rfl]
   exact Steps.refl _
 · show OQp (some (.long (-q66))) h0 n0 _ s₁.heap _
   rw [e0]
   exact ⟨rfl, N0, rfl⟩
theorem own_abl (l : Launch) (Z : State) (a0 : Array Value) (hw : ∀ d ∈ tables_1, d.before a0 Z = true) (q : Int64) (h0 : Heap) (n0 : Nat) (Z0 : n0 ≤ h0.size) :
   OMet l Z mN6 jdk_29_method_61_code 2 (some .long) [] ({ frames := 0, cells := 0, slots := 0, locals := 0 } : Room) h0 #[(.long q)] (OQp (some (.long (oabl q))) h0 n0) := by
 unfold oabl
 by_cases hq : q < 0
 · rw [if_pos hq]
   exact r52_2 l Z a0 hw q h0 n0 Z0 ((lw_lt q 0).mpr hq)
 · rw [if_neg hq]
   exact r52_1 l Z a0 hw q h0 n0 Z0 (fun k => hq ((lw_lt q 0).mp k))
theorem d40_0 : decode method_5_code 0 = .ok (.lload_n 0, 1) := by decide +kernel
theorem d40_1 : decode method_5_code 1 = .ok (.iload_n 2, 1) := by decide +kernel
theorem d40_2 : decode method_5_code 2 = .ok (.invokestatic 90, 3) := by decide +kernel
theorem d41_0 : decode method_4_code 0 = .ok (.bipush 19, 2) := by decide +kernel
theorem d41_2 : decode method_4_code 2 = .ok (.newarray .long, 2) := by decide +kernel
theorem d41_4 : decode method_4_code 4 = .ok (.dup, 1) := by decide +kernel
theorem d41_5 : decode method_4_code 5 = .ok (.iconst 0, 1) := by decide +kernel
theorem d41_6 : decode method_4_code 6 = .ok (.lconst 1, 1) := by decide +kernel
theorem d41_7 : decode method_4_code 7 = .ok (.lastore, 1) := by decide +kernel
theorem d41_8 : decode method_4_code 8 = .ok (.dup, 1) := by decide +kernel
theorem d41_9 : decode method_4_code 9 = .ok (.iconst 1, 1) := by decide +kernel
theorem d41_10 : decode method_4_code 10 = .ok (.ldc2_w 54, 3) := by decide +kernel
theorem d41_13 : decode method_4_code 13 = .ok (.lastore, 1) := by decide +kernel
theorem d41_14 : decode method_4_code 14 = .ok (.dup, 1) := by decide +kernel
theorem d41_15 : decode method_4_code 15 = .ok (.iconst 2, 1) := by decide +kernel
theorem d41_16 : decode method_4_code 16 = .ok (.ldc2_w 56, 3) := by decide +kernel
theorem d41_19 : decode method_4_code 19 = .ok (.lastore, 1) := by decide +kernel
theorem d41_20 : decode method_4_code 20 = .ok (.dup, 1) := by decide +kernel
theorem d41_21 : decode method_4_code 21 = .ok (.iconst 3, 1) := by decide +kernel
theorem d41_22 : decode method_4_code 22 = .ok (.ldc2_w 58, 3) := by decide +kernel
theorem d41_25 : decode method_4_code 25 = .ok (.lastore, 1) := by decide +kernel
theorem d41_26 : decode method_4_code 26 = .ok (.dup, 1) := by decide +kernel
theorem d41_27 : decode method_4_code 27 = .ok (.iconst 4, 1) := by decide +kernel
theorem d41_28 : decode method_4_code 28 = .ok (.ldc2_w 60, 3) := by decide +kernel
theorem d41_31 : decode method_4_code 31 = .ok (.lastore, 1) := by decide +kernel
theorem d41_32 : decode method_4_code 32 = .ok (.dup, 1) := by decide +kernel
theorem d41_33 : decode method_4_code 33 = .ok (.iconst 5, 1) := by decide +kernel
theorem d41_34 : decode method_4_code 34 = .ok (.ldc2_w 62, 3) := by decide +kernel
theorem d41_37 : decode method_4_code 37 = .ok (.lastore, 1) := by decide +kernel
theorem d41_38 : decode method_4_code 38 = .ok (.dup, 1) := by decide +kernel
theorem d41_39 : decode method_4_code 39 = .ok (.bipush 6, 2) := by decide +kernel
theorem d41_41 : decode method_4_code 41 = .ok (.ldc2_w 64, 3) := by decide +kernel
theorem d41_44 : decode method_4_code 44 = .ok (.lastore, 1) := by decide +kernel
theorem d41_45 : decode method_4_code 45 = .ok (.dup, 1) := by decide +kernel
theorem d41_46 : decode method_4_code 46 = .ok (.bipush 7, 2) := by decide +kernel
theorem d41_48 : decode method_4_code 48 = .ok (.ldc2_w 66, 3) := by decide +kernel
theorem d41_51 : decode method_4_code 51 = .ok (.lastore, 1) := by decide +kernel
theorem d41_52 : decode method_4_code 52 = .ok (.dup, 1) := by decide +kernel
theorem d41_53 : decode method_4_code 53 = .ok (.bipush 8, 2) := by decide +kernel
theorem d41_55 : decode method_4_code 55 = .ok (.ldc2_w 68, 3) := by decide +kernel
theorem d41_58 : decode method_4_code 58 = .ok (.lastore, 1) := by decide +kernel
theorem d41_59 : decode method_4_code 59 = .ok (.dup, 1) := by decide +kernel
theorem d41_60 : decode method_4_code 60 = .ok (.bipush 9, 2) := by decide +kernel
theorem d41_62 : decode method_4_code 62 = .ok (.ldc2_w 70, 3) := by decide +kernel
theorem d41_65 : decode method_4_code 65 = .ok (.lastore, 1) := by decide +kernel
theorem d41_66 : decode method_4_code 66 = .ok (.dup, 1) := by decide +kernel
theorem d41_67 : decode method_4_code 67 = .ok (.bipush 10, 2) := by decide +kernel
theorem d41_69 : decode method_4_code 69 = .ok (.ldc2_w 72, 3) := by decide +kernel
theorem d41_72 : decode method_4_code 72 = .ok (.lastore, 1) := by decide +kernel
theorem d41_73 : decode method_4_code 73 = .ok (.dup, 1) := by decide +kernel
theorem d41_74 : decode method_4_code 74 = .ok (.bipush 11, 2) := by decide +kernel
theorem d41_76 : decode method_4_code 76 = .ok (.ldc2_w 74, 3) := by decide +kernel
theorem d41_79 : decode method_4_code 79 = .ok (.lastore, 1) := by decide +kernel
theorem d41_80 : decode method_4_code 80 = .ok (.dup, 1) := by decide +kernel
theorem d41_81 : decode method_4_code 81 = .ok (.bipush 12, 2) := by decide +kernel
theorem d41_83 : decode method_4_code 83 = .ok (.ldc2_w 76, 3) := by decide +kernel
theorem d41_86 : decode method_4_code 86 = .ok (.lastore, 1) := by decide +kernel
theorem d41_87 : decode method_4_code 87 = .ok (.dup, 1) := by decide +kernel
theorem d41_88 : decode method_4_code 88 = .ok (.bipush 13, 2) := by decide +kernel
theorem d41_90 : decode method_4_code 90 = .ok (.ldc2_w 78, 3) := by decide +kernel
theorem d41_93 : decode method_4_code 93 = .ok (.lastore, 1) := by decide +kernel
theorem d41_94 : decode method_4_code 94 = .ok (.dup, 1) := by decide +kernel
theorem d41_95 : decode method_4_code 95 = .ok (.bipush 14, 2) := by decide +kernel
theorem d41_97 : decode method_4_code 97 = .ok (.ldc2_w 80, 3) := by decide +kernel
theorem d41_100 : decode method_4_code 100 = .ok (.lastore, 1) := by decide +kernel
theorem d41_101 : decode method_4_code 101 = .ok (.dup, 1) := by decide +kernel
theorem d41_102 : decode method_4_code 102 = .ok (.bipush 15, 2) := by decide +kernel
theorem d41_104 : decode method_4_code 104 = .ok (.ldc2_w 82, 3) := by decide +kernel
theorem d41_107 : decode method_4_code 107 = .ok (.lastore, 1) := by decide +kernel
theorem d41_108 : decode method_4_code 108 = .ok (.dup, 1) := by decide +kernel
theorem d41_109 : decode method_4_code 109 = .ok (.bipush 16, 2) := by decide +kernel
theorem d41_111 : decode method_4_code 111 = .ok (.ldc2_w 84, 3) := by decide +kernel
theorem d41_114 : decode method_4_code 114 = .ok (.lastore, 1) := by decide +kernel
theorem d41_115 : decode method_4_code 115 = .ok (.dup, 1) := by decide +kernel
theorem d41_116 : decode method_4_code 116 = .ok (.bipush 17, 2) := by decide +kernel
theorem d41_118 : decode method_4_code 118 = .ok (.ldc2_w 86, 3) := by decide +kernel
theorem d41_121 : decode method_4_code 121 = .ok (.lastore, 1) := by decide +kernel
theorem d41_122 : decode method_4_code 122 = .ok (.dup, 1) := by decide +kernel
theorem d41_123 : decode method_4_code 123 = .ok (.bipush 18, 2) := by decide +kernel
theorem d41_125 : decode method_4_code 125 = .ok (.ldc2_w 88, 3) := by decide +kernel
theorem d41_128 : decode method_4_code 128 = .ok (.lastore, 1) := by decide +kernel
theorem d41_129 : decode method_4_code 129 = .ok (.astore_n 1, 1) := by decide +kernel
theorem d41_130 : decode method_4_code 130 = .ok (.aload_n 1, 1) := by decide +kernel
theorem d41_131 : decode method_4_code 131 = .ok (.iload_n 0, 1) := by decide +kernel
theorem d41_132 : decode method_4_code 132 = .ok (.laload, 1) := by decide +kernel
theorem d41_133 : decode method_4_code 133 = .ok (.lreturn, 1) := by decide +kernel
theorem pn_com_example_eta4_eta4_bench_FillFiguresLinesPinLaw : plainName "com/example/eta4/eta4/bench/FillFiguresLinesPinLaw" = true := by first | (simp [plainName, overriddenIn]; done) | decide +kernel
theorem ef_41_v (m : MethodId) (x0 : Int32) : entryFrame m #[(.int x0)] 2 = mkF m 0 #[.val (.int x0), .unset] [] := by first | (simp [entryFrame, mkF, argsToLocals, Value.category]; done) | rfl
def Qr41_1 (Z : State) (p69 : Int32) (q112 : Int64) (h0 : Heap) (n0 : Nat) (v : Option Value) (h : Heap) (L : List Loc) : Prop := Fr n0 L ∧ ∃ b70 : Addr, ∃ k70 : ClassId, v = some (.long q112) ∧ h0.size ≤ b70 ∧ KSx h0 h [] [] ∧ Arv Z h b70 k70 .long (19 : Int32) [(.long (1 : Int64)), (.long (10 : Int64)), (.long (100 : Int64)), (.long (1000 : Int64)), (.long (10000 : Int64)), (.long (100000 : Int64)), (.long (1000000 : Int64)), (.long (10000000 : Int64)), (.long (100000000 : Int64)), (.long (1000000000 : Int64)), (.long (10000000000 : Int64)), (.long (100000000000 : Int64)), (.long (1000000000000 : Int64)), (.long (10000000000000 : Int64)), (.long (100000000000000 : Int64)), (.long (1000000000000000 : Int64)), (.long (10000000000000000 : Int64)), (.long (100000000000000000 : Int64)), (.long (1000000000000000000 : Int64))] (.long (0 : Int64))
theorem r41_1 (l : Launch) (Z : State) (a0 : Array Value) (hw : ∀ d ∈ tables_1, d.before a0 Z = true) (p69 : Int32) (q112 : Int64) (h0 : Heap) (n0 : Nat) (Z0 : n0 ≤ h0.size) (H0 : ¬ (p69 < (0 : Int32))) (H1 : p69 < (19 : Int32)) (H2 : ([(.long (1 : Int64)), (.long (10 : Int64)), (.long (100 : Int64)), (.long (1000 : Int64)), (.long (10000 : Int64)), (.long (100000 : Int64)), (.long (1000000 : Int64)), (.long (10000000 : Int64)), (.long (100000000 : Int64)), (.long (1000000000 : Int64)), (.long (10000000000 : Int64)), (.long (100000000000 : Int64)), (.long (1000000000000 : Int64)), (.long (10000000000000 : Int64)), (.long (100000000000000 : Int64)), (.long (1000000000000000 : Int64)), (.long (10000000000000000 : Int64)), (.long (100000000000000000 : Int64)), (.long (1000000000000000000 : Int64))] : List Value).getD (p69).toNatClampNeg (.long (0 : Int64)) = (.long q112)) :
   OMet l Z mN7 method_4_code 2 (some .long) [] ({ frames := 0, cells := 1, slots := 19, locals := 0 } : Room) h0 #[(.int p69)] (Qr41_1 Z p69 q112 h0 n0) := by
 refine MetFree.of_bodySF (plainFor_of_name pn_com_example_eta4_eta4_bench_FillFiguresLinesPinLaw) hisR ?_
 intro p e s m args below meth c s₁ Bd hml0 hP hK
 obtain ⟨rfl, hZ, hh⟩ := hP
 have hx := Bd.exec
 have hby := Bd.bytes
 have hml : c.maxLocals = 2 := hml0
 have hown : s.vm.findClass "com/example/eta4/eta4/bench/FillFiguresLinesPinLaw" = some m.cls := findClass_of_methodNamed Bd.named
 have hnm := (name_of_methodNamed Bd.named Bd.method).1
 have X0 : Stand p l e ({ frames := 0, cells := 1, slots := 19, locals := 0 } : Room) s m #[(.int p69)] below meth c s₁ [] 0 0 := Stand.of_body Bd
 have e0 : s₁.heap = h0 := by rw [← hh, Bd.state]; rfl
 have N0 := Fr.nil n0
 have pre0 : ∀ t, Steps p.tables e below (s₁.setTop (mkF m 0 #[vI p69, .unset] [])) t → Steps p.tables e below (s₁.setTop (entryFrame m #[(.int p69)] 2)) t := fun t k => castTop (ef_41_v m p69) k
 obtain ⟨T70, h70, k70, X70, e70, E70, A70, st70⟩ := newP X0 hx hZ (tw hw 241 rfl) e0 (g := (mkF m 2 #[vI p69, vU] [(.int (19 : Int32))])) rfl (hb hby d41_2) rfl (by decide) (cap := 19) (by decide) (by decide) (by decide) (by decide)
 obtain ⟨b70, g70⟩ : ∃ z, z = h0.size := ⟨_, rfl⟩
 rw [← g70] at A70 st70
 have KC70 := KSx.ext (KSx.refl h0 [] []) E70
 have V70 : Arv Z h70 b70 k70 .long (19 : Int32) [(.long (0 : Int64)), (.long (0 : Int64)), (.long (0 : Int64)), (.long (0 : Int64)), (.long (0 : Int64)), (.long (0 : Int64)), (.long (0 : Int64)), (.long (0 : Int64)), (.long (0 : Int64)), (.long (0 : Int64)), (.long (0 : Int64)), (.long (0 : Int64)), (.long (0 : Int64)), (.long (0 : Int64)), (.long (0 : Int64)), (.long (0 : Int64)), (.long (0 : Int64)), (.long (0 : Int64)), (.long (0 : Int64))] (.long (0 : Int64)) := (Arv.new A70 (by decide)).pad (pad_rep [] (.long (0 : Int64)) 19)
 have vc71 := V70
 obtain ⟨cl71, Ar71, q71, S71, N71, Hh71, G71⟩ := vc71
 have hin71 : ¬ ((0 : Int32) < 0 ∨ cl71.slots.size ≤ ((0 : Int32)).toNatClampNeg) := inb_of S71 ⟨(by decide), (by decide)⟩
 have g72 : n0 ≤ b70 := Nat.le_trans Z0 (Nat.le_of_eq g70.symm)
 obtain ⟨T73, h73, X73, e73, W73, st73⟩ := stJ X70 hx hZ e70 Ar71 (j := (0 : Int32)) hin71 (g := (mkF m 7 #[vI p69, vU] [(.long (1 : Int64)), (.int (0 : Int32)), (.ref b70), (.ref b70)])) rfl rfl (hb hby d41_7)
 have V73 : Arv Z h73 b70 k70 .long (19 : Int32) [(.long (1 : Int64)), (.long (0 : Int64)), (.long (0 : Int64)), (.long (0 : Int64)), (.long (0 : Int64)), (.long (0 : Int64)), (.long (0 : Int64)), (.long (0 : Int64)), (.long (0 : Int64)), (.long (0 : Int64)), (.long (0 : Int64)), (.long (0 : Int64)), (.long (0 : Int64)), (.long (0 : Int64)), (.long (0 : Int64)), (.long (0 : Int64)), (.long (0 : Int64)), (.long (0 : Int64)), (.long (0 : Int64))] (.long (0 : Int64)) := Arv.set Ar71 q71 S71 N71 Hh71 G71 rfl W73 0 rfl (Nat.le_of_ble_eq_true rfl)
 have z74 : h0.size ≤ b70 := Nat.le_trans (KSx.refl h0 [] []).1 (Nat.le_of_eq g70.symm)
 have KC73 := KSx.wrA KC70 W73 (Or.inr z74)
 have N73 := Fr.snoc X73 N0 g72
 have vc75 := V73
 obtain ⟨cl75, Ar75, q75, S75, N75, Hh75, G75⟩ := vc75
 have hin75 : ¬ ((1 : Int32) < 0 ∨ cl75.slots.size ≤ ((1 : Int32)).toNatClampNeg) := inb_of S75 ⟨(by decide), (by decide)⟩
 obtain ⟨T76, h76, X76, e76, W76, st76⟩ := stJ X73 hx hZ e73 Ar75 (j := (1 : Int32)) hin75 (g := (mkF m 13 #[vI p69, vU] [(.long (10 : Int64)), (.int (1 : Int32)), (.ref b70), (.ref b70)])) rfl rfl (hb hby d41_13)
 have V76 : Arv Z h76 b70 k70 .long (19 : Int32) [(.long (1 : Int64)), (.long (10 : Int64)), (.long (0 : Int64)), (.long (0 : Int64)), (.long (0 : Int64)), (.long (0 : Int64)), (.long (0 : Int64)), (.long (0 : Int64)), (.long (0 : Int64)), (.long (0 : Int64)), (.long (0 : Int64)), (.long (0 : Int64)), (.long (0 : Int64)), (.long (0 : Int64)), (.long (0 : Int64)), (.long (0 : Int64)), (.long (0 : Int64)), (.long (0 : Int64)), (.long (0 : Int64))] (.long (0 : Int64)) := Arv.set Ar75 q75 S75 N75 Hh75 G75 rfl W76 1 rfl (Nat.le_of_ble_eq_true rfl)
 have KC76 := KSx.wrA KC73 W76 (Or.inr z74)
 have N76 := Fr.snoc X76 N73 g72
 have vc77 := V76
 obtain ⟨cl77, Ar77, q77, S77, N77, Hh77, G77⟩ := vc77
 have hin77 : ¬ ((2 : Int32) < 0 ∨ cl77.slots.size ≤ ((2 : Int32)).toNatClampNeg) := inb_of S77 ⟨(by decide), (by decide)⟩
 obtain ⟨T78, h78, X78, e78, W78, st78⟩ := stJ X76 hx hZ e76 Ar77 (j := (2 : Int32)) hin77 (g := (mkF m 19 #[vI p69, vU] [(.long (100 : Int64)), (.int (2 : Int32)), (.ref b70), (.ref b70)])) rfl rfl (hb hby d41_19)
 have V78 : Arv Z h78 b70 k70 .long (19 : Int32) [(.long (1 : Int64)), (.long (10 : Int64)), (.long (100 : Int64)), (.long (0 : Int64)), (.long (0 : Int64)), (.long (0 : Int64)), (.long (0 : Int64)), (.long (0 : Int64)), (.long (0 : Int64)), (.long (0 : Int64)), (.long (0 : Int64)), (.long (0 : Int64)), (.long (0 : Int64)), (.long (0 : Int64)), (.long (0 : Int64)), (.long (0 : Int64)), (.long (0 : Int64)), (.long (0 : Int64)), (.long (0 : Int64))] (.long (0 : Int64)) := Arv.set Ar77 q77 S77 N77 Hh77 G77 rfl W78 2 rfl (Nat.le_of_ble_eq_true rfl)
 have KC78 := KSx.wrA KC76 W78 (Or.inr z74)
 have N78 := Fr.snoc X78 N76 g72
 have vc79 := V78
 obtain ⟨cl79, Ar79, q79, S79, N79, Hh79, G79⟩ := vc79
 have hin79 : ¬ ((3 : Int32) < 0 ∨ cl79.slots.size ≤ ((3 : Int32)).toNatClampNeg) := inb_of S79 ⟨(by decide), (by decide)⟩
 obtain ⟨T80, h80, X80, e80, W80, st80⟩ := stJ X78 hx hZ e78 Ar79 (j := (3 : Int32)) hin79 (g := (mkF m 25 #[vI p69, vU] [(.long (1000 : Int64)), (.int (3 : Int32)), (.ref b70), (.ref b70)])) rfl rfl (hb hby d41_25)
 have V80 : Arv Z h80 b70 k70 .long (19 : Int32) [(.long (1 : Int64)), (.long (10 : Int64)), (.long (100 : Int64)), (.long (1000 : Int64)), (.long (0 : Int64)), (.long (0 : Int64)), (.long (0 : Int64)), (.long (0 : Int64)), (.long (0 : Int64)), (.long (0 : Int64)), (.long (0 : Int64)), (.long (0 : Int64)), (.long (0 : Int64)), (.long (0 : Int64)), (.long (0 : Int64)), (.long (0 : Int64)), (.long (0 : Int64)), (.long (0 : Int64)), (.long (0 : Int64))] (.long (0 : Int64)) := Arv.set Ar79 q79 S79 N79 Hh79 G79 rfl W80 3 rfl (Nat.le_of_ble_eq_true rfl)
 have KC80 := KSx.wrA KC78 W80 (Or.inr z74)
 have N80 := Fr.snoc X80 N78 g72
 have vc81 := V80
 obtain ⟨cl81, Ar81, q81, S81, N81, Hh81, G81⟩ := vc81
 have hin81 : ¬ ((4 : Int32) < 0 ∨ cl81.slots.size ≤ ((4 : Int32)).toNatClampNeg) := inb_of S81 ⟨(by decide), (by decide)⟩
 obtain ⟨T82, h82, X82, e82, W82, st82⟩ := stJ X80 hx hZ e80 Ar81 (j := (4 : Int32)) hin81 (g := (mkF m 31 #[vI p69, vU] [(.long (10000 : Int64)), (.int (4 : Int32)), (.ref b70), (.ref b70)])) rfl rfl (hb hby d41_31)
 have V82 : Arv Z h82 b70 k70 .long (19 : Int32) [(.long (1 : Int64)), (.long (10 : Int64)), (.long (100 : Int64)), (.long (1000 : Int64)), (.long (10000 : Int64)), (.long (0 : Int64)), (.long (0 : Int64)), (.long (0 : Int64)), (.long (0 : Int64)), (.long (0 : Int64)), (.long (0 : Int64)), (.long (0 : Int64)), (.long (0 : Int64)), (.long (0 : Int64)), (.long (0 : Int64)), (.long (0 : Int64)), (.long (0 : Int64)), (.long (0 : Int64)), (.long (0 : Int64))] (.long (0 : Int64)) := Arv.set Ar81 q81 S81 N81 Hh81 G81 rfl W82 4 rfl (Nat.le_of_ble_eq_true rfl)
 have KC82 := KSx.wrA KC80 W82 (Or.inr z74)
 have N82 := Fr.snoc X82 N80 g72
 have vc83 := V82
 obtain ⟨cl83, Ar83, q83, S83, N83, Hh83, G83⟩ := vc83
 have hin83 : ¬ ((5 : Int32) < 0 ∨ cl83.slots.size ≤ ((5 : Int32)).toNatClampNeg) := inb_of S83 ⟨(by decide), (by decide)⟩
 obtain ⟨T84, h84, X84, e84, W84, st84⟩ := stJ X82 hx hZ e82 Ar83 (j := (5 : Int32)) hin83 (g := (mkF m 37 #[vI p69, vU] [(.long (100000 : Int64)), (.int (5 : Int32)), (.ref b70), (.ref b70)])) rfl rfl (hb hby d41_37)
 have V84 : Arv Z h84 b70 k70 .long (19 : Int32) [(.long (1 : Int64)), (.long (10 : Int64)), (.long (100 : Int64)), (.long (1000 : Int64)), (.long (10000 : Int64)), (.long (100000 : Int64)), (.long (0 : Int64)), (.long (0 : Int64)), (.long (0 : Int64)), (.long (0 : Int64)), (.long (0 : Int64)), (.long (0 : Int64)), (.long (0 : Int64)), (.long (0 : Int64)), (.long (0 : Int64)), (.long (0 : Int64)), (.long (0 : Int64)), (.long (0 : Int64)), (.long (0 : Int64))] (.long (0 : Int64)) := Arv.set Ar83 q83 S83 N83 Hh83 G83 rfl W84 5 rfl (Nat.le_of_ble_eq_true rfl)
 have KC84 := KSx.wrA KC82 W84 (Or.inr z74)
 have N84 := Fr.snoc X84 N82 g72
 have vc85 := V84
 obtain ⟨cl85, Ar85, q85, S85, N85, Hh85, G85⟩ := vc85
 have hin85 : ¬ ((6 : Int32) < 0 ∨ cl85.slots.size ≤ ((6 : Int32)).toNatClampNeg) := inb_of S85 ⟨(by decide), (by decide)⟩
 obtain ⟨T86, h86, X86, e86, W86, st86⟩ := stJ X84 hx hZ e84 Ar85 (j := (6 : Int32)) hin85 (g := (mkF m 44 #[vI p69, vU] [(.long (1000000 : Int64)), (.int (6 : Int32)), (.ref b70), (.ref b70)])) rfl rfl (hb hby d41_44)
 have V86 : Arv Z h86 b70 k70 .long (19 : Int32) [(.long (1 : Int64)), (.long (10 : Int64)), (.long (100 : Int64)), (.long (1000 : Int64)), (.long (10000 : Int64)), (.long (100000 : Int64)), (.long (1000000 : Int64)), (.long (0 : Int64)), (.long (0 : Int64)), (.long (0 : Int64)), (.long (0 : Int64)), (.long (0 : Int64)), (.long (0 : Int64)), (.long (0 : Int64)), (.long (0 : Int64)), (.long (0 : Int64)), (.long (0 : Int64)), (.long (0 : Int64)), (.long (0 : Int64))] (.long (0 : Int64)) := Arv.set Ar85 q85 S85 N85 Hh85 G85 rfl W86 6 rfl (Nat.le_of_ble_eq_true rfl)
 have KC86 := KSx.wrA KC84 W86 (Or.inr z74)
 have N86 := Fr.snoc X86 N84 g72
 have vc87 := V86
 obtain ⟨cl87, Ar87, q87, S87, N87, Hh87, G87⟩ := vc87
 have hin87 : ¬ ((7 : Int32) < 0 ∨ cl87.slots.size ≤ ((7 : Int32)).toNatClampNeg) := inb_of S87 ⟨(by decide), (by decide)⟩
 obtain ⟨T88, h88, X88, e88, W88, st88⟩ := stJ X86 hx hZ e86 Ar87 (j := (7 : Int32)) hin87 (g := (mkF m 51 #[vI p69, vU] [(.long (10000000 : Int64)), (.int (7 : Int32)), (.ref b70), (.ref b70)])) rfl rfl (hb hby d41_51)
 have V88 : Arv Z h88 b70 k70 .long (19 : Int32) [(.long (1 : Int64)), (.long (10 : Int64)), (.long (100 : Int64)), (.long (1000 : Int64)), (.long (10000 : Int64)), (.long (100000 : Int64)), (.long (1000000 : Int64)), (.long (10000000 : Int64)), (.long (0 : Int64)), (.long (0 : Int64)), (.long (0 : Int64)), (.long (0 : Int64)), (.long (0 : Int64)), (.long (0 : Int64)), (.long (0 : Int64)), (.long (0 : Int64)), (.long (0 : Int64)), (.long (0 : Int64)), (.long (0 : Int64))] (.long (0 : Int64)) := Arv.set Ar87 q87 S87 N87 Hh87 G87 rfl W88 7 rfl (Nat.le_of_ble_eq_true rfl)
 have KC88 := KSx.wrA KC86 W88 (Or.inr z74)
 have N88 := Fr.snoc X88 N86 g72
 have vc89 := V88
 obtain ⟨cl89, Ar89, q89, S89, N89, Hh89, G89⟩ := vc89
 have hin89 : ¬ ((8 : Int32) < 0 ∨ cl89.slots.size ≤ ((8 : Int32)).toNatClampNeg) := inb_of S89 ⟨(by decide), (by decide)⟩
 obtain ⟨T90, h90, X90, e90, W90, st90⟩ := stJ X88 hx hZ e88 Ar89 (j := (8 : Int32)) hin89 (g := (mkF m 58 #[vI p69, vU] [(.long (100000000 : Int64)), (.int (8 : Int32)), (.ref b70), (.ref b70)])) rfl rfl (hb hby d41_58)
 have V90 : Arv Z h90 b70 k70 .long (19 : Int32) [(.long (1 : Int64)), (.long (10 : Int64)), (.long (100 : Int64)), (.long (1000 : Int64)), (.long (10000 : Int64)), (.long (100000 : Int64)), (.long (1000000 : Int64)), (.long (10000000 : Int64)), (.long (100000000 : Int64)), (.long (0 : Int64)), (.long (0 : Int64)), (.long (0 : Int64)), (.long (0 : Int64)), (.long (0 : Int64)), (.long (0 : Int64)), (.long (0 : Int64)), (.long (0 : Int64)), (.long (0 : Int64)), (.long (0 : Int64))] (.long (0 : Int64)) := Arv.set Ar89 q89 S89 N89 Hh89 G89 rfl W90 8 rfl (Nat.le_of_ble_eq_true rfl)
 have KC90 := KSx.wrA KC88 W90 (Or.inr z74)
 have N90 := Fr.snoc X90 N88 g72
 have vc91 := V90
 obtain ⟨cl91, Ar91, q91, S91, N91, Hh91, G91⟩ := vc91
 have hin91 : ¬ ((9 : Int32) < 0 ∨ cl91.slots.size ≤ ((9 : Int32)).toNatClampNeg) := inb_of S91 ⟨(by decide), (by decide)⟩
 obtain ⟨T92, h92, X92, e92, W92, st92⟩ := stJ X90 hx hZ e90 Ar91 (j := (9 : Int32)) hin91 (g := (mkF m 65 #[vI p69, vU] [(.long (1000000000 : Int64)), (.int (9 : Int32)), (.ref b70), (.ref b70)])) rfl rfl (hb hby d41_65)
 have V92 : Arv Z h92 b70 k70 .long (19 : Int32) [(.long (1 : Int64)), (.long (10 : Int64)), (.long (100 : Int64)), (.long (1000 : Int64)), (.long (10000 : Int64)), (.long (100000 : Int64)), (.long (1000000 : Int64)), (.long (10000000 : Int64)), (.long (100000000 : Int64)), (.long (1000000000 : Int64)), (.long (0 : Int64)), (.long (0 : Int64)), (.long (0 : Int64)), (.long (0 : Int64)), (.long (0 : Int64)), (.long (0 : Int64)), (.long (0 : Int64)), (.long (0 : Int64)), (.long (0 : Int64))] (.long (0 : Int64)) := Arv.set Ar91 q91 S91 N91 Hh91 G91 rfl W92 9 rfl (Nat.le_of_ble_eq_true rfl)
 have KC92 := KSx.wrA KC90 W92 (Or.inr z74)
 have N92 := Fr.snoc X92 N90 g72
 have vc93 := V92
 obtain ⟨cl93, Ar93, q93, S93, N93, Hh93, G93⟩ := vc93
 have hin93 : ¬ ((10 : Int32) < 0 ∨ cl93.slots.size ≤ ((10 : Int32)).toNatClampNeg) := inb_of S93 ⟨(by decide), (by decide)⟩
 obtain ⟨T94, h94, X94, e94, W94, st94⟩ := stJ X92 hx hZ e92 Ar93 (j := (10 : Int32)) hin93 (g := (mkF m 72 #[vI p69, vU] [(.long (10000000000 : Int64)), (.int (10 : Int32)), (.ref b70), (.ref b70)])) rfl rfl (hb hby d41_72)
 have V94 : Arv Z h94 b70 k70 .long (19 : Int32) [(.long (1 : Int64)), (.long (10 : Int64)), (.long (100 : Int64)), (.long (1000 : Int64)), (.long (10000 : Int64)), (.long (100000 : Int64)), (.long (1000000 : Int64)), (.long (10000000 : Int64)), (.long (100000000 : Int64)), (.long (1000000000 : Int64)), (.long (10000000000 : Int64)), (.long (0 : Int64)), (.long (0 : Int64)), (.long (0 : Int64)), (.long (0 : Int64)), (.long (0 : Int64)), (.long (0 : Int64)), (.long (0 : Int64)), (.long (0 : Int64))] (.long (0 : Int64)) := Arv.set Ar93 q93 S93 N93 Hh93 G93 rfl W94 10 rfl (Nat.le_of_ble_eq_true rfl)
 have KC94 := KSx.wrA KC92 W94 (Or.inr z74)
 have N94 := Fr.snoc X94 N92 g72
 have vc95 := V94
 obtain ⟨cl95, Ar95, q95, S95, N95, Hh95, G95⟩ := vc95
 have hin95 : ¬ ((11 : Int32) < 0 ∨ cl95.slots.size ≤ ((11 : Int32)).toNatClampNeg) := inb_of S95 ⟨(by decide), (by decide)⟩
 obtain ⟨T96, h96, X96, e96, W96, st96⟩ := stJ X94 hx hZ e94 Ar95 (j := (11 : Int32)) hin95 (g := (mkF m 79 #[vI p69, vU] [(.long (100000000000 : Int64)), (.int (11 : Int32)), (.ref b70), (.ref b70)])) rfl rfl (hb hby d41_79)
 have V96 : Arv Z h96 b70 k70 .long (19 : Int32) [(.long (1 : Int64)), (.long (10 : Int64)), (.long (100 : Int64)), (.long (1000 : Int64)), (.long (10000 : Int64)), (.long (100000 : Int64)), (.long (1000000 : Int64)), (.long (10000000 : Int64)), (.long (100000000 : Int64)), (.long (1000000000 : Int64)), (.long (10000000000 : Int64)), (.long (100000000000 : Int64)), (.long (0 : Int64)), (.long (0 : Int64)), (.long (0 : Int64)), (.long (0 : Int64)), (.long (0 : Int64)), (.long (0 : Int64)), (.long (0 : Int64))] (.long (0 : Int64)) := Arv.set Ar95 q95 S95 N95 Hh95 G95 rfl W96 11 rfl (Nat.le_of_ble_eq_true rfl)
 have KC96 := KSx.wrA KC94 W96 (Or.inr z74)
 have N96 := Fr.snoc X96 N94 g72
 have vc97 := V96
 obtain ⟨cl97, Ar97, q97, S97, N97, Hh97, G97⟩ := vc97
 have hin97 : ¬ ((12 : Int32) < 0 ∨ cl97.slots.size ≤ ((12 : Int32)).toNatClampNeg) := inb_of S97 ⟨(by decide), (by decide)⟩
 obtain ⟨T98, h98, X98, e98, W98, st98⟩ := stJ X96 hx hZ e96 Ar97 (j := (12 : Int32)) hin97 (g := (mkF m 86 #[vI p69, vU] [(.long (1000000000000 : Int64)), (.int (12 : Int32)), (.ref b70), (.ref b70)])) rfl rfl (hb hby d41_86)
 have V98 : Arv Z h98 b70 k70 .long (19 : Int32) [(.long (1 : Int64)), (.long (10 : Int64)), (.long (100 : Int64)), (.long (1000 : Int64)), (.long (10000 : Int64)), (.long (100000 : Int64)), (.long (1000000 : Int64)), (.long (10000000 : Int64)), (.long (100000000 : Int64)), (.long (1000000000 : Int64)), (.long (10000000000 : Int64)), (.long (100000000000 : Int64)), (.long (1000000000000 : Int64)), (.long (0 : Int64)), (.long (0 : Int64)), (.long (0 : Int64)), (.long (0 : Int64)), (.long (0 : Int64)), (.long (0 : Int64))] (.long (0 : Int64)) := Arv.set Ar97 q97 S97 N97 Hh97 G97 rfl W98 12 rfl (Nat.le_of_ble_eq_true rfl)
 have KC98 := KSx.wrA KC96 W98 (Or.inr z74)
 have N98 := Fr.snoc X98 N96 g72
 have vc99 := V98
 obtain ⟨cl99, Ar99, q99, S99, N99, Hh99, G99⟩ := vc99
 have hin99 : ¬ ((13 : Int32) < 0 ∨ cl99.slots.size ≤ ((13 : Int32)).toNatClampNeg) := inb_of S99 ⟨(by decide), (by decide)⟩
 obtain ⟨T100, h100, X100, e100, W100, st100⟩ := stJ X98 hx hZ e98 Ar99 (j := (13 : Int32)) hin99 (g := (mkF m 93 #[vI p69, vU] [(.long (10000000000000 : Int64)), (.int (13 : Int32)), (.ref b70), (.ref b70)])) rfl rfl (hb hby d41_93)
 have V100 : Arv Z h100 b70 k70 .long (19 : Int32) [(.long (1 : Int64)), (.long (10 : Int64)), (.long (100 : Int64)), (.long (1000 : Int64)), (.long (10000 : Int64)), (.long (100000 : Int64)), (.long (1000000 : Int64)), (.long (10000000 : Int64)), (.long (100000000 : Int64)), (.long (1000000000 : Int64)), (.long (10000000000 : Int64)), (.long (100000000000 : Int64)), (.long (1000000000000 : Int64)), (.long (10000000000000 : Int64)), (.long (0 : Int64)), (.long (0 : Int64)), (.long (0 : Int64)), (.long (0 : Int64)), (.long (0 : Int64))] (.long (0 : Int64)) := Arv.set Ar99 q99 S99 N99 Hh99 G99 rfl W100 13 rfl (Nat.le_of_ble_eq_true rfl)
 have KC100 := KSx.wrA KC98 W100 (Or.inr z74)
 have N100 := Fr.snoc X100 N98 g72
 have vc101 := V100
 obtain ⟨cl101, Ar101, q101, S101, N101, Hh101, G101⟩ := vc101
 have hin101 : ¬ ((14 : Int32) < 0 ∨ cl101.slots.size ≤ ((14 : Int32)).toNatClampNeg) := inb_of S101 ⟨(by decide), (by decide)⟩
 obtain ⟨T102, h102, X102, e102, W102, st102⟩ := stJ X100 hx hZ e100 Ar101 (j := (14 : Int32)) hin101 (g := (mkF m 100 #[vI p69, vU] [(.long (100000000000000 : Int64)), (.int (14 : Int32)), (.ref b70), (.ref b70)])) rfl rfl (hb hby d41_100)
 have V102 : Arv Z h102 b70 k70 .long (19 : Int32) [(.long (1 : Int64)), (.long (10 : Int64)), (.long (100 : Int64)), (.long (1000 : Int64)), (.long (10000 : Int64)), (.long (100000 : Int64)), (.long (1000000 : Int64)), (.long (10000000 : Int64)), (.long (100000000 : Int64)), (.long (1000000000 : Int64)), (.long (10000000000 : Int64)), (.long (100000000000 : Int64)), (.long (1000000000000 : Int64)), (.long (10000000000000 : Int64)), (.long (100000000000000 : Int64)), (.long (0 : Int64)), (.long (0 : Int64)), (.long (0 : Int64)), (.long (0 : Int64))] (.long (0 : Int64)) := Arv.set Ar101 q101 S101 N101 Hh101 G101 rfl W102 14 rfl (Nat.le_of_ble_eq_true rfl)
 have KC102 := KSx.wrA KC100 W102 (Or.inr z74)
 have N102 := Fr.snoc X102 N100 g72
 have vc103 := V102
 obtain ⟨cl103, Ar103, q103, S103, N103, Hh103, G103⟩ := vc103
 have hin103 : ¬ ((15 : Int32) < 0 ∨ cl103.slots.size ≤ ((15 : Int32)).toNatClampNeg) := inb_of S103 ⟨(by decide), (by decide)⟩
 obtain ⟨T104, h104, X104, e104, W104, st104⟩ := stJ X102 hx hZ e102 Ar103 (j := (15 : Int32)) hin103 (g := (mkF m 107 #[vI p69, vU] [(.long (1000000000000000 : Int64)), (.int (15 : Int32)), (.ref b70), (.ref b70)])) rfl rfl (hb hby d41_107)
 have V104 : Arv Z h104 b70 k70 .long (19 : Int32) [(.long (1 : Int64)), (.long (10 : Int64)), (.long (100 : Int64)), (.long (1000 : Int64)), (.long (10000 : Int64)), (.long (100000 : Int64)), (.long (1000000 : Int64)), (.long (10000000 : Int64)), (.long (100000000 : Int64)), (.long (1000000000 : Int64)), (.long (10000000000 : Int64)), (.long (100000000000 : Int64)), (.long (1000000000000 : Int64)), (.long (10000000000000 : Int64)), (.long (100000000000000 : Int64)), (.long (1000000000000000 : Int64)), (.long (0 : Int64)), (.long (0 : Int64)), (.long (0 : Int64))] (.long (0 : Int64)) := Arv.set Ar103 q103 S103 N103 Hh103 G103 rfl W104 15 rfl (Nat.le_of_ble_eq_true rfl)
 have KC104 := KSx.wrA KC102 W104 (Or.inr z74)
 have N104 := Fr.snoc X104 N102 g72
 have vc105 := V104
 obtain ⟨cl105, Ar105, q105, S105, N105, Hh105, G105⟩ := vc105
 have hin105 : ¬ ((16 : Int32) < 0 ∨ cl105.slots.size ≤ ((16 : Int32)).toNatClampNeg) := inb_of S105 ⟨(by decide), (by decide)⟩
 obtain ⟨T106, h106, X106, e106, W106, st106⟩ := stJ X104 hx hZ e104 Ar105 (j := (16 : Int32)) hin105 (g := (mkF m 114 #[vI p69, vU] [(.long (10000000000000000 : Int64)), (.int (16 : Int32)), (.ref b70), (.ref b70)])) rfl rfl (hb hby d41_114)
 have V106 : Arv Z h106 b70 k70 .long (19 : Int32) [(.long (1 : Int64)), (.long (10 : Int64)), (.long (100 : Int64)), (.long (1000 : Int64)), (.long (10000 : Int64)), (.long (100000 : Int64)), (.long (1000000 : Int64)), (.long (10000000 : Int64)), (.long (100000000 : Int64)), (.long (1000000000 : Int64)), (.long (10000000000 : Int64)), (.long (100000000000 : Int64)), (.long (1000000000000 : Int64)), (.long (10000000000000 : Int64)), (.long (100000000000000 : Int64)), (.long (1000000000000000 : Int64)), (.long (10000000000000000 : Int64)), (.long (0 : Int64)), (.long (0 : Int64))] (.long (0 : Int64)) := Arv.set Ar105 q105 S105 N105 Hh105 G105 rfl W106 16 rfl (Nat.le_of_ble_eq_true rfl)
 have KC106 := KSx.wrA KC104 W106 (Or.inr z74)
 have N106 := Fr.snoc X106 N104 g72
 have vc107 := V106
 obtain ⟨cl107, Ar107, q107, S107, N107, Hh107, G107⟩ := vc107
 have hin107 : ¬ ((17 : Int32) < 0 ∨ cl107.slots.size ≤ ((17 : Int32)).toNatClampNeg) := inb_of S107 ⟨(by decide), (by decide)⟩
 obtain ⟨T108, h108, X108, e108, W108, st108⟩ := stJ X106 hx hZ e106 Ar107 (j := (17 : Int32)) hin107 (g := (mkF m 121 #[vI p69, vU] [(.long (100000000000000000 : Int64)), (.int (17 : Int32)), (.ref b70), (.ref b70)])) rfl rfl (hb hby d41_121)
 have V108 : Arv Z h108 b70 k70 .long (19 : Int32) [(.long (1 : Int64)), (.long (10 : Int64)), (.long (100 : Int64)), (.long (1000 : Int64)), (.long (10000 : Int64)), (.long (100000 : Int64)), (.long (1000000 : Int64)), (.long (10000000 : Int64)), (.long (100000000 : Int64)), (.long (1000000000 : Int64)), (.long (10000000000 : Int64)), (.long (100000000000 : Int64)), (.long (1000000000000 : Int64)), (.long (10000000000000 : Int64)), (.long (100000000000000 : Int64)), (.long (1000000000000000 : Int64)), (.long (10000000000000000 : Int64)), (.long (100000000000000000 : Int64)), (.long (0 : Int64))] (.long (0 : Int64)) := Arv.set Ar107 q107 S107 N107 Hh107 G107 rfl W108 17 rfl (Nat.le_of_ble_eq_true rfl)
 have KC108 := KSx.wrA KC106 W108 (Or.inr z74)
 have N108 := Fr.snoc X108 N106 g72
 have vc109 := V108
 obtain ⟨cl109, Ar109, q109, S109, N109, Hh109, G109⟩ := vc109
 have hin109 : ¬ ((18 : Int32) < 0 ∨ cl109.slots.size ≤ ((18 : Int32)).toNatClampNeg) := inb_of S109 ⟨(by decide), (by decide)⟩
 obtain ⟨T110, h110, X110, e110, W110, st110⟩ := stJ X108 hx hZ e108 Ar109 (j := (18 : Int32)) hin109 (g := (mkF m 128 #[vI p69, vU] [(.long (1000000000000000000 : Int64)), (.int (18 : Int32)), (.ref b70), (.ref b70)])) rfl rfl (hb hby d41_128)
 have V110 : Arv Z h110 b70 k70 .long (19 : Int32) [(.long (1 : Int64)), (.long (10 : Int64)), (.long (100 : Int64)), (.long (1000 : Int64)), (.long (10000 : Int64)), (.long (100000 : Int64)), (.long (1000000 : Int64)), (.long (10000000 : Int64)), (.long (100000000 : Int64)), (.long (1000000000 : Int64)), (.long (10000000000 : Int64)), (.long (100000000000 : Int64)), (.long (1000000000000 : Int64)), (.long (10000000000000 : Int64)), (.long (100000000000000 : Int64)), (.long (1000000000000000 : Int64)), (.long (10000000000000000 : Int64)), (.long (100000000000000000 : Int64)), (.long (1000000000000000000 : Int64))] (.long (0 : Int64)) := Arv.set Ar109 q109 S109 N109 Hh109 G109 rfl W110 18 rfl (Nat.le_of_ble_eq_true rfl)
 have KC110 := KSx.wrA KC108 W110 (Or.inr z74)
 have N110 := Fr.snoc X110 N108 g72
 have vc111 := V110
 obtain ⟨cl111, Ar111, q111, S111, N111, Hh111, G111⟩ := vc111
 have hin111 : ¬ (p69 < 0 ∨ cl111.slots.size ≤ (p69).toNatClampNeg) := inb_of S111 ⟨H0, H1⟩
 have hat111 : cl111.slots[(p69).toNatClampNeg]? = some (.long q112) := Has.at Hh111 hin111 H2
 obtain ⟨fs, hr, hrun, hended, hW, hsame⟩ := X110.leave (v := some (.long q112)) (fun h => by rw [Bd.returns] at h; cases h)
 refine ⟨_, _, pre0 _ ?_, hrun, hended, _, _, rfl, ?_, ⟨_, rfl⟩, hW, hsame.mono (by decide) (by decide)⟩
 · show SG p e below s₁ (mkF m 0 #[vI p69, vU] []) _
   refine XS.bipush X0.here hx rfl (hb hby d41_0) ?_
   show SG p e below s₁ (mkF m 2 #[vI p69, vU] [(.int (19 : Int32))]) _
   refine st70 _ ?_
   show SG p e below T70 (mkF m 4 #[vI p69, vU] [(.ref b70)]) _
   refine XS.dup X70.here hx rfl (hb hby d41_4) rfl rfl ?_
   show SG p e below T70 (mkF m 5 #[vI p69, vU] [(.ref b70), (.ref b70)]) _
   refine XS.iconst X70.here hx rfl (hb hby d41_5) ?_
   show SG p e below T70 (mkF m 6 #[vI p69, vU] [(.int (0 : Int32)), (.ref b70), (.ref b70)]) _
   refine XS.lconst X70.here hx rfl (hb hby d41_6) ?_
   show SG p e below T70 (mkF m 7 #[vI p69, vU] [(.long (1 : Int64)), (.int (0 : Int32)), (.ref b70), (.ref b70)]) _
   refine st73 _ ?_
   show SG p e below T73 (mkF m 8 #[vI p69, vU] [(.ref b70)]) _
   refine XS.dup X73.here hx rfl (hb hby d41_8) rfl rfl ?_
   show SG p e below T73 (mkF m 9 #[vI p69, vU] [(.ref b70), (.ref b70)]) _
   refine XS.iconst X73.here hx rfl (hb hby d41_9) ?_
   show SG p e below T73 (mkF m 10 #[vI p69, vU] [(.int (1 : Int32)), (.ref b70), (.ref b70)]) _
   refine X73.ldc2Long hx hown (mvT hZ (tw hw 242 rfl)) (g := (mkF m 10 #[vI p69, vU] [(.int (1 : Int32)), (.ref b70), (.ref b70)])) rfl (hb hby d41_10) _ ?_
   show SG p e below T73 (mkF m 13 #[vI p69, vU] [(.long (10 : Int64)), (.int (1 : Int32)), (.ref b70), (.ref b70)]) _
   refine st76 _ ?_
   show SG p e below T76 (mkF m 14 #[vI p69, vU] [(.ref b70)]) _
   refine XS.dup X76.here hx rfl (hb hby d41_14) rfl rfl ?_
   show SG p e below T76 (mkF m 15 #[vI p69, vU] [(.ref b70), (.ref b70)]) _
   refine XS.iconst X76.here hx rfl (hb hby d41_15) ?_
   show SG p e below T76 (mkF m 16 #[vI p69, vU] [(.int (2 : Int32)), (.ref b70), (.ref b70)]) _
   refine X76.ldc2Long hx hown (mvT hZ (tw hw 243 rfl)) (g := (mkF m 16 #[vI p69, vU] [(.int (2 : Int32)), (.ref b70), (.ref b70)])) rfl (hb hby d41_16) _ ?_
   show SG p e below T76 (mkF m 19 #[vI p69, vU] [(.long (100 : Int64)), (.int (2 : Int32)), (.ref b70), (.ref b70)]) _
   refine st78 _ ?_
   show SG p e below T78 (mkF m 20 #[vI p69, vU] [(.ref b70)]) _
   refine XS.dup X78.here hx rfl (hb hby d41_20) rfl rfl ?_
   show SG p e below T78 (mkF m 21 #[vI p69, vU] [(.ref b70), (.ref b70)]) _
   refine XS.iconst X78.here hx rfl (hb hby d41_21) ?_
   show SG p e below T78 (mkF m 22 #[vI p69, vU] [(.int (3 : Int32)), (.ref b70), (.ref b70)]) _
   refine X78.ldc2Long hx hown (mvT hZ (tw hw 244 rfl)) (g := (mkF m 22 #[vI p69, vU] [(.int (3 : Int32)), (.ref b70), (.ref b70)])) rfl (hb hby d41_22) _ ?_
   show SG p e below T78 (mkF m 25 #[vI p69, vU] [(.long (1000 : Int64)), (.int (3 : Int32)), (.ref b70), (.ref b70)]) _
   refine st80 _ ?_
   show SG p e below T80 (mkF m 26 #[vI p69, vU] [(.ref b70)]) _
   refine XS.dup X80.here hx rfl (hb hby d41_26) rfl rfl ?_
   show SG p e below T80 (mkF m 27 #[vI p69, vU] [(.ref b70), (.ref b70)]) _
   refine XS.iconst X80.here hx rfl (hb hby d41_27) ?_
   show SG p e below T80 (mkF m 28 #[vI p69, vU] [(.int (4 : Int32)), (.ref b70), (.ref b70)]) _
   refine X80.ldc2Long hx hown (mvT hZ (tw hw 245 rfl)) (g := (mkF m 28 #[vI p69, vU] [(.int (4 : Int32)), (.ref b70), (.ref b70)])) rfl (hb hby d41_28) _ ?_
   show SG p e below T80 (mkF m 31 #[vI p69, vU] [(.long (10000 : Int64)), (.int (4 : Int32)), (.ref b70), (.ref b70)]) _
   refine st82 _ ?_
   show SG p e below T82 (mkF m 32 #[vI p69, vU] [(.ref b70)]) _
   refine XS.dup X82.here hx rfl (hb hby d41_32) rfl rfl ?_
   show SG p e below T82 (mkF m 33 #[vI p69, vU] [(.ref b70), (.ref b70)]) _
   refine XS.iconst X82.here hx rfl (hb hby d41_33) ?_
   show SG p e below T82 (mkF m 34 #[vI p69, vU] [(.int (5 : Int32)), (.ref b70), (.ref b70)]) _
   refine X82.ldc2Long hx hown (mvT hZ (tw hw 246 rfl)) (g := (mkF m 34 #[vI p69, vU] [(.int (5 : Int32)), (.ref b70), (.ref b70)])) rfl (hb hby d41_34) _ ?_
   show SG p e below T82 (mkF m 37 #[vI p69, vU] [(.long (100000 : Int64)), (.int (5 : Int32)), (.ref b70), (.ref b70)]) _
   refine st84 _ ?_
   show SG p e below T84 (mkF m 38 #[vI p69, vU] [(.ref b70)]) _
   refine XS.dup X84.here hx rfl (hb hby d41_38) rfl rfl ?_
   show SG p e below T84 (mkF m 39 #[vI p69, vU] [(.ref b70), (.ref b70)]) _
   refine XS.bipush X84.here hx rfl (hb hby d41_39) ?_
   show SG p e below T84 (mkF m 41 #[vI p69, vU] [(.int (6 : Int32)), (.ref b70), (.ref b70)]) _
   refine X84.ldc2Long hx hown (mvT hZ (tw hw 247 rfl)) (g := (mkF m 41 #[vI p69, vU] [(.int (6 : Int32)), (.ref b70), (.ref b70)])) rfl (hb hby d41_41) _ ?_
   show SG p e below T84 (mkF m 44 #[vI p69, vU] [(.long (1000000 : Int64)), (.int (6 : Int32)), (.ref b70), (.ref b70)]) _
   refine st86 _ ?_
   show SG p e below T86 (mkF m 45 #[vI p69, vU] [(.ref b70)]) _
   refine XS.dup X86.here hx rfl (hb hby d41_45) rfl rfl ?_
   show SG p e below T86 (mkF m 46 #[vI p69, vU] [(.ref b70), (.ref b70)]) _
   refine XS.bipush X86.here hx rfl (hb hby d41_46) ?_
   show SG p e below T86 (mkF m 48 #[vI p69, vU] [(.int (7 : Int32)), (.ref b70), (.ref b70)]) _
   refine X86.ldc2Long hx hown (mvT hZ (tw hw 248 rfl)) (g := (mkF m 48 #[vI p69, vU] [(.int (7 : Int32)), (.ref b70), (.ref b70)])) rfl (hb hby d41_48) _ ?_
   show SG p e below T86 (mkF m 51 #[vI p69, vU] [(.long (10000000 : Int64)), (.int (7 : Int32)), (.ref b70), (.ref b70)]) _
   refine st88 _ ?_
   show SG p e below T88 (mkF m 52 #[vI p69, vU] [(.ref b70)]) _
   refine XS.dup X88.here hx rfl (hb hby d41_52) rfl rfl ?_
   show SG p e below T88 (mkF m 53 #[vI p69, vU] [(.ref b70), (.ref b70)]) _
   refine XS.bipush X88.here hx rfl (hb hby d41_53) ?_
   show SG p e below T88 (mkF m 55 #[vI p69, vU] [(.int (8 : Int32)), (.ref b70), (.ref b70)]) _
   refine X88.ldc2Long hx hown (mvT hZ (tw hw 249 rfl)) (g := (mkF m 55 #[vI p69, vU] [(.int (8 : Int32)), (.ref b70), (.ref b70)])) rfl (hb hby d41_55) _ ?_
   show SG p e below T88 (mkF m 58 #[vI p69, vU] [(.long (100000000 : Int64)), (.int (8 : Int32)), (.ref b70), (.ref b70)]) _
   refine st90 _ ?_
   show SG p e below T90 (mkF m 59 #[vI p69, vU] [(.ref b70)]) _
   refine XS.dup X90.here hx rfl (hb hby d41_59) rfl rfl ?_
   show SG p e below T90 (mkF m 60 #[vI p69, vU] [(.ref b70), (.ref b70)]) _
   refine XS.bipush X90.here hx rfl (hb hby d41_60) ?_
   show SG p e below T90 (mkF m 62 #[vI p69, vU] [(.int (9 : Int32)), (.ref b70), (.ref b70)]) _
   refine X90.ldc2Long hx hown (mvT hZ (tw hw 250 rfl)) (g := (mkF m 62 #[vI p69, vU] [(.int (9 : Int32)), (.ref b70), (.ref b70)])) rfl (hb hby d41_62) _ ?_
   show SG p e below T90 (mkF m 65 #[vI p69, vU] [(.long (1000000000 : Int64)), (.int (9 : Int32)), (.ref b70), (.ref b70)]) _
   refine st92 _ ?_
   show SG p e below T92 (mkF m 66 #[vI p69, vU] [(.ref b70)]) _
   refine XS.dup X92.here hx rfl (hb hby d41_66) rfl rfl ?_
   show SG p e below T92 (mkF m 67 #[vI p69, vU] [(.ref b70), (.ref b70)]) _
   refine XS.bipush X92.here hx rfl (hb hby d41_67) ?_
   show SG p e below T92 (mkF m 69 #[vI p69, vU] [(.int (10 : Int32)), (.ref b70), (.ref b70)]) _
   refine X92.ldc2Long hx hown (mvT hZ (tw hw 251 rfl)) (g := (mkF m 69 #[vI p69, vU] [(.int (10 : Int32)), (.ref b70), (.ref b70)])) rfl (hb hby d41_69) _ ?_
   show SG p e below T92 (mkF m 72 #[vI p69, vU] [(.long (10000000000 : Int64)), (.int (10 : Int32)), (.ref b70), (.ref b70)]) _
   refine st94 _ ?_
   show SG p e below T94 (mkF m 73 #[vI p69, vU] [(.ref b70)]) _
   refine XS.dup X94.here hx rfl (hb hby d41_73) rfl rfl ?_
   show SG p e below T94 (mkF m 74 #[vI p69, vU] [(.ref b70), (.ref b70)]) _
   refine XS.bipush X94.here hx rfl (hb hby d41_74) ?_
   show SG p e below T94 (mkF m 76 #[vI p69, vU] [(.int (11 : Int32)), (.ref b70), (.ref b70)]) _
   refine X94.ldc2Long hx hown (mvT hZ (tw hw 252 rfl)) (g := (mkF m 76 #[vI p69, vU] [(.int (11 : Int32)), (.ref b70), (.ref b70)])) rfl (hb hby d41_76) _ ?_
   show SG p e below T94 (mkF m 79 #[vI p69, vU] [(.long (100000000000 : Int64)), (.int (11 : Int32)), (.ref b70), (.ref b70)]) _
   refine st96 _ ?_
   show SG p e below T96 (mkF m 80 #[vI p69, vU] [(.ref b70)]) _
   refine XS.dup X96.here hx rfl (hb hby d41_80) rfl rfl ?_
   show SG p e below T96 (mkF m 81 #[vI p69, vU] [(.ref b70), (.ref b70)]) _
   refine XS.bipush X96.here hx rfl (hb hby d41_81) ?_
   show SG p e below T96 (mkF m 83 #[vI p69, vU] [(.int (12 : Int32)), (.ref b70), (.ref b70)]) _
   refine X96.ldc2Long hx hown (mvT hZ (tw hw 253 rfl)) (g := (mkF m 83 #[vI p69, vU] [(.int (12 : Int32)), (.ref b70), (.ref b70)])) rfl (hb hby d41_83) _ ?_
   show SG p e below T96 (mkF m 86 #[vI p69, vU] [(.long (1000000000000 : Int64)), (.int (12 : Int32)), (.ref b70), (.ref b70)]) _
   refine st98 _ ?_
   show SG p e below T98 (mkF m 87 #[vI p69, vU] [(.ref b70)]) _
   refine XS.dup X98.here hx rfl (hb hby d41_87) rfl rfl ?_
   show SG p e below T98 (mkF m 88 #[vI p69, vU] [(.ref b70), (.ref b70)]) _
   refine XS.bipush X98.here hx rfl (hb hby d41_88) ?_
   show SG p e below T98 (mkF m 90 #[vI p69, vU] [(.int (13 : Int32)), (.ref b70), (.ref b70)]) _
   refine X98.ldc2Long hx hown (mvT hZ (tw hw 254 rfl)) (g := (mkF m 90 #[vI p69, vU] [(.int (13 : Int32)), (.ref b70), (.ref b70)])) rfl (hb hby d41_90) _ ?_
   show SG p e below T98 (mkF m 93 #[vI p69, vU] [(.long (10000000000000 : Int64)), (.int (13 : Int32)), (.ref b70), (.ref b70)]) _
   refine st100 _ ?_
   show SG p e below T100 (mkF m 94 #[vI p69, vU] [(.ref b70)]) _
   refine XS.dup X100.here hx rfl (hb hby d41_94) rfl rfl ?_
   show SG p e below T100 (mkF m 95 #[vI p69, vU] [(.ref b70), (.ref b70)]) _
   refine XS.bipush X100.here hx rfl (hb hby d41_95) ?_
   show SG p e below T100 (mkF m 97 #[vI p69, vU] [(.int (14 : Int32)), (.ref b70), (.ref b70)]) _
   refine X100.ldc2Long hx hown (mvT hZ (tw hw 255 rfl)) (g := (mkF m 97 #[vI p69, vU] [(.int (14 : Int32)), (.ref b70), (.ref b70)])) rfl (hb hby d41_97) _ ?_
   show SG p e below T100 (mkF m 100 #[vI p69, vU] [(.long (100000000000000 : Int64)), (.int (14 : Int32)), (.ref b70), (.ref b70)]) _
   refine st102 _ ?_
   show SG p e below T102 (mkF m 101 #[vI p69, vU] [(.ref b70)]) _
   refine XS.dup X102.here hx rfl (hb hby d41_101) rfl rfl ?_
   show SG p e below T102 (mkF m 102 #[vI p69, vU] [(.ref b70), (.ref b70)]) _
   refine XS.bipush X102.here hx rfl (hb hby d41_102) ?_
   show SG p e below T102 (mkF m 104 #[vI p69, vU] [(.int (15 : Int32)), (.ref b70), (.ref b70)]) _
   refine X102.ldc2Long hx hown (mvT hZ (tw hw 256 rfl)) (g := (mkF m 104 #[vI p69, vU] [(.int (15 : Int32)), (.ref b70), (.ref b70)])) rfl (hb hby d41_104) _ ?_
   show SG p e below T102 (mkF m 107 #[vI p69, vU] [(.long (1000000000000000 : Int64)), (.int (15 : Int32)), (.ref b70), (.ref b70)]) _
   refine st104 _ ?_
   show SG p e below T104 (mkF m 108 #[vI p69, vU] [(.ref b70)]) _
   refine XS.dup X104.here hx rfl (hb hby d41_108) rfl rfl ?_
   show SG p e below T104 (mkF m 109 #[vI p69, vU] [(.ref b70), (.ref b70)]) _
   refine XS.bipush X104.here hx rfl (hb hby d41_109) ?_
   show SG p e below T104 (mkF m 111 #[vI p69, vU] [(.int (16 : Int32)), (.ref b70), (.ref b70)]) _
   refine X104.ldc2Long hx hown (mvT hZ (tw hw 257 rfl)) (g := (mkF m 111 #[vI p69, vU] [(.int (16 : Int32)), (.ref b70), (.ref b70)])) rfl (hb hby d41_111) _ ?_
   show SG p e below T104 (mkF m 114 #[vI p69, vU] [(.long (10000000000000000 : Int64)), (.int (16 : Int32)), (.ref b70), (.ref b70)]) _
   refine st106 _ ?_
   show SG p e below T106 (mkF m 115 #[vI p69, vU] [(.ref b70)]) _
   refine XS.dup X106.here hx rfl (hb hby d41_115) rfl rfl ?_
   show SG p e below T106 (mkF m 116 #[vI p69, vU] [(.ref b70), (.ref b70)]) _
   refine XS.bipush X106.here hx rfl (hb hby d41_116) ?_
   show SG p e below T106 (mkF m 118 #[vI p69, vU] [(.int (17 : Int32)), (.ref b70), (.ref b70)]) _
   refine X106.ldc2Long hx hown (mvT hZ (tw hw 258 rfl)) (g := (mkF m 118 #[vI p69, vU] [(.int (17 : Int32)), (.ref b70), (.ref b70)])) rfl (hb hby d41_118) _ ?_
   show SG p e below T106 (mkF m 121 #[vI p69, vU] [(.long (100000000000000000 : Int64)), (.int (17 : Int32)), (.ref b70), (.ref b70)]) _
   refine st108 _ ?_
   show SG p e below T108 (mkF m 122 #[vI p69, vU] [(.ref b70)]) _
   refine XS.dup X108.here hx rfl (hb hby d41_122) rfl rfl ?_
   show SG p e below T108 (mkF m 123 #[vI p69, vU] [(.ref b70), (.ref b70)]) _
   refine XS.bipush X108.here hx rfl (hb hby d41_123) ?_
   show SG p e below T108 (mkF m 125 #[vI p69, vU] [(.int (18 : Int32)), (.ref b70), (.ref b70)]) _
   refine X108.ldc2Long hx hown (mvT hZ (tw hw 259 rfl)) (g := (mkF m 125 #[vI p69, vU] [(.int (18 : Int32)), (.ref b70), (.ref b70)])) rfl (hb hby d41_125) _ ?_
   show SG p e below T108 (mkF m 128 #[vI p69, vU] [(.long (1000000000000000000 : Int64)), (.int (18 : Int32)), (.ref b70), (.ref b70)]) _
   refine st110 _ ?_
   show SG p e below T110 (mkF m 129 #[vI p69, vU] [(.ref b70)]) _
   refine XS.astoreN X110.here hx rfl (hb hby d41_129) rfl rfl (l' := #[vI p69, vR b70]) rfl ?_
   show SG p e below T110 (mkF m 130 #[vI p69, vR b70] []) _
   refine XS.aloadN X110.here hx rfl (hb hby d41_130) rfl rfl ?_
   show SG p e below T110 (mkF m 131 #[vI p69, vR b70] [(.ref b70)]) _
   refine XS.iloadN X110.here hx rfl (hb hby d41_131) rfl ?_
   show SG p e below T110 (mkF m 132 #[vI p69, vR b70] [(.int p69), (.ref b70)]) _
   refine X110.laload hx (j := p69) (v := (.long q112)) (by rw [e110]; exact Ar111.1) (State.isArrayOf_alike hZ.alike Ar111.2.1) Ar111.2.2 hin111 hat111 (g := (mkF m 132 #[vI p69, vR b70] [(.int p69), (.ref b70)])) rfl rfl (hb hby d41_132) _ ?_
   show SG p e below T110 (mkF m 133 #[vI p69, vR b70] [(.long q112)]) _
   jvm_step X110.here [X110.here.top, hx, (hb hby d41_133), X110.method', Bd.returns, narrow]
   first | (intro acts; rw [hr _ acts rfl rfl rfl]) | rw [hr _ _ rfl rfl rfl]
   exact Steps.refl _
 · show Qr41_1 Z p69 q112 h0 n0 _ T110.heap _
   rw [e110]
   exact ⟨N110, b70, k70, rfl, z74, KC110, V110⟩
theorem pd_4 : parseMethodDescriptor "(I)J" = some ⟨[.int], some .long⟩ := by decide +kernel
theorem d40_5 : decode method_5_code 5 = .ok (.ldiv, 1) := by decide +kernel
theorem d40_6 : decode method_5_code 6 = .ok (.lconst 0, 1) := by decide +kernel
theorem d40_7 : decode method_5_code 7 = .ok (.lcmp, 1) := by decide +kernel
theorem d40_8 : decode method_5_code 8 = .ok (.ifCond .eq 7, 3) := by decide +kernel
theorem d40_11 : decode method_5_code 11 = .ok (.iconst 1, 1) := by decide +kernel
theorem d40_12 : decode method_5_code 12 = .ok (.goto 4, 3) := by decide +kernel
theorem d40_16 : decode method_5_code 16 = .ok (.ireturn, 1) := by decide +kernel
theorem ef_40_vv (m : MethodId) (x0 : Int64) (x1 : Int32) : entryFrame m #[(.long x0), (.int x1)] 3 = mkF m 0 #[.val (.long x0), .second, .val (.int x1)] [] := by first | (simp [entryFrame, mkF, argsToLocals, Value.category]; done) | rfl
def Qr40_1 (Z : State) (q67 : Int64) (p68 : Int32) (q114 : Int64) (h0 : Heap) (n0 : Nat) (v : Option Value) (h : Heap) (L : List Loc) : Prop := Fr n0 L ∧ ∃ b113_0 : Addr, ∃ k113_0 : ClassId, v = some (.int (1 : Int32)) ∧ h0.size ≤ b113_0 ∧ KSx h0 h [] [] ∧ Arv Z h b113_0 k113_0 .long (19 : Int32) [(.long (1 : Int64)), (.long (10 : Int64)), (.long (100 : Int64)), (.long (1000 : Int64)), (.long (10000 : Int64)), (.long (100000 : Int64)), (.long (1000000 : Int64)), (.long (10000000 : Int64)), (.long (100000000 : Int64)), (.long (1000000000 : Int64)), (.long (10000000000 : Int64)), (.long (100000000000 : Int64)), (.long (1000000000000 : Int64)), (.long (10000000000000 : Int64)), (.long (100000000000000 : Int64)), (.long (1000000000000000 : Int64)), (.long (10000000000000000 : Int64)), (.long (100000000000000000 : Int64)), (.long (1000000000000000000 : Int64))] (.long (0 : Int64))
theorem r40_1 (l : Launch) (Z : State) (a0 : Array Value) (hw : ∀ d ∈ tables_1, d.before a0 Z = true) (q67 : Int64) (p68 : Int32) (q114 : Int64) (h0 : Heap) (n0 : Nat) (Z0 : n0 ≤ h0.size) (H0 : ¬ (p68 < (0 : Int32))) (H1 : p68 < (19 : Int32)) (H2 : ([(.long (1 : Int64)), (.long (10 : Int64)), (.long (100 : Int64)), (.long (1000 : Int64)), (.long (10000 : Int64)), (.long (100000 : Int64)), (.long (1000000 : Int64)), (.long (10000000 : Int64)), (.long (100000000 : Int64)), (.long (1000000000 : Int64)), (.long (10000000000 : Int64)), (.long (100000000000 : Int64)), (.long (1000000000000 : Int64)), (.long (10000000000000 : Int64)), (.long (100000000000000 : Int64)), (.long (1000000000000000 : Int64)), (.long (10000000000000000 : Int64)), (.long (100000000000000000 : Int64)), (.long (1000000000000000000 : Int64))] : List Value).getD (p68).toNatClampNeg (.long (0 : Int64)) = (.long q114)) (H3 : ¬ (q114 = (0 : Int64))) (H4 : ¬ ((lcmpW (q67 / q114) (0 : Int64)) = (0 : Int32))) :
   OMet l Z mN8 method_5_code 3 (some .int) [] ({ frames := 1, cells := 1, slots := 19, locals := 15 } : Room) h0 #[(.long q67), (.int p68)] (Qr40_1 Z q67 p68 q114 h0 n0) := by
 refine MetFree.of_bodySF (plainFor_of_name pn_com_example_eta4_eta4_bench_FillFiguresLinesPinLaw) hisR ?_
 intro p e s m args below meth c s₁ Bd hml0 hP hK
 obtain ⟨rfl, hZ, hh⟩ := hP
 have hx := Bd.exec
 have hby := Bd.bytes
 have hml : c.maxLocals = 3 := hml0
 have hown : s.vm.findClass "com/example/eta4/eta4/bench/FillFiguresLinesPinLaw" = some m.cls := findClass_of_methodNamed Bd.named
 have hnm := (name_of_methodNamed Bd.named Bd.method).1
 have X0 : Stand p l e ({ frames := 1, cells := 1, slots := 19, locals := 15 } : Room) s m #[(.long q67), (.int p68)] below meth c s₁ [] 0 0 := Stand.of_body Bd
 have e0 : s₁.heap = h0 := by rw [← hh, Bd.state]; rfl
 have N0 := Fr.nil n0
 have pre0 : ∀ t, Steps p.tables e below (s₁.setTop (mkF m 0 #[vJ q67, vS, vI p68] [])) t → Steps p.tables e below (s₁.setTop (entryFrame m #[(.long q67), (.int p68)] 3)) t := fun t k => castTop (ef_40_vv m q67 p68) k
 obtain ⟨_, _, ⟨T113, L113, k113, n113⟩, -, X113, ⟨Lc113, hQ113, l113, y113, z113⟩, st113⟩ := Jvm.LawKit.callS X0 hx (y := mN7) hown (mvT hZ (tw hw 238 rfl)) (mvT hZ (tw hw 239 rfl)) (mvT hZ (tw hw 229 rfl)) (mvT hZ (tw hw 240 rfl)) (by decide) (backOf (W := 2) (r41_1 l Z a0 hw p68 q114 h0 n0 Z0 H0 H1 H2) hZ (tw hw 240 rfl) (tw hw 229 rfl) (by decide) (by decide)) (g := (mkF m 2 #[vJ q67, vS, vI p68] [(.int p68), (.long q67)])) rfl (by rw [hml]; rfl) (argsL := [(.int p68)]) (rest := [(.long q67)]) (lenOf pd_4 rfl) rfl (own_w _) (hb hby d40_2) (fun _ _ => ⟨rfl, e0, (by decide : 0 + 1 ≤ _), (by decide : 0 + 19 ≤ _)⟩)
 dsimp only [Pt.U, Pt.locs, Pt.cells, Pt.slots] at X113 l113 y113 z113 st113 hQ113
 replace X113 := own_mvX X113 (a := 1) (b := 19) y113 z113
 obtain ⟨N113q, b113_0, k113_0, rfl, ge_b113_0, K113, o113_0⟩ := hQ113
 have N113 := own_mvN l113 N0 N113q
 have KC113 := KSx.trans (KSx.refl h0 [] []) K113 ks0 all0
 obtain ⟨fs, hr, hrun, hended, hW, hsame⟩ := X113.leave (v := some (.int (1 : Int32))) (fun h => by rw [Bd.returns] at h; cases h)
 refine ⟨_, _, pre0 _ ?_, hrun, hended, _, _, rfl, ?_, ⟨_, rfl⟩, hW, hsame.mono (by decide) (by decide)⟩
 · show SG p e below s₁ (mkF m 0 #[vJ q67, vS, vI p68] []) _
   refine XS.lloadN X0.here hx rfl (hb hby d40_0) rfl ?_
   show SG p e below s₁ (mkF m 1 #[vJ q67, vS, vI p68] [(.long q67)]) _
   refine XS.iloadN X0.here hx rfl (hb hby d40_1) rfl ?_
   show SG p e below s₁ (mkF m 2 #[vJ q67, vS, vI p68] [(.int p68), (.long q67)]) _
   refine st113 _ ?_
   show SG p e below T113 (mkF m 5 #[vJ q67, vS, vI p68] [(.long q114), (.long q67)]) _
   refine XS.ldiv X113.here hx rfl (hb hby d40_5) rfl H3 ?_
   show SG p e below T113 (mkF m 6 #[vJ q67, vS, vI p68] [(.long (q67 / q114))]) _
   refine XS.lconst X113.here hx rfl (hb hby d40_6) ?_
   show SG p e below T113 (mkF m 7 #[vJ q67, vS, vI p68] [(.long (0 : Int64)), (.long (q67 / q114))]) _
   refine XS.lcmp X113.here hx rfl (hb hby d40_7) rfl ?_
   show SG p e below T113 (mkF m 8 #[vJ q67, vS, vI p68] [(.int (lcmpW (q67 / q114) (0 : Int64)))]) _
   refine XS.ifNo X113.here hx rfl (hb hby d40_8) rfl ((if0 _ _).trans (feq H4).1) ?_
   show SG p e below T113 (mkF m 11 #[vJ q67, vS, vI p68] []) _
   refine XS.iconst X113.here hx rfl (hb hby d40_11) ?_
   show SG p e below T113 (mkF m 12 #[vJ q67, vS, vI p68] [(.int (1 : Int32))]) _
   refine XS.goto X113.here hx rfl (pc0 := 12) (pc' := 16) rfl (hb hby d40_12) (by decide) (by decide) ?_
   show SG p e below T113 (mkF m 16 #[vJ q67, vS, vI p68] [(.int (1 : Int32))]) _
   exact retI X113 hx Bd.returns (hb hby d40_16) hr
 · show Qr40_1 Z q67 p68 q114 h0 n0 _ T113.heap _
   exact ⟨N113, b113_0, k113_0, rfl, (Nat.le_trans (KSx.refl h0 [] []).1 ge_b113_0), KC113, o113_0⟩
theorem d40_15 : decode method_5_code 15 = .ok (.iconst 0, 1) := by decide +kernel
def Qr40_2 (Z : State) (q115 : Int64) (p116 : Int32) (q162 : Int64) (h0 : Heap) (n0 : Nat) (v : Option Value) (h : Heap) (L : List Loc) : Prop := Fr n0 L ∧ ∃ b161_0 : Addr, ∃ k161_0 : ClassId, v = some (.int (0 : Int32)) ∧ h0.size ≤ b161_0 ∧ KSx h0 h [] [] ∧ Arv Z h b161_0 k161_0 .long (19 : Int32) [(.long (1 : Int64)), (.long (10 : Int64)), (.long (100 : Int64)), (.long (1000 : Int64)), (.long (10000 : Int64)), (.long (100000 : Int64)), (.long (1000000 : Int64)), (.long (10000000 : Int64)), (.long (100000000 : Int64)), (.long (1000000000 : Int64)), (.long (10000000000 : Int64)), (.long (100000000000 : Int64)), (.long (1000000000000 : Int64)), (.long (10000000000000 : Int64)), (.long (100000000000000 : Int64)), (.long (1000000000000000 : Int64)), (.long (10000000000000000 : Int64)), (.long (100000000000000000 : Int64)), (.long (1000000000000000000 : Int64))] (.long (0 : Int64))
theorem r40_2 (l : Launch) (Z : State) (a0 : Array Value) (hw : ∀ d ∈ tables_1, d.before a0 Z = true) (q115 : Int64) (p116 : Int32) (q162 : Int64) (h0 : Heap) (n0 : Nat) (Z0 : n0 ≤ h0.size) (H0 : ¬ (p116 < (0 : Int32))) (H1 : p116 < (19 : Int32)) (H2 : ([(.long (1 : Int64)), (.long (10 : Int64)), (.long (100 : Int64)), (.long (1000 : Int64)), (.long (10000 : Int64)), (.long (100000 : Int64)), (.long (1000000 : Int64)), (.long (10000000 : Int64)), (.long (100000000 : Int64)), (.long (1000000000 : Int64)), (.long (10000000000 : Int64)), (.long (100000000000 : Int64)), (.long (1000000000000 : Int64)), (.long (10000000000000 : Int64)), (.long (100000000000000 : Int64)), (.long (1000000000000000 : Int64)), (.long (10000000000000000 : Int64)), (.long (100000000000000000 : Int64)), (.long (1000000000000000000 : Int64))] : List Value).getD (p116).toNatClampNeg (.long (0 : Int64)) = (.long q162)) (H3 : ¬ (q162 = (0 : Int64))) (H4 : (lcmpW (q115 / q162) (0 : Int64)) = (0 : Int32)) :
   OMet l Z mN8 method_5_code 3 (some .int) [] ({ frames := 1, cells := 1, slots := 19, locals := 15 } : Room) h0 #[(.long q115), (.int p116)] (Qr40_2 Z q115 p116 q162 h0 n0) := by
 refine MetFree.of_bodySF (plainFor_of_name pn_com_example_eta4_eta4_bench_FillFiguresLinesPinLaw) hisR ?_
 intro p e s m args below meth c s₁ Bd hml0 hP hK
 obtain ⟨rfl, hZ, hh⟩ := hP
 have hx := Bd.exec
 have hby := Bd.bytes
 have hml : c.maxLocals = 3 := hml0
 have hown : s.vm.findClass "com/example/eta4/eta4/bench/FillFiguresLinesPinLaw" = some m.cls := findClass_of_methodNamed Bd.named
 have hnm := (name_of_methodNamed Bd.named Bd.method).1
 have X0 : Stand p l e ({ frames := 1, cells := 1, slots := 19, locals := 15 } : Room) s m #[(.long q115), (.int p116)] below meth c s₁ [] 0 0 := Stand.of_body Bd
 have e0 : s₁.heap = h0 := by rw [← hh, Bd.state]; rfl
 have N0 := Fr.nil n0
 have pre0 : ∀ t, Steps p.tables e below (s₁.setTop (mkF m 0 #[vJ q115, vS, vI p116] [])) t → Steps p.tables e below (s₁.setTop (entryFrame m #[(.long q115), (.int p116)] 3)) t := fun t k => castTop (ef_40_vv m q115 p116) k
 obtain ⟨_, _, ⟨T161, L161, k161, n161⟩, -, X161, ⟨Lc161, hQ161, l161, y161, z161⟩, st161⟩ := Jvm.LawKit.callS X0 hx (y := mN7) hown (mvT hZ (tw hw 238 rfl)) (mvT hZ (tw hw 239 rfl)) (mvT hZ (tw hw 229 rfl)) (mvT hZ (tw hw 240 rfl)) (by decide) (backOf (W := 2) (r41_1 l Z a0 hw p116 q162 h0 n0 Z0 H0 H1 H2) hZ (tw hw 240 rfl) (tw hw 229 rfl) (by decide) (by decide)) (g := (mkF m 2 #[vJ q115, vS, vI p116] [(.int p116), (.long q115)])) rfl (by rw [hml]; rfl) (argsL := [(.int p116)]) (rest := [(.long q115)]) (lenOf pd_4 rfl) rfl (own_w _) (hb hby d40_2) (fun _ _ => ⟨rfl, e0, (by decide : 0 + 1 ≤ _), (by decide : 0 + 19 ≤ _)⟩)
 dsimp only [Pt.U, Pt.locs, Pt.cells, Pt.slots] at X161 l161 y161 z161 st161 hQ161
 replace X161 := own_mvX X161 (a := 1) (b := 19) y161 z161
 obtain ⟨N161q, b161_0, k161_0, rfl, ge_b161_0, K161, o161_0⟩ := hQ161
 have N161 := own_mvN l161 N0 N161q
 have KC161 := KSx.trans (KSx.refl h0 [] []) K161 ks0 all0
 obtain ⟨fs, hr, hrun, hended, hW, hsame⟩ := X161.leave (v := some (.int (0 : Int32))) (fun h => by rw [Bd.returns] at h; cases h)
 refine ⟨_, _, pre0 _ ?_, hrun, hended, _, _, rfl, ?_, ⟨_, rfl⟩, hW, hsame.mono (by decide) (by decide)⟩
 · show SG p e below s₁ (mkF m 0 #[vJ q115, vS, vI p116] []) _
   refine XS.lloadN X0.here hx rfl (hb hby d40_0) rfl ?_
   show SG p e below s₁ (mkF m 1 #[vJ q115, vS, vI p116] [(.long q115)]) _
   refine XS.iloadN X0.here hx rfl (hb hby d40_1) rfl ?_
   show SG p e below s₁ (mkF m 2 #[vJ q115, vS, vI p116] [(.int p116), (.long q115)]) _
   refine st161 _ ?_
   show SG p e below T161 (mkF m 5 #[vJ q115, vS, vI p116] [(.long q162), (.long q115)]) _
   refine XS.ldiv X161.here hx rfl (hb hby d40_5) rfl H3 ?_
   show SG p e below T161 (mkF m 6 #[vJ q115, vS, vI p116] [(.long (q115 / q162))]) _
   refine XS.lconst X161.here hx rfl (hb hby d40_6) ?_
   show SG p e below T161 (mkF m 7 #[vJ q115, vS, vI p116] [(.long (0 : Int64)), (.long (q115 / q162))]) _
   refine XS.lcmp X161.here hx rfl (hb hby d40_7) rfl ?_
   show SG p e below T161 (mkF m 8 #[vJ q115, vS, vI p116] [(.int (lcmpW (q115 / q162) (0 : Int64)))]) _
   refine XS.ifYes X161.here hx rfl (pc0 := 8) (pc' := 15) rfl (hb hby d40_8) rfl ((if0 _ _).trans (teq H4).1) (by decide) (by decide) ?_
   show SG p e below T161 (mkF m 15 #[vJ q115, vS, vI p116] []) _
   refine XS.iconst X161.here hx rfl (hb hby d40_15) ?_
   show SG p e below T161 (mkF m 16 #[vJ q115, vS, vI p116] [(.int (0 : Int32))]) _
   exact retI X161 hx Bd.returns (hb hby d40_16) hr
 · show Qr40_2 Z q115 p116 q162 h0 n0 _ T161.heap _
   exact ⟨N161, b161_0, k161_0, rfl, (Nat.le_trans (KSx.refl h0 [] []).1 ge_b161_0), KC161, o161_0⟩
theorem own_mr (l : Launch) (Z : State) (a0 : Array Value) (hw : ∀ d ∈ tables_1, d.before a0 Z = true) (v : Int64) (K : Nat) (h0 : Heap) (n0 : Nat) (Z0 : n0 ≤ h0.size) (hK : K < 19) :
   OMet l Z mN8 method_5_code 3 (some .int) [] ({ frames := 1, cells := 1, slots := 19, locals := 15 } : Room) h0 #[(.long v), (.int (Int32.ofNat K))] (OQk (some (.int (Int32.ofNat (omr v K)))) h0 n0) := by
 by_cases hm : 10 ^ K ≤ v.toInt.natAbs
 · rw [show omr v K = 1 from if_pos hm]
   refine own_imp (r40_1 l Z a0 hw v (Int32.ofNat K) (Int64.ofNat (10 ^ K)) h0 n0 Z0 (own_n0 (by omega)) ((own_lt (b := 19) (by omega) (by decide)).mpr hK) (by rw [own_cl (by omega)]; exact own_ten ⟨K, hK⟩) (own_ten0 ⟨K, hK⟩) (own_mr1 hK hm)) fun v h L q => ?_
   obtain ⟨N, _, _, e, _, K, _⟩ := q
   exact ⟨N, e, K⟩
 · rw [show omr v K = 0 from if_neg hm]
   refine own_imp (r40_2 l Z a0 hw v (Int32.ofNat K) (Int64.ofNat (10 ^ K)) h0 n0 Z0 (own_n0 (by omega)) ((own_lt (b := 19) (by omega) (by decide)).mpr hK) (by rw [own_cl (by omega)]; exact own_ten ⟨K, hK⟩) (own_ten0 ⟨K, hK⟩) (own_mr0 hK hm)) fun v h L q => ?_
   obtain ⟨N, _, _, e, _, K, _⟩ := q
   exact ⟨N, e, K⟩
theorem d39_0 : decode method_6_code 0 = .ok (.iconst 1, 1) := by decide +kernel
theorem d39_1 : decode method_6_code 1 = .ok (.lload_n 0, 1) := by decide +kernel
theorem d39_2 : decode method_6_code 2 = .ok (.iconst 1, 1) := by decide +kernel
theorem d39_3 : decode method_6_code 3 = .ok (.invokestatic 94, 3) := by decide +kernel
theorem pd_5 : parseMethodDescriptor "(JI)I" = some ⟨[.long, .int], some .int⟩ := by decide +kernel
theorem d39_6 : decode method_6_code 6 = .ok (.iadd, 1) := by decide +kernel
theorem d39_7 : decode method_6_code 7 = .ok (.lload_n 0, 1) := by decide +kernel
theorem d39_8 : decode method_6_code 8 = .ok (.iconst 2, 1) := by decide +kernel
theorem d39_9 : decode method_6_code 9 = .ok (.invokestatic 94, 3) := by decide +kernel
theorem d39_12 : decode method_6_code 12 = .ok (.iadd, 1) := by decide +kernel
theorem d39_13 : decode method_6_code 13 = .ok (.lload_n 0, 1) := by decide +kernel
theorem d39_14 : decode method_6_code 14 = .ok (.iconst 3, 1) := by decide +kernel
theorem d39_15 : decode method_6_code 15 = .ok (.invokestatic 94, 3) := by decide +kernel
theorem d39_18 : decode method_6_code 18 = .ok (.iadd, 1) := by decide +kernel
theorem d39_19 : decode method_6_code 19 = .ok (.lload_n 0, 1) := by decide +kernel
theorem d39_20 : decode method_6_code 20 = .ok (.iconst 4, 1) := by decide +kernel
theorem d39_21 : decode method_6_code 21 = .ok (.invokestatic 94, 3) := by decide +kernel
theorem d39_24 : decode method_6_code 24 = .ok (.iadd, 1) := by decide +kernel
theorem d39_25 : decode method_6_code 25 = .ok (.lload_n 0, 1) := by decide +kernel
theorem d39_26 : decode method_6_code 26 = .ok (.iconst 5, 1) := by decide +kernel
theorem d39_27 : decode method_6_code 27 = .ok (.invokestatic 94, 3) := by decide +kernel
theorem d39_30 : decode method_6_code 30 = .ok (.iadd, 1) := by decide +kernel
theorem d39_31 : decode method_6_code 31 = .ok (.lload_n 0, 1) := by decide +kernel
theorem d39_32 : decode method_6_code 32 = .ok (.bipush 6, 2) := by decide +kernel
theorem d39_34 : decode method_6_code 34 = .ok (.invokestatic 94, 3) := by decide +kernel
theorem d39_37 : decode method_6_code 37 = .ok (.iadd, 1) := by decide +kernel
theorem d39_38 : decode method_6_code 38 = .ok (.lload_n 0, 1) := by decide +kernel
theorem d39_39 : decode method_6_code 39 = .ok (.bipush 7, 2) := by decide +kernel
theorem d39_41 : decode method_6_code 41 = .ok (.invokestatic 94, 3) := by decide +kernel
theorem d39_44 : decode method_6_code 44 = .ok (.iadd, 1) := by decide +kernel
theorem d39_45 : decode method_6_code 45 = .ok (.lload_n 0, 1) := by decide +kernel
theorem d39_46 : decode method_6_code 46 = .ok (.bipush 8, 2) := by decide +kernel
theorem d39_48 : decode method_6_code 48 = .ok (.invokestatic 94, 3) := by decide +kernel
theorem d39_51 : decode method_6_code 51 = .ok (.iadd, 1) := by decide +kernel
theorem d39_52 : decode method_6_code 52 = .ok (.lload_n 0, 1) := by decide +kernel
theorem d39_53 : decode method_6_code 53 = .ok (.bipush 9, 2) := by decide +kernel
theorem d39_55 : decode method_6_code 55 = .ok (.invokestatic 94, 3) := by decide +kernel
theorem d39_58 : decode method_6_code 58 = .ok (.iadd, 1) := by decide +kernel
theorem d39_59 : decode method_6_code 59 = .ok (.lload_n 0, 1) := by decide +kernel
theorem d39_60 : decode method_6_code 60 = .ok (.bipush 10, 2) := by decide +kernel
theorem d39_62 : decode method_6_code 62 = .ok (.invokestatic 94, 3) := by decide +kernel
theorem d39_65 : decode method_6_code 65 = .ok (.iadd, 1) := by decide +kernel
theorem d39_66 : decode method_6_code 66 = .ok (.lload_n 0, 1) := by decide +kernel
theorem d39_67 : decode method_6_code 67 = .ok (.bipush 11, 2) := by decide +kernel
theorem d39_69 : decode method_6_code 69 = .ok (.invokestatic 94, 3) := by decide +kernel
theorem d39_72 : decode method_6_code 72 = .ok (.iadd, 1) := by decide +kernel
theorem d39_73 : decode method_6_code 73 = .ok (.lload_n 0, 1) := by decide +kernel
theorem d39_74 : decode method_6_code 74 = .ok (.bipush 12, 2) := by decide +kernel
theorem d39_76 : decode method_6_code 76 = .ok (.invokestatic 94, 3) := by decide +kernel
theorem d39_79 : decode method_6_code 79 = .ok (.iadd, 1) := by decide +kernel
theorem d39_80 : decode method_6_code 80 = .ok (.lload_n 0, 1) := by decide +kernel
theorem d39_81 : decode method_6_code 81 = .ok (.bipush 13, 2) := by decide +kernel
theorem d39_83 : decode method_6_code 83 = .ok (.invokestatic 94, 3) := by decide +kernel
theorem d39_86 : decode method_6_code 86 = .ok (.iadd, 1) := by decide +kernel
theorem d39_87 : decode method_6_code 87 = .ok (.lload_n 0, 1) := by decide +kernel
theorem d39_88 : decode method_6_code 88 = .ok (.bipush 14, 2) := by decide +kernel
theorem d39_90 : decode method_6_code 90 = .ok (.invokestatic 94, 3) := by decide +kernel
theorem d39_93 : decode method_6_code 93 = .ok (.iadd, 1) := by decide +kernel
theorem d39_94 : decode method_6_code 94 = .ok (.lload_n 0, 1) := by decide +kernel
theorem d39_95 : decode method_6_code 95 = .ok (.bipush 15, 2) := by decide +kernel
theorem d39_97 : decode method_6_code 97 = .ok (.invokestatic 94, 3) := by decide +kernel
theorem d39_100 : decode method_6_code 100 = .ok (.iadd, 1) := by decide +kernel
theorem d39_101 : decode method_6_code 101 = .ok (.lload_n 0, 1) := by decide +kernel
theorem d39_102 : decode method_6_code 102 = .ok (.bipush 16, 2) := by decide +kernel
theorem d39_104 : decode method_6_code 104 = .ok (.invokestatic 94, 3) := by decide +kernel
theorem d39_107 : decode method_6_code 107 = .ok (.iadd, 1) := by decide +kernel
theorem d39_108 : decode method_6_code 108 = .ok (.lload_n 0, 1) := by decide +kernel
theorem d39_109 : decode method_6_code 109 = .ok (.bipush 17, 2) := by decide +kernel
theorem d39_111 : decode method_6_code 111 = .ok (.invokestatic 94, 3) := by decide +kernel
theorem d39_114 : decode method_6_code 114 = .ok (.iadd, 1) := by decide +kernel
theorem d39_115 : decode method_6_code 115 = .ok (.lload_n 0, 1) := by decide +kernel
theorem d39_116 : decode method_6_code 116 = .ok (.bipush 18, 2) := by decide +kernel
theorem d39_118 : decode method_6_code 118 = .ok (.invokestatic 94, 3) := by decide +kernel
theorem d39_121 : decode method_6_code 121 = .ok (.iadd, 1) := by decide +kernel
theorem d39_122 : decode method_6_code 122 = .ok (.ireturn, 1) := by decide +kernel
theorem ef_39_v (m : MethodId) (x0 : Int64) : entryFrame m #[(.long x0)] 2 = mkF m 0 #[.val (.long x0), .second] [] := by first | (simp [entryFrame, mkF, argsToLocals, Value.category]; done) | rfl
def Qr39_1 (Z : State) (q163 : Int64) (h0 : Heap) (n0 : Nat) (v : Option Value) (h : Heap) (L : List Loc) : Prop := Fr n0 L ∧ v = some (.int (((((((((((((((((((1 : Int32) + (Int32.ofNat (omr q163 1))) + (Int32.ofNat (omr q163 2))) + (Int32.ofNat (omr q163 3))) + (Int32.ofNat (omr q163 4))) + (Int32.ofNat (omr q163 5))) + (Int32.ofNat (omr q163 6))) + (Int32.ofNat (omr q163 7))) + (Int32.ofNat (omr q163 8))) + (Int32.ofNat (omr q163 9))) + (Int32.ofNat (omr q163 10))) + (Int32.ofNat (omr q163 11))) + (Int32.ofNat (omr q163 12))) + (Int32.ofNat (omr q163 13))) + (Int32.ofNat (omr q163 14))) + (Int32.ofNat (omr q163 15))) + (Int32.ofNat (omr q163 16))) + (Int32.ofNat (omr q163 17))) + (Int32.ofNat (omr q163 18)))) ∧ KSx h0 h [] []
theorem r39_1 (l : Launch) (Z : State) (a0 : Array Value) (hw : ∀ d ∈ tables_1, d.before a0 Z = true) (q163 : Int64) (h0 : Heap) (n0 : Nat) (Z0 : n0 ≤ h0.size) :
   OMet l Z mN9 method_6_code 2 (some .int) [] ({ frames := 2, cells := 18, slots := 342, locals := 30 } : Room) h0 #[(.long q163)] (Qr39_1 Z q163 h0 n0) := by
 refine MetFree.of_bodySF (plainFor_of_name pn_com_example_eta4_eta4_bench_FillFiguresLinesPinLaw) hisR ?_
 intro p e s m args below meth c s₁ Bd hml0 hP hK
 obtain ⟨rfl, hZ, hh⟩ := hP
 have hx := Bd.exec
 have hby := Bd.bytes
 have hml : c.maxLocals = 2 := hml0
 have hown : s.vm.findClass "com/example/eta4/eta4/bench/FillFiguresLinesPinLaw" = some m.cls := findClass_of_methodNamed Bd.named
 have hnm := (name_of_methodNamed Bd.named Bd.method).1
 have X0 : Stand p l e ({ frames := 2, cells := 18, slots := 342, locals := 30 } : Room) s m #[(.long q163)] below meth c s₁ [] 0 0 := Stand.of_body Bd
 have e0 : s₁.heap = h0 := by rw [← hh, Bd.state]; rfl
 have N0 := Fr.nil n0
 have pre0 : ∀ t, Steps p.tables e below (s₁.setTop (mkF m 0 #[vJ q163, vS] [])) t → Steps p.tables e below (s₁.setTop (entryFrame m #[(.long q163)] 2)) t := fun t k => castTop (ef_39_v m q163) k
 obtain ⟨_, _, ⟨T164, L164, k164, n164⟩, -, X164, ⟨Lc164, hQ164, l164, y164, z164⟩, st164⟩ := Jvm.LawKit.callS X0 hx (y := mN8) hown (mvT hZ (tw hw 235 rfl)) (mvT hZ (tw hw 236 rfl)) (mvT hZ (tw hw 229 rfl)) (mvT hZ (tw hw 237 rfl)) (by decide) (backOf (W := 1) (own_mr l Z a0 hw q163 1 h0 n0 Z0 (by decide)) hZ (tw hw 237 rfl) (tw hw 229 rfl) (by decide) (by decide)) (g := (mkF m 3 #[vJ q163, vS] [(.int (1 : Int32)), (.long q163), (.int (1 : Int32))])) rfl (by rw [hml]; rfl) (argsL := [(.long q163), (.int (1 : Int32))]) (rest := [(.int (1 : Int32))]) (lenOf pd_5 rfl) rfl (own_w _) (hb hby d39_3) (fun _ _ => ⟨rfl, e0, (by decide : 0 + 1 ≤ _), (by decide : 0 + 19 ≤ _)⟩)
 dsimp only [Pt.U, Pt.locs, Pt.cells, Pt.slots] at X164 l164 y164 z164 st164 hQ164
 replace X164 := own_mvX X164 (a := 1) (b := 19) y164 z164
 obtain ⟨N164q, rfl, K164⟩ := hQ164
 have N164 := own_mvN l164 N0 N164q
 have KC164 := KSx.trans (KSx.refl h0 [] []) K164 ks0 all0
 have Z164 : n0 ≤ T164.heap.size := Nat.le_trans Z0 K164.1
 obtain ⟨_, _, ⟨T165, L165, k165, n165⟩, -, X165, ⟨Lc165, hQ165, l165, y165, z165⟩, st165⟩ := Jvm.LawKit.callS X164 hx (y := mN8) hown (mvT hZ (tw hw 235 rfl)) (mvT hZ (tw hw 236 rfl)) (mvT hZ (tw hw 229 rfl)) (mvT hZ (tw hw 237 rfl)) (by decide) (backOf (W := 1) (own_mr l Z a0 hw q163 2 T164.heap n0 Z164 (by decide)) hZ (tw hw 237 rfl) (tw hw 229 rfl) (by decide) (by decide)) (g := (mkF m 9 #[vJ q163, vS] [(.int (2 : Int32)), (.long q163), (.int ((1 : Int32) + (Int32.ofNat (omr q163 1))))])) rfl (by rw [hml]; rfl) (argsL := [(.long q163), (.int (2 : Int32))]) (rest := [(.int ((1 : Int32) + (Int32.ofNat (omr q163 1))))]) (lenOf pd_5 rfl) rfl (own_w _) (hb hby d39_9) (fun _ _ => ⟨rfl, rfl, (by decide : 1 + 1 ≤ _), (by decide : 19 + 19 ≤ _)⟩)
 dsimp only [Pt.U, Pt.locs, Pt.cells, Pt.slots] at X165 l165 y165 z165 st165 hQ165
 replace X165 := own_mvX X165 (a := 2) (b := 38) y165 z165
 obtain ⟨N165q, rfl, K165⟩ := hQ165
 have N165 := own_mvN l165 N164 N165q
 have KC165 := KSx.trans KC164 K165 ks0 all0
 have Z165 : n0 ≤ T165.heap.size := Nat.le_trans Z164 K165.1
 obtain ⟨_, _, ⟨T166, L166, k166, n166⟩, -, X166, ⟨Lc166, hQ166, l166, y166, z166⟩, st166⟩ := Jvm.LawKit.callS X165 hx (y := mN8) hown (mvT hZ (tw hw 235 rfl)) (mvT hZ (tw hw 236 rfl)) (mvT hZ (tw hw 229 rfl)) (mvT hZ (tw hw 237 rfl)) (by decide) (backOf (W := 1) (own_mr l Z a0 hw q163 3 T165.heap n0 Z165 (by decide)) hZ (tw hw 237 rfl) (tw hw 229 rfl) (by decide) (by decide)) (g := (mkF m 15 #[vJ q163, vS] [(.int (3 : Int32)), (.long q163), (.int (((1 : Int32) + (Int32.ofNat (omr q163 1))) + (Int32.ofNat (omr q163 2))))])) rfl (by rw [hml]; rfl) (argsL := [(.long q163), (.int (3 : Int32))]) (rest := [(.int (((1 : Int32) + (Int32.ofNat (omr q163 1))) + (Int32.ofNat (omr q163 2))))]) (lenOf pd_5 rfl) rfl (own_w _) (hb hby d39_15) (fun _ _ => ⟨rfl, rfl, (by decide : 2 + 1 ≤ _), (by decide : 38 + 19 ≤ _)⟩)
 dsimp only [Pt.U, Pt.locs, Pt.cells, Pt.slots] at X166 l166 y166 z166 st166 hQ166
 replace X166 := own_mvX X166 (a := 3) (b := 57) y166 z166
 obtain ⟨N166q, rfl, K166⟩ := hQ166
 have N166 := own_mvN l166 N165 N166q
 have KC166 := KSx.trans KC165 K166 ks0 all0
 have Z166 : n0 ≤ T166.heap.size := Nat.le_trans Z165 K166.1
 obtain ⟨_, _, ⟨T167, L167, k167, n167⟩, -, X167, ⟨Lc167, hQ167, l167, y167, z167⟩, st167⟩ := Jvm.LawKit.callS X166 hx (y := mN8) hown (mvT hZ (tw hw 235 rfl)) (mvT hZ (tw hw 236 rfl)) (mvT hZ (tw hw 229 rfl)) (mvT hZ (tw hw 237 rfl)) (by decide) (backOf (W := 1) (own_mr l Z a0 hw q163 4 T166.heap n0 Z166 (by decide)) hZ (tw hw 237 rfl) (tw hw 229 rfl) (by decide) (by decide)) (g := (mkF m 21 #[vJ q163, vS] [(.int (4 : Int32)), (.long q163), (.int ((((1 : Int32) + (Int32.ofNat (omr q163 1))) + (Int32.ofNat (omr q163 2))) + (Int32.ofNat (omr q163 3))))])) rfl (by rw [hml]; rfl) (argsL := [(.long q163), (.int (4 : Int32))]) (rest := [(.int ((((1 : Int32) + (Int32.ofNat (omr q163 1))) + (Int32.ofNat (omr q163 2))) + (Int32.ofNat (omr q163 3))))]) (lenOf pd_5 rfl) rfl (own_w _) (hb hby d39_21) (fun _ _ => ⟨rfl, rfl, (by decide : 3 + 1 ≤ _), (by decide : 57 + 19 ≤ _)⟩)
 dsimp only [Pt.U, Pt.locs, Pt.cells, Pt.slots] at X167 l167 y167 z167 st167 hQ167
 replace X167 := own_mvX X167 (a := 4) (b := 76) y167 z167
 obtain ⟨N167q, rfl, K167⟩ := hQ167
 have N167 := own_mvN l167 N166 N167q
 have KC167 := KSx.trans KC166 K167 ks0 all0
 have Z167 : n0 ≤ T167.heap.size := Nat.le_trans Z166 K167.1
 obtain ⟨_, _, ⟨T168, L168, k168, n168⟩, -, X168, ⟨Lc168, hQ168, l168, y168, z168⟩, st168⟩ := Jvm.LawKit.callS X167 hx (y := mN8) hown (mvT hZ (tw hw 235 rfl)) (mvT hZ (tw hw 236 rfl)) (mvT hZ (tw hw 229 rfl)) (mvT hZ (tw hw 237 rfl)) (by decide) (backOf (W := 1) (own_mr l Z a0 hw q163 5 T167.heap n0 Z167 (by decide)) hZ (tw hw 237 rfl) (tw hw 229 rfl) (by decide) (by decide)) (g := (mkF m 27 #[vJ q163, vS] [(.int (5 : Int32)), (.long q163), (.int (((((1 : Int32) + (Int32.ofNat (omr q163 1))) + (Int32.ofNat (omr q163 2))) + (Int32.ofNat (omr q163 3))) + (Int32.ofNat (omr q163 4))))])) rfl (by rw [hml]; rfl) (argsL := [(.long q163), (.int (5 : Int32))]) (rest := [(.int (((((1 : Int32) + (Int32.ofNat (omr q163 1))) + (Int32.ofNat (omr q163 2))) + (Int32.ofNat (omr q163 3))) + (Int32.ofNat (omr q163 4))))]) (lenOf pd_5 rfl) rfl (own_w _) (hb hby d39_27) (fun _ _ => ⟨rfl, rfl, (by decide : 4 + 1 ≤ _), (by decide : 76 + 19 ≤ _)⟩)
 dsimp only [Pt.U, Pt.locs, Pt.cells, Pt.slots] at X168 l168 y168 z168 st168 hQ168
 replace X168 := own_mvX X168 (a := 5) (b := 95) y168 z168
 obtain ⟨N168q, rfl, K168⟩ := hQ168
 have N168 := own_mvN l168 N167 N168q
 have KC168 := KSx.trans KC167 K168 ks0 all0
 have Z168 : n0 ≤ T168.heap.size := Nat.le_trans Z167 K168.1
 obtain ⟨_, _, ⟨T169, L169, k169, n169⟩, -, X169, ⟨Lc169, hQ169, l169, y169, z169⟩, st169⟩ := Jvm.LawKit.callS X168 hx (y := mN8) hown (mvT hZ (tw hw 235 rfl)) (mvT hZ (tw hw 236 rfl)) (mvT hZ (tw hw 229 rfl)) (mvT hZ (tw hw 237 rfl)) (by decide) (backOf (W := 1) (own_mr l Z a0 hw q163 6 T168.heap n0 Z168 (by decide)) hZ (tw hw 237 rfl) (tw hw 229 rfl) (by decide) (by decide)) (g := (mkF m 34 #[vJ q163, vS] [(.int (6 : Int32)), (.long q163), (.int ((((((1 : Int32) + (Int32.ofNat (omr q163 1))) + (Int32.ofNat (omr q163 2))) + (Int32.ofNat (omr q163 3))) + (Int32.ofNat (omr q163 4))) + (Int32.ofNat (omr q163 5))))])) rfl (by rw [hml]; rfl) (argsL := [(.long q163), (.int (6 : Int32))]) (rest := [(.int ((((((1 : Int32) + (Int32.ofNat (omr q163 1))) + (Int32.ofNat (omr q163 2))) + (Int32.ofNat (omr q163 3))) + (Int32.ofNat (omr q163 4))) + (Int32.ofNat (omr q163 5))))]) (lenOf pd_5 rfl) rfl (own_w _) (hb hby d39_34) (fun _ _ => ⟨rfl, rfl, (by decide : 5 + 1 ≤ _), (by decide : 95 + 19 ≤ _)⟩)
 dsimp only [Pt.U, Pt.locs, Pt.cells, Pt.slots] at X169 l169 y169 z169 st169 hQ169
 replace X169 := own_mvX X169 (a := 6) (b := 114) y169 z169
 obtain ⟨N169q, rfl, K169⟩ := hQ169
 have N169 := own_mvN l169 N168 N169q
 have KC169 := KSx.trans KC168 K169 ks0 all0
 have Z169 : n0 ≤ T169.heap.size := Nat.le_trans Z168 K169.1
 obtain ⟨_, _, ⟨T170, L170, k170, n170⟩, -, X170, ⟨Lc170, hQ170, l170, y170, z170⟩, st170⟩ := Jvm.LawKit.callS X169 hx (y := mN8) hown (mvT hZ (tw hw 235 rfl)) (mvT hZ (tw hw 236 rfl)) (mvT hZ (tw hw 229 rfl)) (mvT hZ (tw hw 237 rfl)) (by decide) (backOf (W := 1) (own_mr l Z a0 hw q163 7 T169.heap n0 Z169 (by decide)) hZ (tw hw 237 rfl) (tw hw 229 rfl) (by decide) (by decide)) (g := (mkF m 41 #[vJ q163, vS] [(.int (7 : Int32)), (.long q163), (.int (((((((1 : Int32) + (Int32.ofNat (omr q163 1))) + (Int32.ofNat (omr q163 2))) + (Int32.ofNat (omr q163 3))) + (Int32.ofNat (omr q163 4))) + (Int32.ofNat (omr q163 5))) + (Int32.ofNat (omr q163 6))))])) rfl (by rw [hml]; rfl) (argsL := [(.long q163), (.int (7 : Int32))]) (rest := [(.int (((((((1 : Int32) + (Int32.ofNat (omr q163 1))) + (Int32.ofNat (omr q163 2))) + (Int32.ofNat (omr q163 3))) + (Int32.ofNat (omr q163 4))) + (Int32.ofNat (omr q163 5))) + (Int32.ofNat (omr q163 6))))]) (lenOf pd_5 rfl) rfl (own_w _) (hb hby d39_41) (fun _ _ => ⟨rfl, rfl, (by decide : 6 + 1 ≤ _), (by decide : 114 + 19 ≤ _)⟩)
 dsimp only [Pt.U, Pt.locs, Pt.cells, Pt.slots] at X170 l170 y170 z170 st170 hQ170
 replace X170 := own_mvX X170 (a := 7) (b := 133) y170 z170
 obtain ⟨N170q, rfl, K170⟩ := hQ170
 have N170 := own_mvN l170 N169 N170q
 have KC170 := KSx.trans KC169 K170 ks0 all0
 have Z170 : n0 ≤ T170.heap.size := Nat.le_trans Z169 K170.1
 obtain ⟨_, _, ⟨T171, L171, k171, n171⟩, -, X171, ⟨Lc171, hQ171, l171, y171, z171⟩, st171⟩ := Jvm.LawKit.callS X170 hx (y := mN8) hown (mvT hZ (tw hw 235 rfl)) (mvT hZ (tw hw 236 rfl)) (mvT hZ (tw hw 229 rfl)) (mvT hZ (tw hw 237 rfl)) (by decide) (backOf (W := 1) (own_mr l Z a0 hw q163 8 T170.heap n0 Z170 (by decide)) hZ (tw hw 237 rfl) (tw hw 229 rfl) (by decide) (by decide)) (g := (mkF m 48 #[vJ q163, vS] [(.int (8 : Int32)), (.long q163), (.int ((((((((1 : Int32) + (Int32.ofNat (omr q163 1))) + (Int32.ofNat (omr q163 2))) + (Int32.ofNat (omr q163 3))) + (Int32.ofNat (omr q163 4))) + (Int32.ofNat (omr q163 5))) + (Int32.ofNat (omr q163 6))) + (Int32.ofNat (omr q163 7))))])) rfl (by rw [hml]; rfl) (argsL := [(.long q163), (.int (8 : Int32))]) (rest := [(.int ((((((((1 : Int32) + (Int32.ofNat (omr q163 1))) + (Int32.ofNat (omr q163 2))) + (Int32.ofNat (omr q163 3))) + (Int32.ofNat (omr q163 4))) + (Int32.ofNat (omr q163 5))) + (Int32.ofNat (omr q163 6))) + (Int32.ofNat (omr q163 7))))]) (lenOf pd_5 rfl) rfl (own_w _) (hb hby d39_48) (fun _ _ => ⟨rfl, rfl, (by decide : 7 + 1 ≤ _), (by decide : 133 + 19 ≤ _)⟩)
 dsimp only [Pt.U, Pt.locs, Pt.cells, Pt.slots] at X171 l171 y171 z171 st171 hQ171
 replace X171 := own_mvX X171 (a := 8) (b := 152) y171 z171
 obtain ⟨N171q, rfl, K171⟩ := hQ171
 have N171 := own_mvN l171 N170 N171q
 have KC171 := KSx.trans KC170 K171 ks0 all0
 have Z171 : n0 ≤ T171.heap.size := Nat.le_trans Z170 K171.1
 obtain ⟨_, _, ⟨T172, L172, k172, n172⟩, -, X172, ⟨Lc172, hQ172, l172, y172, z172⟩, st172⟩ := Jvm.LawKit.callS X171 hx (y := mN8) hown (mvT hZ (tw hw 235 rfl)) (mvT hZ (tw hw 236 rfl)) (mvT hZ (tw hw 229 rfl)) (mvT hZ (tw hw 237 rfl)) (by decide) (backOf (W := 1) (own_mr l Z a0 hw q163 9 T171.heap n0 Z171 (by decide)) hZ (tw hw 237 rfl) (tw hw 229 rfl) (by decide) (by decide)) (g := (mkF m 55 #[vJ q163, vS] [(.int (9 : Int32)), (.long q163), (.int (((((((((1 : Int32) + (Int32.ofNat (omr q163 1))) + (Int32.ofNat (omr q163 2))) + (Int32.ofNat (omr q163 3))) + (Int32.ofNat (omr q163 4))) + (Int32.ofNat (omr q163 5))) + (Int32.ofNat (omr q163 6))) + (Int32.ofNat (omr q163 7))) + (Int32.ofNat (omr q163 8))))])) rfl (by rw [hml]; rfl) (argsL := [(.long q163), (.int (9 : Int32))]) (rest := [(.int (((((((((1 : Int32) + (Int32.ofNat (omr q163 1))) + (Int32.ofNat (omr q163 2))) + (Int32.ofNat (omr q163 3))) + (Int32.ofNat (omr q163 4))) + (Int32.ofNat (omr q163 5))) + (Int32.ofNat (omr q163 6))) + (Int32.ofNat (omr q163 7))) + (Int32.ofNat (omr q163 8))))]) (lenOf pd_5 rfl) rfl (own_w _) (hb hby d39_55) (fun _ _ => ⟨rfl, rfl, (by decide : 8 + 1 ≤ _), (by decide : 152 + 19 ≤ _)⟩)
 dsimp only [Pt.U, Pt.locs, Pt.cells, Pt.slots] at X172 l172 y172 z172 st172 hQ172
 replace X172 := own_mvX X172 (a := 9) (b := 171) y172 z172
 obtain ⟨N172q, rfl, K172⟩ := hQ172
 have N172 := own_mvN l172 N171 N172q
 have KC172 := KSx.trans KC171 K172 ks0 all0
 have Z172 : n0 ≤ T172.heap.size := Nat.le_trans Z171 K172.1
 obtain ⟨_, _, ⟨T173, L173, k173, n173⟩, -, X173, ⟨Lc173, hQ173, l173, y173, z173⟩, st173⟩ := Jvm.LawKit.callS X172 hx (y := mN8) hown (mvT hZ (tw hw 235 rfl)) (mvT hZ (tw hw 236 rfl)) (mvT hZ (tw hw 229 rfl)) (mvT hZ (tw hw 237 rfl)) (by decide) (backOf (W := 1) (own_mr l Z a0 hw q163 10 T172.heap n0 Z172 (by decide)) hZ (tw hw 237 rfl) (tw hw 229 rfl) (by decide) (by decide)) (g := (mkF m 62 #[vJ q163, vS] [(.int (10 : Int32)), (.long q163), (.int ((((((((((1 : Int32) + (Int32.ofNat (omr q163 1))) + (Int32.ofNat (omr q163 2))) + (Int32.ofNat (omr q163 3))) + (Int32.ofNat (omr q163 4))) + (Int32.ofNat (omr q163 5))) + (Int32.ofNat (omr q163 6))) + (Int32.ofNat (omr q163 7))) + (Int32.ofNat (omr q163 8))) + (Int32.ofNat (omr q163 9))))])) rfl (by rw [hml]; rfl) (argsL := [(.long q163), (.int (10 : Int32))]) (rest := [(.int ((((((((((1 : Int32) + (Int32.ofNat (omr q163 1))) + (Int32.ofNat (omr q163 2))) + (Int32.ofNat (omr q163 3))) + (Int32.ofNat (omr q163 4))) + (Int32.ofNat (omr q163 5))) + (Int32.ofNat (omr q163 6))) + (Int32.ofNat (omr q163 7))) + (Int32.ofNat (omr q163 8))) + (Int32.ofNat (omr q163 9))))]) (lenOf pd_5 rfl) rfl (own_w _) (hb hby d39_62) (fun _ _ => ⟨rfl, rfl, (by decide : 9 + 1 ≤ _), (by decide : 171 + 19 ≤ _)⟩)
 dsimp only [Pt.U, Pt.locs, Pt.cells, Pt.slots] at X173 l173 y173 z173 st173 hQ173
 replace X173 := own_mvX X173 (a := 10) (b := 190) y173 z173
 obtain ⟨N173q, rfl, K173⟩ := hQ173
 have N173 := own_mvN l173 N172 N173q
 have KC173 := KSx.trans KC172 K173 ks0 all0
 have Z173 : n0 ≤ T173.heap.size := Nat.le_trans Z172 K173.1
 obtain ⟨_, _, ⟨T174, L174, k174, n174⟩, -, X174, ⟨Lc174, hQ174, l174, y174, z174⟩, st174⟩ := Jvm.LawKit.callS X173 hx (y := mN8) hown (mvT hZ (tw hw 235 rfl)) (mvT hZ (tw hw 236 rfl)) (mvT hZ (tw hw 229 rfl)) (mvT hZ (tw hw 237 rfl)) (by decide) (backOf (W := 1) (own_mr l Z a0 hw q163 11 T173.heap n0 Z173 (by decide)) hZ (tw hw 237 rfl) (tw hw 229 rfl) (by decide) (by decide)) (g := (mkF m 69 #[vJ q163, vS] [(.int (11 : Int32)), (.long q163), (.int (((((((((((1 : Int32) + (Int32.ofNat (omr q163 1))) + (Int32.ofNat (omr q163 2))) + (Int32.ofNat (omr q163 3))) + (Int32.ofNat (omr q163 4))) + (Int32.ofNat (omr q163 5))) + (Int32.ofNat (omr q163 6))) + (Int32.ofNat (omr q163 7))) + (Int32.ofNat (omr q163 8))) + (Int32.ofNat (omr q163 9))) + (Int32.ofNat (omr q163 10))))])) rfl (by rw [hml]; rfl) (argsL := [(.long q163), (.int (11 : Int32))]) (rest := [(.int (((((((((((1 : Int32) + (Int32.ofNat (omr q163 1))) + (Int32.ofNat (omr q163 2))) + (Int32.ofNat (omr q163 3))) + (Int32.ofNat (omr q163 4))) + (Int32.ofNat (omr q163 5))) + (Int32.ofNat (omr q163 6))) + (Int32.ofNat (omr q163 7))) + (Int32.ofNat (omr q163 8))) + (Int32.ofNat (omr q163 9))) + (Int32.ofNat (omr q163 10))))]) (lenOf pd_5 rfl) rfl (own_w _) (hb hby d39_69) (fun _ _ => ⟨rfl, rfl, (by decide : 10 + 1 ≤ _), (by decide : 190 + 19 ≤ _)⟩)
 dsimp only [Pt.U, Pt.locs, Pt.cells, Pt.slots] at X174 l174 y174 z174 st174 hQ174
 replace X174 := own_mvX X174 (a := 11) (b := 209) y174 z174
 obtain ⟨N174q, rfl, K174⟩ := hQ174
 have N174 := own_mvN l174 N173 N174q
 have KC174 := KSx.trans KC173 K174 ks0 all0
 have Z174 : n0 ≤ T174.heap.size := Nat.le_trans Z173 K174.1
 obtain ⟨_, _, ⟨T175, L175, k175, n175⟩, -, X175, ⟨Lc175, hQ175, l175, y175, z175⟩, st175⟩ := Jvm.LawKit.callS X174 hx (y := mN8) hown (mvT hZ (tw hw 235 rfl)) (mvT hZ (tw hw 236 rfl)) (mvT hZ (tw hw 229 rfl)) (mvT hZ (tw hw 237 rfl)) (by decide) (backOf (W := 1) (own_mr l Z a0 hw q163 12 T174.heap n0 Z174 (by decide)) hZ (tw hw 237 rfl) (tw hw 229 rfl) (by decide) (by decide)) (g := (mkF m 76 #[vJ q163, vS] [(.int (12 : Int32)), (.long q163), (.int ((((((((((((1 : Int32) + (Int32.ofNat (omr q163 1))) + (Int32.ofNat (omr q163 2))) + (Int32.ofNat (omr q163 3))) + (Int32.ofNat (omr q163 4))) + (Int32.ofNat (omr q163 5))) + (Int32.ofNat (omr q163 6))) + (Int32.ofNat (omr q163 7))) + (Int32.ofNat (omr q163 8))) + (Int32.ofNat (omr q163 9))) + (Int32.ofNat (omr q163 10))) + (Int32.ofNat (omr q163 11))))])) rfl (by rw [hml]; rfl) (argsL := [(.long q163), (.int (12 : Int32))]) (rest := [(.int ((((((((((((1 : Int32) + (Int32.ofNat (omr q163 1))) + (Int32.ofNat (omr q163 2))) + (Int32.ofNat (omr q163 3))) + (Int32.ofNat (omr q163 4))) + (Int32.ofNat (omr q163 5))) + (Int32.ofNat (omr q163 6))) + (Int32.ofNat (omr q163 7))) + (Int32.ofNat (omr q163 8))) + (Int32.ofNat (omr q163 9))) + (Int32.ofNat (omr q163 10))) + (Int32.ofNat (omr q163 11))))]) (lenOf pd_5 rfl) rfl (own_w _) (hb hby d39_76) (fun _ _ => ⟨rfl, rfl, (by decide : 11 + 1 ≤ _), (by decide : 209 + 19 ≤ _)⟩)
 dsimp only [Pt.U, Pt.locs, Pt.cells, Pt.slots] at X175 l175 y175 z175 st175 hQ175
 replace X175 := own_mvX X175 (a := 12) (b := 228) y175 z175
 obtain ⟨N175q, rfl, K175⟩ := hQ175
 have N175 := own_mvN l175 N174 N175q
 have KC175 := KSx.trans KC174 K175 ks0 all0
 have Z175 : n0 ≤ T175.heap.size := Nat.le_trans Z174 K175.1
 obtain ⟨_, _, ⟨T176, L176, k176, n176⟩, -, X176, ⟨Lc176, hQ176, l176, y176, z176⟩, st176⟩ := Jvm.LawKit.callS X175 hx (y := mN8) hown (mvT hZ (tw hw 235 rfl)) (mvT hZ (tw hw 236 rfl)) (mvT hZ (tw hw 229 rfl)) (mvT hZ (tw hw 237 rfl)) (by decide) (backOf (W := 1) (own_mr l Z a0 hw q163 13 T175.heap n0 Z175 (by decide)) hZ (tw hw 237 rfl) (tw hw 229 rfl) (by decide) (by decide)) (g := (mkF m 83 #[vJ q163, vS] [(.int (13 : Int32)), (.long q163), (.int (((((((((((((1 : Int32) + (Int32.ofNat (omr q163 1))) + (Int32.ofNat (omr q163 2))) + (Int32.ofNat (omr q163 3))) + (Int32.ofNat (omr q163 4))) + (Int32.ofNat (omr q163 5))) + (Int32.ofNat (omr q163 6))) + (Int32.ofNat (omr q163 7))) + (Int32.ofNat (omr q163 8))) + (Int32.ofNat (omr q163 9))) + (Int32.ofNat (omr q163 10))) + (Int32.ofNat (omr q163 11))) + (Int32.ofNat (omr q163 12))))])) rfl (by rw [hml]; rfl) (argsL := [(.long q163), (.int (13 : Int32))]) (rest := [(.int (((((((((((((1 : Int32) + (Int32.ofNat (omr q163 1))) + (Int32.ofNat (omr q163 2))) + (Int32.ofNat (omr q163 3))) + (Int32.ofNat (omr q163 4))) + (Int32.ofNat (omr q163 5))) + (Int32.ofNat (omr q163 6))) + (Int32.ofNat (omr q163 7))) + (Int32.ofNat (omr q163 8))) + (Int32.ofNat (omr q163 9))) + (Int32.ofNat (omr q163 10))) + (Int32.ofNat (omr q163 11))) + (Int32.ofNat (omr q163 12))))]) (lenOf pd_5 rfl) rfl (own_w _) (hb hby d39_83) (fun _ _ => ⟨rfl, rfl, (by decide : 12 + 1 ≤ _), (by decide : 228 + 19 ≤ _)⟩)
 dsimp only [Pt.U, Pt.locs, Pt.cells, Pt.slots] at X176 l176 y176 z176 st176 hQ176
 replace X176 := own_mvX X176 (a := 13) (b := 247) y176 z176
 obtain ⟨N176q, rfl, K176⟩ := hQ176
 have N176 := own_mvN l176 N175 N176q
 have KC176 := KSx.trans KC175 K176 ks0 all0
 have Z176 : n0 ≤ T176.heap.size := Nat.le_trans Z175 K176.1
 obtain ⟨_, _, ⟨T177, L177, k177, n177⟩, -, X177, ⟨Lc177, hQ177, l177, y177, z177⟩, st177⟩ := Jvm.LawKit.callS X176 hx (y := mN8) hown (mvT hZ (tw hw 235 rfl)) (mvT hZ (tw hw 236 rfl)) (mvT hZ (tw hw 229 rfl)) (mvT hZ (tw hw 237 rfl)) (by decide) (backOf (W := 1) (own_mr l Z a0 hw q163 14 T176.heap n0 Z176 (by decide)) hZ (tw hw 237 rfl) (tw hw 229 rfl) (by decide) (by decide)) (g := (mkF m 90 #[vJ q163, vS] [(.int (14 : Int32)), (.long q163), (.int ((((((((((((((1 : Int32) + (Int32.ofNat (omr q163 1))) + (Int32.ofNat (omr q163 2))) + (Int32.ofNat (omr q163 3))) + (Int32.ofNat (omr q163 4))) + (Int32.ofNat (omr q163 5))) + (Int32.ofNat (omr q163 6))) + (Int32.ofNat (omr q163 7))) + (Int32.ofNat (omr q163 8))) + (Int32.ofNat (omr q163 9))) + (Int32.ofNat (omr q163 10))) + (Int32.ofNat (omr q163 11))) + (Int32.ofNat (omr q163 12))) + (Int32.ofNat (omr q163 13))))])) rfl (by rw [hml]; rfl) (argsL := [(.long q163), (.int (14 : Int32))]) (rest := [(.int ((((((((((((((1 : Int32) + (Int32.ofNat (omr q163 1))) + (Int32.ofNat (omr q163 2))) + (Int32.ofNat (omr q163 3))) + (Int32.ofNat (omr q163 4))) + (Int32.ofNat (omr q163 5))) + (Int32.ofNat (omr q163 6))) + (Int32.ofNat (omr q163 7))) + (Int32.ofNat (omr q163 8))) + (Int32.ofNat (omr q163 9))) + (Int32.ofNat (omr q163 10))) + (Int32.ofNat (omr q163 11))) + (Int32.ofNat (omr q163 12))) + (Int32.ofNat (omr q163 13))))]) (lenOf pd_5 rfl) rfl (own_w _) (hb hby d39_90) (fun _ _ => ⟨rfl, rfl, (by decide : 13 + 1 ≤ _), (by decide : 247 + 19 ≤ _)⟩)
 dsimp only [Pt.U, Pt.locs, Pt.cells, Pt.slots] at X177 l177 y177 z177 st177 hQ177
 replace X177 := own_mvX X177 (a := 14) (b := 266) y177 z177
 obtain ⟨N177q, rfl, K177⟩ := hQ177
 have N177 := own_mvN l177 N176 N177q
 have KC177 := KSx.trans KC176 K177 ks0 all0
 have Z177 : n0 ≤ T177.heap.size := Nat.le_trans Z176 K177.1
 obtain ⟨_, _, ⟨T178, L178, k178, n178⟩, -, X178, ⟨Lc178, hQ178, l178, y178, z178⟩, st178⟩ := Jvm.LawKit.callS X177 hx (y := mN8) hown (mvT hZ (tw hw 235 rfl)) (mvT hZ (tw hw 236 rfl)) (mvT hZ (tw hw 229 rfl)) (mvT hZ (tw hw 237 rfl)) (by decide) (backOf (W := 1) (own_mr l Z a0 hw q163 15 T177.heap n0 Z177 (by decide)) hZ (tw hw 237 rfl) (tw hw 229 rfl) (by decide) (by decide)) (g := (mkF m 97 #[vJ q163, vS] [(.int (15 : Int32)), (.long q163), (.int (((((((((((((((1 : Int32) + (Int32.ofNat (omr q163 1))) + (Int32.ofNat (omr q163 2))) + (Int32.ofNat (omr q163 3))) + (Int32.ofNat (omr q163 4))) + (Int32.ofNat (omr q163 5))) + (Int32.ofNat (omr q163 6))) + (Int32.ofNat (omr q163 7))) + (Int32.ofNat (omr q163 8))) + (Int32.ofNat (omr q163 9))) + (Int32.ofNat (omr q163 10))) + (Int32.ofNat (omr q163 11))) + (Int32.ofNat (omr q163 12))) + (Int32.ofNat (omr q163 13))) + (Int32.ofNat (omr q163 14))))])) rfl (by rw [hml]; rfl) (argsL := [(.long q163), (.int (15 : Int32))]) (rest := [(.int (((((((((((((((1 : Int32) + (Int32.ofNat (omr q163 1))) + (Int32.ofNat (omr q163 2))) + (Int32.ofNat (omr q163 3))) + (Int32.ofNat (omr q163 4))) + (Int32.ofNat (omr q163 5))) + (Int32.ofNat (omr q163 6))) + (Int32.ofNat (omr q163 7))) + (Int32.ofNat (omr q163 8))) + (Int32.ofNat (omr q163 9))) + (Int32.ofNat (omr q163 10))) + (Int32.ofNat (omr q163 11))) + (Int32.ofNat (omr q163 12))) + (Int32.ofNat (omr q163 13))) + (Int32.ofNat (omr q163 14))))]) (lenOf pd_5 rfl) rfl (own_w _) (hb hby d39_97) (fun _ _ => ⟨rfl, rfl, (by decide : 14 + 1 ≤ _), (by decide : 266 + 19 ≤ _)⟩)
 dsimp only [Pt.U, Pt.locs, Pt.cells, Pt.slots] at X178 l178 y178 z178 st178 hQ178
 replace X178 := own_mvX X178 (a := 15) (b := 285) y178 z178
 obtain ⟨N178q, rfl, K178⟩ := hQ178
 have N178 := own_mvN l178 N177 N178q
 have KC178 := KSx.trans KC177 K178 ks0 all0
 have Z178 : n0 ≤ T178.heap.size := Nat.le_trans Z177 K178.1
 obtain ⟨_, _, ⟨T179, L179, k179, n179⟩, -, X179, ⟨Lc179, hQ179, l179, y179, z179⟩, st179⟩ := Jvm.LawKit.callS X178 hx (y := mN8) hown (mvT hZ (tw hw 235 rfl)) (mvT hZ (tw hw 236 rfl)) (mvT hZ (tw hw 229 rfl)) (mvT hZ (tw hw 237 rfl)) (by decide) (backOf (W := 1) (own_mr l Z a0 hw q163 16 T178.heap n0 Z178 (by decide)) hZ (tw hw 237 rfl) (tw hw 229 rfl) (by decide) (by decide)) (g := (mkF m 104 #[vJ q163, vS] [(.int (16 : Int32)), (.long q163), (.int ((((((((((((((((1 : Int32) + (Int32.ofNat (omr q163 1))) + (Int32.ofNat (omr q163 2))) + (Int32.ofNat (omr q163 3))) + (Int32.ofNat (omr q163 4))) + (Int32.ofNat (omr q163 5))) + (Int32.ofNat (omr q163 6))) + (Int32.ofNat (omr q163 7))) + (Int32.ofNat (omr q163 8))) + (Int32.ofNat (omr q163 9))) + (Int32.ofNat (omr q163 10))) + (Int32.ofNat (omr q163 11))) + (Int32.ofNat (omr q163 12))) + (Int32.ofNat (omr q163 13))) + (Int32.ofNat (omr q163 14))) + (Int32.ofNat (omr q163 15))))])) rfl (by rw [hml]; rfl) (argsL := [(.long q163), (.int (16 : Int32))]) (rest := [(.int ((((((((((((((((1 : Int32) + (Int32.ofNat (omr q163 1))) + (Int32.ofNat (omr q163 2))) + (Int32.ofNat (omr q163 3))) + (Int32.ofNat (omr q163 4))) + (Int32.ofNat (omr q163 5))) + (Int32.ofNat (omr q163 6))) + (Int32.ofNat (omr q163 7))) + (Int32.ofNat (omr q163 8))) + (Int32.ofNat (omr q163 9))) + (Int32.ofNat (omr q163 10))) + (Int32.ofNat (omr q163 11))) + (Int32.ofNat (omr q163 12))) + (Int32.ofNat (omr q163 13))) + (Int32.ofNat (omr q163 14))) + (Int32.ofNat (omr q163 15))))]) (lenOf pd_5 rfl) rfl (own_w _) (hb hby d39_104) (fun _ _ => ⟨rfl, rfl, (by decide : 15 + 1 ≤ _), (by decide : 285 + 19 ≤ _)⟩)
 dsimp only [Pt.U, Pt.locs, Pt.cells, Pt.slots] at X179 l179 y179 z179 st179 hQ179
 replace X179 := own_mvX X179 (a := 16) (b := 304) y179 z179
 obtain ⟨N179q, rfl, K179⟩ := hQ179
 have N179 := own_mvN l179 N178 N179q
 have KC179 := KSx.trans KC178 K179 ks0 all0
 have Z179 : n0 ≤ T179.heap.size := Nat.le_trans Z178 K179.1
 obtain ⟨_, _, ⟨T180, L180, k180, n180⟩, -, X180, ⟨Lc180, hQ180, l180, y180, z180⟩, st180⟩ := Jvm.LawKit.callS X179 hx (y := mN8) hown (mvT hZ (tw hw 235 rfl)) (mvT hZ (tw hw 236 rfl)) (mvT hZ (tw hw 229 rfl)) (mvT hZ (tw hw 237 rfl)) (by decide) (backOf (W := 1) (own_mr l Z a0 hw q163 17 T179.heap n0 Z179 (by decide)) hZ (tw hw 237 rfl) (tw hw 229 rfl) (by decide) (by decide)) (g := (mkF m 111 #[vJ q163, vS] [(.int (17 : Int32)), (.long q163), (.int (((((((((((((((((1 : Int32) + (Int32.ofNat (omr q163 1))) + (Int32.ofNat (omr q163 2))) + (Int32.ofNat (omr q163 3))) + (Int32.ofNat (omr q163 4))) + (Int32.ofNat (omr q163 5))) + (Int32.ofNat (omr q163 6))) + (Int32.ofNat (omr q163 7))) + (Int32.ofNat (omr q163 8))) + (Int32.ofNat (omr q163 9))) + (Int32.ofNat (omr q163 10))) + (Int32.ofNat (omr q163 11))) + (Int32.ofNat (omr q163 12))) + (Int32.ofNat (omr q163 13))) + (Int32.ofNat (omr q163 14))) + (Int32.ofNat (omr q163 15))) + (Int32.ofNat (omr q163 16))))])) rfl (by rw [hml]; rfl) (argsL := [(.long q163), (.int (17 : Int32))]) (rest := [(.int (((((((((((((((((1 : Int32) + (Int32.ofNat (omr q163 1))) + (Int32.ofNat (omr q163 2))) + (Int32.ofNat (omr q163 3))) + (Int32.ofNat (omr q163 4))) + (Int32.ofNat (omr q163 5))) + (Int32.ofNat (omr q163 6))) + (Int32.ofNat (omr q163 7))) + (Int32.ofNat (omr q163 8))) + (Int32.ofNat (omr q163 9))) + (Int32.ofNat (omr q163 10))) + (Int32.ofNat (omr q163 11))) + (Int32.ofNat (omr q163 12))) + (Int32.ofNat (omr q163 13))) + (Int32.ofNat (omr q163 14))) + (Int32.ofNat (omr q163 15))) + (Int32.ofNat (omr q163 16))))]) (lenOf pd_5 rfl) rfl (own_w _) (hb hby d39_111) (fun _ _ => ⟨rfl, rfl, (by decide : 16 + 1 ≤ _), (by decide : 304 + 19 ≤ _)⟩)
 dsimp only [Pt.U, Pt.locs, Pt.cells, Pt.slots] at X180 l180 y180 z180 st180 hQ180
 replace X180 := own_mvX X180 (a := 17) (b := 323) y180 z180
 obtain ⟨N180q, rfl, K180⟩ := hQ180
 have N180 := own_mvN l180 N179 N180q
 have KC180 := KSx.trans KC179 K180 ks0 all0
 have Z180 : n0 ≤ T180.heap.size := Nat.le_trans Z179 K180.1
 obtain ⟨_, _, ⟨T181, L181, k181, n181⟩, -, X181, ⟨Lc181, hQ181, l181, y181, z181⟩, st181⟩ := Jvm.LawKit.callS X180 hx (y := mN8) hown (mvT hZ (tw hw 235 rfl)) (mvT hZ (tw hw 236 rfl)) (mvT hZ (tw hw 229 rfl)) (mvT hZ (tw hw 237 rfl)) (by decide) (backOf (W := 1) (own_mr l Z a0 hw q163 18 T180.heap n0 Z180 (by decide)) hZ (tw hw 237 rfl) (tw hw 229 rfl) (by decide) (by decide)) (g := (mkF m 118 #[vJ q163, vS] [(.int (18 : Int32)), (.long q163), (.int ((((((((((((((((((1 : Int32) + (Int32.ofNat (omr q163 1))) + (Int32.ofNat (omr q163 2))) + (Int32.ofNat (omr q163 3))) + (Int32.ofNat (omr q163 4))) + (Int32.ofNat (omr q163 5))) + (Int32.ofNat (omr q163 6))) + (Int32.ofNat (omr q163 7))) + (Int32.ofNat (omr q163 8))) + (Int32.ofNat (omr q163 9))) + (Int32.ofNat (omr q163 10))) + (Int32.ofNat (omr q163 11))) + (Int32.ofNat (omr q163 12))) + (Int32.ofNat (omr q163 13))) + (Int32.ofNat (omr q163 14))) + (Int32.ofNat (omr q163 15))) + (Int32.ofNat (omr q163 16))) + (Int32.ofNat (omr q163 17))))])) rfl (by rw [hml]; rfl) (argsL := [(.long q163), (.int (18 : Int32))]) (rest := [(.int ((((((((((((((((((1 : Int32) + (Int32.ofNat (omr q163 1))) + (Int32.ofNat (omr q163 2))) + (Int32.ofNat (omr q163 3))) + (Int32.ofNat (omr q163 4))) + (Int32.ofNat (omr q163 5))) + (Int32.ofNat (omr q163 6))) + (Int32.ofNat (omr q163 7))) + (Int32.ofNat (omr q163 8))) + (Int32.ofNat (omr q163 9))) + (Int32.ofNat (omr q163 10))) + (Int32.ofNat (omr q163 11))) + (Int32.ofNat (omr q163 12))) + (Int32.ofNat (omr q163 13))) + (Int32.ofNat (omr q163 14))) + (Int32.ofNat (omr q163 15))) + (Int32.ofNat (omr q163 16))) + (Int32.ofNat (omr q163 17))))]) (lenOf pd_5 rfl) rfl (own_w _) (hb hby d39_118) (fun _ _ => ⟨rfl, rfl, (by decide : 17 + 1 ≤ _), (by decide : 323 + 19 ≤ _)⟩)
 dsimp only [Pt.U, Pt.locs, Pt.cells, Pt.slots] at X181 l181 y181 z181 st181 hQ181
 replace X181 := own_mvX X181 (a := 18) (b := 342) y181 z181
 obtain ⟨N181q, rfl, K181⟩ := hQ181
 have N181 := own_mvN l181 N180 N181q
 have KC181 := KSx.trans KC180 K181 ks0 all0
 obtain ⟨fs, hr, hrun, hended, hW, hsame⟩ := X181.leave (v := some (.int (((((((((((((((((((1 : Int32) + (Int32.ofNat (omr q163 1))) + (Int32.ofNat (omr q163 2))) + (Int32.ofNat (omr q163 3))) + (Int32.ofNat (omr q163 4))) + (Int32.ofNat (omr q163 5))) + (Int32.ofNat (omr q163 6))) + (Int32.ofNat (omr q163 7))) + (Int32.ofNat (omr q163 8))) + (Int32.ofNat (omr q163 9))) + (Int32.ofNat (omr q163 10))) + (Int32.ofNat (omr q163 11))) + (Int32.ofNat (omr q163 12))) + (Int32.ofNat (omr q163 13))) + (Int32.ofNat (omr q163 14))) + (Int32.ofNat (omr q163 15))) + (Int32.ofNat (omr q163 16))) + (Int32.ofNat (omr q163 17))) + (Int32.ofNat (omr q163 18))))) (fun h => by rw [Bd.returns] at h; cases h)
 refine ⟨_, _, pre0 _ ?_, hrun, hended, _, _, rfl, ?_, ⟨_, rfl⟩, hW, hsame.mono (by decide) (by decide)⟩
 · show SG p e below s₁ (mkF m 0 #[vJ q163, vS] []) _
   refine XS.iconst X0.here hx rfl (hb hby d39_0) ?_
   show SG p e below s₁ (mkF m 1 #[vJ q163, vS] [(.int (1 : Int32))]) _
   refine XS.lloadN X0.here hx rfl (hb hby d39_1) rfl ?_
   show SG p e below s₁ (mkF m 2 #[vJ q163, vS] [(.long q163), (.int (1 : Int32))]) _
   refine XS.iconst X0.here hx rfl (hb hby d39_2) ?_
   show SG p e below s₁ (mkF m 3 #[vJ q163, vS] [(.int (1 : Int32)), (.long q163), (.int (1 : Int32))]) _
   refine st164 _ ?_
   show SG p e below T164 (mkF m 6 #[vJ q163, vS] [(.int (Int32.ofNat (omr q163 1))), (.int (1 : Int32))]) _
   refine XS.iadd X164.here hx rfl (hb hby d39_6) rfl ?_
   show SG p e below T164 (mkF m 7 #[vJ q163, vS] [(.int ((1 : Int32) + (Int32.ofNat (omr q163 1))))]) _
   refine XS.lloadN X164.here hx rfl (hb hby d39_7) rfl ?_
   show SG p e below T164 (mkF m 8 #[vJ q163, vS] [(.long q163), (.int ((1 : Int32) + (Int32.ofNat (omr q163 1))))]) _
   refine XS.iconst X164.here hx rfl (hb hby d39_8) ?_
   show SG p e below T164 (mkF m 9 #[vJ q163, vS] [(.int (2 : Int32)), (.long q163), (.int ((1 : Int32) + (Int32.ofNat (omr q163 1))))]) _
   refine st165 _ ?_
   show SG p e below T165 (mkF m 12 #[vJ q163, vS] [(.int (Int32.ofNat (omr q163 2))), (.int ((1 : Int32) + (Int32.ofNat (omr q163 1))))]) _
   refine XS.iadd X165.here hx rfl (hb hby d39_12) rfl ?_
   show SG p e below T165 (mkF m 13 #[vJ q163, vS] [(.int (((1 : Int32) + (Int32.ofNat (omr q163 1))) + (Int32.ofNat (omr q163 2))))]) _
   refine XS.lloadN X165.here hx rfl (hb hby d39_13) rfl ?_
   show SG p e below T165 (mkF m 14 #[vJ q163, vS] [(.long q163), (.int (((1 : Int32) + (Int32.ofNat (omr q163 1))) + (Int32.ofNat (omr q163 2))))]) _
   refine XS.iconst X165.here hx rfl (hb hby d39_14) ?_
   show SG p e below T165 (mkF m 15 #[vJ q163, vS] [(.int (3 : Int32)), (.long q163), (.int (((1 : Int32) + (Int32.ofNat (omr q163 1))) + (Int32.ofNat (omr q163 2))))]) _
   refine st166 _ ?_
   show SG p e below T166 (mkF m 18 #[vJ q163, vS] [(.int (Int32.ofNat (omr q163 3))), (.int (((1 : Int32) + (Int32.ofNat (omr q163 1))) + (Int32.ofNat (omr q163 2))))]) _
   refine XS.iadd X166.here hx rfl (hb hby d39_18) rfl ?_
   show SG p e below T166 (mkF m 19 #[vJ q163, vS] [(.int ((((1 : Int32) + (Int32.ofNat (omr q163 1))) + (Int32.ofNat (omr q163 2))) + (Int32.ofNat (omr q163 3))))]) _
   refine XS.lloadN X166.here hx rfl (hb hby d39_19) rfl ?_
   show SG p e below T166 (mkF m 20 #[vJ q163, vS] [(.long q163), (.int ((((1 : Int32) + (Int32.ofNat (omr q163 1))) + (Int32.ofNat (omr q163 2))) + (Int32.ofNat (omr q163 3))))]) _
   refine XS.iconst X166.here hx rfl (hb hby d39_20) ?_
   show SG p e below T166 (mkF m 21 #[vJ q163, vS] [(.int (4 : Int32)), (.long q163), (.int ((((1 : Int32) + (Int32.ofNat (omr q163 1))) + (Int32.ofNat (omr q163 2))) + (Int32.ofNat (omr q163 3))))]) _
   refine st167 _ ?_
   show SG p e below T167 (mkF m 24 #[vJ q163, vS] [(.int (Int32.ofNat (omr q163 4))), (.int ((((1 : Int32) + (Int32.ofNat (omr q163 1))) + (Int32.ofNat (omr q163 2))) + (Int32.ofNat (omr q163 3))))]) _
   refine XS.iadd X167.here hx rfl (hb hby d39_24) rfl ?_
   show SG p e below T167 (mkF m 25 #[vJ q163, vS] [(.int (((((1 : Int32) + (Int32.ofNat (omr q163 1))) + (Int32.ofNat (omr q163 2))) + (Int32.ofNat (omr q163 3))) + (Int32.ofNat (omr q163 4))))]) _
   refine XS.lloadN X167.here hx rfl (hb hby d39_25) rfl ?_
   show SG p e below T167 (mkF m 26 #[vJ q163, vS] [(.long q163), (.int (((((1 : Int32) + (Int32.ofNat (omr q163 1))) + (Int32.ofNat (omr q163 2))) + (Int32.ofNat (omr q163 3))) + (Int32.ofNat (omr q163 4))))]) _
   refine XS.iconst X167.here hx rfl (hb hby d39_26) ?_
   show SG p e below T167 (mkF m 27 #[vJ q163, vS] [(.int (5 : Int32)), (.long q163), (.int (((((1 : Int32) + (Int32.ofNat (omr q163 1))) + (Int32.ofNat (omr q163 2))) + (Int32.ofNat (omr q163 3))) + (Int32.ofNat (omr q163 4))))]) _
   refine st168 _ ?_
   show SG p e below T168 (mkF m 30 #[vJ q163, vS] [(.int (Int32.ofNat (omr q163 5))), (.int (((((1 : Int32) + (Int32.ofNat (omr q163 1))) + (Int32.ofNat (omr q163 2))) + (Int32.ofNat (omr q163 3))) + (Int32.ofNat (omr q163 4))))]) _
   refine XS.iadd X168.here hx rfl (hb hby d39_30) rfl ?_
   show SG p e below T168 (mkF m 31 #[vJ q163, vS] [(.int ((((((1 : Int32) + (Int32.ofNat (omr q163 1))) + (Int32.ofNat (omr q163 2))) + (Int32.ofNat (omr q163 3))) + (Int32.ofNat (omr q163 4))) + (Int32.ofNat (omr q163 5))))]) _
   refine XS.lloadN X168.here hx rfl (hb hby d39_31) rfl ?_
   show SG p e below T168 (mkF m 32 #[vJ q163, vS] [(.long q163), (.int ((((((1 : Int32) + (Int32.ofNat (omr q163 1))) + (Int32.ofNat (omr q163 2))) + (Int32.ofNat (omr q163 3))) + (Int32.ofNat (omr q163 4))) + (Int32.ofNat (omr q163 5))))]) _
   refine XS.bipush X168.here hx rfl (hb hby d39_32) ?_
   show SG p e below T168 (mkF m 34 #[vJ q163, vS] [(.int (6 : Int32)), (.long q163), (.int ((((((1 : Int32) + (Int32.ofNat (omr q163 1))) + (Int32.ofNat (omr q163 2))) + (Int32.ofNat (omr q163 3))) + (Int32.ofNat (omr q163 4))) + (Int32.ofNat (omr q163 5))))]) _
   refine st169 _ ?_
   show SG p e below T169 (mkF m 37 #[vJ q163, vS] [(.int (Int32.ofNat (omr q163 6))), (.int ((((((1 : Int32) + (Int32.ofNat (omr q163 1))) + (Int32.ofNat (omr q163 2))) + (Int32.ofNat (omr q163 3))) + (Int32.ofNat (omr q163 4))) + (Int32.ofNat (omr q163 5))))]) _
   refine XS.iadd X169.here hx rfl (hb hby d39_37) rfl ?_
   show SG p e below T169 (mkF m 38 #[vJ q163, vS] [(.int (((((((1 : Int32) + (Int32.ofNat (omr q163 1))) + (Int32.ofNat (omr q163 2))) + (Int32.ofNat (omr q163 3))) + (Int32.ofNat (omr q163 4))) + (Int32.ofNat (omr q163 5))) + (Int32.ofNat (omr q163 6))))]) _
   refine XS.lloadN X169.here hx rfl (hb hby d39_38) rfl ?_
   show SG p e below T169 (mkF m 39 #[vJ q163, vS] [(.long q163), (.int (((((((1 : Int32) + (Int32.ofNat (omr q163 1))) + (Int32.ofNat (omr q163 2))) + (Int32.ofNat (omr q163 3))) + (Int32.ofNat (omr q163 4))) + (Int32.ofNat (omr q163 5))) + (Int32.ofNat (omr q163 6))))]) _
   refine XS.bipush X169.here hx rfl (hb hby d39_39) ?_
   show SG p e below T169 (mkF m 41 #[vJ q163, vS] [(.int (7 : Int32)), (.long q163), (.int (((((((1 : Int32) + (Int32.ofNat (omr q163 1))) + (Int32.ofNat (omr q163 2))) + (Int32.ofNat (omr q163 3))) + (Int32.ofNat (omr q163 4))) + (Int32.ofNat (omr q163 5))) + (Int32.ofNat (omr q163 6))))]) _
   refine st170 _ ?_
   show SG p e below T170 (mkF m 44 #[vJ q163, vS] [(.int (Int32.ofNat (omr q163 7))), (.int (((((((1 : Int32) + (Int32.ofNat (omr q163 1))) + (Int32.ofNat (omr q163 2))) + (Int32.ofNat (omr q163 3))) + (Int32.ofNat (omr q163 4))) + (Int32.ofNat (omr q163 5))) + (Int32.ofNat (omr q163 6))))]) _
   refine XS.iadd X170.here hx rfl (hb hby d39_44) rfl ?_
   show SG p e below T170 (mkF m 45 #[vJ q163, vS] [(.int ((((((((1 : Int32) + (Int32.ofNat (omr q163 1))) + (Int32.ofNat (omr q163 2))) + (Int32.ofNat (omr q163 3))) + (Int32.ofNat (omr q163 4))) + (Int32.ofNat (omr q163 5))) + (Int32.ofNat (omr q163 6))) + (Int32.ofNat (omr q163 7))))]) _
   refine XS.lloadN X170.here hx rfl (hb hby d39_45) rfl ?_
   show SG p e below T170 (mkF m 46 #[vJ q163, vS] [(.long q163), (.int ((((((((1 : Int32) + (Int32.ofNat (omr q163 1))) + (Int32.ofNat (omr q163 2))) + (Int32.ofNat (omr q163 3))) + (Int32.ofNat (omr q163 4))) + (Int32.ofNat (omr q163 5))) + (Int32.ofNat (omr q163 6))) + (Int32.ofNat (omr q163 7))))]) _
   refine XS.bipush X170.here hx rfl (hb hby d39_46) ?_
   show SG p e below T170 (mkF m 48 #[vJ q163, vS] [(.int (8 : Int32)), (.long q163), (.int ((((((((1 : Int32) + (Int32.ofNat (omr q163 1))) + (Int32.ofNat (omr q163 2))) + (Int32.ofNat (omr q163 3))) + (Int32.ofNat (omr q163 4))) + (Int32.ofNat (omr q163 5))) + (Int32.ofNat (omr q163 6))) + (Int32.ofNat (omr q163 7))))]) _
   refine st171 _ ?_
   show SG p e below T171 (mkF m 51 #[vJ q163, vS] [(.int (Int32.ofNat (omr q163 8))), (.int ((((((((1 : Int32) + (Int32.ofNat (omr q163 1))) + (Int32.ofNat (omr q163 2))) + (Int32.ofNat (omr q163 3))) + (Int32.ofNat (omr q163 4))) + (Int32.ofNat (omr q163 5))) + (Int32.ofNat (omr q163 6))) + (Int32.ofNat (omr q163 7))))]) _
   refine XS.iadd X171.here hx rfl (hb hby d39_51) rfl ?_
   show SG p e below T171 (mkF m 52 #[vJ q163, vS] [(.int (((((((((1 : Int32) + (Int32.ofNat (omr q163 1))) + (Int32.ofNat (omr q163 2))) + (Int32.ofNat (omr q163 3))) + (Int32.ofNat (omr q163 4))) + (Int32.ofNat (omr q163 5))) + (Int32.ofNat (omr q163 6))) + (Int32.ofNat (omr q163 7))) + (Int32.ofNat (omr q163 8))))]) _
   refine XS.lloadN X171.here hx rfl (hb hby d39_52) rfl ?_
   show SG p e below T171 (mkF m 53 #[vJ q163, vS] [(.long q163), (.int (((((((((1 : Int32) + (Int32.ofNat (omr q163 1))) + (Int32.ofNat (omr q163 2))) + (Int32.ofNat (omr q163 3))) + (Int32.ofNat (omr q163 4))) + (Int32.ofNat (omr q163 5))) + (Int32.ofNat (omr q163 6))) + (Int32.ofNat (omr q163 7))) + (Int32.ofNat (omr q163 8))))]) _
   refine XS.bipush X171.here hx rfl (hb hby d39_53) ?_
   show SG p e below T171 (mkF m 55 #[vJ q163, vS] [(.int (9 : Int32)), (.long q163), (.int (((((((((1 : Int32) + (Int32.ofNat (omr q163 1))) + (Int32.ofNat (omr q163 2))) + (Int32.ofNat (omr q163 3))) + (Int32.ofNat (omr q163 4))) + (Int32.ofNat (omr q163 5))) + (Int32.ofNat (omr q163 6))) + (Int32.ofNat (omr q163 7))) + (Int32.ofNat (omr q163 8))))]) _
   refine st172 _ ?_
   show SG p e below T172 (mkF m 58 #[vJ q163, vS] [(.int (Int32.ofNat (omr q163 9))), (.int (((((((((1 : Int32) + (Int32.ofNat (omr q163 1))) + (Int32.ofNat (omr q163 2))) + (Int32.ofNat (omr q163 3))) + (Int32.ofNat (omr q163 4))) + (Int32.ofNat (omr q163 5))) + (Int32.ofNat (omr q163 6))) + (Int32.ofNat (omr q163 7))) + (Int32.ofNat (omr q163 8))))]) _
   refine XS.iadd X172.here hx rfl (hb hby d39_58) rfl ?_
   show SG p e below T172 (mkF m 59 #[vJ q163, vS] [(.int ((((((((((1 : Int32) + (Int32.ofNat (omr q163 1))) + (Int32.ofNat (omr q163 2))) + (Int32.ofNat (omr q163 3))) + (Int32.ofNat (omr q163 4))) + (Int32.ofNat (omr q163 5))) + (Int32.ofNat (omr q163 6))) + (Int32.ofNat (omr q163 7))) + (Int32.ofNat (omr q163 8))) + (Int32.ofNat (omr q163 9))))]) _
   refine XS.lloadN X172.here hx rfl (hb hby d39_59) rfl ?_
   show SG p e below T172 (mkF m 60 #[vJ q163, vS] [(.long q163), (.int ((((((((((1 : Int32) + (Int32.ofNat (omr q163 1))) + (Int32.ofNat (omr q163 2))) + (Int32.ofNat (omr q163 3))) + (Int32.ofNat (omr q163 4))) + (Int32.ofNat (omr q163 5))) + (Int32.ofNat (omr q163 6))) + (Int32.ofNat (omr q163 7))) + (Int32.ofNat (omr q163 8))) + (Int32.ofNat (omr q163 9))))]) _
   refine XS.bipush X172.here hx rfl (hb hby d39_60) ?_
   show SG p e below T172 (mkF m 62 #[vJ q163, vS] [(.int (10 : Int32)), (.long q163), (.int ((((((((((1 : Int32) + (Int32.ofNat (omr q163 1))) + (Int32.ofNat (omr q163 2))) + (Int32.ofNat (omr q163 3))) + (Int32.ofNat (omr q163 4))) + (Int32.ofNat (omr q163 5))) + (Int32.ofNat (omr q163 6))) + (Int32.ofNat (omr q163 7))) + (Int32.ofNat (omr q163 8))) + (Int32.ofNat (omr q163 9))))]) _
   refine st173 _ ?_
   show SG p e below T173 (mkF m 65 #[vJ q163, vS] [(.int (Int32.ofNat (omr q163 10))), (.int ((((((((((1 : Int32) + (Int32.ofNat (omr q163 1))) + (Int32.ofNat (omr q163 2))) + (Int32.ofNat (omr q163 3))) + (Int32.ofNat (omr q163 4))) + (Int32.ofNat (omr q163 5))) + (Int32.ofNat (omr q163 6))) + (Int32.ofNat (omr q163 7))) + (Int32.ofNat (omr q163 8))) + (Int32.ofNat (omr q163 9))))]) _
   refine XS.iadd X173.here hx rfl (hb hby d39_65) rfl ?_
   show SG p e below T173 (mkF m 66 #[vJ q163, vS] [(.int (((((((((((1 : Int32) + (Int32.ofNat (omr q163 1))) + (Int32.ofNat (omr q163 2))) + (Int32.ofNat (omr q163 3))) + (Int32.ofNat (omr q163 4))) + (Int32.ofNat (omr q163 5))) + (Int32.ofNat (omr q163 6))) + (Int32.ofNat (omr q163 7))) + (Int32.ofNat (omr q163 8))) + (Int32.ofNat (omr q163 9))) + (Int32.ofNat (omr q163 10))))]) _
   refine XS.lloadN X173.here hx rfl (hb hby d39_66) rfl ?_
   show SG p e below T173 (mkF m 67 #[vJ q163, vS] [(.long q163), (.int (((((((((((1 : Int32) + (Int32.ofNat (omr q163 1))) + (Int32.ofNat (omr q163 2))) + (Int32.ofNat (omr q163 3))) + (Int32.ofNat (omr q163 4))) + (Int32.ofNat (omr q163 5))) + (Int32.ofNat (omr q163 6))) + (Int32.ofNat (omr q163 7))) + (Int32.ofNat (omr q163 8))) + (Int32.ofNat (omr q163 9))) + (Int32.ofNat (omr q163 10))))]) _
   refine XS.bipush X173.here hx rfl (hb hby d39_67) ?_
   show SG p e below T173 (mkF m 69 #[vJ q163, vS] [(.int (11 : Int32)), (.long q163), (.int (((((((((((1 : Int32) + (Int32.ofNat (omr q163 1))) + (Int32.ofNat (omr q163 2))) + (Int32.ofNat (omr q163 3))) + (Int32.ofNat (omr q163 4))) + (Int32.ofNat (omr q163 5))) + (Int32.ofNat (omr q163 6))) + (Int32.ofNat (omr q163 7))) + (Int32.ofNat (omr q163 8))) + (Int32.ofNat (omr q163 9))) + (Int32.ofNat (omr q163 10))))]) _
   refine st174 _ ?_
   show SG p e below T174 (mkF m 72 #[vJ q163, vS] [(.int (Int32.ofNat (omr q163 11))), (.int (((((((((((1 : Int32) + (Int32.ofNat (omr q163 1))) + (Int32.ofNat (omr q163 2))) + (Int32.ofNat (omr q163 3))) + (Int32.ofNat (omr q163 4))) + (Int32.ofNat (omr q163 5))) + (Int32.ofNat (omr q163 6))) + (Int32.ofNat (omr q163 7))) + (Int32.ofNat (omr q163 8))) + (Int32.ofNat (omr q163 9))) + (Int32.ofNat (omr q163 10))))]) _
   refine XS.iadd X174.here hx rfl (hb hby d39_72) rfl ?_
   show SG p e below T174 (mkF m 73 #[vJ q163, vS] [(.int ((((((((((((1 : Int32) + (Int32.ofNat (omr q163 1))) + (Int32.ofNat (omr q163 2))) + (Int32.ofNat (omr q163 3))) + (Int32.ofNat (omr q163 4))) + (Int32.ofNat (omr q163 5))) + (Int32.ofNat (omr q163 6))) + (Int32.ofNat (omr q163 7))) + (Int32.ofNat (omr q163 8))) + (Int32.ofNat (omr q163 9))) + (Int32.ofNat (omr q163 10))) + (Int32.ofNat (omr q163 11))))]) _
   refine XS.lloadN X174.here hx rfl (hb hby d39_73) rfl ?_
   show SG p e below T174 (mkF m 74 #[vJ q163, vS] [(.long q163), (.int ((((((((((((1 : Int32) + (Int32.ofNat (omr q163 1))) + (Int32.ofNat (omr q163 2))) + (Int32.ofNat (omr q163 3))) + (Int32.ofNat (omr q163 4))) + (Int32.ofNat (omr q163 5))) + (Int32.ofNat (omr q163 6))) + (Int32.ofNat (omr q163 7))) + (Int32.ofNat (omr q163 8))) + (Int32.ofNat (omr q163 9))) + (Int32.ofNat (omr q163 10))) + (Int32.ofNat (omr q163 11))))]) _
   refine XS.bipush X174.here hx rfl (hb hby d39_74) ?_
   show SG p e below T174 (mkF m 76 #[vJ q163, vS] [(.int (12 : Int32)), (.long q163), (.int ((((((((((((1 : Int32) + (Int32.ofNat (omr q163 1))) + (Int32.ofNat (omr q163 2))) + (Int32.ofNat (omr q163 3))) + (Int32.ofNat (omr q163 4))) + (Int32.ofNat (omr q163 5))) + (Int32.ofNat (omr q163 6))) + (Int32.ofNat (omr q163 7))) + (Int32.ofNat (omr q163 8))) + (Int32.ofNat (omr q163 9))) + (Int32.ofNat (omr q163 10))) + (Int32.ofNat (omr q163 11))))]) _
   refine st175 _ ?_
   show SG p e below T175 (mkF m 79 #[vJ q163, vS] [(.int (Int32.ofNat (omr q163 12))), (.int ((((((((((((1 : Int32) + (Int32.ofNat (omr q163 1))) + (Int32.ofNat (omr q163 2))) + (Int32.ofNat (omr q163 3))) + (Int32.ofNat (omr q163 4))) + (Int32.ofNat (omr q163 5))) + (Int32.ofNat (omr q163 6))) + (Int32.ofNat (omr q163 7))) + (Int32.ofNat (omr q163 8))) + (Int32.ofNat (omr q163 9))) + (Int32.ofNat (omr q163 10))) + (Int32.ofNat (omr q163 11))))]) _
   refine XS.iadd X175.here hx rfl (hb hby d39_79) rfl ?_
   show SG p e below T175 (mkF m 80 #[vJ q163, vS] [(.int (((((((((((((1 : Int32) + (Int32.ofNat (omr q163 1))) + (Int32.ofNat (omr q163 2))) + (Int32.ofNat (omr q163 3))) + (Int32.ofNat (omr q163 4))) + (Int32.ofNat (omr q163 5))) + (Int32.ofNat (omr q163 6))) + (Int32.ofNat (omr q163 7))) + (Int32.ofNat (omr q163 8))) + (Int32.ofNat (omr q163 9))) + (Int32.ofNat (omr q163 10))) + (Int32.ofNat (omr q163 11))) + (Int32.ofNat (omr q163 12))))]) _
   refine XS.lloadN X175.here hx rfl (hb hby d39_80) rfl ?_
   show SG p e below T175 (mkF m 81 #[vJ q163, vS] [(.long q163), (.int (((((((((((((1 : Int32) + (Int32.ofNat (omr q163 1))) + (Int32.ofNat (omr q163 2))) + (Int32.ofNat (omr q163 3))) + (Int32.ofNat (omr q163 4))) + (Int32.ofNat (omr q163 5))) + (Int32.ofNat (omr q163 6))) + (Int32.ofNat (omr q163 7))) + (Int32.ofNat (omr q163 8))) + (Int32.ofNat (omr q163 9))) + (Int32.ofNat (omr q163 10))) + (Int32.ofNat (omr q163 11))) + (Int32.ofNat (omr q163 12))))]) _
   refine XS.bipush X175.here hx rfl (hb hby d39_81) ?_
   show SG p e below T175 (mkF m 83 #[vJ q163, vS] [(.int (13 : Int32)), (.long q163), (.int (((((((((((((1 : Int32) + (Int32.ofNat (omr q163 1))) + (Int32.ofNat (omr q163 2))) + (Int32.ofNat (omr q163 3))) + (Int32.ofNat (omr q163 4))) + (Int32.ofNat (omr q163 5))) + (Int32.ofNat (omr q163 6))) + (Int32.ofNat (omr q163 7))) + (Int32.ofNat (omr q163 8))) + (Int32.ofNat (omr q163 9))) + (Int32.ofNat (omr q163 10))) + (Int32.ofNat (omr q163 11))) + (Int32.ofNat (omr q163 12))))]) _
   refine st176 _ ?_
   show SG p e below T176 (mkF m 86 #[vJ q163, vS] [(.int (Int32.ofNat (omr q163 13))), (.int (((((((((((((1 : Int32) + (Int32.ofNat (omr q163 1))) + (Int32.ofNat (omr q163 2))) + (Int32.ofNat (omr q163 3))) + (Int32.ofNat (omr q163 4))) + (Int32.ofNat (omr q163 5))) + (Int32.ofNat (omr q163 6))) + (Int32.ofNat (omr q163 7))) + (Int32.ofNat (omr q163 8))) + (Int32.ofNat (omr q163 9))) + (Int32.ofNat (omr q163 10))) + (Int32.ofNat (omr q163 11))) + (Int32.ofNat (omr q163 12))))]) _
   refine XS.iadd X176.here hx rfl (hb hby d39_86) rfl ?_
   show SG p e below T176 (mkF m 87 #[vJ q163, vS] [(.int ((((((((((((((1 : Int32) + (Int32.ofNat (omr q163 1))) + (Int32.ofNat (omr q163 2))) + (Int32.ofNat (omr q163 3))) + (Int32.ofNat (omr q163 4))) + (Int32.ofNat (omr q163 5))) + (Int32.ofNat (omr q163 6))) + (Int32.ofNat (omr q163 7))) + (Int32.ofNat (omr q163 8))) + (Int32.ofNat (omr q163 9))) + (Int32.ofNat (omr q163 10))) + (Int32.ofNat (omr q163 11))) + (Int32.ofNat (omr q163 12))) + (Int32.ofNat (omr q163 13))))]) _
   refine XS.lloadN X176.here hx rfl (hb hby d39_87) rfl ?_
   show SG p e below T176 (mkF m 88 #[vJ q163, vS] [(.long q163), (.int ((((((((((((((1 : Int32) + (Int32.ofNat (omr q163 1))) + (Int32.ofNat (omr q163 2))) + (Int32.ofNat (omr q163 3))) + (Int32.ofNat (omr q163 4))) + (Int32.ofNat (omr q163 5))) + (Int32.ofNat (omr q163 6))) + (Int32.ofNat (omr q163 7))) + (Int32.ofNat (omr q163 8))) + (Int32.ofNat (omr q163 9))) + (Int32.ofNat (omr q163 10))) + (Int32.ofNat (omr q163 11))) + (Int32.ofNat (omr q163 12))) + (Int32.ofNat (omr q163 13))))]) _
   refine XS.bipush X176.here hx rfl (hb hby d39_88) ?_
   show SG p e below T176 (mkF m 90 #[vJ q163, vS] [(.int (14 : Int32)), (.long q163), (.int ((((((((((((((1 : Int32) + (Int32.ofNat (omr q163 1))) + (Int32.ofNat (omr q163 2))) + (Int32.ofNat (omr q163 3))) + (Int32.ofNat (omr q163 4))) + (Int32.ofNat (omr q163 5))) + (Int32.ofNat (omr q163 6))) + (Int32.ofNat (omr q163 7))) + (Int32.ofNat (omr q163 8))) + (Int32.ofNat (omr q163 9))) + (Int32.ofNat (omr q163 10))) + (Int32.ofNat (omr q163 11))) + (Int32.ofNat (omr q163 12))) + (Int32.ofNat (omr q163 13))))]) _
   refine st177 _ ?_
   show SG p e below T177 (mkF m 93 #[vJ q163, vS] [(.int (Int32.ofNat (omr q163 14))), (.int ((((((((((((((1 : Int32) + (Int32.ofNat (omr q163 1))) + (Int32.ofNat (omr q163 2))) + (Int32.ofNat (omr q163 3))) + (Int32.ofNat (omr q163 4))) + (Int32.ofNat (omr q163 5))) + (Int32.ofNat (omr q163 6))) + (Int32.ofNat (omr q163 7))) + (Int32.ofNat (omr q163 8))) + (Int32.ofNat (omr q163 9))) + (Int32.ofNat (omr q163 10))) + (Int32.ofNat (omr q163 11))) + (Int32.ofNat (omr q163 12))) + (Int32.ofNat (omr q163 13))))]) _
   refine XS.iadd X177.here hx rfl (hb hby d39_93) rfl ?_
   show SG p e below T177 (mkF m 94 #[vJ q163, vS] [(.int (((((((((((((((1 : Int32) + (Int32.ofNat (omr q163 1))) + (Int32.ofNat (omr q163 2))) + (Int32.ofNat (omr q163 3))) + (Int32.ofNat (omr q163 4))) + (Int32.ofNat (omr q163 5))) + (Int32.ofNat (omr q163 6))) + (Int32.ofNat (omr q163 7))) + (Int32.ofNat (omr q163 8))) + (Int32.ofNat (omr q163 9))) + (Int32.ofNat (omr q163 10))) + (Int32.ofNat (omr q163 11))) + (Int32.ofNat (omr q163 12))) + (Int32.ofNat (omr q163 13))) + (Int32.ofNat (omr q163 14))))]) _
   refine XS.lloadN X177.here hx rfl (hb hby d39_94) rfl ?_
   show SG p e below T177 (mkF m 95 #[vJ q163, vS] [(.long q163), (.int (((((((((((((((1 : Int32) + (Int32.ofNat (omr q163 1))) + (Int32.ofNat (omr q163 2))) + (Int32.ofNat (omr q163 3))) + (Int32.ofNat (omr q163 4))) + (Int32.ofNat (omr q163 5))) + (Int32.ofNat (omr q163 6))) + (Int32.ofNat (omr q163 7))) + (Int32.ofNat (omr q163 8))) + (Int32.ofNat (omr q163 9))) + (Int32.ofNat (omr q163 10))) + (Int32.ofNat (omr q163 11))) + (Int32.ofNat (omr q163 12))) + (Int32.ofNat (omr q163 13))) + (Int32.ofNat (omr q163 14))))]) _
   refine XS.bipush X177.here hx rfl (hb hby d39_95) ?_
   show SG p e below T177 (mkF m 97 #[vJ q163, vS] [(.int (15 : Int32)), (.long q163), (.int (((((((((((((((1 : Int32) + (Int32.ofNat (omr q163 1))) + (Int32.ofNat (omr q163 2))) + (Int32.ofNat (omr q163 3))) + (Int32.ofNat (omr q163 4))) + (Int32.ofNat (omr q163 5))) + (Int32.ofNat (omr q163 6))) + (Int32.ofNat (omr q163 7))) + (Int32.ofNat (omr q163 8))) + (Int32.ofNat (omr q163 9))) + (Int32.ofNat (omr q163 10))) + (Int32.ofNat (omr q163 11))) + (Int32.ofNat (omr q163 12))) + (Int32.ofNat (omr q163 13))) + (Int32.ofNat (omr q163 14))))]) _
   refine st178 _ ?_
   show SG p e below T178 (mkF m 100 #[vJ q163, vS] [(.int (Int32.ofNat (omr q163 15))), (.int (((((((((((((((1 : Int32) + (Int32.ofNat (omr q163 1))) + (Int32.ofNat (omr q163 2))) + (Int32.ofNat (omr q163 3))) + (Int32.ofNat (omr q163 4))) + (Int32.ofNat (omr q163 5))) + (Int32.ofNat (omr q163 6))) + (Int32.ofNat (omr q163 7))) + (Int32.ofNat (omr q163 8))) + (Int32.ofNat (omr q163 9))) + (Int32.ofNat (omr q163 10))) + (Int32.ofNat (omr q163 11))) + (Int32.ofNat (omr q163 12))) + (Int32.ofNat (omr q163 13))) + (Int32.ofNat (omr q163 14))))]) _
   refine XS.iadd X178.here hx rfl (hb hby d39_100) rfl ?_
   show SG p e below T178 (mkF m 101 #[vJ q163, vS] [(.int ((((((((((((((((1 : Int32) + (Int32.ofNat (omr q163 1))) + (Int32.ofNat (omr q163 2))) + (Int32.ofNat (omr q163 3))) + (Int32.ofNat (omr q163 4))) + (Int32.ofNat (omr q163 5))) + (Int32.ofNat (omr q163 6))) + (Int32.ofNat (omr q163 7))) + (Int32.ofNat (omr q163 8))) + (Int32.ofNat (omr q163 9))) + (Int32.ofNat (omr q163 10))) + (Int32.ofNat (omr q163 11))) + (Int32.ofNat (omr q163 12))) + (Int32.ofNat (omr q163 13))) + (Int32.ofNat (omr q163 14))) + (Int32.ofNat (omr q163 15))))]) _
   refine XS.lloadN X178.here hx rfl (hb hby d39_101) rfl ?_
   show SG p e below T178 (mkF m 102 #[vJ q163, vS] [(.long q163), (.int ((((((((((((((((1 : Int32) + (Int32.ofNat (omr q163 1))) + (Int32.ofNat (omr q163 2))) + (Int32.ofNat (omr q163 3))) + (Int32.ofNat (omr q163 4))) + (Int32.ofNat (omr q163 5))) + (Int32.ofNat (omr q163 6))) + (Int32.ofNat (omr q163 7))) + (Int32.ofNat (omr q163 8))) + (Int32.ofNat (omr q163 9))) + (Int32.ofNat (omr q163 10))) + (Int32.ofNat (omr q163 11))) + (Int32.ofNat (omr q163 12))) + (Int32.ofNat (omr q163 13))) + (Int32.ofNat (omr q163 14))) + (Int32.ofNat (omr q163 15))))]) _
   refine XS.bipush X178.here hx rfl (hb hby d39_102) ?_
   show SG p e below T178 (mkF m 104 #[vJ q163, vS] [(.int (16 : Int32)), (.long q163), (.int ((((((((((((((((1 : Int32) + (Int32.ofNat (omr q163 1))) + (Int32.ofNat (omr q163 2))) + (Int32.ofNat (omr q163 3))) + (Int32.ofNat (omr q163 4))) + (Int32.ofNat (omr q163 5))) + (Int32.ofNat (omr q163 6))) + (Int32.ofNat (omr q163 7))) + (Int32.ofNat (omr q163 8))) + (Int32.ofNat (omr q163 9))) + (Int32.ofNat (omr q163 10))) + (Int32.ofNat (omr q163 11))) + (Int32.ofNat (omr q163 12))) + (Int32.ofNat (omr q163 13))) + (Int32.ofNat (omr q163 14))) + (Int32.ofNat (omr q163 15))))]) _
   refine st179 _ ?_
   show SG p e below T179 (mkF m 107 #[vJ q163, vS] [(.int (Int32.ofNat (omr q163 16))), (.int ((((((((((((((((1 : Int32) + (Int32.ofNat (omr q163 1))) + (Int32.ofNat (omr q163 2))) + (Int32.ofNat (omr q163 3))) + (Int32.ofNat (omr q163 4))) + (Int32.ofNat (omr q163 5))) + (Int32.ofNat (omr q163 6))) + (Int32.ofNat (omr q163 7))) + (Int32.ofNat (omr q163 8))) + (Int32.ofNat (omr q163 9))) + (Int32.ofNat (omr q163 10))) + (Int32.ofNat (omr q163 11))) + (Int32.ofNat (omr q163 12))) + (Int32.ofNat (omr q163 13))) + (Int32.ofNat (omr q163 14))) + (Int32.ofNat (omr q163 15))))]) _
   refine XS.iadd X179.here hx rfl (hb hby d39_107) rfl ?_
   show SG p e below T179 (mkF m 108 #[vJ q163, vS] [(.int (((((((((((((((((1 : Int32) + (Int32.ofNat (omr q163 1))) + (Int32.ofNat (omr q163 2))) + (Int32.ofNat (omr q163 3))) + (Int32.ofNat (omr q163 4))) + (Int32.ofNat (omr q163 5))) + (Int32.ofNat (omr q163 6))) + (Int32.ofNat (omr q163 7))) + (Int32.ofNat (omr q163 8))) + (Int32.ofNat (omr q163 9))) + (Int32.ofNat (omr q163 10))) + (Int32.ofNat (omr q163 11))) + (Int32.ofNat (omr q163 12))) + (Int32.ofNat (omr q163 13))) + (Int32.ofNat (omr q163 14))) + (Int32.ofNat (omr q163 15))) + (Int32.ofNat (omr q163 16))))]) _
   refine XS.lloadN X179.here hx rfl (hb hby d39_108) rfl ?_
   show SG p e below T179 (mkF m 109 #[vJ q163, vS] [(.long q163), (.int (((((((((((((((((1 : Int32) + (Int32.ofNat (omr q163 1))) + (Int32.ofNat (omr q163 2))) + (Int32.ofNat (omr q163 3))) + (Int32.ofNat (omr q163 4))) + (Int32.ofNat (omr q163 5))) + (Int32.ofNat (omr q163 6))) + (Int32.ofNat (omr q163 7))) + (Int32.ofNat (omr q163 8))) + (Int32.ofNat (omr q163 9))) + (Int32.ofNat (omr q163 10))) + (Int32.ofNat (omr q163 11))) + (Int32.ofNat (omr q163 12))) + (Int32.ofNat (omr q163 13))) + (Int32.ofNat (omr q163 14))) + (Int32.ofNat (omr q163 15))) + (Int32.ofNat (omr q163 16))))]) _
   refine XS.bipush X179.here hx rfl (hb hby d39_109) ?_
   show SG p e below T179 (mkF m 111 #[vJ q163, vS] [(.int (17 : Int32)), (.long q163), (.int (((((((((((((((((1 : Int32) + (Int32.ofNat (omr q163 1))) + (Int32.ofNat (omr q163 2))) + (Int32.ofNat (omr q163 3))) + (Int32.ofNat (omr q163 4))) + (Int32.ofNat (omr q163 5))) + (Int32.ofNat (omr q163 6))) + (Int32.ofNat (omr q163 7))) + (Int32.ofNat (omr q163 8))) + (Int32.ofNat (omr q163 9))) + (Int32.ofNat (omr q163 10))) + (Int32.ofNat (omr q163 11))) + (Int32.ofNat (omr q163 12))) + (Int32.ofNat (omr q163 13))) + (Int32.ofNat (omr q163 14))) + (Int32.ofNat (omr q163 15))) + (Int32.ofNat (omr q163 16))))]) _
   refine st180 _ ?_
   show SG p e below T180 (mkF m 114 #[vJ q163, vS] [(.int (Int32.ofNat (omr q163 17))), (.int (((((((((((((((((1 : Int32) + (Int32.ofNat (omr q163 1))) + (Int32.ofNat (omr q163 2))) + (Int32.ofNat (omr q163 3))) + (Int32.ofNat (omr q163 4))) + (Int32.ofNat (omr q163 5))) + (Int32.ofNat (omr q163 6))) + (Int32.ofNat (omr q163 7))) + (Int32.ofNat (omr q163 8))) + (Int32.ofNat (omr q163 9))) + (Int32.ofNat (omr q163 10))) + (Int32.ofNat (omr q163 11))) + (Int32.ofNat (omr q163 12))) + (Int32.ofNat (omr q163 13))) + (Int32.ofNat (omr q163 14))) + (Int32.ofNat (omr q163 15))) + (Int32.ofNat (omr q163 16))))]) _
   refine XS.iadd X180.here hx rfl (hb hby d39_114) rfl ?_
   show SG p e below T180 (mkF m 115 #[vJ q163, vS] [(.int ((((((((((((((((((1 : Int32) + (Int32.ofNat (omr q163 1))) + (Int32.ofNat (omr q163 2))) + (Int32.ofNat (omr q163 3))) + (Int32.ofNat (omr q163 4))) + (Int32.ofNat (omr q163 5))) + (Int32.ofNat (omr q163 6))) + (Int32.ofNat (omr q163 7))) + (Int32.ofNat (omr q163 8))) + (Int32.ofNat (omr q163 9))) + (Int32.ofNat (omr q163 10))) + (Int32.ofNat (omr q163 11))) + (Int32.ofNat (omr q163 12))) + (Int32.ofNat (omr q163 13))) + (Int32.ofNat (omr q163 14))) + (Int32.ofNat (omr q163 15))) + (Int32.ofNat (omr q163 16))) + (Int32.ofNat (omr q163 17))))]) _
   refine XS.lloadN X180.here hx rfl (hb hby d39_115) rfl ?_
   show SG p e below T180 (mkF m 116 #[vJ q163, vS] [(.long q163), (.int ((((((((((((((((((1 : Int32) + (Int32.ofNat (omr q163 1))) + (Int32.ofNat (omr q163 2))) + (Int32.ofNat (omr q163 3))) + (Int32.ofNat (omr q163 4))) + (Int32.ofNat (omr q163 5))) + (Int32.ofNat (omr q163 6))) + (Int32.ofNat (omr q163 7))) + (Int32.ofNat (omr q163 8))) + (Int32.ofNat (omr q163 9))) + (Int32.ofNat (omr q163 10))) + (Int32.ofNat (omr q163 11))) + (Int32.ofNat (omr q163 12))) + (Int32.ofNat (omr q163 13))) + (Int32.ofNat (omr q163 14))) + (Int32.ofNat (omr q163 15))) + (Int32.ofNat (omr q163 16))) + (Int32.ofNat (omr q163 17))))]) _
   refine XS.bipush X180.here hx rfl (hb hby d39_116) ?_
   show SG p e below T180 (mkF m 118 #[vJ q163, vS] [(.int (18 : Int32)), (.long q163), (.int ((((((((((((((((((1 : Int32) + (Int32.ofNat (omr q163 1))) + (Int32.ofNat (omr q163 2))) + (Int32.ofNat (omr q163 3))) + (Int32.ofNat (omr q163 4))) + (Int32.ofNat (omr q163 5))) + (Int32.ofNat (omr q163 6))) + (Int32.ofNat (omr q163 7))) + (Int32.ofNat (omr q163 8))) + (Int32.ofNat (omr q163 9))) + (Int32.ofNat (omr q163 10))) + (Int32.ofNat (omr q163 11))) + (Int32.ofNat (omr q163 12))) + (Int32.ofNat (omr q163 13))) + (Int32.ofNat (omr q163 14))) + (Int32.ofNat (omr q163 15))) + (Int32.ofNat (omr q163 16))) + (Int32.ofNat (omr q163 17))))]) _
   refine st181 _ ?_
   show SG p e below T181 (mkF m 121 #[vJ q163, vS] [(.int (Int32.ofNat (omr q163 18))), (.int ((((((((((((((((((1 : Int32) + (Int32.ofNat (omr q163 1))) + (Int32.ofNat (omr q163 2))) + (Int32.ofNat (omr q163 3))) + (Int32.ofNat (omr q163 4))) + (Int32.ofNat (omr q163 5))) + (Int32.ofNat (omr q163 6))) + (Int32.ofNat (omr q163 7))) + (Int32.ofNat (omr q163 8))) + (Int32.ofNat (omr q163 9))) + (Int32.ofNat (omr q163 10))) + (Int32.ofNat (omr q163 11))) + (Int32.ofNat (omr q163 12))) + (Int32.ofNat (omr q163 13))) + (Int32.ofNat (omr q163 14))) + (Int32.ofNat (omr q163 15))) + (Int32.ofNat (omr q163 16))) + (Int32.ofNat (omr q163 17))))]) _
   refine XS.iadd X181.here hx rfl (hb hby d39_121) rfl ?_
   show SG p e below T181 (mkF m 122 #[vJ q163, vS] [(.int (((((((((((((((((((1 : Int32) + (Int32.ofNat (omr q163 1))) + (Int32.ofNat (omr q163 2))) + (Int32.ofNat (omr q163 3))) + (Int32.ofNat (omr q163 4))) + (Int32.ofNat (omr q163 5))) + (Int32.ofNat (omr q163 6))) + (Int32.ofNat (omr q163 7))) + (Int32.ofNat (omr q163 8))) + (Int32.ofNat (omr q163 9))) + (Int32.ofNat (omr q163 10))) + (Int32.ofNat (omr q163 11))) + (Int32.ofNat (omr q163 12))) + (Int32.ofNat (omr q163 13))) + (Int32.ofNat (omr q163 14))) + (Int32.ofNat (omr q163 15))) + (Int32.ofNat (omr q163 16))) + (Int32.ofNat (omr q163 17))) + (Int32.ofNat (omr q163 18))))]) _
   exact retI X181 hx Bd.returns (hb hby d39_122) hr
 · show Qr39_1 Z q163 h0 n0 _ T181.heap _
   exact ⟨N181, rfl, KC181⟩
theorem own_dgL (l : Launch) (Z : State) (a0 : Array Value) (hw : ∀ d ∈ tables_1, d.before a0 Z = true) (v : Int64) (h0 : Heap) (n0 : Nat) (Z0 : n0 ≤ h0.size) :
   OMet l Z mN9 method_6_code 2 (some .int) [] ({ frames := 2, cells := 18, slots := 342, locals := 30 } : Room) h0 #[(.long v)] (OQk (some (.int (Int32.ofNat (SBG.digitsL (v).toInt.natAbs)))) h0 n0) := by
 rw [← own_dsum32 v]
 refine own_imp (r39_1 l Z a0 hw v h0 n0 Z0 ) fun v h L q => ?_
 obtain ⟨N, e, K⟩ := q
 exact ⟨N, e, K⟩
theorem d47_0 : decode method_7_code 0 = .ok (.aload_n 0, 1) := by decide +kernel
theorem d47_1 : decode method_7_code 1 = .ok (.invokevirtual 38, 3) := by decide +kernel
theorem d9_0 : decode jdk_42_method_54_code 0 = .ok (.aload_n 0, 1) := by decide +kernel
theorem d9_1 : decode jdk_42_method_54_code 1 = .ok (.getfield 9, 3) := by decide +kernel
theorem d9_4 : decode jdk_42_method_54_code 4 = .ok (.arraylength, 1) := by decide +kernel
theorem d9_5 : decode jdk_42_method_54_code 5 = .ok (.aload_n 0, 1) := by decide +kernel
theorem d9_6 : decode jdk_42_method_54_code 6 = .ok (.invokevirtual 335, 3) := by decide +kernel
theorem d10_0 : decode jdk_42_method_152_code 0 = .ok (.getstatic 38, 3) := by decide +kernel
theorem d10_3 : decode jdk_42_method_152_code 3 = .ok (.ifCond .eq 10, 3) := by decide +kernel
theorem d10_6 : decode jdk_42_method_152_code 6 = .ok (.aload_n 0, 1) := by decide +kernel
theorem d10_7 : decode jdk_42_method_152_code 7 = .ok (.getfield 15, 3) := by decide +kernel
theorem d10_10 : decode jdk_42_method_152_code 10 = .ok (.goto 4, 3) := by decide +kernel
theorem d10_14 : decode jdk_42_method_152_code 14 = .ok (.ireturn, 1) := by decide +kernel
theorem ef_10_v (m : MethodId) (x0 : Addr) : entryFrame m #[(.ref x0)] 1 = mkF m 0 #[.val (.ref x0)] [] := by first | (simp [entryFrame, mkF, argsToLocals, Value.category]; done) | rfl
theorem r10_1 (l : Launch) (Z : State) (a0 : Array Value) (hw : ∀ d ∈ tables_1, d.before a0 Z = true) (a192 : Addr) (w193 : Int32) (w195 : Int32) (h0 : Heap) (n0 : Nat) (Z0 : n0 ≤ h0.size) (H0 : Sta Z h0 "java/lang/String" "COMPACT_STRINGS" "Z" (.int w193)) (H1 : ¬ (w193 = (0 : Int32))) (H2 : Fld Z h0 a192 "java/lang/String" "coder" "B" (.int w195)) (H3 : nar .byte w195 = w195) :
   OMet l Z mN10 jdk_42_method_152_code 1 (some .byte) [] ({ frames := 0, cells := 0, slots := 0, locals := 0 } : Room) h0 #[(.ref a192)] (OQp (some (.int w195)) h0 n0) := by
 refine MetFree.of_bodySF (plainFor_of_name pn_java_lang_String) hisR ?_
 intro p e s m args below meth c s₁ Bd hml0 hP hK
 obtain ⟨rfl, hZ, hh⟩ := hP
 have hx := Bd.exec
 have hby := Bd.bytes
 have hml : c.maxLocals = 1 := hml0
 have hown : s.vm.findClass "java/lang/String" = some m.cls := findClass_of_methodNamed Bd.named
 have hnm := (name_of_methodNamed Bd.named Bd.method).1
 have X0 : Stand p l e ({ frames := 0, cells := 0, slots := 0, locals := 0 } : Room) s m #[(.ref a192)] below meth c s₁ [] 0 0 := Stand.of_body Bd
 have e0 : s₁.heap = h0 := by rw [← hh, Bd.state]; rfl
 have N0 := Fr.nil n0
 have pre0 : ∀ t, Steps p.tables e below (s₁.setTop (mkF m 0 #[vR a192] [])) t → Steps p.tables e below (s₁.setTop (entryFrame m #[(.ref a192)] 1)) t := fun t k => castTop (ef_10_v m a192) k
 obtain ⟨T194, X194, e194, st194⟩ := getS2 X0 hx hZ hown (host := "") (Or.inl (tw hw 70 rfl)) Via.refl e0 H0 (g := (mkF m 0 #[vR a192] [])) rfl (hb hby d10_0)
 obtain ⟨T196, X196, e196, st196⟩ := getF X194 hx hZ hown (host := "") (Or.inl (tw hw 71 rfl)) Via.refl e194 H2 (g := (mkF m 7 #[vR a192] [(.ref a192)])) rfl rfl (hb hby d10_7)
 obtain ⟨fs, hr, hrun, hended, hW, hsame⟩ := X196.leave (v := some (.int w195)) (fun h => by rw [Bd.returns] at h; cases h)
 refine ⟨_, _, pre0 _ ?_, hrun, hended, _, _, rfl, ?_, ⟨_, rfl⟩, hW, hsame.mono (by decide) (by decide)⟩
 · show SG p e below s₁ (mkF m 0 #[vR a192] []) _
   refine st194 _ ?_
   show SG p e below T194 (mkF m 3 #[vR a192] [(.int w193)]) _
   refine XS.ifNo X194.here hx rfl (hb hby d10_3) rfl ((if0 _ _).trans (feq H1).1) ?_
   show SG p e below T194 (mkF m 6 #[vR a192] []) _
   refine XS.aloadN X194.here hx rfl (hb hby d10_6) rfl rfl ?_
   show SG p e below T194 (mkF m 7 #[vR a192] [(.ref a192)]) _
   refine st196 _ ?_
   show SG p e below T196 (mkF m 10 #[vR a192] [(.int w195)]) _
   refine XS.goto X196.here hx rfl (pc0 := 10) (pc' := 14) rfl (hb hby d10_10) (by decide) (by decide) ?_
   show SG p e below T196 (mkF m 14 #[vR a192] [(.int w195)]) _
   exact retN X196 hx (t := .byte) Bd.returns (by simp) (hb hby d10_14) (by rw [H3]; exact hr)
 · show OQp (some (.int w195)) h0 n0 _ T196.heap _
   rw [e196]
   exact ⟨rfl, N0, rfl⟩
theorem pd_6 : parseMethodDescriptor "()B" = some ⟨[], some .byte⟩ := by decide +kernel
theorem d9_9 : decode jdk_42_method_54_code 9 = .ok (.ishr, 1) := by decide +kernel
theorem d9_10 : decode jdk_42_method_54_code 10 = .ok (.ireturn, 1) := by decide +kernel
theorem ef_9_v (m : MethodId) (x0 : Addr) : entryFrame m #[(.ref x0)] 1 = mkF m 0 #[.val (.ref x0)] [] := by first | (simp [entryFrame, mkF, argsToLocals, Value.category]; done) | rfl
theorem r9_1 (l : Launch) (Z : State) (a0 : Array Value) (hw : ∀ d ∈ tables_1, d.before a0 Z = true) (a185 : Addr) (w186 : Addr) (k188 : ClassId) (u189 : Nat → Int32) (p190 : Int32) (w198 : Int32) (w199 : Int32) (h0 : Heap) (n0 : Nat) (Z0 : n0 ≤ h0.size) (H0 : Fld Z h0 a185 "java/lang/String" "value" "[B" (.ref w186)) (H1 : BA Z h0 w186 k188 .byte p190 u189) (H2 : Sta Z h0 "java/lang/String" "COMPACT_STRINGS" "Z" (.int w198)) (H3 : ¬ (w198 = (0 : Int32))) (H4 : Fld Z h0 a185 "java/lang/String" "coder" "B" (.int w199)) (H5 : nar .byte w199 = w199) (H6 : Exa Z h0 a185 "java/lang/String") :
   OMet l Z mN11 jdk_42_method_54_code 1 (some .int) [] ({ frames := 1, cells := 0, slots := 0, locals := 13 } : Room) h0 #[(.ref a185)] (OQp (some (.int (p190 >>> (w199 &&& 31)))) h0 n0) := by
 refine MetFree.of_bodySF (plainFor_of_name pn_java_lang_String) hisR ?_
 intro p e s m args below meth c s₁ Bd hml0 hP hK
 obtain ⟨rfl, hZ, hh⟩ := hP
 have hx := Bd.exec
 have hby := Bd.bytes
 have hml : c.maxLocals = 1 := hml0
 have hown : s.vm.findClass "java/lang/String" = some m.cls := findClass_of_methodNamed Bd.named
 have hnm := (name_of_methodNamed Bd.named Bd.method).1
 have X0 : Stand p l e ({ frames := 1, cells := 0, slots := 0, locals := 13 } : Room) s m #[(.ref a185)] below meth c s₁ [] 0 0 := Stand.of_body Bd
 have e0 : s₁.heap = h0 := by rw [← hh, Bd.state]; rfl
 have N0 := Fr.nil n0
 have pre0 : ∀ t, Steps p.tables e below (s₁.setTop (mkF m 0 #[vR a185] [])) t → Steps p.tables e below (s₁.setTop (entryFrame m #[(.ref a185)] 1)) t := fun t k => castTop (ef_9_v m a185) k
 obtain ⟨T187, X187, e187, st187⟩ := getF X0 hx hZ hown (host := "") (Or.inl (tw hw 64 rfl)) Via.refl e0 H0 (g := (mkF m 1 #[vR a185] [(.ref a185)])) rfl rfl (hb hby d9_1)
 have vc191 := H1
 obtain ⟨cl191, Ar191, q191, S191, N191, Hh191, G191⟩ := vc191
 obtain ⟨cq197, kq197, q197a, q197b, q197c⟩ := isOf hZ e187 H6
 obtain ⟨_, _, ⟨T197, L197, k197, n197⟩, -, X197, ⟨Lc197, hQ197, l197, y197, z197⟩, st197⟩ := X187.virtualBack hx (y := mN10) (z := mN10) hown (mvT hZ (tw hw 65 rfl)) (mvT hZ (tw hw 66 rfl)) (notFace_of_selects (args := #[]) (mvT hZ (tw hw 68 rfl))) (mvT hZ (tw hw 68 rfl)) (mvT hZ (tw hw 67 rfl)) (by decide) (backOf (W := 1) (r10_1 l Z a0 hw a185 w198 w199 h0 n0 Z0 H2 H3 H4 H5) hZ (tw hw 69 rfl) (tw hw 37 rfl) (by decide) (by decide)) q197a q197c (g := (mkF m 6 #[vR a185] [(.ref a185), (.int p190)])) rfl (by rw [hml]; rfl) (Steps.refl _) (argsL := []) (rest := [(.int p190)]) (lenOf pd_6 rfl) rfl (own_w _) (hb hby d9_6) (fun _ _ => ⟨rfl, e187, (by decide : 0 + 0 ≤ _), (by decide : 0 + 0 ≤ _)⟩)
 dsimp only [Pt.U, Pt.locs, Pt.cells, Pt.slots] at X197 l197 y197 z197 st197 hQ197
 replace X197 := own_mvX X197 (a := 0) (b := 0) y197 z197
 obtain ⟨rfl, N197q, e197⟩ := hQ197
 have N197 := own_mvN l197 N0 N197q
 obtain ⟨fs, hr, hrun, hended, hW, hsame⟩ := X197.leave (v := some (.int (p190 >>> (w199 &&& 31)))) (fun h => by rw [Bd.returns] at h; cases h)
 refine ⟨_, _, pre0 _ ?_, hrun, hended, _, _, rfl, ?_, ⟨_, rfl⟩, hW, hsame.mono (by decide) (by decide)⟩
 · show SG p e below s₁ (mkF m 0 #[vR a185] []) _
   refine XS.aloadN X0.here hx rfl (hb hby d9_0) rfl rfl ?_
   show SG p e below s₁ (mkF m 1 #[vR a185] [(.ref a185)]) _
   refine st187 _ ?_
   show SG p e below T187 (mkF m 4 #[vR a185] [(.ref w186)]) _
   refine X187.arraylength hx (by rw [e187]; exact Ar191.1) (State.isArrayOf_alike hZ.alike Ar191.2.1) (g := (mkF m 4 #[vR a185] [(.ref w186)])) rfl rfl (hb hby d9_4) _ ?_
   rw [len_of S191 N191]
   show SG p e below T187 (mkF m 5 #[vR a185] [(.int p190)]) _
   refine XS.aloadN X187.here hx rfl (hb hby d9_5) rfl rfl ?_
   show SG p e below T187 (mkF m 6 #[vR a185] [(.ref a185), (.int p190)]) _
   refine st197.trans ?_
   show SG p e below T197 (mkF m 9 #[vR a185] [(.int w199), (.int p190)]) _
   refine XS.ishr X197.here hx rfl (hb hby d9_9) rfl ?_
   show SG p e below T197 (mkF m 10 #[vR a185] [(.int (p190 >>> (w199 &&& 31)))]) _
   exact retI X197 hx Bd.returns (hb hby d9_10) hr
 · show OQp (some (.int (p190 >>> (w199 &&& 31)))) h0 n0 _ T197.heap _
   rw [e197]
   exact ⟨rfl, N197, rfl⟩
theorem pd_7 : parseMethodDescriptor "()I" = some ⟨[], some .int⟩ := by decide +kernel
theorem d47_4 : decode method_7_code 4 = .ok (.istore 4, 2) := by decide +kernel
theorem d47_6 : decode method_7_code 6 = .ok (.iload_n 3, 1) := by decide +kernel
abbrev la0 (a182 : Addr) (q183 : Int64) (p184 : Int32) (p204 : Int32) (w206 : Int32) : Array Slot := #[vR a182, vJ q183, vS, vI p184, vI (p204 >>> (w206 &&& 31)), vU, vU, vU, vU]
theorem d47_7 : decode method_7_code 7 = .ok (.iload 4, 2) := by decide +kernel
theorem d47_9 : decode method_7_code 9 = .ok (.if_icmp .ge 9, 3) := by decide +kernel
theorem d47_12 : decode method_7_code 12 = .ok (.aload_n 0, 1) := by decide +kernel
theorem d47_13 : decode method_7_code 13 = .ok (.iload_n 3, 1) := by decide +kernel
theorem d47_14 : decode method_7_code 14 = .ok (.invokevirtual 46, 3) := by decide +kernel
theorem pd_8 : parseMethodDescriptor "(I)C" = some ⟨[.int], some .char⟩ := by decide +kernel
theorem d47_17 : decode method_7_code 17 = .ok (.ireturn, 1) := by decide +kernel
theorem ef_47_vvv (m : MethodId) (x0 : Addr) (x1 : Int64) (x2 : Int32) : entryFrame m #[(.ref x0), (.long x1), (.int x2)] 9 = mkF m 0 #[.val (.ref x0), .val (.long x1), .second, .val (.int x2), .unset, .unset, .unset, .unset, .unset] [] := by first | (simp [entryFrame, mkF, argsToLocals, Value.category]; done) | rfl
theorem r47_1 (l : Launch) (Z : State) (a0 : Array Value) (hw : ∀ d ∈ tables_1, d.before a0 Z = true) (a182 : Addr) (q183 : Int64) (p184 : Int32) (w201 : Addr) (k202 : ClassId) (u203 : Nat → Int32) (p204 : Int32) (w205 : Int32) (w206 : Int32) (x208 : Value) (h0 : Heap) (n0 : Nat) (Z0 : n0 ≤ h0.size) (H0 : Fld Z h0 a182 "java/lang/String" "value" "[B" (.ref w201)) (H1 : BA Z h0 w201 k202 .byte p204 u203) (H2 : Sta Z h0 "java/lang/String" "COMPACT_STRINGS" "Z" (.int w205)) (H3 : ¬ (w205 = (0 : Int32))) (H4 : Fld Z h0 a182 "java/lang/String" "coder" "B" (.int w206)) (H5 : nar .byte w206 = w206) (H6 : Exa Z h0 a182 "java/lang/String") (H7 : p184 < (p204 >>> (w206 &&& 31))) (H8 : w206 = (0 : Int32)) (H9 : Sta Z h0 "jdk/internal/util/Preconditions" "SIOOBE_FORMATTER" "Ljava/util/function/BiFunction;" x208) (H10 : (x208).isRef = true) (H11 : ¬ (p184 < (0 : Int32))) (H12 : p184 < p204) (H13 : nar .char (oc8 (u203 (p184).toNatClampNeg)) = (oc8 (u203 (p184).toNatClampNeg))) :
   OMet l Z mN12 method_7_code 9 (some .char) [] ({ frames := 4, cells := 19, slots := 361, locals := 53 } : Room) h0 #[(.ref a182), (.long q183), (.int p184)] (OQp (some (.int (oc8 (u203 (p184).toNatClampNeg)))) h0 n0) := by
 refine MetFree.of_bodySF (plainFor_of_name pn_com_example_eta4_eta4_bench_FillFiguresLinesPinLaw) hisR ?_
 intro p e s m args below meth c s₁ Bd hml0 hP hK
 obtain ⟨rfl, hZ, hh⟩ := hP
 have hx := Bd.exec
 have hby := Bd.bytes
 have hml : c.maxLocals = 9 := hml0
 have hown : s.vm.findClass "com/example/eta4/eta4/bench/FillFiguresLinesPinLaw" = some m.cls := findClass_of_methodNamed Bd.named
 have hnm := (name_of_methodNamed Bd.named Bd.method).1
 have X0 : Stand p l e ({ frames := 4, cells := 19, slots := 361, locals := 53 } : Room) s m #[(.ref a182), (.long q183), (.int p184)] below meth c s₁ [] 0 0 := Stand.of_body Bd
 have e0 : s₁.heap = h0 := by rw [← hh, Bd.state]; rfl
 have N0 := Fr.nil n0
 have pre0 : ∀ t, Steps p.tables e below (s₁.setTop (mkF m 0 #[vR a182, vJ q183, vS, vI p184, .unset, .unset, .unset, .unset, .unset] [])) t → Steps p.tables e below (s₁.setTop (entryFrame m #[(.ref a182), (.long q183), (.int p184)] 9)) t := fun t k => castTop (ef_47_vvv m a182 q183 p184) k
 obtain ⟨cq200, kq200, q200a, q200b, q200c⟩ := isOf hZ e0 H6
 obtain ⟨_, _, ⟨T200, L200, k200, n200⟩, -, X200, ⟨Lc200, hQ200, l200, y200, z200⟩, st200⟩ := X0.virtualBack hx (y := mN11) (z := mN11) hown (mvT hZ (tw hw 231 rfl)) (mvT hZ (tw hw 60 rfl)) (notFace_of_selects (args := #[]) (mvT hZ (tw hw 62 rfl))) (mvT hZ (tw hw 62 rfl)) (mvT hZ (tw hw 61 rfl)) (by decide) (backOf (W := 0) (r9_1 l Z a0 hw a182 w201 k202 u203 p204 w205 w206 h0 n0 Z0 H0 H1 H2 H3 H4 H5 H6) hZ (tw hw 63 rfl) (tw hw 37 rfl) (by decide) (by decide)) q200a q200c (g := (mkF m 1 #[vR a182, vJ q183, vS, vI p184, vU, vU, vU, vU, vU] [(.ref a182)])) rfl (by rw [hml]; rfl) (Steps.refl _) (argsL := []) (rest := []) (lenOf pd_7 rfl) rfl (own_w _) (hb hby d47_1) (fun _ _ => ⟨rfl, e0, (by decide : 0 + 0 ≤ _), (by decide : 0 + 0 ≤ _)⟩)
 dsimp only [Pt.U, Pt.locs, Pt.cells, Pt.slots] at X200 l200 y200 z200 st200 hQ200
 replace X200 := own_mvX X200 (a := 0) (b := 0) y200 z200
 obtain ⟨rfl, N200q, e200⟩ := hQ200
 have N200 := own_mvN l200 N0 N200q
 obtain ⟨cq207, kq207, q207a, q207b, q207c⟩ := isOf hZ e200 H6
 obtain ⟨_, _, ⟨T207, L207, k207, n207⟩, -, X207, ⟨Lc207, hQ207, l207, y207, z207⟩, st207⟩ := X200.virtualBack hx (y := mN5) (z := mN5) hown (mvT hZ (tw hw 261 rfl)) (mvT hZ (tw hw 262 rfl)) (notFace_of_selects (args := #[]) (mvT hZ (tw hw 264 rfl))) (mvT hZ (tw hw 264 rfl)) (mvT hZ (tw hw 263 rfl)) (by decide) (backOf (W := 0) (own_ch l Z a0 hw a182 w205 w206 w201 k202 p204 u203 x208 p184 h0 n0 Z0 H2 H3 H4 H8 H6 H0 H1 H9 H10 H11 H12) hZ (tw hw 265 rfl) (tw hw 37 rfl) (by decide) (by decide)) q207a q207c (g := (mkF m 14 (la0 a182 q183 p184 p204 w206) [(.int p184), (.ref a182)])) rfl (by rw [hml]; rfl) (Steps.refl _) (argsL := [(.int p184)]) (rest := []) (lenOf pd_8 rfl) rfl (own_w _) (hb hby d47_14) (fun _ _ => ⟨rfl, e200, (by decide : 0 + 0 ≤ _), (by decide : 0 + 0 ≤ _)⟩)
 dsimp only [Pt.U, Pt.locs, Pt.cells, Pt.slots] at X207 l207 y207 z207 st207 hQ207
 replace X207 := own_mvX X207 (a := 0) (b := 0) y207 z207
 obtain ⟨rfl, N207q, e207⟩ := hQ207
 have N207 := own_mvN l207 N200 N207q
 obtain ⟨fs, hr, hrun, hended, hW, hsame⟩ := X207.leave (v := some (.int (oc8 (u203 (p184).toNatClampNeg)))) (fun h => by rw [Bd.returns] at h; cases h)
 refine ⟨_, _, pre0 _ ?_, hrun, hended, _, _, rfl, ?_, ⟨_, rfl⟩, hW, hsame.mono (by decide) (by decide)⟩
 · show SG p e below s₁ (mkF m 0 #[vR a182, vJ q183, vS, vI p184, vU, vU, vU, vU, vU] []) _
   refine XS.aloadN X0.here hx rfl (hb hby d47_0) rfl rfl ?_
   show SG p e below s₁ (mkF m 1 #[vR a182, vJ q183, vS, vI p184, vU, vU, vU, vU, vU] [(.ref a182)]) _
   refine st200.trans ?_
   show SG p e below T200 (mkF m 4 #[vR a182, vJ q183, vS, vI p184, vU, vU, vU, vU, vU] [(.int (p204 >>> (w206 &&& 31)))]) _
   refine XS.istore X200.here hx rfl (hb hby d47_4) rfl (l' := #[vR a182, vJ q183, vS, vI p184, vI (p204 >>> (w206 &&& 31)), vU, vU, vU, vU]) rfl ?_
   show SG p e below T200 (mkF m 6 (la0 a182 q183 p184 p204 w206) []) _
   refine XS.iloadN X200.here hx rfl (hb hby d47_6) rfl ?_
   show SG p e below T200 (mkF m 7 (la0 a182 q183 p184 p204 w206) [(.int p184)]) _
   refine XS.iload X200.here hx rfl (hb hby d47_7) rfl ?_
   show SG p e below T200 (mkF m 9 (la0 a182 q183 p184 p204 w206) [(.int (p204 >>> (w206 &&& 31))), (.int p184)]) _
   refine XS.icmpNo X200.here hx rfl (hb hby d47_9) rfl (tlt H7).2.1 ?_
   show SG p e below T200 (mkF m 12 (la0 a182 q183 p184 p204 w206) []) _
   refine XS.aloadN X200.here hx rfl (hb hby d47_12) rfl rfl ?_
   show SG p e below T200 (mkF m 13 (la0 a182 q183 p184 p204 w206) [(.ref a182)]) _
   refine XS.iloadN X200.here hx rfl (hb hby d47_13) rfl ?_
   show SG p e below T200 (mkF m 14 (la0 a182 q183 p184 p204 w206) [(.int p184), (.ref a182)]) _
   refine st207.trans ?_
   show SG p e below T207 (mkF m 17 (la0 a182 q183 p184 p204 w206) [(.int (oc8 (u203 (p184).toNatClampNeg)))]) _
   exact retN X207 hx (t := .char) Bd.returns (by simp) (hb hby d47_17) (by rw [H13]; exact hr)
 · show OQp (some (.int (oc8 (u203 (p184).toNatClampNeg)))) h0 n0 _ T207.heap _
   rw [e207]
   exact ⟨rfl, N207, rfl⟩
abbrev la1 (a209 : Addr) (q210 : Int64) (p211 : Int32) (p231 : Int32) (w233 : Int32) : Array Slot := #[vR a209, vJ q210, vS, vI p211, vI (p231 >>> (w233 &&& 31)), vU, vU, vU, vU]
theorem d47_18 : decode method_7_code 18 = .ok (.iload_n 3, 1) := by decide +kernel
theorem d47_19 : decode method_7_code 19 = .ok (.iload 4, 2) := by decide +kernel
theorem d47_21 : decode method_7_code 21 = .ok (.isub, 1) := by decide +kernel
theorem d47_22 : decode method_7_code 22 = .ok (.istore 5, 2) := by decide +kernel
theorem d47_24 : decode method_7_code 24 = .ok (.lload_n 1, 1) := by decide +kernel
abbrev la2 (a209 : Addr) (q210 : Int64) (p211 : Int32) (p231 : Int32) (w233 : Int32) : Array Slot := #[vR a209, vJ q210, vS, vI p211, vI (p231 >>> (w233 &&& 31)), vI (p211 - (p231 >>> (w233 &&& 31))), vU, vU, vU]
theorem d47_25 : decode method_7_code 25 = .ok (.lconst 0, 1) := by decide +kernel
theorem d47_26 : decode method_7_code 26 = .ok (.lcmp, 1) := by decide +kernel
theorem d47_27 : decode method_7_code 27 = .ok (.ifCond .ge 17, 3) := by decide +kernel
theorem d47_44 : decode method_7_code 44 = .ok (.lload_n 1, 1) := by decide +kernel
theorem d47_45 : decode method_7_code 45 = .ok (.invokestatic 41, 3) := by decide +kernel
theorem pd_9 : parseMethodDescriptor "(J)I" = some ⟨[.long], some .int⟩ := by decide +kernel
theorem d47_48 : decode method_7_code 48 = .ok (.iconst 1, 1) := by decide +kernel
theorem d47_49 : decode method_7_code 49 = .ok (.isub, 1) := by decide +kernel
theorem d47_50 : decode method_7_code 50 = .ok (.iload 5, 2) := by decide +kernel
theorem d47_52 : decode method_7_code 52 = .ok (.isub, 1) := by decide +kernel
theorem d47_53 : decode method_7_code 53 = .ok (.istore 6, 2) := by decide +kernel
theorem d47_55 : decode method_7_code 55 = .ok (.lload_n 1, 1) := by decide +kernel
abbrev la3 (a209 : Addr) (q210 : Int64) (p211 : Int32) (p231 : Int32) (w233 : Int32) : Array Slot := #[vR a209, vJ q210, vS, vI p211, vI (p231 >>> (w233 &&& 31)), vI (p211 - (p231 >>> (w233 &&& 31))), vI (((Int32.ofNat (SBG.digitsL (q210).toInt.natAbs)) - (1 : Int32)) - (p211 - (p231 >>> (w233 &&& 31)))), vU, vU]
theorem d47_56 : decode method_7_code 56 = .ok (.iload 6, 2) := by decide +kernel
theorem d47_58 : decode method_7_code 58 = .ok (.invokestatic 90, 3) := by decide +kernel
theorem d47_61 : decode method_7_code 61 = .ok (.ldiv, 1) := by decide +kernel
theorem d47_62 : decode method_7_code 62 = .ok (.ldc2_w 54, 3) := by decide +kernel
theorem d47_65 : decode method_7_code 65 = .ok (.lrem, 1) := by decide +kernel
theorem d47_66 : decode method_7_code 66 = .ok (.lstore 7, 2) := by decide +kernel
theorem d47_68 : decode method_7_code 68 = .ok (.bipush 48, 2) := by decide +kernel
abbrev la4 (a209 : Addr) (q210 : Int64) (p211 : Int32) (p231 : Int32) (w233 : Int32) (q280 : Int64) : Array Slot := #[vR a209, vJ q210, vS, vI p211, vI (p231 >>> (w233 &&& 31)), vI (p211 - (p231 >>> (w233 &&& 31))), vI (((Int32.ofNat (SBG.digitsL (q210).toInt.natAbs)) - (1 : Int32)) - (p211 - (p231 >>> (w233 &&& 31)))), vJ ((q210 / q280) % (10 : Int64)), vS]
theorem d47_70 : decode method_7_code 70 = .ok (.lload 7, 2) := by decide +kernel
theorem d47_72 : decode method_7_code 72 = .ok (.invokestatic 98, 3) := by decide +kernel
theorem pd_10 : parseMethodDescriptor "(J)J" = some ⟨[.long], some .long⟩ := by decide +kernel
theorem d47_75 : decode method_7_code 75 = .ok (.l2i, 1) := by decide +kernel
theorem d47_76 : decode method_7_code 76 = .ok (.iadd, 1) := by decide +kernel
theorem d47_77 : decode method_7_code 77 = .ok (.i2c, 1) := by decide +kernel
theorem d47_78 : decode method_7_code 78 = .ok (.ireturn, 1) := by decide +kernel
def Qr47_2 (Z : State) (a209 : Addr) (q210 : Int64) (p211 : Int32) (w228 : Addr) (k229 : ClassId) (u230 : Nat → Int32) (p231 : Int32) (w232 : Int32) (w233 : Int32) (q280 : Int64) (h0 : Heap) (n0 : Nat) (v : Option Value) (h : Heap) (L : List Loc) : Prop := Fr n0 L ∧ ∃ b279_0 : Addr, ∃ k279_0 : ClassId, v = some (.int (((48 : Int32) + ((oabl ((q210 / q280) % (10 : Int64))).toInt32)).toUInt32.toUInt16.toUInt32.toInt32)) ∧ h0.size ≤ b279_0 ∧ KSx h0 h [] [] ∧ Arv Z h b279_0 k279_0 .long (19 : Int32) [(.long (1 : Int64)), (.long (10 : Int64)), (.long (100 : Int64)), (.long (1000 : Int64)), (.long (10000 : Int64)), (.long (100000 : Int64)), (.long (1000000 : Int64)), (.long (10000000 : Int64)), (.long (100000000 : Int64)), (.long (1000000000 : Int64)), (.long (10000000000 : Int64)), (.long (100000000000 : Int64)), (.long (1000000000000 : Int64)), (.long (10000000000000 : Int64)), (.long (100000000000000 : Int64)), (.long (1000000000000000 : Int64)), (.long (10000000000000000 : Int64)), (.long (100000000000000000 : Int64)), (.long (1000000000000000000 : Int64))] (.long (0 : Int64))
theorem r47_2 (l : Launch) (Z : State) (a0 : Array Value) (hw : ∀ d ∈ tables_1, d.before a0 Z = true) (a209 : Addr) (q210 : Int64) (p211 : Int32) (w228 : Addr) (k229 : ClassId) (u230 : Nat → Int32) (p231 : Int32) (w232 : Int32) (w233 : Int32) (q280 : Int64) (h0 : Heap) (n0 : Nat) (Z0 : n0 ≤ h0.size) (H0 : Fld Z h0 a209 "java/lang/String" "value" "[B" (.ref w228)) (H1 : BA Z h0 w228 k229 .byte p231 u230) (H2 : Sta Z h0 "java/lang/String" "COMPACT_STRINGS" "Z" (.int w232)) (H3 : ¬ (w232 = (0 : Int32))) (H4 : Fld Z h0 a209 "java/lang/String" "coder" "B" (.int w233)) (H5 : nar .byte w233 = w233) (H6 : Exa Z h0 a209 "java/lang/String") (H7 : ¬ (p211 < (p231 >>> (w233 &&& 31)))) (H8 : ¬ ((lcmpW q210 (0 : Int64)) < (0 : Int32))) (H9 : ¬ ((((Int32.ofNat (SBG.digitsL (q210).toInt.natAbs)) - (1 : Int32)) - (p211 - (p231 >>> (w233 &&& 31)))) < (0 : Int32))) (H10 : (((Int32.ofNat (SBG.digitsL (q210).toInt.natAbs)) - (1 : Int32)) - (p211 - (p231 >>> (w233 &&& 31)))) < (19 : Int32)) (H11 : ([(.long (1 : Int64)), (.long (10 : Int64)), (.long (100 : Int64)), (.long (1000 : Int64)), (.long (10000 : Int64)), (.long (100000 : Int64)), (.long (1000000 : Int64)), (.long (10000000 : Int64)), (.long (100000000 : Int64)), (.long (1000000000 : Int64)), (.long (10000000000 : Int64)), (.long (100000000000 : Int64)), (.long (1000000000000 : Int64)), (.long (10000000000000 : Int64)), (.long (100000000000000 : Int64)), (.long (1000000000000000 : Int64)), (.long (10000000000000000 : Int64)), (.long (100000000000000000 : Int64)), (.long (1000000000000000000 : Int64))] : List Value).getD ((((Int32.ofNat (SBG.digitsL (q210).toInt.natAbs)) - (1 : Int32)) - (p211 - (p231 >>> (w233 &&& 31))))).toNatClampNeg (.long (0 : Int64)) = (.long q280)) (H12 : ¬ (q280 = (0 : Int64))) (H13 : nar .char (((48 : Int32) + ((oabl ((q210 / q280) % (10 : Int64))).toInt32)).toUInt32.toUInt16.toUInt32.toInt32) = (((48 : Int32) + ((oabl ((q210 / q280) % (10 : Int64))).toInt32)).toUInt32.toUInt16.toUInt32.toInt32)) :
   OMet l Z mN12 method_7_code 9 (some .char) [] ({ frames := 4, cells := 19, slots := 361, locals := 53 } : Room) h0 #[(.ref a209), (.long q210), (.int p211)] (Qr47_2 Z a209 q210 p211 w228 k229 u230 p231 w232 w233 q280 h0 n0) := by
 refine MetFree.of_bodySF (plainFor_of_name pn_com_example_eta4_eta4_bench_FillFiguresLinesPinLaw) hisR ?_
 intro p e s m args below meth c s₁ Bd hml0 hP hK
 obtain ⟨rfl, hZ, hh⟩ := hP
 have hx := Bd.exec
 have hby := Bd.bytes
 have hml : c.maxLocals = 9 := hml0
 have hown : s.vm.findClass "com/example/eta4/eta4/bench/FillFiguresLinesPinLaw" = some m.cls := findClass_of_methodNamed Bd.named
 have hnm := (name_of_methodNamed Bd.named Bd.method).1
 have X0 : Stand p l e ({ frames := 4, cells := 19, slots := 361, locals := 53 } : Room) s m #[(.ref a209), (.long q210), (.int p211)] below meth c s₁ [] 0 0 := Stand.of_body Bd
 have e0 : s₁.heap = h0 := by rw [← hh, Bd.state]; rfl
 have N0 := Fr.nil n0
 have pre0 : ∀ t, Steps p.tables e below (s₁.setTop (mkF m 0 #[vR a209, vJ q210, vS, vI p211, .unset, .unset, .unset, .unset, .unset] [])) t → Steps p.tables e below (s₁.setTop (entryFrame m #[(.ref a209), (.long q210), (.int p211)] 9)) t := fun t k => castTop (ef_47_vvv m a209 q210 p211) k
 obtain ⟨cq227, kq227, q227a, q227b, q227c⟩ := isOf hZ e0 H6
 obtain ⟨_, _, ⟨T227, L227, k227, n227⟩, -, X227, ⟨Lc227, hQ227, l227, y227, z227⟩, st227⟩ := X0.virtualBack hx (y := mN11) (z := mN11) hown (mvT hZ (tw hw 231 rfl)) (mvT hZ (tw hw 60 rfl)) (notFace_of_selects (args := #[]) (mvT hZ (tw hw 62 rfl))) (mvT hZ (tw hw 62 rfl)) (mvT hZ (tw hw 61 rfl)) (by decide) (backOf (W := 0) (r9_1 l Z a0 hw a209 w228 k229 u230 p231 w232 w233 h0 n0 Z0 H0 H1 H2 H3 H4 H5 H6) hZ (tw hw 63 rfl) (tw hw 37 rfl) (by decide) (by decide)) q227a q227c (g := (mkF m 1 #[vR a209, vJ q210, vS, vI p211, vU, vU, vU, vU, vU] [(.ref a209)])) rfl (by rw [hml]; rfl) (Steps.refl _) (argsL := []) (rest := []) (lenOf pd_7 rfl) rfl (own_w _) (hb hby d47_1) (fun _ _ => ⟨rfl, e0, (by decide : 0 + 0 ≤ _), (by decide : 0 + 0 ≤ _)⟩)
 dsimp only [Pt.U, Pt.locs, Pt.cells, Pt.slots] at X227 l227 y227 z227 st227 hQ227
 replace X227 := own_mvX X227 (a := 0) (b := 0) y227 z227
 obtain ⟨rfl, N227q, e227⟩ := hQ227
 have N227 := own_mvN l227 N0 N227q
 obtain ⟨_, _, ⟨T234, L234, k234, n234⟩, -, X234, ⟨Lc234, hQ234, l234, y234, z234⟩, st234⟩ := Jvm.LawKit.callS X227 hx (y := mN9) hown (mvT hZ (tw hw 232 rfl)) (mvT hZ (tw hw 233 rfl)) (mvT hZ (tw hw 229 rfl)) (mvT hZ (tw hw 234 rfl)) (by decide) (backOf (W := 0) (own_dgL l Z a0 hw q210 h0 n0 Z0) hZ (tw hw 234 rfl) (tw hw 229 rfl) (by decide) (by decide)) (g := (mkF m 45 (la2 a209 q210 p211 p231 w233) [(.long q210)])) rfl (by rw [hml]; rfl) (argsL := [(.long q210)]) (rest := []) (lenOf pd_9 rfl) rfl (own_w _) (hb hby d47_45) (fun _ _ => ⟨rfl, e227, (by decide : 0 + 18 ≤ _), (by decide : 0 + 342 ≤ _)⟩)
 dsimp only [Pt.U, Pt.locs, Pt.cells, Pt.slots] at X234 l234 y234 z234 st234 hQ234
 replace X234 := own_mvX X234 (a := 18) (b := 342) y234 z234
 obtain ⟨N234q, rfl, K234⟩ := hQ234
 have N234 := own_mvN l234 N227 N234q
 have KC234 := KSx.trans (KSx.refl h0 [] []) K234 ks0 all0
 have Z234 : n0 ≤ T234.heap.size := Nat.le_trans Z0 K234.1
 obtain ⟨_, _, ⟨T279, L279, k279, n279⟩, -, X279, ⟨Lc279, hQ279, l279, y279, z279⟩, st279⟩ := Jvm.LawKit.callS X234 hx (y := mN7) hown (mvT hZ (tw hw 238 rfl)) (mvT hZ (tw hw 239 rfl)) (mvT hZ (tw hw 229 rfl)) (mvT hZ (tw hw 240 rfl)) (by decide) (backOf (W := 2) (r41_1 l Z a0 hw (((Int32.ofNat (SBG.digitsL (q210).toInt.natAbs)) - (1 : Int32)) - (p211 - (p231 >>> (w233 &&& 31)))) q280 T234.heap n0 Z234 H9 H10 H11) hZ (tw hw 240 rfl) (tw hw 229 rfl) (by decide) (by decide)) (g := (mkF m 58 (la3 a209 q210 p211 p231 w233) [(.int (((Int32.ofNat (SBG.digitsL (q210).toInt.natAbs)) - (1 : Int32)) - (p211 - (p231 >>> (w233 &&& 31))))), (.long q210)])) rfl (by rw [hml]; rfl) (argsL := [(.int (((Int32.ofNat (SBG.digitsL (q210).toInt.natAbs)) - (1 : Int32)) - (p211 - (p231 >>> (w233 &&& 31)))))]) (rest := [(.long q210)]) (lenOf pd_4 rfl) rfl (own_w _) (hb hby d47_58) (fun _ _ => ⟨rfl, rfl, (by decide : 18 + 1 ≤ _), (by decide : 342 + 19 ≤ _)⟩)
 dsimp only [Pt.U, Pt.locs, Pt.cells, Pt.slots] at X279 l279 y279 z279 st279 hQ279
 replace X279 := own_mvX X279 (a := 19) (b := 361) y279 z279
 obtain ⟨N279q, b279_0, k279_0, rfl, ge_b279_0, K279, o279_0⟩ := hQ279
 have N279 := own_mvN l279 N234 N279q
 have KC279 := KSx.trans KC234 K279 ks0 all0
 have Z279 : n0 ≤ T279.heap.size := Nat.le_trans Z234 K279.1
 obtain ⟨_, _, ⟨T281, L281, k281, n281⟩, -, X281, ⟨Lc281, hQ281, l281, y281, z281⟩, st281⟩ := Jvm.LawKit.callS X279 hx (y := mN6) hown (mvT hZ (tw hw 307 rfl)) (mvT hZ (tw hw 308 rfl)) (mvT hZ (tw hw 164 rfl)) (mvT hZ (tw hw 309 rfl)) (by decide) (backOf (W := 1) (own_abl l Z a0 hw ((q210 / q280) % (10 : Int64)) T279.heap n0 Z279) hZ (tw hw 309 rfl) (tw hw 164 rfl) (by decide) (by decide)) (g := (mkF m 72 (la4 a209 q210 p211 p231 w233 q280) [(.long ((q210 / q280) % (10 : Int64))), (.int (48 : Int32))])) rfl (by rw [hml]; rfl) (argsL := [(.long ((q210 / q280) % (10 : Int64)))]) (rest := [(.int (48 : Int32))]) (lenOf pd_10 rfl) rfl (own_w _) (hb hby d47_72) (fun _ _ => ⟨rfl, rfl, (by decide : 19 + 0 ≤ _), (by decide : 361 + 0 ≤ _)⟩)
 dsimp only [Pt.U, Pt.locs, Pt.cells, Pt.slots] at X281 l281 y281 z281 st281 hQ281
 replace X281 := own_mvX X281 (a := 19) (b := 361) y281 z281
 obtain ⟨rfl, N281q, e281⟩ := hQ281
 have N281 := own_mvN l281 N279 N281q
 obtain ⟨fs, hr, hrun, hended, hW, hsame⟩ := X281.leave (v := some (.int (((48 : Int32) + ((oabl ((q210 / q280) % (10 : Int64))).toInt32)).toUInt32.toUInt16.toUInt32.toInt32))) (fun h => by rw [Bd.returns] at h; cases h)
 refine ⟨_, _, pre0 _ ?_, hrun, hended, _, _, rfl, ?_, ⟨_, rfl⟩, hW, hsame.mono (by decide) (by decide)⟩
 · show SG p e below s₁ (mkF m 0 #[vR a209, vJ q210, vS, vI p211, vU, vU, vU, vU, vU] []) _
   refine XS.aloadN X0.here hx rfl (hb hby d47_0) rfl rfl ?_
   show SG p e below s₁ (mkF m 1 #[vR a209, vJ q210, vS, vI p211, vU, vU, vU, vU, vU] [(.ref a209)]) _
   refine st227.trans ?_
   show SG p e below T227 (mkF m 4 #[vR a209, vJ q210, vS, vI p211, vU, vU, vU, vU, vU] [(.int (p231 >>> (w233 &&& 31)))]) _
   refine XS.istore X227.here hx rfl (hb hby d47_4) rfl (l' := #[vR a209, vJ q210, vS, vI p211, vI (p231 >>> (w233 &&& 31)), vU, vU, vU, vU]) rfl ?_
   show SG p e below T227 (mkF m 6 (la1 a209 q210 p211 p231 w233) []) _
   refine XS.iloadN X227.here hx rfl (hb hby d47_6) rfl ?_
   show SG p e below T227 (mkF m 7 (la1 a209 q210 p211 p231 w233) [(.int p211)]) _
   refine XS.iload X227.here hx rfl (hb hby d47_7) rfl ?_
   show SG p e below T227 (mkF m 9 (la1 a209 q210 p211 p231 w233) [(.int (p231 >>> (w233 &&& 31))), (.int p211)]) _
   refine XS.icmpYes X227.here hx rfl (pc0 := 9) (pc' := 18) rfl (hb hby d47_9) rfl (flt H7).2.1 (by decide) (by decide) ?_
   show SG p e below T227 (mkF m 18 (la1 a209 q210 p211 p231 w233) []) _
   refine XS.iloadN X227.here hx rfl (hb hby d47_18) rfl ?_
   show SG p e below T227 (mkF m 19 (la1 a209 q210 p211 p231 w233) [(.int p211)]) _
   refine XS.iload X227.here hx rfl (hb hby d47_19) rfl ?_
   show SG p e below T227 (mkF m 21 (la1 a209 q210 p211 p231 w233) [(.int (p231 >>> (w233 &&& 31))), (.int p211)]) _
   refine XS.isub X227.here hx rfl (hb hby d47_21) rfl ?_
   show SG p e below T227 (mkF m 22 (la1 a209 q210 p211 p231 w233) [(.int (p211 - (p231 >>> (w233 &&& 31))))]) _
   refine XS.istore X227.here hx rfl (hb hby d47_22) rfl (l' := #[vR a209, vJ q210, vS, vI p211, vI (p231 >>> (w233 &&& 31)), vI (p211 - (p231 >>> (w233 &&& 31))), vU, vU, vU]) rfl ?_
   show SG p e below T227 (mkF m 24 (la2 a209 q210 p211 p231 w233) []) _
   refine XS.lloadN X227.here hx rfl (hb hby d47_24) rfl ?_
   show SG p e below T227 (mkF m 25 (la2 a209 q210 p211 p231 w233) [(.long q210)]) _
   refine XS.lconst X227.here hx rfl (hb hby d47_25) ?_
   show SG p e below T227 (mkF m 26 (la2 a209 q210 p211 p231 w233) [(.long (0 : Int64)), (.long q210)]) _
   refine XS.lcmp X227.here hx rfl (hb hby d47_26) rfl ?_
   show SG p e below T227 (mkF m 27 (la2 a209 q210 p211 p231 w233) [(.int (lcmpW q210 (0 : Int64)))]) _
   refine XS.ifYes X227.here hx rfl (pc0 := 27) (pc' := 44) rfl (hb hby d47_27) rfl ((if0 _ _).trans (flt H8).2.1) (by decide) (by decide) ?_
   show SG p e below T227 (mkF m 44 (la2 a209 q210 p211 p231 w233) []) _
   refine XS.lloadN X227.here hx rfl (hb hby d47_44) rfl ?_
   show SG p e below T227 (mkF m 45 (la2 a209 q210 p211 p231 w233) [(.long q210)]) _
   refine st234 _ ?_
   show SG p e below T234 (mkF m 48 (la2 a209 q210 p211 p231 w233) [(.int (Int32.ofNat (SBG.digitsL (q210).toInt.natAbs)))]) _
   refine XS.iconst X234.here hx rfl (hb hby d47_48) ?_
   show SG p e below T234 (mkF m 49 (la2 a209 q210 p211 p231 w233) [(.int (1 : Int32)), (.int (Int32.ofNat (SBG.digitsL (q210).toInt.natAbs)))]) _
   refine XS.isub X234.here hx rfl (hb hby d47_49) rfl ?_
   show SG p e below T234 (mkF m 50 (la2 a209 q210 p211 p231 w233) [(.int ((Int32.ofNat (SBG.digitsL (q210).toInt.natAbs)) - (1 : Int32)))]) _
   refine XS.iload X234.here hx rfl (hb hby d47_50) rfl ?_
   show SG p e below T234 (mkF m 52 (la2 a209 q210 p211 p231 w233) [(.int (p211 - (p231 >>> (w233 &&& 31)))), (.int ((Int32.ofNat (SBG.digitsL (q210).toInt.natAbs)) - (1 : Int32)))]) _
   refine XS.isub X234.here hx rfl (hb hby d47_52) rfl ?_
   show SG p e below T234 (mkF m 53 (la2 a209 q210 p211 p231 w233) [(.int (((Int32.ofNat (SBG.digitsL (q210).toInt.natAbs)) - (1 : Int32)) - (p211 - (p231 >>> (w233 &&& 31)))))]) _
   refine XS.istore X234.here hx rfl (hb hby d47_53) rfl (l' := #[vR a209, vJ q210, vS, vI p211, vI (p231 >>> (w233 &&& 31)), vI (p211 - (p231 >>> (w233 &&& 31))), vI (((Int32.ofNat (SBG.digitsL (q210).toInt.natAbs)) - (1 : Int32)) - (p211 - (p231 >>> (w233 &&& 31)))), vU, vU]) rfl ?_
   show SG p e below T234 (mkF m 55 (la3 a209 q210 p211 p231 w233) []) _
   refine XS.lloadN X234.here hx rfl (hb hby d47_55) rfl ?_
   show SG p e below T234 (mkF m 56 (la3 a209 q210 p211 p231 w233) [(.long q210)]) _
   refine XS.iload X234.here hx rfl (hb hby d47_56) rfl ?_
   show SG p e below T234 (mkF m 58 (la3 a209 q210 p211 p231 w233) [(.int (((Int32.ofNat (SBG.digitsL (q210).toInt.natAbs)) - (1 : Int32)) - (p211 - (p231 >>> (w233 &&& 31))))), (.long q210)]) _
   refine st279 _ ?_
   show SG p e below T279 (mkF m 61 (la3 a209 q210 p211 p231 w233) [(.long q280), (.long q210)]) _
   refine XS.ldiv X279.here hx rfl (hb hby d47_61) rfl H12 ?_
   show SG p e below T279 (mkF m 62 (la3 a209 q210 p211 p231 w233) [(.long (q210 / q280))]) _
   refine X279.ldc2Long hx hown (mvT hZ (tw hw 242 rfl)) (g := (mkF m 62 (la3 a209 q210 p211 p231 w233) [(.long (q210 / q280))])) rfl (hb hby d47_62) _ ?_
   show SG p e below T279 (mkF m 65 (la3 a209 q210 p211 p231 w233) [(.long (10 : Int64)), (.long (q210 / q280))]) _
   refine lremM X279 hx rfl (hb hby d47_65) rfl (by decide) ?_
   show SG p e below T279 (mkF m 66 (la3 a209 q210 p211 p231 w233) [(.long ((q210 / q280) % (10 : Int64)))]) _
   refine XS.lstore X279.here hx rfl (hb hby d47_66) rfl (l' := #[vR a209, vJ q210, vS, vI p211, vI (p231 >>> (w233 &&& 31)), vI (p211 - (p231 >>> (w233 &&& 31))), vI (((Int32.ofNat (SBG.digitsL (q210).toInt.natAbs)) - (1 : Int32)) - (p211 - (p231 >>> (w233 &&& 31)))), vJ ((q210 / q280) % (10 : Int64)), vS]) rfl ?_
   show SG p e below T279 (mkF m 68 (la4 a209 q210 p211 p231 w233 q280) []) _
   refine XS.bipush X279.here hx rfl (hb hby d47_68) ?_
   show SG p e below T279 (mkF m 70 (la4 a209 q210 p211 p231 w233 q280) [(.int (48 : Int32))]) _
   refine XS.lload X279.here hx rfl (hb hby d47_70) rfl ?_
   show SG p e below T279 (mkF m 72 (la4 a209 q210 p211 p231 w233 q280) [(.long ((q210 / q280) % (10 : Int64))), (.int (48 : Int32))]) _
   refine st281 _ ?_
   show SG p e below T281 (mkF m 75 (la4 a209 q210 p211 p231 w233 q280) [(.long (oabl ((q210 / q280) % (10 : Int64)))), (.int (48 : Int32))]) _
   refine XS.l2i X281.here hx rfl (hb hby d47_75) rfl ?_
   show SG p e below T281 (mkF m 76 (la4 a209 q210 p211 p231 w233 q280) [(.int ((oabl ((q210 / q280) % (10 : Int64))).toInt32)), (.int (48 : Int32))]) _
   refine XS.iadd X281.here hx rfl (hb hby d47_76) rfl ?_
   show SG p e below T281 (mkF m 77 (la4 a209 q210 p211 p231 w233 q280) [(.int ((48 : Int32) + ((oabl ((q210 / q280) % (10 : Int64))).toInt32)))]) _
   refine XS.i2c X281.here hx rfl (hb hby d47_77) rfl ?_
   show SG p e below T281 (mkF m 78 (la4 a209 q210 p211 p231 w233 q280) [(.int (((48 : Int32) + ((oabl ((q210 / q280) % (10 : Int64))).toInt32)).toUInt32.toUInt16.toUInt32.toInt32))]) _
   exact retN X281 hx (t := .char) Bd.returns (by simp) (hb hby d47_78) (by rw [H13]; exact hr)
 · show Qr47_2 Z a209 q210 p211 w228 k229 u230 p231 w232 w233 q280 h0 n0 _ T281.heap _
   rw [e281]
   exact ⟨N281, b279_0, k279_0, rfl, (Nat.le_trans KC234.1 ge_b279_0), KC279, o279_0⟩
abbrev la5 (a282 : Addr) (q283 : Int64) (p284 : Int32) (p304 : Int32) (w306 : Int32) : Array Slot := #[vR a282, vJ q283, vS, vI p284, vI (p304 >>> (w306 &&& 31)), vU, vU, vU, vU]
abbrev la6 (a282 : Addr) (q283 : Int64) (p284 : Int32) (p304 : Int32) (w306 : Int32) : Array Slot := #[vR a282, vJ q283, vS, vI p284, vI (p304 >>> (w306 &&& 31)), vI (p284 - (p304 >>> (w306 &&& 31))), vU, vU, vU]
theorem d47_30 : decode method_7_code 30 = .ok (.iload 5, 2) := by decide +kernel
theorem d47_32 : decode method_7_code 32 = .ok (.ifCond .ne 6, 3) := by decide +kernel
theorem d47_35 : decode method_7_code 35 = .ok (.bipush 45, 2) := by decide +kernel
theorem d47_37 : decode method_7_code 37 = .ok (.ireturn, 1) := by decide +kernel
theorem r47_3 (l : Launch) (Z : State) (a0 : Array Value) (hw : ∀ d ∈ tables_1, d.before a0 Z = true) (a282 : Addr) (q283 : Int64) (p284 : Int32) (w301 : Addr) (k302 : ClassId) (u303 : Nat → Int32) (p304 : Int32) (w305 : Int32) (w306 : Int32) (h0 : Heap) (n0 : Nat) (Z0 : n0 ≤ h0.size) (H0 : Fld Z h0 a282 "java/lang/String" "value" "[B" (.ref w301)) (H1 : BA Z h0 w301 k302 .byte p304 u303) (H2 : Sta Z h0 "java/lang/String" "COMPACT_STRINGS" "Z" (.int w305)) (H3 : ¬ (w305 = (0 : Int32))) (H4 : Fld Z h0 a282 "java/lang/String" "coder" "B" (.int w306)) (H5 : nar .byte w306 = w306) (H6 : Exa Z h0 a282 "java/lang/String") (H7 : ¬ (p284 < (p304 >>> (w306 &&& 31)))) (H8 : (lcmpW q283 (0 : Int64)) < (0 : Int32)) (H9 : (p284 - (p304 >>> (w306 &&& 31))) = (0 : Int32)) :
   OMet l Z mN12 method_7_code 9 (some .char) [] ({ frames := 4, cells := 19, slots := 361, locals := 53 } : Room) h0 #[(.ref a282), (.long q283), (.int p284)] (OQp (some (.int (45 : Int32))) h0 n0) := by
 refine MetFree.of_bodySF (plainFor_of_name pn_com_example_eta4_eta4_bench_FillFiguresLinesPinLaw) hisR ?_
 intro p e s m args below meth c s₁ Bd hml0 hP hK
 obtain ⟨rfl, hZ, hh⟩ := hP
 have hx := Bd.exec
 have hby := Bd.bytes
 have hml : c.maxLocals = 9 := hml0
 have hown : s.vm.findClass "com/example/eta4/eta4/bench/FillFiguresLinesPinLaw" = some m.cls := findClass_of_methodNamed Bd.named
 have hnm := (name_of_methodNamed Bd.named Bd.method).1
 have X0 : Stand p l e ({ frames := 4, cells := 19, slots := 361, locals := 53 } : Room) s m #[(.ref a282), (.long q283), (.int p284)] below meth c s₁ [] 0 0 := Stand.of_body Bd
 have e0 : s₁.heap = h0 := by rw [← hh, Bd.state]; rfl
 have N0 := Fr.nil n0
 have pre0 : ∀ t, Steps p.tables e below (s₁.setTop (mkF m 0 #[vR a282, vJ q283, vS, vI p284, .unset, .unset, .unset, .unset, .unset] [])) t → Steps p.tables e below (s₁.setTop (entryFrame m #[(.ref a282), (.long q283), (.int p284)] 9)) t := fun t k => castTop (ef_47_vvv m a282 q283 p284) k
 obtain ⟨cq300, kq300, q300a, q300b, q300c⟩ := isOf hZ e0 H6
 obtain ⟨_, _, ⟨T300, L300, k300, n300⟩, -, X300, ⟨Lc300, hQ300, l300, y300, z300⟩, st300⟩ := X0.virtualBack hx (y := mN11) (z := mN11) hown (mvT hZ (tw hw 231 rfl)) (mvT hZ (tw hw 60 rfl)) (notFace_of_selects (args := #[]) (mvT hZ (tw hw 62 rfl))) (mvT hZ (tw hw 62 rfl)) (mvT hZ (tw hw 61 rfl)) (by decide) (backOf (W := 0) (r9_1 l Z a0 hw a282 w301 k302 u303 p304 w305 w306 h0 n0 Z0 H0 H1 H2 H3 H4 H5 H6) hZ (tw hw 63 rfl) (tw hw 37 rfl) (by decide) (by decide)) q300a q300c (g := (mkF m 1 #[vR a282, vJ q283, vS, vI p284, vU, vU, vU, vU, vU] [(.ref a282)])) rfl (by rw [hml]; rfl) (Steps.refl _) (argsL := []) (rest := []) (lenOf pd_7 rfl) rfl (own_w _) (hb hby d47_1) (fun _ _ => ⟨rfl, e0, (by decide : 0 + 0 ≤ _), (by decide : 0 + 0 ≤ _)⟩)
 dsimp only [Pt.U, Pt.locs, Pt.cells, Pt.slots] at X300 l300 y300 z300 st300 hQ300
 replace X300 := own_mvX X300 (a := 0) (b := 0) y300 z300
 obtain ⟨rfl, N300q, e300⟩ := hQ300
 have N300 := own_mvN l300 N0 N300q
 obtain ⟨fs, hr, hrun, hended, hW, hsame⟩ := X300.leave (v := some (.int (45 : Int32))) (fun h => by rw [Bd.returns] at h; cases h)
 refine ⟨_, _, pre0 _ ?_, hrun, hended, _, _, rfl, ?_, ⟨_, rfl⟩, hW, hsame.mono (by decide) (by decide)⟩
 · show SG p e below s₁ (mkF m 0 #[vR a282, vJ q283, vS, vI p284, vU, vU, vU, vU, vU] []) _
   refine XS.aloadN X0.here hx rfl (hb hby d47_0) rfl rfl ?_
   show SG p e below s₁ (mkF m 1 #[vR a282, vJ q283, vS, vI p284, vU, vU, vU, vU, vU] [(.ref a282)]) _
   refine st300.trans ?_
   show SG p e below T300 (mkF m 4 #[vR a282, vJ q283, vS, vI p284, vU, vU, vU, vU, vU] [(.int (p304 >>> (w306 &&& 31)))]) _
   refine XS.istore X300.here hx rfl (hb hby d47_4) rfl (l' := #[vR a282, vJ q283, vS, vI p284, vI (p304 >>> (w306 &&& 31)), vU, vU, vU, vU]) rfl ?_
   show SG p e below T300 (mkF m 6 (la5 a282 q283 p284 p304 w306) []) _
   refine XS.iloadN X300.here hx rfl (hb hby d47_6) rfl ?_
   show SG p e below T300 (mkF m 7 (la5 a282 q283 p284 p304 w306) [(.int p284)]) _
   refine XS.iload X300.here hx rfl (hb hby d47_7) rfl ?_
   show SG p e below T300 (mkF m 9 (la5 a282 q283 p284 p304 w306) [(.int (p304 >>> (w306 &&& 31))), (.int p284)]) _
   refine XS.icmpYes X300.here hx rfl (pc0 := 9) (pc' := 18) rfl (hb hby d47_9) rfl (flt H7).2.1 (by decide) (by decide) ?_
   show SG p e below T300 (mkF m 18 (la5 a282 q283 p284 p304 w306) []) _
   refine XS.iloadN X300.here hx rfl (hb hby d47_18) rfl ?_
   show SG p e below T300 (mkF m 19 (la5 a282 q283 p284 p304 w306) [(.int p284)]) _
   refine XS.iload X300.here hx rfl (hb hby d47_19) rfl ?_
   show SG p e below T300 (mkF m 21 (la5 a282 q283 p284 p304 w306) [(.int (p304 >>> (w306 &&& 31))), (.int p284)]) _
   refine XS.isub X300.here hx rfl (hb hby d47_21) rfl ?_
   show SG p e below T300 (mkF m 22 (la5 a282 q283 p284 p304 w306) [(.int (p284 - (p304 >>> (w306 &&& 31))))]) _
   refine XS.istore X300.here hx rfl (hb hby d47_22) rfl (l' := #[vR a282, vJ q283, vS, vI p284, vI (p304 >>> (w306 &&& 31)), vI (p284 - (p304 >>> (w306 &&& 31))), vU, vU, vU]) rfl ?_
   show SG p e below T300 (mkF m 24 (la6 a282 q283 p284 p304 w306) []) _
   refine XS.lloadN X300.here hx rfl (hb hby d47_24) rfl ?_
   show SG p e below T300 (mkF m 25 (la6 a282 q283 p284 p304 w306) [(.long q283)]) _
   refine XS.lconst X300.here hx rfl (hb hby d47_25) ?_
   show SG p e below T300 (mkF m 26 (la6 a282 q283 p284 p304 w306) [(.long (0 : Int64)), (.long q283)]) _
   refine XS.lcmp X300.here hx rfl (hb hby d47_26) rfl ?_
   show SG p e below T300 (mkF m 27 (la6 a282 q283 p284 p304 w306) [(.int (lcmpW q283 (0 : Int64)))]) _
   refine XS.ifNo X300.here hx rfl (hb hby d47_27) rfl ((if0 _ _).trans (tlt H8).2.1) ?_
   show SG p e below T300 (mkF m 30 (la6 a282 q283 p284 p304 w306) []) _
   refine XS.iload X300.here hx rfl (hb hby d47_30) rfl ?_
   show SG p e below T300 (mkF m 32 (la6 a282 q283 p284 p304 w306) [(.int (p284 - (p304 >>> (w306 &&& 31))))]) _
   refine XS.ifNo X300.here hx rfl (hb hby d47_32) rfl ((if0 _ _).trans (teq H9).2) ?_
   show SG p e below T300 (mkF m 35 (la6 a282 q283 p284 p304 w306) []) _
   refine XS.bipush X300.here hx rfl (hb hby d47_35) ?_
   show SG p e below T300 (mkF m 37 (la6 a282 q283 p284 p304 w306) [(.int (45 : Int32))]) _
   exact retN X300 hx (t := .char) Bd.returns (by simp) (hb hby d47_37) hr
 · show OQp (some (.int (45 : Int32))) h0 n0 _ T300.heap _
   rw [e300]
   exact ⟨rfl, N300, rfl⟩
abbrev la7 (a307 : Addr) (q308 : Int64) (p309 : Int32) (p329 : Int32) (w331 : Int32) : Array Slot := #[vR a307, vJ q308, vS, vI p309, vI (p329 >>> (w331 &&& 31)), vU, vU, vU, vU]
abbrev la8 (a307 : Addr) (q308 : Int64) (p309 : Int32) (p329 : Int32) (w331 : Int32) : Array Slot := #[vR a307, vJ q308, vS, vI p309, vI (p329 >>> (w331 &&& 31)), vI (p309 - (p329 >>> (w331 &&& 31))), vU, vU, vU]
theorem d47_38 : decode method_7_code 38 = .ok (.iload 5, 2) := by decide +kernel
theorem d47_40 : decode method_7_code 40 = .ok (.iconst 1, 1) := by decide +kernel
theorem d47_41 : decode method_7_code 41 = .ok (.isub, 1) := by decide +kernel
theorem d47_42 : decode method_7_code 42 = .ok (.istore 5, 2) := by decide +kernel
abbrev la9 (a307 : Addr) (q308 : Int64) (p309 : Int32) (p329 : Int32) (w331 : Int32) : Array Slot := #[vR a307, vJ q308, vS, vI p309, vI (p329 >>> (w331 &&& 31)), vI ((p309 - (p329 >>> (w331 &&& 31))) - (1 : Int32)), vU, vU, vU]
abbrev la10 (a307 : Addr) (q308 : Int64) (p309 : Int32) (p329 : Int32) (w331 : Int32) : Array Slot := #[vR a307, vJ q308, vS, vI p309, vI (p329 >>> (w331 &&& 31)), vI ((p309 - (p329 >>> (w331 &&& 31))) - (1 : Int32)), vI (((Int32.ofNat (SBG.digitsL (q308).toInt.natAbs)) - (1 : Int32)) - ((p309 - (p329 >>> (w331 &&& 31))) - (1 : Int32))), vU, vU]
abbrev la11 (a307 : Addr) (q308 : Int64) (p309 : Int32) (p329 : Int32) (w331 : Int32) (q378 : Int64) : Array Slot := #[vR a307, vJ q308, vS, vI p309, vI (p329 >>> (w331 &&& 31)), vI ((p309 - (p329 >>> (w331 &&& 31))) - (1 : Int32)), vI (((Int32.ofNat (SBG.digitsL (q308).toInt.natAbs)) - (1 : Int32)) - ((p309 - (p329 >>> (w331 &&& 31))) - (1 : Int32))), vJ ((q308 / q378) % (10 : Int64)), vS]
def Qr47_4 (Z : State) (a307 : Addr) (q308 : Int64) (p309 : Int32) (w326 : Addr) (k327 : ClassId) (u328 : Nat → Int32) (p329 : Int32) (w330 : Int32) (w331 : Int32) (q378 : Int64) (h0 : Heap) (n0 : Nat) (v : Option Value) (h : Heap) (L : List Loc) : Prop := Fr n0 L ∧ ∃ b377_0 : Addr, ∃ k377_0 : ClassId, v = some (.int (((48 : Int32) + ((oabl ((q308 / q378) % (10 : Int64))).toInt32)).toUInt32.toUInt16.toUInt32.toInt32)) ∧ h0.size ≤ b377_0 ∧ KSx h0 h [] [] ∧ Arv Z h b377_0 k377_0 .long (19 : Int32) [(.long (1 : Int64)), (.long (10 : Int64)), (.long (100 : Int64)), (.long (1000 : Int64)), (.long (10000 : Int64)), (.long (100000 : Int64)), (.long (1000000 : Int64)), (.long (10000000 : Int64)), (.long (100000000 : Int64)), (.long (1000000000 : Int64)), (.long (10000000000 : Int64)), (.long (100000000000 : Int64)), (.long (1000000000000 : Int64)), (.long (10000000000000 : Int64)), (.long (100000000000000 : Int64)), (.long (1000000000000000 : Int64)), (.long (10000000000000000 : Int64)), (.long (100000000000000000 : Int64)), (.long (1000000000000000000 : Int64))] (.long (0 : Int64))
theorem r47_4 (l : Launch) (Z : State) (a0 : Array Value) (hw : ∀ d ∈ tables_1, d.before a0 Z = true) (a307 : Addr) (q308 : Int64) (p309 : Int32) (w326 : Addr) (k327 : ClassId) (u328 : Nat → Int32) (p329 : Int32) (w330 : Int32) (w331 : Int32) (q378 : Int64) (h0 : Heap) (n0 : Nat) (Z0 : n0 ≤ h0.size) (H0 : Fld Z h0 a307 "java/lang/String" "value" "[B" (.ref w326)) (H1 : BA Z h0 w326 k327 .byte p329 u328) (H2 : Sta Z h0 "java/lang/String" "COMPACT_STRINGS" "Z" (.int w330)) (H3 : ¬ (w330 = (0 : Int32))) (H4 : Fld Z h0 a307 "java/lang/String" "coder" "B" (.int w331)) (H5 : nar .byte w331 = w331) (H6 : Exa Z h0 a307 "java/lang/String") (H7 : ¬ (p309 < (p329 >>> (w331 &&& 31)))) (H8 : (lcmpW q308 (0 : Int64)) < (0 : Int32)) (H9 : ¬ ((p309 - (p329 >>> (w331 &&& 31))) = (0 : Int32))) (H10 : ¬ ((((Int32.ofNat (SBG.digitsL (q308).toInt.natAbs)) - (1 : Int32)) - ((p309 - (p329 >>> (w331 &&& 31))) - (1 : Int32))) < (0 : Int32))) (H11 : (((Int32.ofNat (SBG.digitsL (q308).toInt.natAbs)) - (1 : Int32)) - ((p309 - (p329 >>> (w331 &&& 31))) - (1 : Int32))) < (19 : Int32)) (H12 : ([(.long (1 : Int64)), (.long (10 : Int64)), (.long (100 : Int64)), (.long (1000 : Int64)), (.long (10000 : Int64)), (.long (100000 : Int64)), (.long (1000000 : Int64)), (.long (10000000 : Int64)), (.long (100000000 : Int64)), (.long (1000000000 : Int64)), (.long (10000000000 : Int64)), (.long (100000000000 : Int64)), (.long (1000000000000 : Int64)), (.long (10000000000000 : Int64)), (.long (100000000000000 : Int64)), (.long (1000000000000000 : Int64)), (.long (10000000000000000 : Int64)), (.long (100000000000000000 : Int64)), (.long (1000000000000000000 : Int64))] : List Value).getD ((((Int32.ofNat (SBG.digitsL (q308).toInt.natAbs)) - (1 : Int32)) - ((p309 - (p329 >>> (w331 &&& 31))) - (1 : Int32)))).toNatClampNeg (.long (0 : Int64)) = (.long q378)) (H13 : ¬ (q378 = (0 : Int64))) (H14 : nar .char (((48 : Int32) + ((oabl ((q308 / q378) % (10 : Int64))).toInt32)).toUInt32.toUInt16.toUInt32.toInt32) = (((48 : Int32) + ((oabl ((q308 / q378) % (10 : Int64))).toInt32)).toUInt32.toUInt16.toUInt32.toInt32)) :
   OMet l Z mN12 method_7_code 9 (some .char) [] ({ frames := 4, cells := 19, slots := 361, locals := 53 } : Room) h0 #[(.ref a307), (.long q308), (.int p309)] (Qr47_4 Z a307 q308 p309 w326 k327 u328 p329 w330 w331 q378 h0 n0) := by
 refine MetFree.of_bodySF (plainFor_of_name pn_com_example_eta4_eta4_bench_FillFiguresLinesPinLaw) hisR ?_
 intro p e s m args below meth c s₁ Bd hml0 hP hK
 obtain ⟨rfl, hZ, hh⟩ := hP
 have hx := Bd.exec
 have hby := Bd.bytes
 have hml : c.maxLocals = 9 := hml0
 have hown : s.vm.findClass "com/example/eta4/eta4/bench/FillFiguresLinesPinLaw" = some m.cls := findClass_of_methodNamed Bd.named
 have hnm := (name_of_methodNamed Bd.named Bd.method).1
 have X0 : Stand p l e ({ frames := 4, cells := 19, slots := 361, locals := 53 } : Room) s m #[(.ref a307), (.long q308), (.int p309)] below meth c s₁ [] 0 0 := Stand.of_body Bd
 have e0 : s₁.heap = h0 := by rw [← hh, Bd.state]; rfl
 have N0 := Fr.nil n0
 have pre0 : ∀ t, Steps p.tables e below (s₁.setTop (mkF m 0 #[vR a307, vJ q308, vS, vI p309, .unset, .unset, .unset, .unset, .unset] [])) t → Steps p.tables e below (s₁.setTop (entryFrame m #[(.ref a307), (.long q308), (.int p309)] 9)) t := fun t k => castTop (ef_47_vvv m a307 q308 p309) k
 obtain ⟨cq325, kq325, q325a, q325b, q325c⟩ := isOf hZ e0 H6
 obtain ⟨_, _, ⟨T325, L325, k325, n325⟩, -, X325, ⟨Lc325, hQ325, l325, y325, z325⟩, st325⟩ := X0.virtualBack hx (y := mN11) (z := mN11) hown (mvT hZ (tw hw 231 rfl)) (mvT hZ (tw hw 60 rfl)) (notFace_of_selects (args := #[]) (mvT hZ (tw hw 62 rfl))) (mvT hZ (tw hw 62 rfl)) (mvT hZ (tw hw 61 rfl)) (by decide) (backOf (W := 0) (r9_1 l Z a0 hw a307 w326 k327 u328 p329 w330 w331 h0 n0 Z0 H0 H1 H2 H3 H4 H5 H6) hZ (tw hw 63 rfl) (tw hw 37 rfl) (by decide) (by decide)) q325a q325c (g := (mkF m 1 #[vR a307, vJ q308, vS, vI p309, vU, vU, vU, vU, vU] [(.ref a307)])) rfl (by rw [hml]; rfl) (Steps.refl _) (argsL := []) (rest := []) (lenOf pd_7 rfl) rfl (own_w _) (hb hby d47_1) (fun _ _ => ⟨rfl, e0, (by decide : 0 + 0 ≤ _), (by decide : 0 + 0 ≤ _)⟩)
 dsimp only [Pt.U, Pt.locs, Pt.cells, Pt.slots] at X325 l325 y325 z325 st325 hQ325
 replace X325 := own_mvX X325 (a := 0) (b := 0) y325 z325
 obtain ⟨rfl, N325q, e325⟩ := hQ325
 have N325 := own_mvN l325 N0 N325q
 obtain ⟨_, _, ⟨T332, L332, k332, n332⟩, -, X332, ⟨Lc332, hQ332, l332, y332, z332⟩, st332⟩ := Jvm.LawKit.callS X325 hx (y := mN9) hown (mvT hZ (tw hw 232 rfl)) (mvT hZ (tw hw 233 rfl)) (mvT hZ (tw hw 229 rfl)) (mvT hZ (tw hw 234 rfl)) (by decide) (backOf (W := 0) (own_dgL l Z a0 hw q308 h0 n0 Z0) hZ (tw hw 234 rfl) (tw hw 229 rfl) (by decide) (by decide)) (g := (mkF m 45 (la9 a307 q308 p309 p329 w331) [(.long q308)])) rfl (by rw [hml]; rfl) (argsL := [(.long q308)]) (rest := []) (lenOf pd_9 rfl) rfl (own_w _) (hb hby d47_45) (fun _ _ => ⟨rfl, e325, (by decide : 0 + 18 ≤ _), (by decide : 0 + 342 ≤ _)⟩)
 dsimp only [Pt.U, Pt.locs, Pt.cells, Pt.slots] at X332 l332 y332 z332 st332 hQ332
 replace X332 := own_mvX X332 (a := 18) (b := 342) y332 z332
 obtain ⟨N332q, rfl, K332⟩ := hQ332
 have N332 := own_mvN l332 N325 N332q
 have KC332 := KSx.trans (KSx.refl h0 [] []) K332 ks0 all0
 have Z332 : n0 ≤ T332.heap.size := Nat.le_trans Z0 K332.1
 obtain ⟨_, _, ⟨T377, L377, k377, n377⟩, -, X377, ⟨Lc377, hQ377, l377, y377, z377⟩, st377⟩ := Jvm.LawKit.callS X332 hx (y := mN7) hown (mvT hZ (tw hw 238 rfl)) (mvT hZ (tw hw 239 rfl)) (mvT hZ (tw hw 229 rfl)) (mvT hZ (tw hw 240 rfl)) (by decide) (backOf (W := 2) (r41_1 l Z a0 hw (((Int32.ofNat (SBG.digitsL (q308).toInt.natAbs)) - (1 : Int32)) - ((p309 - (p329 >>> (w331 &&& 31))) - (1 : Int32))) q378 T332.heap n0 Z332 H10 H11 H12) hZ (tw hw 240 rfl) (tw hw 229 rfl) (by decide) (by decide)) (g := (mkF m 58 (la10 a307 q308 p309 p329 w331) [(.int (((Int32.ofNat (SBG.digitsL (q308).toInt.natAbs)) - (1 : Int32)) - ((p309 - (p329 >>> (w331 &&& 31))) - (1 : Int32)))), (.long q308)])) rfl (by rw [hml]; rfl) (argsL := [(.int (((Int32.ofNat (SBG.digitsL (q308).toInt.natAbs)) - (1 : Int32)) - ((p309 - (p329 >>> (w331 &&& 31))) - (1 : Int32))))]) (rest := [(.long q308)]) (lenOf pd_4 rfl) rfl (own_w _) (hb hby d47_58) (fun _ _ => ⟨rfl, rfl, (by decide : 18 + 1 ≤ _), (by decide : 342 + 19 ≤ _)⟩)
 dsimp only [Pt.U, Pt.locs, Pt.cells, Pt.slots] at X377 l377 y377 z377 st377 hQ377
 replace X377 := own_mvX X377 (a := 19) (b := 361) y377 z377
 obtain ⟨N377q, b377_0, k377_0, rfl, ge_b377_0, K377, o377_0⟩ := hQ377
 have N377 := own_mvN l377 N332 N377q
 have KC377 := KSx.trans KC332 K377 ks0 all0
 have Z377 : n0 ≤ T377.heap.size := Nat.le_trans Z332 K377.1
 obtain ⟨_, _, ⟨T379, L379, k379, n379⟩, -, X379, ⟨Lc379, hQ379, l379, y379, z379⟩, st379⟩ := Jvm.LawKit.callS X377 hx (y := mN6) hown (mvT hZ (tw hw 307 rfl)) (mvT hZ (tw hw 308 rfl)) (mvT hZ (tw hw 164 rfl)) (mvT hZ (tw hw 309 rfl)) (by decide) (backOf (W := 1) (own_abl l Z a0 hw ((q308 / q378) % (10 : Int64)) T377.heap n0 Z377) hZ (tw hw 309 rfl) (tw hw 164 rfl) (by decide) (by decide)) (g := (mkF m 72 (la11 a307 q308 p309 p329 w331 q378) [(.long ((q308 / q378) % (10 : Int64))), (.int (48 : Int32))])) rfl (by rw [hml]; rfl) (argsL := [(.long ((q308 / q378) % (10 : Int64)))]) (rest := [(.int (48 : Int32))]) (lenOf pd_10 rfl) rfl (own_w _) (hb hby d47_72) (fun _ _ => ⟨rfl, rfl, (by decide : 19 + 0 ≤ _), (by decide : 361 + 0 ≤ _)⟩)
 dsimp only [Pt.U, Pt.locs, Pt.cells, Pt.slots] at X379 l379 y379 z379 st379 hQ379
 replace X379 := own_mvX X379 (a := 19) (b := 361) y379 z379
 obtain ⟨rfl, N379q, e379⟩ := hQ379
 have N379 := own_mvN l379 N377 N379q
 obtain ⟨fs, hr, hrun, hended, hW, hsame⟩ := X379.leave (v := some (.int (((48 : Int32) + ((oabl ((q308 / q378) % (10 : Int64))).toInt32)).toUInt32.toUInt16.toUInt32.toInt32))) (fun h => by rw [Bd.returns] at h; cases h)
 refine ⟨_, _, pre0 _ ?_, hrun, hended, _, _, rfl, ?_, ⟨_, rfl⟩, hW, hsame.mono (by decide) (by decide)⟩
 · show SG p e below s₁ (mkF m 0 #[vR a307, vJ q308, vS, vI p309, vU, vU, vU, vU, vU] []) _
   refine XS.aloadN X0.here hx rfl (hb hby d47_0) rfl rfl ?_
   show SG p e below s₁ (mkF m 1 #[vR a307, vJ q308, vS, vI p309, vU, vU, vU, vU, vU] [(.ref a307)]) _
   refine st325.trans ?_
   show SG p e below T325 (mkF m 4 #[vR a307, vJ q308, vS, vI p309, vU, vU, vU, vU, vU] [(.int (p329 >>> (w331 &&& 31)))]) _
   refine XS.istore X325.here hx rfl (hb hby d47_4) rfl (l' := #[vR a307, vJ q308, vS, vI p309, vI (p329 >>> (w331 &&& 31)), vU, vU, vU, vU]) rfl ?_
   show SG p e below T325 (mkF m 6 (la7 a307 q308 p309 p329 w331) []) _
   refine XS.iloadN X325.here hx rfl (hb hby d47_6) rfl ?_
   show SG p e below T325 (mkF m 7 (la7 a307 q308 p309 p329 w331) [(.int p309)]) _
   refine XS.iload X325.here hx rfl (hb hby d47_7) rfl ?_
   show SG p e below T325 (mkF m 9 (la7 a307 q308 p309 p329 w331) [(.int (p329 >>> (w331 &&& 31))), (.int p309)]) _
   refine XS.icmpYes X325.here hx rfl (pc0 := 9) (pc' := 18) rfl (hb hby d47_9) rfl (flt H7).2.1 (by decide) (by decide) ?_
   show SG p e below T325 (mkF m 18 (la7 a307 q308 p309 p329 w331) []) _
   refine XS.iloadN X325.here hx rfl (hb hby d47_18) rfl ?_
   show SG p e below T325 (mkF m 19 (la7 a307 q308 p309 p329 w331) [(.int p309)]) _
   refine XS.iload X325.here hx rfl (hb hby d47_19) rfl ?_
   show SG p e below T325 (mkF m 21 (la7 a307 q308 p309 p329 w331) [(.int (p329 >>> (w331 &&& 31))), (.int p309)]) _
   refine XS.isub X325.here hx rfl (hb hby d47_21) rfl ?_
   show SG p e below T325 (mkF m 22 (la7 a307 q308 p309 p329 w331) [(.int (p309 - (p329 >>> (w331 &&& 31))))]) _
   refine XS.istore X325.here hx rfl (hb hby d47_22) rfl (l' := #[vR a307, vJ q308, vS, vI p309, vI (p329 >>> (w331 &&& 31)), vI (p309 - (p329 >>> (w331 &&& 31))), vU, vU, vU]) rfl ?_
   show SG p e below T325 (mkF m 24 (la8 a307 q308 p309 p329 w331) []) _
   refine XS.lloadN X325.here hx rfl (hb hby d47_24) rfl ?_
   show SG p e below T325 (mkF m 25 (la8 a307 q308 p309 p329 w331) [(.long q308)]) _
   refine XS.lconst X325.here hx rfl (hb hby d47_25) ?_
   show SG p e below T325 (mkF m 26 (la8 a307 q308 p309 p329 w331) [(.long (0 : Int64)), (.long q308)]) _
   refine XS.lcmp X325.here hx rfl (hb hby d47_26) rfl ?_
   show SG p e below T325 (mkF m 27 (la8 a307 q308 p309 p329 w331) [(.int (lcmpW q308 (0 : Int64)))]) _
   refine XS.ifNo X325.here hx rfl (hb hby d47_27) rfl ((if0 _ _).trans (tlt H8).2.1) ?_
   show SG p e below T325 (mkF m 30 (la8 a307 q308 p309 p329 w331) []) _
   refine XS.iload X325.here hx rfl (hb hby d47_30) rfl ?_
   show SG p e below T325 (mkF m 32 (la8 a307 q308 p309 p329 w331) [(.int (p309 - (p329 >>> (w331 &&& 31))))]) _
   refine XS.ifYes X325.here hx rfl (pc0 := 32) (pc' := 38) rfl (hb hby d47_32) rfl ((if0 _ _).trans (feq H9).2) (by decide) (by decide) ?_
   show SG p e below T325 (mkF m 38 (la8 a307 q308 p309 p329 w331) []) _
   refine XS.iload X325.here hx rfl (hb hby d47_38) rfl ?_
   show SG p e below T325 (mkF m 40 (la8 a307 q308 p309 p329 w331) [(.int (p309 - (p329 >>> (w331 &&& 31))))]) _
   refine XS.iconst X325.here hx rfl (hb hby d47_40) ?_
   show SG p e below T325 (mkF m 41 (la8 a307 q308 p309 p329 w331) [(.int (1 : Int32)), (.int (p309 - (p329 >>> (w331 &&& 31))))]) _
   refine XS.isub X325.here hx rfl (hb hby d47_41) rfl ?_
   show SG p e below T325 (mkF m 42 (la8 a307 q308 p309 p329 w331) [(.int ((p309 - (p329 >>> (w331 &&& 31))) - (1 : Int32)))]) _
   refine XS.istore X325.here hx rfl (hb hby d47_42) rfl (l' := #[vR a307, vJ q308, vS, vI p309, vI (p329 >>> (w331 &&& 31)), vI ((p309 - (p329 >>> (w331 &&& 31))) - (1 : Int32)), vU, vU, vU]) rfl ?_
   show SG p e below T325 (mkF m 44 (la9 a307 q308 p309 p329 w331) []) _
   refine XS.lloadN X325.here hx rfl (hb hby d47_44) rfl ?_
   show SG p e below T325 (mkF m 45 (la9 a307 q308 p309 p329 w331) [(.long q308)]) _
   refine st332 _ ?_
   show SG p e below T332 (mkF m 48 (la9 a307 q308 p309 p329 w331) [(.int (Int32.ofNat (SBG.digitsL (q308).toInt.natAbs)))]) _
   refine XS.iconst X332.here hx rfl (hb hby d47_48) ?_
   show SG p e below T332 (mkF m 49 (la9 a307 q308 p309 p329 w331) [(.int (1 : Int32)), (.int (Int32.ofNat (SBG.digitsL (q308).toInt.natAbs)))]) _
   refine XS.isub X332.here hx rfl (hb hby d47_49) rfl ?_
   show SG p e below T332 (mkF m 50 (la9 a307 q308 p309 p329 w331) [(.int ((Int32.ofNat (SBG.digitsL (q308).toInt.natAbs)) - (1 : Int32)))]) _
   refine XS.iload X332.here hx rfl (hb hby d47_50) rfl ?_
   show SG p e below T332 (mkF m 52 (la9 a307 q308 p309 p329 w331) [(.int ((p309 - (p329 >>> (w331 &&& 31))) - (1 : Int32))), (.int ((Int32.ofNat (SBG.digitsL (q308).toInt.natAbs)) - (1 : Int32)))]) _
   refine XS.isub X332.here hx rfl (hb hby d47_52) rfl ?_
   show SG p e below T332 (mkF m 53 (la9 a307 q308 p309 p329 w331) [(.int (((Int32.ofNat (SBG.digitsL (q308).toInt.natAbs)) - (1 : Int32)) - ((p309 - (p329 >>> (w331 &&& 31))) - (1 : Int32))))]) _
   refine XS.istore X332.here hx rfl (hb hby d47_53) rfl (l' := #[vR a307, vJ q308, vS, vI p309, vI (p329 >>> (w331 &&& 31)), vI ((p309 - (p329 >>> (w331 &&& 31))) - (1 : Int32)), vI (((Int32.ofNat (SBG.digitsL (q308).toInt.natAbs)) - (1 : Int32)) - ((p309 - (p329 >>> (w331 &&& 31))) - (1 : Int32))), vU, vU]) rfl ?_
   show SG p e below T332 (mkF m 55 (la10 a307 q308 p309 p329 w331) []) _
   refine XS.lloadN X332.here hx rfl (hb hby d47_55) rfl ?_
   show SG p e below T332 (mkF m 56 (la10 a307 q308 p309 p329 w331) [(.long q308)]) _
   refine XS.iload X332.here hx rfl (hb hby d47_56) rfl ?_
   show SG p e below T332 (mkF m 58 (la10 a307 q308 p309 p329 w331) [(.int (((Int32.ofNat (SBG.digitsL (q308).toInt.natAbs)) - (1 : Int32)) - ((p309 - (p329 >>> (w331 &&& 31))) - (1 : Int32)))), (.long q308)]) _
   refine st377 _ ?_
   show SG p e below T377 (mkF m 61 (la10 a307 q308 p309 p329 w331) [(.long q378), (.long q308)]) _
   refine XS.ldiv X377.here hx rfl (hb hby d47_61) rfl H13 ?_
   show SG p e below T377 (mkF m 62 (la10 a307 q308 p309 p329 w331) [(.long (q308 / q378))]) _
   refine X377.ldc2Long hx hown (mvT hZ (tw hw 242 rfl)) (g := (mkF m 62 (la10 a307 q308 p309 p329 w331) [(.long (q308 / q378))])) rfl (hb hby d47_62) _ ?_
   show SG p e below T377 (mkF m 65 (la10 a307 q308 p309 p329 w331) [(.long (10 : Int64)), (.long (q308 / q378))]) _
   refine lremM X377 hx rfl (hb hby d47_65) rfl (by decide) ?_
   show SG p e below T377 (mkF m 66 (la10 a307 q308 p309 p329 w331) [(.long ((q308 / q378) % (10 : Int64)))]) _
   refine XS.lstore X377.here hx rfl (hb hby d47_66) rfl (l' := #[vR a307, vJ q308, vS, vI p309, vI (p329 >>> (w331 &&& 31)), vI ((p309 - (p329 >>> (w331 &&& 31))) - (1 : Int32)), vI (((Int32.ofNat (SBG.digitsL (q308).toInt.natAbs)) - (1 : Int32)) - ((p309 - (p329 >>> (w331 &&& 31))) - (1 : Int32))), vJ ((q308 / q378) % (10 : Int64)), vS]) rfl ?_
   show SG p e below T377 (mkF m 68 (la11 a307 q308 p309 p329 w331 q378) []) _
   refine XS.bipush X377.here hx rfl (hb hby d47_68) ?_
   show SG p e below T377 (mkF m 70 (la11 a307 q308 p309 p329 w331 q378) [(.int (48 : Int32))]) _
   refine XS.lload X377.here hx rfl (hb hby d47_70) rfl ?_
   show SG p e below T377 (mkF m 72 (la11 a307 q308 p309 p329 w331 q378) [(.long ((q308 / q378) % (10 : Int64))), (.int (48 : Int32))]) _
   refine st379 _ ?_
   show SG p e below T379 (mkF m 75 (la11 a307 q308 p309 p329 w331 q378) [(.long (oabl ((q308 / q378) % (10 : Int64)))), (.int (48 : Int32))]) _
   refine XS.l2i X379.here hx rfl (hb hby d47_75) rfl ?_
   show SG p e below T379 (mkF m 76 (la11 a307 q308 p309 p329 w331 q378) [(.int ((oabl ((q308 / q378) % (10 : Int64))).toInt32)), (.int (48 : Int32))]) _
   refine XS.iadd X379.here hx rfl (hb hby d47_76) rfl ?_
   show SG p e below T379 (mkF m 77 (la11 a307 q308 p309 p329 w331 q378) [(.int ((48 : Int32) + ((oabl ((q308 / q378) % (10 : Int64))).toInt32)))]) _
   refine XS.i2c X379.here hx rfl (hb hby d47_77) rfl ?_
   show SG p e below T379 (mkF m 78 (la11 a307 q308 p309 p329 w331 q378) [(.int (((48 : Int32) + ((oabl ((q308 / q378) % (10 : Int64))).toInt32)).toUInt32.toUInt16.toUInt32.toInt32))]) _
   exact retN X379 hx (t := .char) Bd.returns (by simp) (hb hby d47_78) (by rw [H14]; exact hr)
 · show Qr47_4 Z a307 q308 p309 w326 k327 u328 p329 w330 w331 q378 h0 n0 _ T379.heap _
   rw [e379]
   exact ⟨N379, b377_0, k377_0, rfl, (Nat.le_trans KC332.1 ge_b377_0), KC377, o377_0⟩
theorem own_exp0 (l : Launch) (Z : State) (a0 : Array Value) (hw : ∀ d ∈ tables_1, d.before a0 Z = true) (a : Addr) (wS wc : Int32) (b : Addr) (k : ClassId) (z : Int32) (f : Nat → Int32) (o : Value) (v : Int64) (I n2 : Nat) (h0 : Heap) (n0 : Nat) (Z0 : n0 ≤ h0.size) (H1 : Sta Z h0 "java/lang/String" "COMPACT_STRINGS" "Z" (.int wS)) (H2 : ¬ (wS = (0 : Int32))) (H3 : Fld Z h0 a "java/lang/String" "coder" "B" (.int wc)) (H4 : wc = (0 : Int32)) (H5 : Exa Z h0 a "java/lang/String") (H6 : Fld Z h0 a "java/lang/String" "value" "[B" (.ref b)) (H7 : BA Z h0 b k .byte z f) (H8 : Sta Z h0 "jdk/internal/util/Preconditions" "SIOOBE_FORMATTER" "Ljava/util/function/BiFunction;" o) (H9 : o.isRef = true) (hz : z = Int32.ofNat n2) (hn : n2 ≤ 100) (hI : I < n2 + oszL v) :
   OMet l Z mN12 method_7_code 9 (some .char) [] ({ frames := 4, cells := 19, slots := 361, locals := 53 } : Room) h0 #[(.ref a), (.long v), (.int (Int32.ofNat I))] (OQk (some (.int (oc8 (otxL f n2 v I)))) h0 n0) := by
 subst H4 hz
 have hd := own_dle v
 have hos : oszL v = SBG.digitsL (v).toInt.natAbs + osgL v := rfl
 have hsg : osgL v = if v < 0 then 1 else 0 := rfl
 by_cases hi : I < n2
 · have er : otxL f n2 v I = f I := if_pos hi
   exact own_imp (r47_1 l Z a0 hw a v (Int32.ofNat I) b k f (Int32.ofNat n2) wS (0 : Int32) o h0 n0 Z0 H6 H7 H1 H2 H3 (by decide) H5 (by rw [own_ishr0]; exact (own_lt (by omega) (by omega)).mpr hi) (by decide) H8 H9 (own_n0 (by omega)) ((own_lt (by omega) (by omega)).mpr hi) (own_oc8 _)) fun v h L q => ⟨q.2.1, q.1.trans (by rw [er, own_cl (by omega)]), by rw [q.2.2]; exact KSx.refl _ _ _⟩
 by_cases hv : v < 0
 · rw [if_pos hv] at hsg
   by_cases hj : I = n2
   · have er : otxL f n2 v I = 45 := by rw [otxL, if_neg hi, otcL, if_pos ⟨hv, by omega⟩]
     exact own_imp (r47_3 l Z a0 hw a v (Int32.ofNat I) b k f (Int32.ofNat n2) wS (0 : Int32) h0 n0 Z0 H6 H7 H1 H2 H3 (by decide) H5 (by rw [own_ishr0, own_lt (by omega) (by omega)]; exact hi) ((lw_lt v 0).mpr hv) (by rw [own_ishr0, hj]; exact own_subs _)) fun v h L q => ⟨q.2.1, q.1.trans (by rw [er, show oc8 45 = 45 from by decide]), by rw [q.2.2]; exact KSx.refl _ _ _⟩
   · have er : otxL f n2 v I = SBG.odg v.toInt.natAbs (SBG.digitsL (v).toInt.natAbs - 1 - (I - n2 - 1)) := by rw [otxL, if_neg hi, otcL, if_neg (fun q => hj (by omega)), show oszL v - 1 - (I - n2) = (SBG.digitsL (v).toInt.natAbs - 1 - (I - n2 - 1)) from by omega]
     have a3 := own_a4 (I := I) (D := SBG.digitsL (v).toInt.natAbs) (s := n2) (by omega) (by omega) (by omega) (by omega)
     refine own_imp (r47_4 l Z a0 hw a v (Int32.ofNat I) b k f (Int32.ofNat n2) wS (0 : Int32) (Int64.ofNat (10 ^ (SBG.digitsL (v).toInt.natAbs - 1 - (I - n2 - 1)))) h0 n0 Z0 H6 H7 H1 H2 H3 (by decide) H5 (by rw [own_ishr0, own_lt (by omega) (by omega)]; exact hi) ((lw_lt v 0).mpr hv) (by rw [own_ishr0, own_sub (by omega) (by omega)]; intro k; have := congrArg Int32.toNatClampNeg k; rw [own_cl (by omega)] at this; exact hj (by have q : (0 : Int32).toNatClampNeg = 0 := rfl; omega)) (by rw [own_ishr0, a3]; exact own_n0 (by omega)) (by rw [own_ishr0, a3]; exact (own_lt (b := 19) (by omega) (by decide)).mpr (by omega)) (by rw [own_ishr0, a3, own_cl (by omega)]; exact own_ten ⟨_, (by omega : (SBG.digitsL (v).toInt.natAbs - 1 - (I - n2 - 1)) < 19)⟩) (own_ten0 ⟨_, (by omega : (SBG.digitsL (v).toInt.natAbs - 1 - (I - n2 - 1)) < 19)⟩) (own_nc _)) fun v h L q => ?_
     obtain ⟨N, _, _, e, _, K, _⟩ := q
     exact ⟨N, e.trans (by rw [er, own_dgt (by omega)]), K⟩
 · rw [if_neg hv] at hsg
   have er : otxL f n2 v I = SBG.odg v.toInt.natAbs (SBG.digitsL (v).toInt.natAbs - 1 - (I - n2)) := by rw [otxL, if_neg hi, otcL, if_neg (fun q => hv q.1), show oszL v - 1 - (I - n2) = (SBG.digitsL (v).toInt.natAbs - 1 - (I - n2)) from by omega]
   have a3 := own_a3 (I := I) (D := SBG.digitsL (v).toInt.natAbs) (s := n2) (by omega) (by omega) (by omega) (by omega)
   refine own_imp (r47_2 l Z a0 hw a v (Int32.ofNat I) b k f (Int32.ofNat n2) wS (0 : Int32) (Int64.ofNat (10 ^ (SBG.digitsL (v).toInt.natAbs - 1 - (I - n2)))) h0 n0 Z0 H6 H7 H1 H2 H3 (by decide) H5 (by rw [own_ishr0, own_lt (by omega) (by omega)]; exact hi) (fun k => hv ((lw_lt v 0).mp k)) (by rw [own_ishr0, a3]; exact own_n0 (by omega)) (by rw [own_ishr0, a3]; exact (own_lt (b := 19) (by omega) (by decide)).mpr (by omega)) (by rw [own_ishr0, a3, own_cl (by omega)]; exact own_ten ⟨_, (by omega : (SBG.digitsL (v).toInt.natAbs - 1 - (I - n2)) < 19)⟩) (own_ten0 ⟨_, (by omega : (SBG.digitsL (v).toInt.natAbs - 1 - (I - n2)) < 19)⟩) (own_nc _)) fun v h L q => ?_
   obtain ⟨N, _, _, e, _, K, _⟩ := q
   exact ⟨N, e.trans (by rw [er, own_dgt (by omega)]), K⟩
theorem own_exp (l : Launch) (Z : State) (a0 : Array Value) (hw : ∀ d ∈ tables_1, d.before a0 Z = true) (a : Addr) (wS wc : Int32) (b : Addr) (k : ClassId) (z : Int32) (f : Nat → Int32) (o : Value) (v : Int64) (i : Int32) (h0 : Heap) (n0 : Nat) (Z0 : n0 ≤ h0.size) (H1 : Sta Z h0 "java/lang/String" "COMPACT_STRINGS" "Z" (.int wS)) (H2 : ¬ (wS = (0 : Int32))) (H3 : Fld Z h0 a "java/lang/String" "coder" "B" (.int wc)) (H4 : wc = (0 : Int32)) (H5 : Exa Z h0 a "java/lang/String") (H6 : Fld Z h0 a "java/lang/String" "value" "[B" (.ref b)) (H7 : BA Z h0 b k .byte z f) (H8 : Sta Z h0 "jdk/internal/util/Preconditions" "SIOOBE_FORMATTER" "Ljava/util/function/BiFunction;" o) (H9 : o.isRef = true) (H10 : ¬ (i < (0 : Int32))) (H11 : (z).toNatClampNeg ≤ 100) (H12 : (i).toNatClampNeg < (z).toNatClampNeg + oszL v) :
   OMet l Z mN12 method_7_code 9 (some .char) [] ({ frames := 4, cells := 19, slots := 361, locals := 53 } : Room) h0 #[(.ref a), (.long v), (.int i)] (OQk (some (.int (oc8 (otxL f (z).toNatClampNeg v (i).toNatClampNeg)))) h0 n0) := by
 have q := own_exp0 l Z a0 hw a wS wc b k z f o v i.toNatClampNeg z.toNatClampNeg h0 n0 Z0 H1 H2 H3 H4 H5 H6 H7 H8 H9 (own_ofNat (by obtain ⟨c, _, _, _, h, _⟩ := H7; exact h)) H11 H12
 rw [← own_ofNat H10] at q
 exact q
theorem d38_0 : decode method_3_code 0 = .ok (.aload_n 0, 1) := by decide +kernel
theorem d38_1 : decode method_3_code 1 = .ok (.ifnonnull 5, 3) := by decide +kernel
theorem d38_6 : decode method_3_code 6 = .ok (.aload_n 1, 1) := by decide +kernel
theorem d38_7 : decode method_3_code 7 = .ok (.invokevirtual 38, 3) := by decide +kernel
theorem d38_10 : decode method_3_code 10 = .ok (.lload_n 2, 1) := by decide +kernel
theorem d38_11 : decode method_3_code 11 = .ok (.lconst 0, 1) := by decide +kernel
theorem d38_12 : decode method_3_code 12 = .ok (.lcmp, 1) := by decide +kernel
theorem d38_13 : decode method_3_code 13 = .ok (.ifCond .ge 7, 3) := by decide +kernel
theorem d38_20 : decode method_3_code 20 = .ok (.iconst 0, 1) := by decide +kernel
theorem d38_21 : decode method_3_code 21 = .ok (.iadd, 1) := by decide +kernel
theorem d38_22 : decode method_3_code 22 = .ok (.lload_n 2, 1) := by decide +kernel
theorem d38_23 : decode method_3_code 23 = .ok (.invokestatic 41, 3) := by decide +kernel
theorem d38_26 : decode method_3_code 26 = .ok (.iadd, 1) := by decide +kernel
theorem d38_27 : decode method_3_code 27 = .ok (.istore 5, 2) := by decide +kernel
theorem d38_29 : decode method_3_code 29 = .ok (.aload_n 0, 1) := by decide +kernel
abbrev la12 (a380 : Addr) (a381 : Addr) (q382 : Int64) (p383 : Int32) (p403 : Int32) (w405 : Int32) : Array Slot := #[vR a380, vR a381, vJ q382, vS, vI p383, vI (((p403 >>> (w405 &&& 31)) + (0 : Int32)) + (Int32.ofNat (SBG.digitsL (q382).toInt.natAbs))), vU]
theorem d38_30 : decode method_3_code 30 = .ok (.invokevirtual 38, 3) := by decide +kernel
theorem d38_33 : decode method_3_code 33 = .ok (.iload 5, 2) := by decide +kernel
theorem d38_35 : decode method_3_code 35 = .ok (.if_icmp .eq 5, 3) := by decide +kernel
theorem d38_40 : decode method_3_code 40 = .ok (.iload 4, 2) := by decide +kernel
theorem d38_42 : decode method_3_code 42 = .ok (.ldc 45, 2) := by decide +kernel
theorem d38_44 : decode method_3_code 44 = .ok (.iand, 1) := by decide +kernel
theorem d38_45 : decode method_3_code 45 = .ok (.iload 5, 2) := by decide +kernel
theorem d38_47 : decode method_3_code 47 = .ok (.irem, 1) := by decide +kernel
theorem d38_48 : decode method_3_code 48 = .ok (.istore 6, 2) := by decide +kernel
theorem d38_50 : decode method_3_code 50 = .ok (.aload_n 0, 1) := by decide +kernel
abbrev la13 (a380 : Addr) (a381 : Addr) (q382 : Int64) (p383 : Int32) (p403 : Int32) (w405 : Int32) : Array Slot := #[vR a380, vR a381, vJ q382, vS, vI p383, vI (((p403 >>> (w405 &&& 31)) + (0 : Int32)) + (Int32.ofNat (SBG.digitsL (q382).toInt.natAbs))), vI ((p383 &&& (2147483647 : Int32)) % (((p403 >>> (w405 &&& 31)) + (0 : Int32)) + (Int32.ofNat (SBG.digitsL (q382).toInt.natAbs))))]
theorem d38_51 : decode method_3_code 51 = .ok (.iload 6, 2) := by decide +kernel
theorem d38_53 : decode method_3_code 53 = .ok (.invokevirtual 46, 3) := by decide +kernel
theorem d38_56 : decode method_3_code 56 = .ok (.aload_n 1, 1) := by decide +kernel
theorem d38_57 : decode method_3_code 57 = .ok (.lload_n 2, 1) := by decide +kernel
theorem d38_58 : decode method_3_code 58 = .ok (.iload 6, 2) := by decide +kernel
theorem d38_60 : decode method_3_code 60 = .ok (.invokestatic 50, 3) := by decide +kernel
theorem pd_11 : parseMethodDescriptor "(Ljava/lang/String;JI)C" = some ⟨[(.object "java/lang/String"), .long, .int], some .char⟩ := by decide +kernel
theorem d38_63 : decode method_3_code 63 = .ok (.if_icmp .ne 7, 3) := by decide +kernel
theorem d38_66 : decode method_3_code 66 = .ok (.iconst 1, 1) := by decide +kernel
theorem d38_67 : decode method_3_code 67 = .ok (.goto 4, 3) := by decide +kernel
theorem d38_71 : decode method_3_code 71 = .ok (.ireturn, 1) := by decide +kernel
theorem ef_38_vvvv (m : MethodId) (x0 : Addr) (x1 : Addr) (x2 : Int64) (x3 : Int32) : entryFrame m #[(.ref x0), (.ref x1), (.long x2), (.int x3)] 7 = mkF m 0 #[.val (.ref x0), .val (.ref x1), .val (.long x2), .second, .val (.int x3), .unset, .unset] [] := by first | (simp [entryFrame, mkF, argsToLocals, Value.category]; done) | rfl
def Qr38_1 (Z : State) (a380 : Addr) (a381 : Addr) (q382 : Int64) (p383 : Int32) (w400 : Addr) (k401 : ClassId) (u402 : Nat → Int32) (p403 : Int32) (w404 : Int32) (w405 : Int32) (w423 : Addr) (k425 : ClassId) (u426 : Nat → Int32) (p427 : Int32) (w430 : Int32) (x434 : Value) (h0 : Heap) (n0 : Nat) (v : Option Value) (h : Heap) (L : List Loc) : Prop := Fr n0 L ∧ v = some (.int (1 : Int32)) ∧ KSx h0 h [] []
theorem r38_1 (l : Launch) (Z : State) (a0 : Array Value) (hw : ∀ d ∈ tables_1, d.before a0 Z = true) (a380 : Addr) (a381 : Addr) (q382 : Int64) (p383 : Int32) (w400 : Addr) (k401 : ClassId) (u402 : Nat → Int32) (p403 : Int32) (w404 : Int32) (w405 : Int32) (w423 : Addr) (k425 : ClassId) (u426 : Nat → Int32) (p427 : Int32) (w430 : Int32) (x434 : Value) (h0 : Heap) (n0 : Nat) (Z0 : n0 ≤ h0.size) (H0 : Fld Z h0 a381 "java/lang/String" "value" "[B" (.ref w400)) (H1 : BA Z h0 w400 k401 .byte p403 u402) (H2 : Sta Z h0 "java/lang/String" "COMPACT_STRINGS" "Z" (.int w404)) (H3 : ¬ (w404 = (0 : Int32))) (H4 : Fld Z h0 a381 "java/lang/String" "coder" "B" (.int w405)) (H5 : nar .byte w405 = w405) (H6 : Exa Z h0 a381 "java/lang/String") (H7 : ¬ ((lcmpW q382 (0 : Int64)) < (0 : Int32))) (H8 : Fld Z h0 a380 "java/lang/String" "value" "[B" (.ref w423)) (H9 : BA Z h0 w423 k425 .byte p427 u426) (H10 : Fld Z h0 a380 "java/lang/String" "coder" "B" (.int w430)) (H11 : nar .byte w430 = w430) (H12 : Exa Z h0 a380 "java/lang/String") (H13 : (p427 >>> (w430 &&& 31)) = (((p403 >>> (w405 &&& 31)) + (0 : Int32)) + (Int32.ofNat (SBG.digitsL (q382).toInt.natAbs)))) (H14 : ¬ ((((p403 >>> (w405 &&& 31)) + (0 : Int32)) + (Int32.ofNat (SBG.digitsL (q382).toInt.natAbs))) = (0 : Int32))) (H15 : w430 = (0 : Int32)) (H16 : Sta Z h0 "jdk/internal/util/Preconditions" "SIOOBE_FORMATTER" "Ljava/util/function/BiFunction;" x434) (H17 : (x434).isRef = true) (H18 : ¬ (((p383 &&& (2147483647 : Int32)) % (((p403 >>> (w405 &&& 31)) + (0 : Int32)) + (Int32.ofNat (SBG.digitsL (q382).toInt.natAbs)))) < (0 : Int32))) (H19 : ((p383 &&& (2147483647 : Int32)) % (((p403 >>> (w405 &&& 31)) + (0 : Int32)) + (Int32.ofNat (SBG.digitsL (q382).toInt.natAbs)))) < p427) (H20 : w405 = (0 : Int32)) (H21 : (p403).toNatClampNeg ≤ 100) (H22 : (((p383 &&& (2147483647 : Int32)) % (((p403 >>> (w405 &&& 31)) + (0 : Int32)) + (Int32.ofNat (SBG.digitsL (q382).toInt.natAbs))))).toNatClampNeg < (p403).toNatClampNeg + oszL q382) (H23 : (oc8 (u426 (((p383 &&& (2147483647 : Int32)) % (((p403 >>> (w405 &&& 31)) + (0 : Int32)) + (Int32.ofNat (SBG.digitsL (q382).toInt.natAbs))))).toNatClampNeg)) = (oc8 (otxL u402 (p403).toNatClampNeg q382 (((p383 &&& (2147483647 : Int32)) % (((p403 >>> (w405 &&& 31)) + (0 : Int32)) + (Int32.ofNat (SBG.digitsL (q382).toInt.natAbs))))).toNatClampNeg))) :
   OMet l Z mN13 method_3_code 7 (some .boolean) [] ({ frames := 5, cells := 37, slots := 703, locals := 74 } : Room) h0 #[(.ref a380), (.ref a381), (.long q382), (.int p383)] (Qr38_1 Z a380 a381 q382 p383 w400 k401 u402 p403 w404 w405 w423 k425 u426 p427 w430 x434 h0 n0) := by
 refine MetFree.of_bodySF (plainFor_of_name pn_com_example_eta4_eta4_bench_FillFiguresLinesPinLaw) hisR ?_
 intro p e s m args below meth c s₁ Bd hml0 hP hK
 obtain ⟨rfl, hZ, hh⟩ := hP
 have hx := Bd.exec
 have hby := Bd.bytes
 have hml : c.maxLocals = 7 := hml0
 have hown : s.vm.findClass "com/example/eta4/eta4/bench/FillFiguresLinesPinLaw" = some m.cls := findClass_of_methodNamed Bd.named
 have hnm := (name_of_methodNamed Bd.named Bd.method).1
 have X0 : Stand p l e ({ frames := 5, cells := 37, slots := 703, locals := 74 } : Room) s m #[(.ref a380), (.ref a381), (.long q382), (.int p383)] below meth c s₁ [] 0 0 := Stand.of_body Bd
 have e0 : s₁.heap = h0 := by rw [← hh, Bd.state]; rfl
 have N0 := Fr.nil n0
 have pre0 : ∀ t, Steps p.tables e below (s₁.setTop (mkF m 0 #[vR a380, vR a381, vJ q382, vS, vI p383, .unset, .unset] [])) t → Steps p.tables e below (s₁.setTop (entryFrame m #[(.ref a380), (.ref a381), (.long q382), (.int p383)] 7)) t := fun t k => castTop (ef_38_vvvv m a380 a381 q382 p383) k
 obtain ⟨cq399, kq399, q399a, q399b, q399c⟩ := isOf hZ e0 H6
 obtain ⟨_, _, ⟨T399, L399, k399, n399⟩, -, X399, ⟨Lc399, hQ399, l399, y399, z399⟩, st399⟩ := X0.virtualBack hx (y := mN11) (z := mN11) hown (mvT hZ (tw hw 231 rfl)) (mvT hZ (tw hw 60 rfl)) (notFace_of_selects (args := #[]) (mvT hZ (tw hw 62 rfl))) (mvT hZ (tw hw 62 rfl)) (mvT hZ (tw hw 61 rfl)) (by decide) (backOf (W := 0) (r9_1 l Z a0 hw a381 w400 k401 u402 p403 w404 w405 h0 n0 Z0 H0 H1 H2 H3 H4 H5 H6) hZ (tw hw 63 rfl) (tw hw 37 rfl) (by decide) (by decide)) q399a q399c (g := (mkF m 7 #[vR a380, vR a381, vJ q382, vS, vI p383, vU, vU] [(.ref a381)])) rfl (by rw [hml]; rfl) (Steps.refl _) (argsL := []) (rest := []) (lenOf pd_7 rfl) rfl (own_w _) (hb hby d38_7) (fun _ _ => ⟨rfl, e0, (by decide : 0 + 0 ≤ _), (by decide : 0 + 0 ≤ _)⟩)
 dsimp only [Pt.U, Pt.locs, Pt.cells, Pt.slots] at X399 l399 y399 z399 st399 hQ399
 replace X399 := own_mvX X399 (a := 0) (b := 0) y399 z399
 obtain ⟨rfl, N399q, e399⟩ := hQ399
 have N399 := own_mvN l399 N0 N399q
 obtain ⟨_, _, ⟨T406, L406, k406, n406⟩, -, X406, ⟨Lc406, hQ406, l406, y406, z406⟩, st406⟩ := Jvm.LawKit.callS X399 hx (y := mN9) hown (mvT hZ (tw hw 232 rfl)) (mvT hZ (tw hw 233 rfl)) (mvT hZ (tw hw 229 rfl)) (mvT hZ (tw hw 234 rfl)) (by decide) (backOf (W := 1) (own_dgL l Z a0 hw q382 h0 n0 Z0) hZ (tw hw 234 rfl) (tw hw 229 rfl) (by decide) (by decide)) (g := (mkF m 23 #[vR a380, vR a381, vJ q382, vS, vI p383, vU, vU] [(.long q382), (.int ((p403 >>> (w405 &&& 31)) + (0 : Int32)))])) rfl (by rw [hml]; rfl) (argsL := [(.long q382)]) (rest := [(.int ((p403 >>> (w405 &&& 31)) + (0 : Int32)))]) (lenOf pd_9 rfl) rfl (own_w _) (hb hby d38_23) (fun _ _ => ⟨rfl, e399, (by decide : 0 + 18 ≤ _), (by decide : 0 + 342 ≤ _)⟩)
 dsimp only [Pt.U, Pt.locs, Pt.cells, Pt.slots] at X406 l406 y406 z406 st406 hQ406
 replace X406 := own_mvX X406 (a := 18) (b := 342) y406 z406
 obtain ⟨N406q, rfl, K406⟩ := hQ406
 have N406 := own_mvN l406 N399 N406q
 have KC406 := KSx.trans (KSx.refl h0 [] []) K406 ks0 all0
 have f424 := (H8.ks K406 ks0 all0)
 have f428 := (H9.ks K406 ks0 all0)
 have f429 := (H2.ks K406)
 have f431 := (H10.ks K406 ks0 all0)
 have f432 := (H12.ks K406)
 have Z406 : n0 ≤ T406.heap.size := Nat.le_trans Z0 K406.1
 obtain ⟨cq422, kq422, q422a, q422b, q422c⟩ := isOf hZ rfl f432
 obtain ⟨_, _, ⟨T422, L422, k422, n422⟩, -, X422, ⟨Lc422, hQ422, l422, y422, z422⟩, st422⟩ := X406.virtualBack hx (y := mN11) (z := mN11) hown (mvT hZ (tw hw 231 rfl)) (mvT hZ (tw hw 60 rfl)) (notFace_of_selects (args := #[]) (mvT hZ (tw hw 62 rfl))) (mvT hZ (tw hw 62 rfl)) (mvT hZ (tw hw 61 rfl)) (by decide) (backOf (W := 0) (r9_1 l Z a0 hw a380 w423 k425 u426 p427 w404 w430 T406.heap n0 Z406 f424 f428 f429 H3 f431 H11 f432) hZ (tw hw 63 rfl) (tw hw 37 rfl) (by decide) (by decide)) q422a q422c (g := (mkF m 30 (la12 a380 a381 q382 p383 p403 w405) [(.ref a380)])) rfl (by rw [hml]; rfl) (Steps.refl _) (argsL := []) (rest := []) (lenOf pd_7 rfl) rfl (own_w _) (hb hby d38_30) (fun _ _ => ⟨rfl, rfl, (by decide : 18 + 0 ≤ _), (by decide : 342 + 0 ≤ _)⟩)
 dsimp only [Pt.U, Pt.locs, Pt.cells, Pt.slots] at X422 l422 y422 z422 st422 hQ422
 replace X422 := own_mvX X422 (a := 18) (b := 342) y422 z422
 obtain ⟨rfl, N422q, e422⟩ := hQ422
 have N422 := own_mvN l422 N406 N422q
 have f435 := (H16.ks K406)
 obtain ⟨cq433, kq433, q433a, q433b, q433c⟩ := isOf hZ e422 f432
 obtain ⟨_, _, ⟨T433, L433, k433, n433⟩, -, X433, ⟨Lc433, hQ433, l433, y433, z433⟩, st433⟩ := X422.virtualBack hx (y := mN5) (z := mN5) hown (mvT hZ (tw hw 261 rfl)) (mvT hZ (tw hw 262 rfl)) (notFace_of_selects (args := #[]) (mvT hZ (tw hw 264 rfl))) (mvT hZ (tw hw 264 rfl)) (mvT hZ (tw hw 263 rfl)) (by decide) (backOf (W := 0) (own_ch l Z a0 hw a380 w404 w430 w423 k425 p427 u426 x434 ((p383 &&& (2147483647 : Int32)) % (((p403 >>> (w405 &&& 31)) + (0 : Int32)) + (Int32.ofNat (SBG.digitsL (q382).toInt.natAbs)))) T406.heap n0 Z406 f429 H3 f431 H15 f432 f424 f428 f435 H17 H18 H19) hZ (tw hw 265 rfl) (tw hw 37 rfl) (by decide) (by decide)) q433a q433c (g := (mkF m 53 (la13 a380 a381 q382 p383 p403 w405) [(.int ((p383 &&& (2147483647 : Int32)) % (((p403 >>> (w405 &&& 31)) + (0 : Int32)) + (Int32.ofNat (SBG.digitsL (q382).toInt.natAbs))))), (.ref a380)])) rfl (by rw [hml]; rfl) (Steps.refl _) (argsL := [(.int ((p383 &&& (2147483647 : Int32)) % (((p403 >>> (w405 &&& 31)) + (0 : Int32)) + (Int32.ofNat (SBG.digitsL (q382).toInt.natAbs)))))]) (rest := []) (lenOf pd_8 rfl) rfl (own_w _) (hb hby d38_53) (fun _ _ => ⟨rfl, e422, (by decide : 18 + 0 ≤ _), (by decide : 342 + 0 ≤ _)⟩)
 dsimp only [Pt.U, Pt.locs, Pt.cells, Pt.slots] at X433 l433 y433 z433 st433 hQ433
 replace X433 := own_mvX X433 (a := 18) (b := 342) y433 z433
 obtain ⟨rfl, N433q, e433⟩ := hQ433
 have N433 := own_mvN l433 N422 N433q
 have f437 := (H4.ks K406 ks0 all0)
 have f438 := (H6.ks K406)
 have f439 := (H0.ks K406 ks0 all0)
 have f440 := (H1.ks K406 ks0 all0)
 obtain ⟨_, _, ⟨T436, L436, k436, n436⟩, -, X436, ⟨Lc436, hQ436, l436, y436, z436⟩, st436⟩ := Jvm.LawKit.callS X433 hx (y := mN12) hown (mvT hZ (tw hw 283 rfl)) (mvT hZ (tw hw 284 rfl)) (mvT hZ (tw hw 229 rfl)) (mvT hZ (tw hw 285 rfl)) (by decide) (backOf (W := 1) (own_exp l Z a0 hw a381 w404 w405 w400 k401 p403 u402 x434 q382 ((p383 &&& (2147483647 : Int32)) % (((p403 >>> (w405 &&& 31)) + (0 : Int32)) + (Int32.ofNat (SBG.digitsL (q382).toInt.natAbs)))) T406.heap n0 Z406 f429 H3 f437 H20 f438 f439 f440 f435 H17 H18 H21 H22) hZ (tw hw 285 rfl) (tw hw 229 rfl) (by decide) (by decide)) (g := (mkF m 60 (la13 a380 a381 q382 p383 p403 w405) [(.int ((p383 &&& (2147483647 : Int32)) % (((p403 >>> (w405 &&& 31)) + (0 : Int32)) + (Int32.ofNat (SBG.digitsL (q382).toInt.natAbs))))), (.long q382), (.ref a381), (.int (oc8 (u426 (((p383 &&& (2147483647 : Int32)) % (((p403 >>> (w405 &&& 31)) + (0 : Int32)) + (Int32.ofNat (SBG.digitsL (q382).toInt.natAbs))))).toNatClampNeg)))])) rfl (by rw [hml]; rfl) (argsL := [(.ref a381), (.long q382), (.int ((p383 &&& (2147483647 : Int32)) % (((p403 >>> (w405 &&& 31)) + (0 : Int32)) + (Int32.ofNat (SBG.digitsL (q382).toInt.natAbs)))))]) (rest := [(.int (oc8 (u426 (((p383 &&& (2147483647 : Int32)) % (((p403 >>> (w405 &&& 31)) + (0 : Int32)) + (Int32.ofNat (SBG.digitsL (q382).toInt.natAbs))))).toNatClampNeg)))]) (lenOf pd_11 rfl) rfl (own_w _) (hb hby d38_60) (fun _ _ => ⟨rfl, e433, (by decide : 18 + 19 ≤ _), (by decide : 342 + 361 ≤ _)⟩)
 dsimp only [Pt.U, Pt.locs, Pt.cells, Pt.slots] at X436 l436 y436 z436 st436 hQ436
 replace X436 := own_mvX X436 (a := 37) (b := 703) y436 z436
 obtain ⟨N436q, rfl, K436⟩ := hQ436
 have N436 := own_mvN l436 N433 N436q
 have KC436 := KSx.trans KC406 K436 ks0 all0
 obtain ⟨fs, hr, hrun, hended, hW, hsame⟩ := X436.leave (v := some (.int (1 : Int32))) (fun h => by rw [Bd.returns] at h; cases h)
 refine ⟨_, _, pre0 _ ?_, hrun, hended, _, _, rfl, ?_, ⟨_, rfl⟩, hW, hsame.mono (by decide) (by decide)⟩
 · show SG p e below s₁ (mkF m 0 #[vR a380, vR a381, vJ q382, vS, vI p383, vU, vU] []) _
   refine XS.aloadN X0.here hx rfl (hb hby d38_0) rfl rfl ?_
   show SG p e below s₁ (mkF m 1 #[vR a380, vR a381, vJ q382, vS, vI p383, vU, vU] [(.ref a380)]) _
   refine XS.ifnonnullYes X0.here hx rfl (pc0 := 1) (pc' := 6) rfl (hb hby d38_1) rfl (by decide) (by decide) ?_
   show SG p e below s₁ (mkF m 6 #[vR a380, vR a381, vJ q382, vS, vI p383, vU, vU] []) _
   refine XS.aloadN X0.here hx rfl (hb hby d38_6) rfl rfl ?_
   show SG p e below s₁ (mkF m 7 #[vR a380, vR a381, vJ q382, vS, vI p383, vU, vU] [(.ref a381)]) _
   refine st399.trans ?_
   show SG p e below T399 (mkF m 10 #[vR a380, vR a381, vJ q382, vS, vI p383, vU, vU] [(.int (p403 >>> (w405 &&& 31)))]) _
   refine XS.lloadN X399.here hx rfl (hb hby d38_10) rfl ?_
   show SG p e below T399 (mkF m 11 #[vR a380, vR a381, vJ q382, vS, vI p383, vU, vU] [(.long q382), (.int (p403 >>> (w405 &&& 31)))]) _
   refine XS.lconst X399.here hx rfl (hb hby d38_11) ?_
   show SG p e below T399 (mkF m 12 #[vR a380, vR a381, vJ q382, vS, vI p383, vU, vU] [(.long (0 : Int64)), (.long q382), (.int (p403 >>> (w405 &&& 31)))]) _
   refine XS.lcmp X399.here hx rfl (hb hby d38_12) rfl ?_
   show SG p e below T399 (mkF m 13 #[vR a380, vR a381, vJ q382, vS, vI p383, vU, vU] [(.int (lcmpW q382 (0 : Int64))), (.int (p403 >>> (w405 &&& 31)))]) _
   refine XS.ifYes X399.here hx rfl (pc0 := 13) (pc' := 20) rfl (hb hby d38_13) rfl ((if0 _ _).trans (flt H7).2.1) (by decide) (by decide) ?_
   show SG p e below T399 (mkF m 20 #[vR a380, vR a381, vJ q382, vS, vI p383, vU, vU] [(.int (p403 >>> (w405 &&& 31)))]) _
   refine XS.iconst X399.here hx rfl (hb hby d38_20) ?_
   show SG p e below T399 (mkF m 21 #[vR a380, vR a381, vJ q382, vS, vI p383, vU, vU] [(.int (0 : Int32)), (.int (p403 >>> (w405 &&& 31)))]) _
   refine XS.iadd X399.here hx rfl (hb hby d38_21) rfl ?_
   show SG p e below T399 (mkF m 22 #[vR a380, vR a381, vJ q382, vS, vI p383, vU, vU] [(.int ((p403 >>> (w405 &&& 31)) + (0 : Int32)))]) _
   refine XS.lloadN X399.here hx rfl (hb hby d38_22) rfl ?_
   show SG p e below T399 (mkF m 23 #[vR a380, vR a381, vJ q382, vS, vI p383, vU, vU] [(.long q382), (.int ((p403 >>> (w405 &&& 31)) + (0 : Int32)))]) _
   refine st406 _ ?_
   show SG p e below T406 (mkF m 26 #[vR a380, vR a381, vJ q382, vS, vI p383, vU, vU] [(.int (Int32.ofNat (SBG.digitsL (q382).toInt.natAbs))), (.int ((p403 >>> (w405 &&& 31)) + (0 : Int32)))]) _
   refine XS.iadd X406.here hx rfl (hb hby d38_26) rfl ?_
   show SG p e below T406 (mkF m 27 #[vR a380, vR a381, vJ q382, vS, vI p383, vU, vU] [(.int (((p403 >>> (w405 &&& 31)) + (0 : Int32)) + (Int32.ofNat (SBG.digitsL (q382).toInt.natAbs))))]) _
   refine XS.istore X406.here hx rfl (hb hby d38_27) rfl (l' := #[vR a380, vR a381, vJ q382, vS, vI p383, vI (((p403 >>> (w405 &&& 31)) + (0 : Int32)) + (Int32.ofNat (SBG.digitsL (q382).toInt.natAbs))), vU]) rfl ?_
   show SG p e below T406 (mkF m 29 (la12 a380 a381 q382 p383 p403 w405) []) _
   refine XS.aloadN X406.here hx rfl (hb hby d38_29) rfl rfl ?_
   show SG p e below T406 (mkF m 30 (la12 a380 a381 q382 p383 p403 w405) [(.ref a380)]) _
   refine st422.trans ?_
   show SG p e below T422 (mkF m 33 (la12 a380 a381 q382 p383 p403 w405) [(.int (p427 >>> (w430 &&& 31)))]) _
   refine XS.iload X422.here hx rfl (hb hby d38_33) rfl ?_
   show SG p e below T422 (mkF m 35 (la12 a380 a381 q382 p383 p403 w405) [(.int (((p403 >>> (w405 &&& 31)) + (0 : Int32)) + (Int32.ofNat (SBG.digitsL (q382).toInt.natAbs)))), (.int (p427 >>> (w430 &&& 31)))]) _
   refine XS.icmpYes X422.here hx rfl (pc0 := 35) (pc' := 40) rfl (hb hby d38_35) rfl (teq H13).1 (by decide) (by decide) ?_
   show SG p e below T422 (mkF m 40 (la12 a380 a381 q382 p383 p403 w405) []) _
   refine XS.iload X422.here hx rfl (hb hby d38_40) rfl ?_
   show SG p e below T422 (mkF m 42 (la12 a380 a381 q382 p383 p403 w405) [(.int p383)]) _
   refine X422.ldcInt hx hown (mvT hZ (tw hw 260 rfl)) (g := (mkF m 42 (la12 a380 a381 q382 p383 p403 w405) [(.int p383)])) rfl (hb hby d38_42) _ ?_
   show SG p e below T422 (mkF m 44 (la12 a380 a381 q382 p383 p403 w405) [(.int (2147483647 : Int32)), (.int p383)]) _
   refine XS.iand X422.here hx rfl (hb hby d38_44) rfl ?_
   show SG p e below T422 (mkF m 45 (la12 a380 a381 q382 p383 p403 w405) [(.int (p383 &&& (2147483647 : Int32)))]) _
   refine XS.iload X422.here hx rfl (hb hby d38_45) rfl ?_
   show SG p e below T422 (mkF m 47 (la12 a380 a381 q382 p383 p403 w405) [(.int (((p403 >>> (w405 &&& 31)) + (0 : Int32)) + (Int32.ofNat (SBG.digitsL (q382).toInt.natAbs)))), (.int (p383 &&& (2147483647 : Int32)))]) _
   refine iremM X422 hx rfl (hb hby d38_47) rfl H14 ?_
   show SG p e below T422 (mkF m 48 (la12 a380 a381 q382 p383 p403 w405) [(.int ((p383 &&& (2147483647 : Int32)) % (((p403 >>> (w405 &&& 31)) + (0 : Int32)) + (Int32.ofNat (SBG.digitsL (q382).toInt.natAbs)))))]) _
   refine XS.istore X422.here hx rfl (hb hby d38_48) rfl (l' := #[vR a380, vR a381, vJ q382, vS, vI p383, vI (((p403 >>> (w405 &&& 31)) + (0 : Int32)) + (Int32.ofNat (SBG.digitsL (q382).toInt.natAbs))), vI ((p383 &&& (2147483647 : Int32)) % (((p403 >>> (w405 &&& 31)) + (0 : Int32)) + (Int32.ofNat (SBG.digitsL (q382).toInt.natAbs))))]) rfl ?_
   show SG p e below T422 (mkF m 50 (la13 a380 a381 q382 p383 p403 w405) []) _
   refine XS.aloadN X422.here hx rfl (hb hby d38_50) rfl rfl ?_
   show SG p e below T422 (mkF m 51 (la13 a380 a381 q382 p383 p403 w405) [(.ref a380)]) _
   refine XS.iload X422.here hx rfl (hb hby d38_51) rfl ?_
   show SG p e below T422 (mkF m 53 (la13 a380 a381 q382 p383 p403 w405) [(.int ((p383 &&& (2147483647 : Int32)) % (((p403 >>> (w405 &&& 31)) + (0 : Int32)) + (Int32.ofNat (SBG.digitsL (q382).toInt.natAbs))))), (.ref a380)]) _
   refine st433.trans ?_
   show SG p e below T433 (mkF m 56 (la13 a380 a381 q382 p383 p403 w405) [(.int (oc8 (u426 (((p383 &&& (2147483647 : Int32)) % (((p403 >>> (w405 &&& 31)) + (0 : Int32)) + (Int32.ofNat (SBG.digitsL (q382).toInt.natAbs))))).toNatClampNeg)))]) _
   refine XS.aloadN X433.here hx rfl (hb hby d38_56) rfl rfl ?_
   show SG p e below T433 (mkF m 57 (la13 a380 a381 q382 p383 p403 w405) [(.ref a381), (.int (oc8 (u426 (((p383 &&& (2147483647 : Int32)) % (((p403 >>> (w405 &&& 31)) + (0 : Int32)) + (Int32.ofNat (SBG.digitsL (q382).toInt.natAbs))))).toNatClampNeg)))]) _
   refine XS.lloadN X433.here hx rfl (hb hby d38_57) rfl ?_
   show SG p e below T433 (mkF m 58 (la13 a380 a381 q382 p383 p403 w405) [(.long q382), (.ref a381), (.int (oc8 (u426 (((p383 &&& (2147483647 : Int32)) % (((p403 >>> (w405 &&& 31)) + (0 : Int32)) + (Int32.ofNat (SBG.digitsL (q382).toInt.natAbs))))).toNatClampNeg)))]) _
   refine XS.iload X433.here hx rfl (hb hby d38_58) rfl ?_
   show SG p e below T433 (mkF m 60 (la13 a380 a381 q382 p383 p403 w405) [(.int ((p383 &&& (2147483647 : Int32)) % (((p403 >>> (w405 &&& 31)) + (0 : Int32)) + (Int32.ofNat (SBG.digitsL (q382).toInt.natAbs))))), (.long q382), (.ref a381), (.int (oc8 (u426 (((p383 &&& (2147483647 : Int32)) % (((p403 >>> (w405 &&& 31)) + (0 : Int32)) + (Int32.ofNat (SBG.digitsL (q382).toInt.natAbs))))).toNatClampNeg)))]) _
   refine st436 _ ?_
   show SG p e below T436 (mkF m 63 (la13 a380 a381 q382 p383 p403 w405) [(.int (oc8 (otxL u402 (p403).toNatClampNeg q382 (((p383 &&& (2147483647 : Int32)) % (((p403 >>> (w405 &&& 31)) + (0 : Int32)) + (Int32.ofNat (SBG.digitsL (q382).toInt.natAbs))))).toNatClampNeg))), (.int (oc8 (u426 (((p383 &&& (2147483647 : Int32)) % (((p403 >>> (w405 &&& 31)) + (0 : Int32)) + (Int32.ofNat (SBG.digitsL (q382).toInt.natAbs))))).toNatClampNeg)))]) _
   refine XS.icmpNo X436.here hx rfl (hb hby d38_63) rfl (teq H23).2 ?_
   show SG p e below T436 (mkF m 66 (la13 a380 a381 q382 p383 p403 w405) []) _
   refine XS.iconst X436.here hx rfl (hb hby d38_66) ?_
   show SG p e below T436 (mkF m 67 (la13 a380 a381 q382 p383 p403 w405) [(.int (1 : Int32))]) _
   refine XS.goto X436.here hx rfl (pc0 := 67) (pc' := 71) rfl (hb hby d38_67) (by decide) (by decide) ?_
   show SG p e below T436 (mkF m 71 (la13 a380 a381 q382 p383 p403 w405) [(.int (1 : Int32))]) _
   exact retN X436 hx (t := .boolean) Bd.returns (by simp) (hb hby d38_71) hr
 · show Qr38_1 Z a380 a381 q382 p383 w400 k401 u402 p403 w404 w405 w423 k425 u426 p427 w430 x434 h0 n0 _ T436.heap _
   exact ⟨N436, rfl, KC436⟩
theorem d38_16 : decode method_3_code 16 = .ok (.iconst 1, 1) := by decide +kernel
theorem d38_17 : decode method_3_code 17 = .ok (.goto 4, 3) := by decide +kernel
abbrev la14 (a441 : Addr) (a442 : Addr) (q443 : Int64) (p444 : Int32) (p464 : Int32) (w466 : Int32) : Array Slot := #[vR a441, vR a442, vJ q443, vS, vI p444, vI (((p464 >>> (w466 &&& 31)) + (1 : Int32)) + (Int32.ofNat (SBG.digitsL (q443).toInt.natAbs))), vU]
abbrev la15 (a441 : Addr) (a442 : Addr) (q443 : Int64) (p444 : Int32) (p464 : Int32) (w466 : Int32) : Array Slot := #[vR a441, vR a442, vJ q443, vS, vI p444, vI (((p464 >>> (w466 &&& 31)) + (1 : Int32)) + (Int32.ofNat (SBG.digitsL (q443).toInt.natAbs))), vI ((p444 &&& (2147483647 : Int32)) % (((p464 >>> (w466 &&& 31)) + (1 : Int32)) + (Int32.ofNat (SBG.digitsL (q443).toInt.natAbs))))]
def Qr38_2 (Z : State) (a441 : Addr) (a442 : Addr) (q443 : Int64) (p444 : Int32) (w461 : Addr) (k462 : ClassId) (u463 : Nat → Int32) (p464 : Int32) (w465 : Int32) (w466 : Int32) (w484 : Addr) (k486 : ClassId) (u487 : Nat → Int32) (p488 : Int32) (w491 : Int32) (x495 : Value) (h0 : Heap) (n0 : Nat) (v : Option Value) (h : Heap) (L : List Loc) : Prop := Fr n0 L ∧ v = some (.int (1 : Int32)) ∧ KSx h0 h [] []
theorem r38_2 (l : Launch) (Z : State) (a0 : Array Value) (hw : ∀ d ∈ tables_1, d.before a0 Z = true) (a441 : Addr) (a442 : Addr) (q443 : Int64) (p444 : Int32) (w461 : Addr) (k462 : ClassId) (u463 : Nat → Int32) (p464 : Int32) (w465 : Int32) (w466 : Int32) (w484 : Addr) (k486 : ClassId) (u487 : Nat → Int32) (p488 : Int32) (w491 : Int32) (x495 : Value) (h0 : Heap) (n0 : Nat) (Z0 : n0 ≤ h0.size) (H0 : Fld Z h0 a442 "java/lang/String" "value" "[B" (.ref w461)) (H1 : BA Z h0 w461 k462 .byte p464 u463) (H2 : Sta Z h0 "java/lang/String" "COMPACT_STRINGS" "Z" (.int w465)) (H3 : ¬ (w465 = (0 : Int32))) (H4 : Fld Z h0 a442 "java/lang/String" "coder" "B" (.int w466)) (H5 : nar .byte w466 = w466) (H6 : Exa Z h0 a442 "java/lang/String") (H7 : (lcmpW q443 (0 : Int64)) < (0 : Int32)) (H8 : Fld Z h0 a441 "java/lang/String" "value" "[B" (.ref w484)) (H9 : BA Z h0 w484 k486 .byte p488 u487) (H10 : Fld Z h0 a441 "java/lang/String" "coder" "B" (.int w491)) (H11 : nar .byte w491 = w491) (H12 : Exa Z h0 a441 "java/lang/String") (H13 : (p488 >>> (w491 &&& 31)) = (((p464 >>> (w466 &&& 31)) + (1 : Int32)) + (Int32.ofNat (SBG.digitsL (q443).toInt.natAbs)))) (H14 : ¬ ((((p464 >>> (w466 &&& 31)) + (1 : Int32)) + (Int32.ofNat (SBG.digitsL (q443).toInt.natAbs))) = (0 : Int32))) (H15 : w491 = (0 : Int32)) (H16 : Sta Z h0 "jdk/internal/util/Preconditions" "SIOOBE_FORMATTER" "Ljava/util/function/BiFunction;" x495) (H17 : (x495).isRef = true) (H18 : ¬ (((p444 &&& (2147483647 : Int32)) % (((p464 >>> (w466 &&& 31)) + (1 : Int32)) + (Int32.ofNat (SBG.digitsL (q443).toInt.natAbs)))) < (0 : Int32))) (H19 : ((p444 &&& (2147483647 : Int32)) % (((p464 >>> (w466 &&& 31)) + (1 : Int32)) + (Int32.ofNat (SBG.digitsL (q443).toInt.natAbs)))) < p488) (H20 : w466 = (0 : Int32)) (H21 : (p464).toNatClampNeg ≤ 100) (H22 : (((p444 &&& (2147483647 : Int32)) % (((p464 >>> (w466 &&& 31)) + (1 : Int32)) + (Int32.ofNat (SBG.digitsL (q443).toInt.natAbs))))).toNatClampNeg < (p464).toNatClampNeg + oszL q443) (H23 : (oc8 (u487 (((p444 &&& (2147483647 : Int32)) % (((p464 >>> (w466 &&& 31)) + (1 : Int32)) + (Int32.ofNat (SBG.digitsL (q443).toInt.natAbs))))).toNatClampNeg)) = (oc8 (otxL u463 (p464).toNatClampNeg q443 (((p444 &&& (2147483647 : Int32)) % (((p464 >>> (w466 &&& 31)) + (1 : Int32)) + (Int32.ofNat (SBG.digitsL (q443).toInt.natAbs))))).toNatClampNeg))) :
   OMet l Z mN13 method_3_code 7 (some .boolean) [] ({ frames := 5, cells := 37, slots := 703, locals := 74 } : Room) h0 #[(.ref a441), (.ref a442), (.long q443), (.int p444)] (Qr38_2 Z a441 a442 q443 p444 w461 k462 u463 p464 w465 w466 w484 k486 u487 p488 w491 x495 h0 n0) := by
 refine MetFree.of_bodySF (plainFor_of_name pn_com_example_eta4_eta4_bench_FillFiguresLinesPinLaw) hisR ?_
 intro p e s m args below meth c s₁ Bd hml0 hP hK
 obtain ⟨rfl, hZ, hh⟩ := hP
 have hx := Bd.exec
 have hby := Bd.bytes
 have hml : c.maxLocals = 7 := hml0
 have hown : s.vm.findClass "com/example/eta4/eta4/bench/FillFiguresLinesPinLaw" = some m.cls := findClass_of_methodNamed Bd.named
 have hnm := (name_of_methodNamed Bd.named Bd.method).1
 have X0 : Stand p l e ({ frames := 5, cells := 37, slots := 703, locals := 74 } : Room) s m #[(.ref a441), (.ref a442), (.long q443), (.int p444)] below meth c s₁ [] 0 0 := Stand.of_body Bd
 have e0 : s₁.heap = h0 := by rw [← hh, Bd.state]; rfl
 have N0 := Fr.nil n0
 have pre0 : ∀ t, Steps p.tables e below (s₁.setTop (mkF m 0 #[vR a441, vR a442, vJ q443, vS, vI p444, .unset, .unset] [])) t → Steps p.tables e below (s₁.setTop (entryFrame m #[(.ref a441), (.ref a442), (.long q443), (.int p444)] 7)) t := fun t k => castTop (ef_38_vvvv m a441 a442 q443 p444) k
 obtain ⟨cq460, kq460, q460a, q460b, q460c⟩ := isOf hZ e0 H6
 obtain ⟨_, _, ⟨T460, L460, k460, n460⟩, -, X460, ⟨Lc460, hQ460, l460, y460, z460⟩, st460⟩ := X0.virtualBack hx (y := mN11) (z := mN11) hown (mvT hZ (tw hw 231 rfl)) (mvT hZ (tw hw 60 rfl)) (notFace_of_selects (args := #[]) (mvT hZ (tw hw 62 rfl))) (mvT hZ (tw hw 62 rfl)) (mvT hZ (tw hw 61 rfl)) (by decide) (backOf (W := 0) (r9_1 l Z a0 hw a442 w461 k462 u463 p464 w465 w466 h0 n0 Z0 H0 H1 H2 H3 H4 H5 H6) hZ (tw hw 63 rfl) (tw hw 37 rfl) (by decide) (by decide)) q460a q460c (g := (mkF m 7 #[vR a441, vR a442, vJ q443, vS, vI p444, vU, vU] [(.ref a442)])) rfl (by rw [hml]; rfl) (Steps.refl _) (argsL := []) (rest := []) (lenOf pd_7 rfl) rfl (own_w _) (hb hby d38_7) (fun _ _ => ⟨rfl, e0, (by decide : 0 + 0 ≤ _), (by decide : 0 + 0 ≤ _)⟩)
 dsimp only [Pt.U, Pt.locs, Pt.cells, Pt.slots] at X460 l460 y460 z460 st460 hQ460
 replace X460 := own_mvX X460 (a := 0) (b := 0) y460 z460
 obtain ⟨rfl, N460q, e460⟩ := hQ460
 have N460 := own_mvN l460 N0 N460q
 obtain ⟨_, _, ⟨T467, L467, k467, n467⟩, -, X467, ⟨Lc467, hQ467, l467, y467, z467⟩, st467⟩ := Jvm.LawKit.callS X460 hx (y := mN9) hown (mvT hZ (tw hw 232 rfl)) (mvT hZ (tw hw 233 rfl)) (mvT hZ (tw hw 229 rfl)) (mvT hZ (tw hw 234 rfl)) (by decide) (backOf (W := 1) (own_dgL l Z a0 hw q443 h0 n0 Z0) hZ (tw hw 234 rfl) (tw hw 229 rfl) (by decide) (by decide)) (g := (mkF m 23 #[vR a441, vR a442, vJ q443, vS, vI p444, vU, vU] [(.long q443), (.int ((p464 >>> (w466 &&& 31)) + (1 : Int32)))])) rfl (by rw [hml]; rfl) (argsL := [(.long q443)]) (rest := [(.int ((p464 >>> (w466 &&& 31)) + (1 : Int32)))]) (lenOf pd_9 rfl) rfl (own_w _) (hb hby d38_23) (fun _ _ => ⟨rfl, e460, (by decide : 0 + 18 ≤ _), (by decide : 0 + 342 ≤ _)⟩)
 dsimp only [Pt.U, Pt.locs, Pt.cells, Pt.slots] at X467 l467 y467 z467 st467 hQ467
 replace X467 := own_mvX X467 (a := 18) (b := 342) y467 z467
 obtain ⟨N467q, rfl, K467⟩ := hQ467
 have N467 := own_mvN l467 N460 N467q
 have KC467 := KSx.trans (KSx.refl h0 [] []) K467 ks0 all0
 have f485 := (H8.ks K467 ks0 all0)
 have f489 := (H9.ks K467 ks0 all0)
 have f490 := (H2.ks K467)
 have f492 := (H10.ks K467 ks0 all0)
 have f493 := (H12.ks K467)
 have Z467 : n0 ≤ T467.heap.size := Nat.le_trans Z0 K467.1
 obtain ⟨cq483, kq483, q483a, q483b, q483c⟩ := isOf hZ rfl f493
 obtain ⟨_, _, ⟨T483, L483, k483, n483⟩, -, X483, ⟨Lc483, hQ483, l483, y483, z483⟩, st483⟩ := X467.virtualBack hx (y := mN11) (z := mN11) hown (mvT hZ (tw hw 231 rfl)) (mvT hZ (tw hw 60 rfl)) (notFace_of_selects (args := #[]) (mvT hZ (tw hw 62 rfl))) (mvT hZ (tw hw 62 rfl)) (mvT hZ (tw hw 61 rfl)) (by decide) (backOf (W := 0) (r9_1 l Z a0 hw a441 w484 k486 u487 p488 w465 w491 T467.heap n0 Z467 f485 f489 f490 H3 f492 H11 f493) hZ (tw hw 63 rfl) (tw hw 37 rfl) (by decide) (by decide)) q483a q483c (g := (mkF m 30 (la14 a441 a442 q443 p444 p464 w466) [(.ref a441)])) rfl (by rw [hml]; rfl) (Steps.refl _) (argsL := []) (rest := []) (lenOf pd_7 rfl) rfl (own_w _) (hb hby d38_30) (fun _ _ => ⟨rfl, rfl, (by decide : 18 + 0 ≤ _), (by decide : 342 + 0 ≤ _)⟩)
 dsimp only [Pt.U, Pt.locs, Pt.cells, Pt.slots] at X483 l483 y483 z483 st483 hQ483
 replace X483 := own_mvX X483 (a := 18) (b := 342) y483 z483
 obtain ⟨rfl, N483q, e483⟩ := hQ483
 have N483 := own_mvN l483 N467 N483q
 have f496 := (H16.ks K467)
 obtain ⟨cq494, kq494, q494a, q494b, q494c⟩ := isOf hZ e483 f493
 obtain ⟨_, _, ⟨T494, L494, k494, n494⟩, -, X494, ⟨Lc494, hQ494, l494, y494, z494⟩, st494⟩ := X483.virtualBack hx (y := mN5) (z := mN5) hown (mvT hZ (tw hw 261 rfl)) (mvT hZ (tw hw 262 rfl)) (notFace_of_selects (args := #[]) (mvT hZ (tw hw 264 rfl))) (mvT hZ (tw hw 264 rfl)) (mvT hZ (tw hw 263 rfl)) (by decide) (backOf (W := 0) (own_ch l Z a0 hw a441 w465 w491 w484 k486 p488 u487 x495 ((p444 &&& (2147483647 : Int32)) % (((p464 >>> (w466 &&& 31)) + (1 : Int32)) + (Int32.ofNat (SBG.digitsL (q443).toInt.natAbs)))) T467.heap n0 Z467 f490 H3 f492 H15 f493 f485 f489 f496 H17 H18 H19) hZ (tw hw 265 rfl) (tw hw 37 rfl) (by decide) (by decide)) q494a q494c (g := (mkF m 53 (la15 a441 a442 q443 p444 p464 w466) [(.int ((p444 &&& (2147483647 : Int32)) % (((p464 >>> (w466 &&& 31)) + (1 : Int32)) + (Int32.ofNat (SBG.digitsL (q443).toInt.natAbs))))), (.ref a441)])) rfl (by rw [hml]; rfl) (Steps.refl _) (argsL := [(.int ((p444 &&& (2147483647 : Int32)) % (((p464 >>> (w466 &&& 31)) + (1 : Int32)) + (Int32.ofNat (SBG.digitsL (q443).toInt.natAbs)))))]) (rest := []) (lenOf pd_8 rfl) rfl (own_w _) (hb hby d38_53) (fun _ _ => ⟨rfl, e483, (by decide : 18 + 0 ≤ _), (by decide : 342 + 0 ≤ _)⟩)
 dsimp only [Pt.U, Pt.locs, Pt.cells, Pt.slots] at X494 l494 y494 z494 st494 hQ494
 replace X494 := own_mvX X494 (a := 18) (b := 342) y494 z494
 obtain ⟨rfl, N494q, e494⟩ := hQ494
 have N494 := own_mvN l494 N483 N494q
 have f498 := (H4.ks K467 ks0 all0)
 have f499 := (H6.ks K467)
 have f500 := (H0.ks K467 ks0 all0)
 have f501 := (H1.ks K467 ks0 all0)
 obtain ⟨_, _, ⟨T497, L497, k497, n497⟩, -, X497, ⟨Lc497, hQ497, l497, y497, z497⟩, st497⟩ := Jvm.LawKit.callS X494 hx (y := mN12) hown (mvT hZ (tw hw 283 rfl)) (mvT hZ (tw hw 284 rfl)) (mvT hZ (tw hw 229 rfl)) (mvT hZ (tw hw 285 rfl)) (by decide) (backOf (W := 1) (own_exp l Z a0 hw a442 w465 w466 w461 k462 p464 u463 x495 q443 ((p444 &&& (2147483647 : Int32)) % (((p464 >>> (w466 &&& 31)) + (1 : Int32)) + (Int32.ofNat (SBG.digitsL (q443).toInt.natAbs)))) T467.heap n0 Z467 f490 H3 f498 H20 f499 f500 f501 f496 H17 H18 H21 H22) hZ (tw hw 285 rfl) (tw hw 229 rfl) (by decide) (by decide)) (g := (mkF m 60 (la15 a441 a442 q443 p444 p464 w466) [(.int ((p444 &&& (2147483647 : Int32)) % (((p464 >>> (w466 &&& 31)) + (1 : Int32)) + (Int32.ofNat (SBG.digitsL (q443).toInt.natAbs))))), (.long q443), (.ref a442), (.int (oc8 (u487 (((p444 &&& (2147483647 : Int32)) % (((p464 >>> (w466 &&& 31)) + (1 : Int32)) + (Int32.ofNat (SBG.digitsL (q443).toInt.natAbs))))).toNatClampNeg)))])) rfl (by rw [hml]; rfl) (argsL := [(.ref a442), (.long q443), (.int ((p444 &&& (2147483647 : Int32)) % (((p464 >>> (w466 &&& 31)) + (1 : Int32)) + (Int32.ofNat (SBG.digitsL (q443).toInt.natAbs)))))]) (rest := [(.int (oc8 (u487 (((p444 &&& (2147483647 : Int32)) % (((p464 >>> (w466 &&& 31)) + (1 : Int32)) + (Int32.ofNat (SBG.digitsL (q443).toInt.natAbs))))).toNatClampNeg)))]) (lenOf pd_11 rfl) rfl (own_w _) (hb hby d38_60) (fun _ _ => ⟨rfl, e494, (by decide : 18 + 19 ≤ _), (by decide : 342 + 361 ≤ _)⟩)
 dsimp only [Pt.U, Pt.locs, Pt.cells, Pt.slots] at X497 l497 y497 z497 st497 hQ497
 replace X497 := own_mvX X497 (a := 37) (b := 703) y497 z497
 obtain ⟨N497q, rfl, K497⟩ := hQ497
 have N497 := own_mvN l497 N494 N497q
 have KC497 := KSx.trans KC467 K497 ks0 all0
 obtain ⟨fs, hr, hrun, hended, hW, hsame⟩ := X497.leave (v := some (.int (1 : Int32))) (fun h => by rw [Bd.returns] at h; cases h)
 refine ⟨_, _, pre0 _ ?_, hrun, hended, _, _, rfl, ?_, ⟨_, rfl⟩, hW, hsame.mono (by decide) (by decide)⟩
 · show SG p e below s₁ (mkF m 0 #[vR a441, vR a442, vJ q443, vS, vI p444, vU, vU] []) _
   refine XS.aloadN X0.here hx rfl (hb hby d38_0) rfl rfl ?_
   show SG p e below s₁ (mkF m 1 #[vR a441, vR a442, vJ q443, vS, vI p444, vU, vU] [(.ref a441)]) _
   refine XS.ifnonnullYes X0.here hx rfl (pc0 := 1) (pc' := 6) rfl (hb hby d38_1) rfl (by decide) (by decide) ?_
   show SG p e below s₁ (mkF m 6 #[vR a441, vR a442, vJ q443, vS, vI p444, vU, vU] []) _
   refine XS.aloadN X0.here hx rfl (hb hby d38_6) rfl rfl ?_
   show SG p e below s₁ (mkF m 7 #[vR a441, vR a442, vJ q443, vS, vI p444, vU, vU] [(.ref a442)]) _
   refine st460.trans ?_
   show SG p e below T460 (mkF m 10 #[vR a441, vR a442, vJ q443, vS, vI p444, vU, vU] [(.int (p464 >>> (w466 &&& 31)))]) _
   refine XS.lloadN X460.here hx rfl (hb hby d38_10) rfl ?_
   show SG p e below T460 (mkF m 11 #[vR a441, vR a442, vJ q443, vS, vI p444, vU, vU] [(.long q443), (.int (p464 >>> (w466 &&& 31)))]) _
   refine XS.lconst X460.here hx rfl (hb hby d38_11) ?_
   show SG p e below T460 (mkF m 12 #[vR a441, vR a442, vJ q443, vS, vI p444, vU, vU] [(.long (0 : Int64)), (.long q443), (.int (p464 >>> (w466 &&& 31)))]) _
   refine XS.lcmp X460.here hx rfl (hb hby d38_12) rfl ?_
   show SG p e below T460 (mkF m 13 #[vR a441, vR a442, vJ q443, vS, vI p444, vU, vU] [(.int (lcmpW q443 (0 : Int64))), (.int (p464 >>> (w466 &&& 31)))]) _
   refine XS.ifNo X460.here hx rfl (hb hby d38_13) rfl ((if0 _ _).trans (tlt H7).2.1) ?_
   show SG p e below T460 (mkF m 16 #[vR a441, vR a442, vJ q443, vS, vI p444, vU, vU] [(.int (p464 >>> (w466 &&& 31)))]) _
   refine XS.iconst X460.here hx rfl (hb hby d38_16) ?_
   show SG p e below T460 (mkF m 17 #[vR a441, vR a442, vJ q443, vS, vI p444, vU, vU] [(.int (1 : Int32)), (.int (p464 >>> (w466 &&& 31)))]) _
   refine XS.goto X460.here hx rfl (pc0 := 17) (pc' := 21) rfl (hb hby d38_17) (by decide) (by decide) ?_
   show SG p e below T460 (mkF m 21 #[vR a441, vR a442, vJ q443, vS, vI p444, vU, vU] [(.int (1 : Int32)), (.int (p464 >>> (w466 &&& 31)))]) _
   refine XS.iadd X460.here hx rfl (hb hby d38_21) rfl ?_
   show SG p e below T460 (mkF m 22 #[vR a441, vR a442, vJ q443, vS, vI p444, vU, vU] [(.int ((p464 >>> (w466 &&& 31)) + (1 : Int32)))]) _
   refine XS.lloadN X460.here hx rfl (hb hby d38_22) rfl ?_
   show SG p e below T460 (mkF m 23 #[vR a441, vR a442, vJ q443, vS, vI p444, vU, vU] [(.long q443), (.int ((p464 >>> (w466 &&& 31)) + (1 : Int32)))]) _
   refine st467 _ ?_
   show SG p e below T467 (mkF m 26 #[vR a441, vR a442, vJ q443, vS, vI p444, vU, vU] [(.int (Int32.ofNat (SBG.digitsL (q443).toInt.natAbs))), (.int ((p464 >>> (w466 &&& 31)) + (1 : Int32)))]) _
   refine XS.iadd X467.here hx rfl (hb hby d38_26) rfl ?_
   show SG p e below T467 (mkF m 27 #[vR a441, vR a442, vJ q443, vS, vI p444, vU, vU] [(.int (((p464 >>> (w466 &&& 31)) + (1 : Int32)) + (Int32.ofNat (SBG.digitsL (q443).toInt.natAbs))))]) _
   refine XS.istore X467.here hx rfl (hb hby d38_27) rfl (l' := #[vR a441, vR a442, vJ q443, vS, vI p444, vI (((p464 >>> (w466 &&& 31)) + (1 : Int32)) + (Int32.ofNat (SBG.digitsL (q443).toInt.natAbs))), vU]) rfl ?_
   show SG p e below T467 (mkF m 29 (la14 a441 a442 q443 p444 p464 w466) []) _
   refine XS.aloadN X467.here hx rfl (hb hby d38_29) rfl rfl ?_
   show SG p e below T467 (mkF m 30 (la14 a441 a442 q443 p444 p464 w466) [(.ref a441)]) _
   refine st483.trans ?_
   show SG p e below T483 (mkF m 33 (la14 a441 a442 q443 p444 p464 w466) [(.int (p488 >>> (w491 &&& 31)))]) _
   refine XS.iload X483.here hx rfl (hb hby d38_33) rfl ?_
   show SG p e below T483 (mkF m 35 (la14 a441 a442 q443 p444 p464 w466) [(.int (((p464 >>> (w466 &&& 31)) + (1 : Int32)) + (Int32.ofNat (SBG.digitsL (q443).toInt.natAbs)))), (.int (p488 >>> (w491 &&& 31)))]) _
   refine XS.icmpYes X483.here hx rfl (pc0 := 35) (pc' := 40) rfl (hb hby d38_35) rfl (teq H13).1 (by decide) (by decide) ?_
   show SG p e below T483 (mkF m 40 (la14 a441 a442 q443 p444 p464 w466) []) _
   refine XS.iload X483.here hx rfl (hb hby d38_40) rfl ?_
   show SG p e below T483 (mkF m 42 (la14 a441 a442 q443 p444 p464 w466) [(.int p444)]) _
   refine X483.ldcInt hx hown (mvT hZ (tw hw 260 rfl)) (g := (mkF m 42 (la14 a441 a442 q443 p444 p464 w466) [(.int p444)])) rfl (hb hby d38_42) _ ?_
   show SG p e below T483 (mkF m 44 (la14 a441 a442 q443 p444 p464 w466) [(.int (2147483647 : Int32)), (.int p444)]) _
   refine XS.iand X483.here hx rfl (hb hby d38_44) rfl ?_
   show SG p e below T483 (mkF m 45 (la14 a441 a442 q443 p444 p464 w466) [(.int (p444 &&& (2147483647 : Int32)))]) _
   refine XS.iload X483.here hx rfl (hb hby d38_45) rfl ?_
   show SG p e below T483 (mkF m 47 (la14 a441 a442 q443 p444 p464 w466) [(.int (((p464 >>> (w466 &&& 31)) + (1 : Int32)) + (Int32.ofNat (SBG.digitsL (q443).toInt.natAbs)))), (.int (p444 &&& (2147483647 : Int32)))]) _
   refine iremM X483 hx rfl (hb hby d38_47) rfl H14 ?_
   show SG p e below T483 (mkF m 48 (la14 a441 a442 q443 p444 p464 w466) [(.int ((p444 &&& (2147483647 : Int32)) % (((p464 >>> (w466 &&& 31)) + (1 : Int32)) + (Int32.ofNat (SBG.digitsL (q443).toInt.natAbs)))))]) _
   refine XS.istore X483.here hx rfl (hb hby d38_48) rfl (l' := #[vR a441, vR a442, vJ q443, vS, vI p444, vI (((p464 >>> (w466 &&& 31)) + (1 : Int32)) + (Int32.ofNat (SBG.digitsL (q443).toInt.natAbs))), vI ((p444 &&& (2147483647 : Int32)) % (((p464 >>> (w466 &&& 31)) + (1 : Int32)) + (Int32.ofNat (SBG.digitsL (q443).toInt.natAbs))))]) rfl ?_
   show SG p e below T483 (mkF m 50 (la15 a441 a442 q443 p444 p464 w466) []) _
   refine XS.aloadN X483.here hx rfl (hb hby d38_50) rfl rfl ?_
   show SG p e below T483 (mkF m 51 (la15 a441 a442 q443 p444 p464 w466) [(.ref a441)]) _
   refine XS.iload X483.here hx rfl (hb hby d38_51) rfl ?_
   show SG p e below T483 (mkF m 53 (la15 a441 a442 q443 p444 p464 w466) [(.int ((p444 &&& (2147483647 : Int32)) % (((p464 >>> (w466 &&& 31)) + (1 : Int32)) + (Int32.ofNat (SBG.digitsL (q443).toInt.natAbs))))), (.ref a441)]) _
   refine st494.trans ?_
   show SG p e below T494 (mkF m 56 (la15 a441 a442 q443 p444 p464 w466) [(.int (oc8 (u487 (((p444 &&& (2147483647 : Int32)) % (((p464 >>> (w466 &&& 31)) + (1 : Int32)) + (Int32.ofNat (SBG.digitsL (q443).toInt.natAbs))))).toNatClampNeg)))]) _
   refine XS.aloadN X494.here hx rfl (hb hby d38_56) rfl rfl ?_
   show SG p e below T494 (mkF m 57 (la15 a441 a442 q443 p444 p464 w466) [(.ref a442), (.int (oc8 (u487 (((p444 &&& (2147483647 : Int32)) % (((p464 >>> (w466 &&& 31)) + (1 : Int32)) + (Int32.ofNat (SBG.digitsL (q443).toInt.natAbs))))).toNatClampNeg)))]) _
   refine XS.lloadN X494.here hx rfl (hb hby d38_57) rfl ?_
   show SG p e below T494 (mkF m 58 (la15 a441 a442 q443 p444 p464 w466) [(.long q443), (.ref a442), (.int (oc8 (u487 (((p444 &&& (2147483647 : Int32)) % (((p464 >>> (w466 &&& 31)) + (1 : Int32)) + (Int32.ofNat (SBG.digitsL (q443).toInt.natAbs))))).toNatClampNeg)))]) _
   refine XS.iload X494.here hx rfl (hb hby d38_58) rfl ?_
   show SG p e below T494 (mkF m 60 (la15 a441 a442 q443 p444 p464 w466) [(.int ((p444 &&& (2147483647 : Int32)) % (((p464 >>> (w466 &&& 31)) + (1 : Int32)) + (Int32.ofNat (SBG.digitsL (q443).toInt.natAbs))))), (.long q443), (.ref a442), (.int (oc8 (u487 (((p444 &&& (2147483647 : Int32)) % (((p464 >>> (w466 &&& 31)) + (1 : Int32)) + (Int32.ofNat (SBG.digitsL (q443).toInt.natAbs))))).toNatClampNeg)))]) _
   refine st497 _ ?_
   show SG p e below T497 (mkF m 63 (la15 a441 a442 q443 p444 p464 w466) [(.int (oc8 (otxL u463 (p464).toNatClampNeg q443 (((p444 &&& (2147483647 : Int32)) % (((p464 >>> (w466 &&& 31)) + (1 : Int32)) + (Int32.ofNat (SBG.digitsL (q443).toInt.natAbs))))).toNatClampNeg))), (.int (oc8 (u487 (((p444 &&& (2147483647 : Int32)) % (((p464 >>> (w466 &&& 31)) + (1 : Int32)) + (Int32.ofNat (SBG.digitsL (q443).toInt.natAbs))))).toNatClampNeg)))]) _
   refine XS.icmpNo X497.here hx rfl (hb hby d38_63) rfl (teq H23).2 ?_
   show SG p e below T497 (mkF m 66 (la15 a441 a442 q443 p444 p464 w466) []) _
   refine XS.iconst X497.here hx rfl (hb hby d38_66) ?_
   show SG p e below T497 (mkF m 67 (la15 a441 a442 q443 p444 p464 w466) [(.int (1 : Int32))]) _
   refine XS.goto X497.here hx rfl (pc0 := 67) (pc' := 71) rfl (hb hby d38_67) (by decide) (by decide) ?_
   show SG p e below T497 (mkF m 71 (la15 a441 a442 q443 p444 p464 w466) [(.int (1 : Int32))]) _
   exact retN X497 hx (t := .boolean) Bd.returns (by simp) (hb hby d38_71) hr
 · show Qr38_2 Z a441 a442 q443 p444 w461 k462 u463 p464 w465 w466 w484 k486 u487 p488 w491 x495 h0 n0 _ T497.heap _
   exact ⟨N497, rfl, KC497⟩
theorem own_lok0 (l : Launch) (Z : State) (a0 : Array Value) (hw : ∀ d ∈ tables_1, d.before a0 Z = true) (a : Addr) (wS wc : Int32) (b : Addr) (k : ClassId) (z : Int32) (f : Nat → Int32) (o : Value) (a2 : Addr) (wc2 : Int32) (b2 : Addr) (k2 : ClassId) (z2 : Int32) (f2 : Nat → Int32) (v : Int64) (pk : Int32) (n2 : Nat) (h0 : Heap) (n0 : Nat) (Z0 : n0 ≤ h0.size) (H1 : Sta Z h0 "java/lang/String" "COMPACT_STRINGS" "Z" (.int wS)) (H2 : ¬ (wS = (0 : Int32))) (H3 : Fld Z h0 a "java/lang/String" "coder" "B" (.int wc)) (H4 : wc = (0 : Int32)) (H5 : Exa Z h0 a "java/lang/String") (H6 : Fld Z h0 a "java/lang/String" "value" "[B" (.ref b)) (H7 : BA Z h0 b k .byte z f) (H8 : Sta Z h0 "jdk/internal/util/Preconditions" "SIOOBE_FORMATTER" "Ljava/util/function/BiFunction;" o) (H9 : o.isRef = true) (G3 : Fld Z h0 a2 "java/lang/String" "coder" "B" (.int wc2)) (G4 : wc2 = (0 : Int32)) (G5 : Exa Z h0 a2 "java/lang/String") (G6 : Fld Z h0 a2 "java/lang/String" "value" "[B" (.ref b2)) (G7 : BA Z h0 b2 k2 .byte z2 f2) (hz2 : z2 = Int32.ofNat n2) (hn : n2 ≤ 100) (hz : z = Int32.ofNat (n2 + oszL v)) (hf : ∀ i, i < n2 + oszL v → f i = otxL f2 n2 v i) :
   OMet l Z mN13 method_3_code 7 (some .boolean) [] ({ frames := 5, cells := 37, slots := 703, locals := 74 } : Room) h0 #[(.ref a), (.ref a2), (.long v), (.int pk)] (OQk (some (.int (1 : Int32))) h0 n0) := by
 subst H4 G4 hz2 hz
 have hd := own_dle v
 have hos : oszL v = SBG.digitsL (v).toInt.natAbs + osgL v := rfl
 have hsg : osgL v = if v < 0 then 1 else 0 := rfl
 have hsz := oszL_le v
 have ix := own_ix pk (T := n2 + oszL v) (by omega) (by omega)
 by_cases hv : v < 0
 rotate_left
 · rw [if_neg hv] at hsg
   have eL := own_ln (n := n2) (s := 0) (D := SBG.digitsL (v).toInt.natAbs) (T := n2 + oszL v) (by omega)
   change (_ + (0 : Int32)) + _ = _ at eL
   refine own_imp (r38_1 l Z a0 hw a a2 v pk b2 k2 f2 (Int32.ofNat n2) wS (0 : Int32) b k f (Int32.ofNat (n2 + oszL v)) (0 : Int32) o h0 n0 Z0 G6 G7 H1 H2 G3 (by decide) G5 (fun k => hv ((lw_lt v 0).mp k)) H6 H7 H3 (by decide) H5 (by rw [own_ishr0]; exact eL.symm) (by rw [eL]; exact own_ne0 (by omega) (by omega)) (by decide) H8 H9 (by rw [eL]; exact ix.1) (by rw [eL]; exact ix.2.1) (by decide) (by rw [own_cl (by omega)]; exact hn) (by rw [eL, own_cl (by omega)]; exact ix.2.2) (by rw [eL, own_cl (a := n2) (by omega), hf _ ix.2.2])) fun v h L q => ?_
   obtain ⟨N, e, K⟩ := q
   exact ⟨N, e, K⟩
 · skip
   rw [if_pos hv] at hsg
   have eL := own_ln (n := n2) (s := 1) (D := SBG.digitsL (v).toInt.natAbs) (T := n2 + oszL v) (by omega)
   change (_ + (1 : Int32)) + _ = _ at eL
   refine own_imp (r38_2 l Z a0 hw a a2 v pk b2 k2 f2 (Int32.ofNat n2) wS (0 : Int32) b k f (Int32.ofNat (n2 + oszL v)) (0 : Int32) o h0 n0 Z0 G6 G7 H1 H2 G3 (by decide) G5 ((lw_lt v 0).mpr hv) H6 H7 H3 (by decide) H5 (by rw [own_ishr0]; exact eL.symm) (by rw [eL]; exact own_ne0 (by omega) (by omega)) (by decide) H8 H9 (by rw [eL]; exact ix.1) (by rw [eL]; exact ix.2.1) (by decide) (by rw [own_cl (by omega)]; exact hn) (by rw [eL, own_cl (by omega)]; exact ix.2.2) (by rw [eL, own_cl (a := n2) (by omega), hf _ ix.2.2])) fun v h L q => ?_
   obtain ⟨N, e, K⟩ := q
   exact ⟨N, e, K⟩
theorem own_lok (l : Launch) (Z : State) (a0 : Array Value) (hw : ∀ d ∈ tables_1, d.before a0 Z = true) (a : Addr) (wS wc : Int32) (b : Addr) (k : ClassId) (z : Int32) (f : Nat → Int32) (o : Value) (a2 : Addr) (wc2 : Int32) (b2 : Addr) (k2 : ClassId) (z2 : Int32) (f2 : Nat → Int32) (v : Int64) (pk : Int32) (h0 : Heap) (n0 : Nat) (Z0 : n0 ≤ h0.size) (H1 : Sta Z h0 "java/lang/String" "COMPACT_STRINGS" "Z" (.int wS)) (H2 : ¬ (wS = (0 : Int32))) (H3 : Fld Z h0 a "java/lang/String" "coder" "B" (.int wc)) (H4 : wc = (0 : Int32)) (H5 : Exa Z h0 a "java/lang/String") (H6 : Fld Z h0 a "java/lang/String" "value" "[B" (.ref b)) (H7 : BA Z h0 b k .byte z f) (H8 : Sta Z h0 "jdk/internal/util/Preconditions" "SIOOBE_FORMATTER" "Ljava/util/function/BiFunction;" o) (H9 : o.isRef = true) (G3 : Fld Z h0 a2 "java/lang/String" "coder" "B" (.int wc2)) (G4 : wc2 = (0 : Int32)) (G5 : Exa Z h0 a2 "java/lang/String") (G6 : Fld Z h0 a2 "java/lang/String" "value" "[B" (.ref b2)) (G7 : BA Z h0 b2 k2 .byte z2 f2) (H10 : (z2).toNatClampNeg ≤ 100) (H11 : z = Int32.ofNat ((z2).toNatClampNeg + oszL v)) (H12 : ∀ i, i < (z2).toNatClampNeg + oszL v → (f) i = otxL f2 (z2).toNatClampNeg v i) :
   OMet l Z mN13 method_3_code 7 (some .boolean) [] ({ frames := 5, cells := 37, slots := 703, locals := 74 } : Room) h0 #[(.ref a), (.ref a2), (.long v), (.int pk)] (OQk (some (.int (1 : Int32))) h0 n0) := own_lok0 l Z a0 hw a wS wc b k z f o a2 wc2 b2 k2 z2 f2 v pk z2.toNatClampNeg h0 n0 Z0 H1 H2 H3 H4 H5 H6 H7 H8 H9 G3 G4 G5 G6 G7 (own_ofNat (by obtain ⟨c, _, _, _, h, _⟩ := G7; exact h)) H10 H11 H12
theorem d20_0 : decode jdk_67_method_42_code 0 = .ok (.new 18, 3) := by decide +kernel
theorem d20_3 : decode jdk_67_method_42_code 3 = .ok (.dup, 1) := by decide +kernel
theorem d20_4 : decode jdk_67_method_42_code 4 = .ok (.aload_n 0, 1) := by decide +kernel
theorem d20_5 : decode jdk_67_method_42_code 5 = .ok (.invokespecial 137, 3) := by decide +kernel
theorem d21_0 : decode jdk_42_method_53_code 0 = .ok (.aload_n 0, 1) := by decide +kernel
theorem d21_1 : decode jdk_42_method_53_code 1 = .ok (.aload_n 1, 1) := by decide +kernel
theorem d21_2 : decode jdk_42_method_53_code 2 = .ok (.aconst_null, 1) := by decide +kernel
theorem d21_3 : decode jdk_42_method_53_code 3 = .ok (.invokespecial 489, 3) := by decide +kernel
theorem d22_0 : decode jdk_42_method_150_code 0 = .ok (.aload_n 0, 1) := by decide +kernel
theorem d22_1 : decode jdk_42_method_150_code 1 = .ok (.invokespecial 1, 3) := by decide +kernel
theorem d22_4 : decode jdk_42_method_150_code 4 = .ok (.aload_n 1, 1) := by decide +kernel
theorem d22_5 : decode jdk_42_method_150_code 5 = .ok (.invokevirtual 552, 3) := by decide +kernel
theorem d23_0 : decode jdk_68_method_64_code 0 = .ok (.aload_n 0, 1) := by decide +kernel
theorem d23_1 : decode jdk_68_method_64_code 1 = .ok (.getfield 15, 3) := by decide +kernel
theorem d23_4 : decode jdk_68_method_64_code 4 = .ok (.areturn, 1) := by decide +kernel
theorem pn_java_lang_AbstractStringBuilder : plainName "java/lang/AbstractStringBuilder" = true := by first | (simp [plainName, overriddenIn]; done) | decide +kernel
theorem ef_23_v (m : MethodId) (x0 : Addr) : entryFrame m #[(.ref x0)] 1 = mkF m 0 #[.val (.ref x0)] [] := by first | (simp [entryFrame, mkF, argsToLocals, Value.category]; done) | rfl
theorem r23_1 (l : Launch) (Z : State) (a0 : Array Value) (hw : ∀ d ∈ tables_1, d.before a0 Z = true) (a509 : Addr) (w510 : Addr) (h0 : Heap) (n0 : Nat) (Z0 : n0 ≤ h0.size) (H0 : Fld Z h0 a509 "java/lang/AbstractStringBuilder" "value" "[B" (.ref w510)) :
   OMet l Z mN14 jdk_68_method_64_code 1 (some (.array .byte)) [] ({ frames := 0, cells := 0, slots := 0, locals := 0 } : Room) h0 #[(.ref a509)] (OQp (some (.ref w510)) h0 n0) := by
 refine MetFree.of_bodySF (plainFor_of_name pn_java_lang_AbstractStringBuilder) hisR ?_
 intro p e s m args below meth c s₁ Bd hml0 hP hK
 obtain ⟨rfl, hZ, hh⟩ := hP
 have hx := Bd.exec
 have hby := Bd.bytes
 have hml : c.maxLocals = 1 := hml0
 have hown : s.vm.findClass "java/lang/AbstractStringBuilder" = some m.cls := findClass_of_methodNamed Bd.named
 have hnm := (name_of_methodNamed Bd.named Bd.method).1
 have X0 : Stand p l e ({ frames := 0, cells := 0, slots := 0, locals := 0 } : Room) s m #[(.ref a509)] below meth c s₁ [] 0 0 := Stand.of_body Bd
 have e0 : s₁.heap = h0 := by rw [← hh, Bd.state]; rfl
 have N0 := Fr.nil n0
 have pre0 : ∀ t, Steps p.tables e below (s₁.setTop (mkF m 0 #[vR a509] [])) t → Steps p.tables e below (s₁.setTop (entryFrame m #[(.ref a509)] 1)) t := fun t k => castTop (ef_23_v m a509) k
 obtain ⟨T511, X511, e511, st511⟩ := getF X0 hx hZ hown (host := "") (Or.inl (tw hw 39 rfl)) Via.refl e0 H0 (g := (mkF m 1 #[vR a509] [(.ref a509)])) rfl rfl (hb hby d23_1)
 obtain ⟨fs, hr, hrun, hended, hW, hsame⟩ := X511.leave (v := some (.ref w510)) (fun h => by rw [Bd.returns] at h; cases h)
 refine ⟨_, _, pre0 _ ?_, hrun, hended, _, _, rfl, ?_, ⟨_, rfl⟩, hW, hsame.mono (by decide) (by decide)⟩
 · show SG p e below s₁ (mkF m 0 #[vR a509] []) _
   refine XS.aloadN X0.here hx rfl (hb hby d23_0) rfl rfl ?_
   show SG p e below s₁ (mkF m 1 #[vR a509] [(.ref a509)]) _
   refine st511 _ ?_
   show SG p e below T511 (mkF m 4 #[vR a509] [(.ref w510)]) _
   jvm_step X511.here [X511.here.top, hx, (hb hby d23_4), X511.method', Bd.returns, Value.isRef, FieldType.isReference]
   first | (intro acts; rw [hr _ acts rfl rfl rfl]) | rw [hr _ _ rfl rfl rfl]
   exact Steps.refl _
 · show OQp (some (.ref w510)) h0 n0 _ T511.heap _
   rw [e511]
   exact ⟨rfl, N0, rfl⟩
theorem pd_12 : parseMethodDescriptor "()[B" = some ⟨[], some (.array .byte)⟩ := by decide +kernel
theorem d22_8 : decode jdk_42_method_150_code 8 = .ok (.astore_n 3, 1) := by decide +kernel
theorem d22_9 : decode jdk_42_method_150_code 9 = .ok (.aload_n 1, 1) := by decide +kernel
theorem d22_10 : decode jdk_42_method_150_code 10 = .ok (.invokevirtual 549, 3) := by decide +kernel
theorem d24_0 : decode jdk_67_method_93_code 0 = .ok (.aload_n 0, 1) := by decide +kernel
theorem d24_1 : decode jdk_67_method_93_code 1 = .ok (.invokespecial 343, 3) := by decide +kernel
theorem d25_0 : decode jdk_68_method_6_code 0 = .ok (.aload_n 0, 1) := by decide +kernel
theorem d25_1 : decode jdk_68_method_6_code 1 = .ok (.getfield 79, 3) := by decide +kernel
theorem d25_4 : decode jdk_68_method_6_code 4 = .ok (.ireturn, 1) := by decide +kernel
theorem ef_25_v (m : MethodId) (x0 : Addr) : entryFrame m #[(.ref x0)] 1 = mkF m 0 #[.val (.ref x0)] [] := by first | (simp [entryFrame, mkF, argsToLocals, Value.category]; done) | rfl
theorem r25_1 (l : Launch) (Z : State) (a0 : Array Value) (hw : ∀ d ∈ tables_1, d.before a0 Z = true) (a515 : Addr) (w516 : Int32) (h0 : Heap) (n0 : Nat) (Z0 : n0 ≤ h0.size) (H0 : Fld Z h0 a515 "java/lang/AbstractStringBuilder" "count" "I" (.int w516)) :
   OMet l Z mN15 jdk_68_method_6_code 1 (some .int) [] ({ frames := 0, cells := 0, slots := 0, locals := 0 } : Room) h0 #[(.ref a515)] (OQp (some (.int w516)) h0 n0) := by
 refine MetFree.of_bodySF (plainFor_of_name pn_java_lang_AbstractStringBuilder) hisR ?_
 intro p e s m args below meth c s₁ Bd hml0 hP hK
 obtain ⟨rfl, hZ, hh⟩ := hP
 have hx := Bd.exec
 have hby := Bd.bytes
 have hml : c.maxLocals = 1 := hml0
 have hown : s.vm.findClass "java/lang/AbstractStringBuilder" = some m.cls := findClass_of_methodNamed Bd.named
 have hnm := (name_of_methodNamed Bd.named Bd.method).1
 have X0 : Stand p l e ({ frames := 0, cells := 0, slots := 0, locals := 0 } : Room) s m #[(.ref a515)] below meth c s₁ [] 0 0 := Stand.of_body Bd
 have e0 : s₁.heap = h0 := by rw [← hh, Bd.state]; rfl
 have N0 := Fr.nil n0
 have pre0 : ∀ t, Steps p.tables e below (s₁.setTop (mkF m 0 #[vR a515] [])) t → Steps p.tables e below (s₁.setTop (entryFrame m #[(.ref a515)] 1)) t := fun t k => castTop (ef_25_v m a515) k
 obtain ⟨T517, X517, e517, st517⟩ := getF X0 hx hZ hown (host := "") (Or.inl (tw hw 72 rfl)) Via.refl e0 H0 (g := (mkF m 1 #[vR a515] [(.ref a515)])) rfl rfl (hb hby d25_1)
 obtain ⟨fs, hr, hrun, hended, hW, hsame⟩ := X517.leave (v := some (.int w516)) (fun h => by rw [Bd.returns] at h; cases h)
 refine ⟨_, _, pre0 _ ?_, hrun, hended, _, _, rfl, ?_, ⟨_, rfl⟩, hW, hsame.mono (by decide) (by decide)⟩
 · show SG p e below s₁ (mkF m 0 #[vR a515] []) _
   refine XS.aloadN X0.here hx rfl (hb hby d25_0) rfl rfl ?_
   show SG p e below s₁ (mkF m 1 #[vR a515] [(.ref a515)]) _
   refine st517 _ ?_
   show SG p e below T517 (mkF m 4 #[vR a515] [(.int w516)]) _
   exact retI X517 hx Bd.returns (hb hby d25_4) hr
 · show OQp (some (.int w516)) h0 n0 _ T517.heap _
   rw [e517]
   exact ⟨rfl, N0, rfl⟩
theorem d24_4 : decode jdk_67_method_93_code 4 = .ok (.ireturn, 1) := by decide +kernel
theorem pn_java_lang_StringBuilder : plainName "java/lang/StringBuilder" = true := by first | (simp [plainName, overriddenIn]; done) | decide +kernel
theorem ef_24_v (m : MethodId) (x0 : Addr) : entryFrame m #[(.ref x0)] 1 = mkF m 0 #[.val (.ref x0)] [] := by first | (simp [entryFrame, mkF, argsToLocals, Value.category]; done) | rfl
theorem r24_1 (l : Launch) (Z : State) (a0 : Array Value) (hw : ∀ d ∈ tables_1, d.before a0 Z = true) (a514 : Addr) (w519 : Int32) (h0 : Heap) (n0 : Nat) (Z0 : n0 ≤ h0.size) (H0 : Fld Z h0 a514 "java/lang/AbstractStringBuilder" "count" "I" (.int w519)) (H1 : Exa Z h0 a514 "java/lang/StringBuilder") :
   OMet l Z mN17 jdk_67_method_93_code 1 (some .int) [] ({ frames := 1, cells := 0, slots := 0, locals := 12 } : Room) h0 #[(.ref a514)] (OQp (some (.int w519)) h0 n0) := by
 refine MetFree.of_bodySF (plainFor_of_name pn_java_lang_StringBuilder) hisR ?_
 intro p e s m args below meth c s₁ Bd hml0 hP hK
 obtain ⟨rfl, hZ, hh⟩ := hP
 have hx := Bd.exec
 have hby := Bd.bytes
 have hml : c.maxLocals = 1 := hml0
 have hown : s.vm.findClass "java/lang/StringBuilder" = some m.cls := findClass_of_methodNamed Bd.named
 have hnm := (name_of_methodNamed Bd.named Bd.method).1
 have X0 : Stand p l e ({ frames := 1, cells := 0, slots := 0, locals := 12 } : Room) s m #[(.ref a514)] below meth c s₁ [] 0 0 := Stand.of_body Bd
 have e0 : s₁.heap = h0 := by rw [← hh, Bd.state]; rfl
 have N0 := Fr.nil n0
 have pre0 : ∀ t, Steps p.tables e below (s₁.setTop (mkF m 0 #[vR a514] [])) t → Steps p.tables e below (s₁.setTop (entryFrame m #[(.ref a514)] 1)) t := fun t k => castTop (ef_24_v m a514) k
 obtain ⟨_, _, ⟨T518, L518, k518, n518⟩, -, X518, ⟨Lc518, hQ518, l518, y518, z518⟩, st518⟩ := superBack X0 hx hZ (y := mN15) hown (tw hw 149 rfl) (own_same (y := mN15) (by decide) (tw hw 145 rfl) (own_nf (args := a0) (w := mN16) rfl (tw hw 77 rfl))) (tw hw 145 rfl) (tw hw 56 rfl) (by decide) (backOf (W := 0) (r25_1 l Z a0 hw a514 w519 h0 n0 Z0 H0) hZ (tw hw 150 rfl) (tw hw 33 rfl) (by decide) (by decide)) e0 (Ins.self H1) (g := (mkF m 1 #[vR a514] [(.ref a514)])) rfl (by rw [hml]; rfl) (tw hw 150 rfl) (argsL := []) (rest := []) (lenOf pd_7 rfl) rfl (own_w _) (hb hby d24_1) (fun _ _ => ⟨rfl, e0, (by decide : 0 + 0 ≤ _), (by decide : 0 + 0 ≤ _)⟩)
 dsimp only [Pt.U, Pt.locs, Pt.cells, Pt.slots] at X518 l518 y518 z518 st518 hQ518
 replace X518 := own_mvX X518 (a := 0) (b := 0) y518 z518
 obtain ⟨rfl, N518q, e518⟩ := hQ518
 have N518 := own_mvN l518 N0 N518q
 obtain ⟨fs, hr, hrun, hended, hW, hsame⟩ := X518.leave (v := some (.int w519)) (fun h => by rw [Bd.returns] at h; cases h)
 refine ⟨_, _, pre0 _ ?_, hrun, hended, _, _, rfl, ?_, ⟨_, rfl⟩, hW, hsame.mono (by decide) (by decide)⟩
 · show SG p e below s₁ (mkF m 0 #[vR a514] []) _
   refine XS.aloadN X0.here hx rfl (hb hby d24_0) rfl rfl ?_
   show SG p e below s₁ (mkF m 1 #[vR a514] [(.ref a514)]) _
   refine st518.trans ?_
   show SG p e below T518 (mkF m 4 #[vR a514] [(.int w519)]) _
   exact retI X518 hx Bd.returns (hb hby d24_4) hr
 · show OQp (some (.int w519)) h0 n0 _ T518.heap _
   rw [e518]
   exact ⟨rfl, N518, rfl⟩
theorem d22_13 : decode jdk_42_method_150_code 13 = .ok (.istore 4, 2) := by decide +kernel
theorem d22_15 : decode jdk_42_method_150_code 15 = .ok (.aload_n 1, 1) := by decide +kernel
theorem d22_16 : decode jdk_42_method_150_code 16 = .ok (.invokevirtual 1047, 3) := by decide +kernel
theorem d18_0 : decode jdk_68_method_68_code 0 = .ok (.getstatic 18, 3) := by decide +kernel
theorem d18_3 : decode jdk_68_method_68_code 3 = .ok (.ifCond .eq 14, 3) := by decide +kernel
theorem d18_6 : decode jdk_68_method_68_code 6 = .ok (.aload_n 0, 1) := by decide +kernel
theorem d18_7 : decode jdk_68_method_68_code 7 = .ok (.getfield 22, 3) := by decide +kernel
theorem d18_10 : decode jdk_68_method_68_code 10 = .ok (.ifCond .ne 7, 3) := by decide +kernel
theorem d18_13 : decode jdk_68_method_68_code 13 = .ok (.iconst 1, 1) := by decide +kernel
theorem d18_14 : decode jdk_68_method_68_code 14 = .ok (.goto 4, 3) := by decide +kernel
theorem d18_18 : decode jdk_68_method_68_code 18 = .ok (.ireturn, 1) := by decide +kernel
theorem ef_18_v (m : MethodId) (x0 : Addr) : entryFrame m #[(.ref x0)] 1 = mkF m 0 #[.val (.ref x0)] [] := by first | (simp [entryFrame, mkF, argsToLocals, Value.category]; done) | rfl
theorem r18_1 (l : Launch) (Z : State) (a0 : Array Value) (hw : ∀ d ∈ tables_1, d.before a0 Z = true) (a522 : Addr) (w523 : Int32) (w525 : Int32) (h0 : Heap) (n0 : Nat) (Z0 : n0 ≤ h0.size) (H0 : Sta Z h0 "java/lang/String" "COMPACT_STRINGS" "Z" (.int w523)) (H1 : ¬ (w523 = (0 : Int32))) (H2 : Fld Z h0 a522 "java/lang/AbstractStringBuilder" "coder" "B" (.int w525)) (H3 : w525 = (0 : Int32)) :
   OMet l Z mN18 jdk_68_method_68_code 1 (some .boolean) [] ({ frames := 0, cells := 0, slots := 0, locals := 0 } : Room) h0 #[(.ref a522)] (OQp (some (.int (1 : Int32))) h0 n0) := by
 refine MetFree.of_bodySF (plainFor_of_name pn_java_lang_AbstractStringBuilder) hisR ?_
 intro p e s m args below meth c s₁ Bd hml0 hP hK
 obtain ⟨rfl, hZ, hh⟩ := hP
 have hx := Bd.exec
 have hby := Bd.bytes
 have hml : c.maxLocals = 1 := hml0
 have hown : s.vm.findClass "java/lang/AbstractStringBuilder" = some m.cls := findClass_of_methodNamed Bd.named
 have hnm := (name_of_methodNamed Bd.named Bd.method).1
 have X0 : Stand p l e ({ frames := 0, cells := 0, slots := 0, locals := 0 } : Room) s m #[(.ref a522)] below meth c s₁ [] 0 0 := Stand.of_body Bd
 have e0 : s₁.heap = h0 := by rw [← hh, Bd.state]; rfl
 have N0 := Fr.nil n0
 have pre0 : ∀ t, Steps p.tables e below (s₁.setTop (mkF m 0 #[vR a522] [])) t → Steps p.tables e below (s₁.setTop (entryFrame m #[(.ref a522)] 1)) t := fun t k => castTop (ef_18_v m a522) k
 obtain ⟨T524, X524, e524, st524⟩ := getS2 X0 hx hZ hown (host := "") (Or.inl (tw hw 36 rfl)) Via.refl e0 H0 (g := (mkF m 0 #[vR a522] [])) rfl (hb hby d18_0)
 obtain ⟨T526, X526, e526, st526⟩ := getF X524 hx hZ hown (host := "") (Or.inl (tw hw 41 rfl)) Via.refl e524 H2 (g := (mkF m 7 #[vR a522] [(.ref a522)])) rfl rfl (hb hby d18_7)
 obtain ⟨fs, hr, hrun, hended, hW, hsame⟩ := X526.leave (v := some (.int (1 : Int32))) (fun h => by rw [Bd.returns] at h; cases h)
 refine ⟨_, _, pre0 _ ?_, hrun, hended, _, _, rfl, ?_, ⟨_, rfl⟩, hW, hsame.mono (by decide) (by decide)⟩
 · show SG p e below s₁ (mkF m 0 #[vR a522] []) _
   refine st524 _ ?_
   show SG p e below T524 (mkF m 3 #[vR a522] [(.int w523)]) _
   refine XS.ifNo X524.here hx rfl (hb hby d18_3) rfl ((if0 _ _).trans (feq H1).1) ?_
   show SG p e below T524 (mkF m 6 #[vR a522] []) _
   refine XS.aloadN X524.here hx rfl (hb hby d18_6) rfl rfl ?_
   show SG p e below T524 (mkF m 7 #[vR a522] [(.ref a522)]) _
   refine st526 _ ?_
   show SG p e below T526 (mkF m 10 #[vR a522] [(.int w525)]) _
   refine XS.ifNo X526.here hx rfl (hb hby d18_10) rfl ((if0 _ _).trans (teq H3).2) ?_
   show SG p e below T526 (mkF m 13 #[vR a522] []) _
   refine XS.iconst X526.here hx rfl (hb hby d18_13) ?_
   show SG p e below T526 (mkF m 14 #[vR a522] [(.int (1 : Int32))]) _
   refine XS.goto X526.here hx rfl (pc0 := 14) (pc' := 18) rfl (hb hby d18_14) (by decide) (by decide) ?_
   show SG p e below T526 (mkF m 18 #[vR a522] [(.int (1 : Int32))]) _
   exact retN X526 hx (t := .boolean) Bd.returns (by simp) (hb hby d18_18) hr
 · show OQp (some (.int (1 : Int32))) h0 n0 _ T526.heap _
   rw [e526]
   exact ⟨rfl, N0, rfl⟩
theorem d22_19 : decode jdk_42_method_150_code 19 = .ok (.ifCond .eq 22, 3) := by decide +kernel
theorem d22_22 : decode jdk_42_method_150_code 22 = .ok (.aload_n 0, 1) := by decide +kernel
theorem d22_23 : decode jdk_42_method_150_code 23 = .ok (.iconst 0, 1) := by decide +kernel
theorem d22_24 : decode jdk_42_method_150_code 24 = .ok (.putfield 15, 3) := by decide +kernel
theorem d22_27 : decode jdk_42_method_150_code 27 = .ok (.aload_n 0, 1) := by decide +kernel
theorem d22_28 : decode jdk_42_method_150_code 28 = .ok (.aload_n 3, 1) := by decide +kernel
theorem d22_29 : decode jdk_42_method_150_code 29 = .ok (.iconst 0, 1) := by decide +kernel
theorem d22_30 : decode jdk_42_method_150_code 30 = .ok (.iload 4, 2) := by decide +kernel
theorem d22_32 : decode jdk_42_method_150_code 32 = .ok (.invokestatic 54, 3) := by decide +kernel
theorem d26_0 : decode jdk_65_method_132_code 0 = .ok (.iload_n 1, 1) := by decide +kernel
theorem d26_1 : decode jdk_65_method_132_code 1 = .ok (.ifCond .ne 9, 3) := by decide +kernel
theorem d26_4 : decode jdk_65_method_132_code 4 = .ok (.iload_n 2, 1) := by decide +kernel
theorem d26_5 : decode jdk_65_method_132_code 5 = .ok (.aload_n 0, 1) := by decide +kernel
theorem d26_6 : decode jdk_65_method_132_code 6 = .ok (.arraylength, 1) := by decide +kernel
theorem d26_7 : decode jdk_65_method_132_code 7 = .ok (.if_icmp .eq 10, 3) := by decide +kernel
theorem d26_10 : decode jdk_65_method_132_code 10 = .ok (.aload_n 0, 1) := by decide +kernel
theorem d26_11 : decode jdk_65_method_132_code 11 = .ok (.iload_n 1, 1) := by decide +kernel
theorem d26_12 : decode jdk_65_method_132_code 12 = .ok (.iload_n 2, 1) := by decide +kernel
theorem d26_13 : decode jdk_65_method_132_code 13 = .ok (.invokestatic 339, 3) := by decide +kernel
theorem d27_0 : decode jdk_65_method_133_code 0 = .ok (.iload_n 1, 1) := by decide +kernel
theorem d27_1 : decode jdk_65_method_133_code 1 = .ok (.iload_n 2, 1) := by decide +kernel
theorem d27_2 : decode jdk_65_method_133_code 2 = .ok (.invokestatic 343, 3) := by decide +kernel
theorem d28_0 : decode jdk_65_method_131_code 0 = .ok (.iload_n 1, 1) := by decide +kernel
theorem d28_1 : decode jdk_65_method_131_code 1 = .ok (.iload_n 0, 1) := by decide +kernel
theorem d28_2 : decode jdk_65_method_131_code 2 = .ok (.if_icmp .ge 35, 3) := by decide +kernel
theorem d28_37 : decode jdk_65_method_131_code 37 = .ok (.return_, 1) := by decide +kernel
theorem pn_java_util_Arrays : plainName "java/util/Arrays" = true := by first | (simp [plainName, overriddenIn]; done) | decide +kernel
theorem ef_28_vv (m : MethodId) (x0 : Int32) (x1 : Int32) : entryFrame m #[(.int x0), (.int x1)] 2 = mkF m 0 #[.val (.int x0), .val (.int x1)] [] := by first | (simp [entryFrame, mkF, argsToLocals, Value.category]; done) | rfl
theorem r28_1 (l : Launch) (Z : State) (a0 : Array Value) (hw : ∀ d ∈ tables_1, d.before a0 Z = true) (p542 : Int32) (p543 : Int32) (h0 : Heap) (n0 : Nat) (Z0 : n0 ≤ h0.size) (H0 : ¬ (p543 < p542)) :
   OMet l Z mN19 jdk_65_method_131_code 2 none [] ({ frames := 0, cells := 0, slots := 0, locals := 0 } : Room) h0 #[(.int p542), (.int p543)] (OQp (none) h0 n0) := by
 refine MetFree.of_bodySF (plainFor_of_name pn_java_util_Arrays) hisR ?_
 intro p e s m args below meth c s₁ Bd hml0 hP hK
 obtain ⟨rfl, hZ, hh⟩ := hP
 have hx := Bd.exec
 have hby := Bd.bytes
 have hml : c.maxLocals = 2 := hml0
 have hown : s.vm.findClass "java/util/Arrays" = some m.cls := findClass_of_methodNamed Bd.named
 have hnm := (name_of_methodNamed Bd.named Bd.method).1
 have X0 : Stand p l e ({ frames := 0, cells := 0, slots := 0, locals := 0 } : Room) s m #[(.int p542), (.int p543)] below meth c s₁ [] 0 0 := Stand.of_body Bd
 have e0 : s₁.heap = h0 := by rw [← hh, Bd.state]; rfl
 have N0 := Fr.nil n0
 have pre0 : ∀ t, Steps p.tables e below (s₁.setTop (mkF m 0 #[vI p542, vI p543] [])) t → Steps p.tables e below (s₁.setTop (entryFrame m #[(.int p542), (.int p543)] 2)) t := fun t k => castTop (ef_28_vv m p542 p543) k

 obtain ⟨fs, hr, hrun, hended, hW, hsame⟩ := X0.leave (v := none) (fun _ => rfl)
 refine ⟨_, _, pre0 _ ?_, hrun, hended, _, _, rfl, ?_, ⟨_, rfl⟩, hW, hsame.mono (by decide) (by decide)⟩
 · show SG p e below s₁ (mkF m 0 #[vI p542, vI p543] []) _
   refine XS.iloadN X0.here hx rfl (hb hby d28_0) rfl ?_
   show SG p e below s₁ (mkF m 1 #[vI p542, vI p543] [(.int p543)]) _
   refine XS.iloadN X0.here hx rfl (hb hby d28_1) rfl ?_
   show SG p e below s₁ (mkF m 2 #[vI p542, vI p543] [(.int p542), (.int p543)]) _
   refine XS.icmpYes X0.here hx rfl (pc0 := 2) (pc' := 37) rfl (hb hby d28_2) rfl (flt H0).2.1 (by decide) (by decide) ?_
   show SG p e below s₁ (mkF m 37 #[vI p542, vI p543] []) _
   exact X0.returnOut hx Bd.returns (hb hby d28_37) hr
 · show OQp (none) h0 n0 _ s₁.heap _
   rw [e0]
   exact ⟨rfl, N0, rfl⟩
theorem d27_5 : decode jdk_65_method_133_code 5 = .ok (.iload_n 2, 1) := by decide +kernel
theorem d27_6 : decode jdk_65_method_133_code 6 = .ok (.iload_n 1, 1) := by decide +kernel
theorem d27_7 : decode jdk_65_method_133_code 7 = .ok (.isub, 1) := by decide +kernel
theorem d27_8 : decode jdk_65_method_133_code 8 = .ok (.istore_n 3, 1) := by decide +kernel
theorem d27_9 : decode jdk_65_method_133_code 9 = .ok (.iload_n 3, 1) := by decide +kernel
theorem d27_10 : decode jdk_65_method_133_code 10 = .ok (.newarray .byte, 2) := by decide +kernel
theorem d27_12 : decode jdk_65_method_133_code 12 = .ok (.astore 4, 2) := by decide +kernel
theorem d27_14 : decode jdk_65_method_133_code 14 = .ok (.aload_n 0, 1) := by decide +kernel
theorem d27_15 : decode jdk_65_method_133_code 15 = .ok (.iload_n 1, 1) := by decide +kernel
theorem d27_16 : decode jdk_65_method_133_code 16 = .ok (.aload 4, 2) := by decide +kernel
theorem d27_18 : decode jdk_65_method_133_code 18 = .ok (.iconst 0, 1) := by decide +kernel
theorem d27_19 : decode jdk_65_method_133_code 19 = .ok (.aload_n 0, 1) := by decide +kernel
theorem d27_20 : decode jdk_65_method_133_code 20 = .ok (.arraylength, 1) := by decide +kernel
theorem d27_21 : decode jdk_65_method_133_code 21 = .ok (.iload_n 1, 1) := by decide +kernel
theorem d27_22 : decode jdk_65_method_133_code 22 = .ok (.isub, 1) := by decide +kernel
theorem d27_23 : decode jdk_65_method_133_code 23 = .ok (.iload_n 3, 1) := by decide +kernel
theorem d27_24 : decode jdk_65_method_133_code 24 = .ok (.invokestatic 304, 3) := by decide +kernel
theorem d29_0 : decode jdk_29_method_69_code 0 = .ok (.iload_n 0, 1) := by decide +kernel
theorem d29_1 : decode jdk_29_method_69_code 1 = .ok (.iload_n 1, 1) := by decide +kernel
theorem d29_2 : decode jdk_29_method_69_code 2 = .ok (.if_icmp .gt 7, 3) := by decide +kernel
theorem d29_9 : decode jdk_29_method_69_code 9 = .ok (.iload_n 1, 1) := by decide +kernel
theorem d29_10 : decode jdk_29_method_69_code 10 = .ok (.ireturn, 1) := by decide +kernel
theorem ef_29_vv (m : MethodId) (x0 : Int32) (x1 : Int32) : entryFrame m #[(.int x0), (.int x1)] 2 = mkF m 0 #[.val (.int x0), .val (.int x1)] [] := by first | (simp [entryFrame, mkF, argsToLocals, Value.category]; done) | rfl
theorem r29_1 (l : Launch) (Z : State) (a0 : Array Value) (hw : ∀ d ∈ tables_1, d.before a0 Z = true) (p551 : Int32) (p552 : Int32) (h0 : Heap) (n0 : Nat) (Z0 : n0 ≤ h0.size) (H0 : p552 < p551) :
   OMet l Z mN20 jdk_29_method_69_code 2 (some .int) [] ({ frames := 0, cells := 0, slots := 0, locals := 0 } : Room) h0 #[(.int p551), (.int p552)] (OQp (some (.int p552)) h0 n0) := by
 refine MetFree.of_bodySF (Jvm.Free.JP.mathPlain rfl (by decide +kernel)) hisR ?_
 intro p e s m args below meth c s₁ Bd hml0 hP hK
 obtain ⟨rfl, hZ, hh⟩ := hP
 have hx := Bd.exec
 have hby := Bd.bytes
 have hml : c.maxLocals = 2 := hml0
 have hown : s.vm.findClass "java/lang/Math" = some m.cls := findClass_of_methodNamed Bd.named
 have hnm := (name_of_methodNamed Bd.named Bd.method).1
 have X0 : Stand p l e ({ frames := 0, cells := 0, slots := 0, locals := 0 } : Room) s m #[(.int p551), (.int p552)] below meth c s₁ [] 0 0 := Stand.of_body Bd
 have e0 : s₁.heap = h0 := by rw [← hh, Bd.state]; rfl
 have N0 := Fr.nil n0
 have pre0 : ∀ t, Steps p.tables e below (s₁.setTop (mkF m 0 #[vI p551, vI p552] [])) t → Steps p.tables e below (s₁.setTop (entryFrame m #[(.int p551), (.int p552)] 2)) t := fun t k => castTop (ef_29_vv m p551 p552) k

 obtain ⟨fs, hr, hrun, hended, hW, hsame⟩ := X0.leave (v := some (.int p552)) (fun h => by rw [Bd.returns] at h; cases h)
 refine ⟨_, _, pre0 _ ?_, hrun, hended, _, _, rfl, ?_, ⟨_, rfl⟩, hW, hsame.mono (by decide) (by decide)⟩
 · show SG p e below s₁ (mkF m 0 #[vI p551, vI p552] []) _
   refine XS.iloadN X0.here hx rfl (hb hby d29_0) rfl ?_
   show SG p e below s₁ (mkF m 1 #[vI p551, vI p552] [(.int p551)]) _
   refine XS.iloadN X0.here hx rfl (hb hby d29_1) rfl ?_
   show SG p e below s₁ (mkF m 2 #[vI p551, vI p552] [(.int p552), (.int p551)]) _
   refine XS.icmpYes X0.here hx rfl (pc0 := 2) (pc' := 9) rfl (hb hby d29_2) rfl (tlt H0).2.2.1 (by decide) (by decide) ?_
   show SG p e below s₁ (mkF m 9 #[vI p551, vI p552] []) _
   refine XS.iloadN X0.here hx rfl (hb hby d29_9) rfl ?_
   show SG p e below s₁ (mkF m 10 #[vI p551, vI p552] [(.int p552)]) _
   exact retI X0 hx Bd.returns (hb hby d29_10) hr
 · show OQp (some (.int p552)) h0 n0 _ s₁.heap _
   rw [e0]
   exact ⟨rfl, N0, rfl⟩
theorem pd_13 : parseMethodDescriptor "(II)I" = some ⟨[.int, .int], some .int⟩ := by decide +kernel
theorem d27_27 : decode jdk_65_method_133_code 27 = .ok (.invokestatic 150, 3) := by decide +kernel
theorem d27_30 : decode jdk_65_method_133_code 30 = .ok (.aload 4, 2) := by decide +kernel
theorem d27_32 : decode jdk_65_method_133_code 32 = .ok (.areturn, 1) := by decide +kernel
theorem ef_27_vvv (m : MethodId) (x0 : Addr) (x1 : Int32) (x2 : Int32) : entryFrame m #[(.ref x0), (.int x1), (.int x2)] 5 = mkF m 0 #[.val (.ref x0), .val (.int x1), .val (.int x2), .unset, .unset] [] := by first | (simp [entryFrame, mkF, argsToLocals, Value.category]; done) | rfl
def Qr27_1 (Z : State) (a539 : Addr) (p540 : Int32) (p541 : Int32) (k546 : ClassId) (u547 : Nat → Int32) (p548 : Int32) (h0 : Heap) (n0 : Nat) (v : Option Value) (h : Heap) (L : List Loc) : Prop := Fr n0 L ∧ ∃ b545 : Addr, ∃ k545 : ClassId, v = some (.ref b545) ∧ h0.size ≤ b545 ∧ KSx h0 h [] [] ∧ Exa Z h b545 "[B" ∧ BA Z h b545 k545 .byte (p541 - p540) (fun i => if ((0 : Int32)).toNatClampNeg ≤ i ∧ i < ((0 : Int32)).toNatClampNeg + ((p541 - p540)).toNatClampNeg then u547 ((p540).toNatClampNeg + (i - ((0 : Int32)).toNatClampNeg)) else (fun _ => (0 : Int32)) i)
theorem r27_1 (l : Launch) (Z : State) (a0 : Array Value) (hw : ∀ d ∈ tables_1, d.before a0 Z = true) (a539 : Addr) (p540 : Int32) (p541 : Int32) (k546 : ClassId) (u547 : Nat → Int32) (p548 : Int32) (h0 : Heap) (n0 : Nat) (Z0 : n0 ≤ h0.size) (H0 : ¬ (p541 < p540)) (H1 : ¬ ((p541 - p540) < (0 : Int32))) (H2 : ¬ ((34 : Int32) < (p541 - p540))) (H3 : BA Z h0 a539 k546 .byte p548 u547) (H4 : (p541 - p540) < (p548 - p540)) (H5 : ¬ (p540 < (0 : Int32))) (H6 : (p540).toNatClampNeg + ((p541 - p540)).toNatClampNeg ≤ (p548).toNatClampNeg) (H7 : ((0 : Int32)).toNatClampNeg + ((p541 - p540)).toNatClampNeg ≤ ((p541 - p540)).toNatClampNeg) :
   OMet l Z mN21 jdk_65_method_133_code 5 (some (.array .byte)) [] ({ frames := 1, cells := 1, slots := 34, locals := 18 } : Room) h0 #[(.ref a539), (.int p540), (.int p541)] (Qr27_1 Z a539 p540 p541 k546 u547 p548 h0 n0) := by
 refine MetFree.of_bodySF (plainFor_of_name pn_java_util_Arrays) hisR ?_
 intro p e s m args below meth c s₁ Bd hml0 hP hK
 obtain ⟨rfl, hZ, hh⟩ := hP
 have hx := Bd.exec
 have hby := Bd.bytes
 have hml : c.maxLocals = 5 := hml0
 have hown : s.vm.findClass "java/util/Arrays" = some m.cls := findClass_of_methodNamed Bd.named
 have hnm := (name_of_methodNamed Bd.named Bd.method).1
 have X0 : Stand p l e ({ frames := 1, cells := 1, slots := 34, locals := 18 } : Room) s m #[(.ref a539), (.int p540), (.int p541)] below meth c s₁ [] 0 0 := Stand.of_body Bd
 have e0 : s₁.heap = h0 := by rw [← hh, Bd.state]; rfl
 have N0 := Fr.nil n0
 have pre0 : ∀ t, Steps p.tables e below (s₁.setTop (mkF m 0 #[vR a539, vI p540, vI p541, .unset, .unset] [])) t → Steps p.tables e below (s₁.setTop (entryFrame m #[(.ref a539), (.int p540), (.int p541)] 5)) t := fun t k => castTop (ef_27_vvv m a539 p540 p541) k
 obtain ⟨_, _, ⟨T544, L544, k544, n544⟩, -, X544, ⟨Lc544, hQ544, l544, y544, z544⟩, st544⟩ := Jvm.LawKit.callS X0 hx (y := mN19) hown (mvT hZ (tw hw 159 rfl)) (mvT hZ (tw hw 160 rfl)) (mvT hZ (tw hw 154 rfl)) (mvT hZ (tw hw 161 rfl)) (by decide) (backOf (W := 0) (r28_1 l Z a0 hw p540 p541 h0 n0 Z0 H0) hZ (tw hw 161 rfl) (tw hw 154 rfl) (by decide) (by decide)) (g := (mkF m 2 #[vR a539, vI p540, vI p541, vU, vU] [(.int p541), (.int p540)])) rfl (by rw [hml]; rfl) (argsL := [(.int p540), (.int p541)]) (rest := []) (lenOf pd_2 rfl) rfl (own_w _) (hb hby d27_2) (fun _ _ => ⟨rfl, e0, (by decide : 0 + 0 ≤ _), (by decide : 0 + 0 ≤ _)⟩)
 dsimp only [Pt.U, Pt.locs, Pt.cells, Pt.slots] at X544 l544 y544 z544 st544 hQ544
 replace X544 := own_mvX X544 (a := 0) (b := 0) y544 z544
 obtain ⟨rfl, N544q, e544⟩ := hQ544
 have N544 := own_mvN l544 N0 N544q
 obtain ⟨T545, h545, k545, X545, e545, E545, A545, Ea545, st545⟩ := newPE X544 hx hZ (tw hw 38 rfl) e544 (g := (mkF m 10 #[vR a539, vI p540, vI p541, vI (p541 - p540), vU] [(.int (p541 - p540))])) rfl (hb hby d27_10) rfl H1 (cap := 34) (own_cap (k := 34) (by decide) H2) (by decide) (by decide) (by decide) (ad := "[B") rfl
 obtain ⟨b545, g545⟩ : ∃ z, z = h0.size := ⟨_, rfl⟩
 rw [← g545] at A545 Ea545 st545
 have KC545 := KSx.ext (KSx.refl h0 [] []) E545
 have B545 : BA Z h545 b545 k545 .byte (p541 - p540) (fun _ => (0 : Int32)) := BA.new A545 H1 rfl rfl
 have f549 := (H3.ext E545)
 have vc550 := f549
 obtain ⟨cl550, Ar550, q550, S550, N550, Hh550, G550⟩ := vc550
 have Z545 : n0 ≤ h545.size := Nat.le_trans Z0 E545.1
 obtain ⟨_, _, ⟨T553, L553, k553, n553⟩, -, X553, ⟨Lc553, hQ553, l553, y553, z553⟩, st553⟩ := Jvm.LawKit.callS X545 hx (y := mN20) hown (mvT hZ (tw hw 162 rfl)) (mvT hZ (tw hw 163 rfl)) (mvT hZ (tw hw 164 rfl)) (mvT hZ (tw hw 165 rfl)) (by decide) (backOf (W := 4) (r29_1 l Z a0 hw (p548 - p540) (p541 - p540) h545 n0 Z545 H4) hZ (tw hw 165 rfl) (tw hw 164 rfl) (by decide) (by decide)) (g := (mkF m 24 #[vR a539, vI p540, vI p541, vI (p541 - p540), vR b545] [(.int (p541 - p540)), (.int (p548 - p540)), (.int (0 : Int32)), (.ref b545), (.int p540), (.ref a539)])) rfl (by rw [hml]; rfl) (argsL := [(.int (p548 - p540)), (.int (p541 - p540))]) (rest := [(.int (0 : Int32)), (.ref b545), (.int p540), (.ref a539)]) (lenOf pd_13 rfl) rfl (own_w _) (hb hby d27_24) (fun _ _ => ⟨rfl, e545, (by decide : 1 + 0 ≤ _), (by decide : 34 + 0 ≤ _)⟩)
 dsimp only [Pt.U, Pt.locs, Pt.cells, Pt.slots] at X553 l553 y553 z553 st553 hQ553
 replace X553 := own_mvX X553 (a := 1) (b := 34) y553 z553
 obtain ⟨rfl, N553q, e553⟩ := hQ553
 have N553 := own_mvN l553 N544 N553q
 have g554 : n0 ≤ b545 := Nat.le_trans Z0 (Nat.le_of_eq g545.symm)
 obtain ⟨T555, h555, L555, X555, e555, N555, K555, B555, st555⟩ := cpB X553 hx hZ hown (tw hw 166 rfl) (tw hw 98 rfl) (tw hw 96 rfl) (tw hw 97 rfl) e553 f549 B545 rfl H5 (by decide) H1 H6 H7 N553 g554 (g0 := (mkF m 27 #[vR a539, vI p540, vI p541, vI (p541 - p540), vR b545] [(.int (p541 - p540)), (.int (0 : Int32)), (.ref b545), (.int p540), (.ref a539)])) rfl (by rw [hml]; rfl) rfl (hb hby d27_27) (by decide) (W := 0) (own_w _) (by decide)
 have z556 : h0.size ≤ b545 := Nat.le_trans (KSx.refl h0 [] []).1 (Nat.le_of_eq g545.symm)
 have KC555 := KSx.trans KC545 K555 ks0 (allS (Or.inr z556) all0)
 have f557 := (Ea545.ks K555)
 obtain ⟨fs, hr, hrun, hended, hW, hsame⟩ := X555.leave (v := some (.ref b545)) (fun h => by rw [Bd.returns] at h; cases h)
 refine ⟨_, _, pre0 _ ?_, hrun, hended, _, _, rfl, ?_, ⟨_, rfl⟩, hW, hsame.mono (by decide) (by decide)⟩
 · show SG p e below s₁ (mkF m 0 #[vR a539, vI p540, vI p541, vU, vU] []) _
   refine XS.iloadN X0.here hx rfl (hb hby d27_0) rfl ?_
   show SG p e below s₁ (mkF m 1 #[vR a539, vI p540, vI p541, vU, vU] [(.int p540)]) _
   refine XS.iloadN X0.here hx rfl (hb hby d27_1) rfl ?_
   show SG p e below s₁ (mkF m 2 #[vR a539, vI p540, vI p541, vU, vU] [(.int p541), (.int p540)]) _
   refine st544 _ ?_
   show SG p e below T544 (mkF m 5 #[vR a539, vI p540, vI p541, vU, vU] []) _
   refine XS.iloadN X544.here hx rfl (hb hby d27_5) rfl ?_
   show SG p e below T544 (mkF m 6 #[vR a539, vI p540, vI p541, vU, vU] [(.int p541)]) _
   refine XS.iloadN X544.here hx rfl (hb hby d27_6) rfl ?_
   show SG p e below T544 (mkF m 7 #[vR a539, vI p540, vI p541, vU, vU] [(.int p540), (.int p541)]) _
   refine XS.isub X544.here hx rfl (hb hby d27_7) rfl ?_
   show SG p e below T544 (mkF m 8 #[vR a539, vI p540, vI p541, vU, vU] [(.int (p541 - p540))]) _
   refine XS.istoreN X544.here hx rfl (hb hby d27_8) rfl (l' := #[vR a539, vI p540, vI p541, vI (p541 - p540), vU]) rfl ?_
   show SG p e below T544 (mkF m 9 #[vR a539, vI p540, vI p541, vI (p541 - p540), vU] []) _
   refine XS.iloadN X544.here hx rfl (hb hby d27_9) rfl ?_
   show SG p e below T544 (mkF m 10 #[vR a539, vI p540, vI p541, vI (p541 - p540), vU] [(.int (p541 - p540))]) _
   refine st545 _ ?_
   show SG p e below T545 (mkF m 12 #[vR a539, vI p540, vI p541, vI (p541 - p540), vU] [(.ref b545)]) _
   refine XS.astore X545.here hx rfl (hb hby d27_12) rfl rfl (l' := #[vR a539, vI p540, vI p541, vI (p541 - p540), vR b545]) rfl ?_
   show SG p e below T545 (mkF m 14 #[vR a539, vI p540, vI p541, vI (p541 - p540), vR b545] []) _
   refine XS.aloadN X545.here hx rfl (hb hby d27_14) rfl rfl ?_
   show SG p e below T545 (mkF m 15 #[vR a539, vI p540, vI p541, vI (p541 - p540), vR b545] [(.ref a539)]) _
   refine XS.iloadN X545.here hx rfl (hb hby d27_15) rfl ?_
   show SG p e below T545 (mkF m 16 #[vR a539, vI p540, vI p541, vI (p541 - p540), vR b545] [(.int p540), (.ref a539)]) _
   refine XS.aload X545.here hx rfl (hb hby d27_16) rfl rfl ?_
   show SG p e below T545 (mkF m 18 #[vR a539, vI p540, vI p541, vI (p541 - p540), vR b545] [(.ref b545), (.int p540), (.ref a539)]) _
   refine XS.iconst X545.here hx rfl (hb hby d27_18) ?_
   show SG p e below T545 (mkF m 19 #[vR a539, vI p540, vI p541, vI (p541 - p540), vR b545] [(.int (0 : Int32)), (.ref b545), (.int p540), (.ref a539)]) _
   refine XS.aloadN X545.here hx rfl (hb hby d27_19) rfl rfl ?_
   show SG p e below T545 (mkF m 20 #[vR a539, vI p540, vI p541, vI (p541 - p540), vR b545] [(.ref a539), (.int (0 : Int32)), (.ref b545), (.int p540), (.ref a539)]) _
   refine X545.arraylength hx (by rw [e545]; exact Ar550.1) (State.isArrayOf_alike hZ.alike Ar550.2.1) (g := (mkF m 20 #[vR a539, vI p540, vI p541, vI (p541 - p540), vR b545] [(.ref a539), (.int (0 : Int32)), (.ref b545), (.int p540), (.ref a539)])) rfl rfl (hb hby d27_20) _ ?_
   rw [len_of S550 N550]
   show SG p e below T545 (mkF m 21 #[vR a539, vI p540, vI p541, vI (p541 - p540), vR b545] [(.int p548), (.int (0 : Int32)), (.ref b545), (.int p540), (.ref a539)]) _
   refine XS.iloadN X545.here hx rfl (hb hby d27_21) rfl ?_
   show SG p e below T545 (mkF m 22 #[vR a539, vI p540, vI p541, vI (p541 - p540), vR b545] [(.int p540), (.int p548), (.int (0 : Int32)), (.ref b545), (.int p540), (.ref a539)]) _
   refine XS.isub X545.here hx rfl (hb hby d27_22) rfl ?_
   show SG p e below T545 (mkF m 23 #[vR a539, vI p540, vI p541, vI (p541 - p540), vR b545] [(.int (p548 - p540)), (.int (0 : Int32)), (.ref b545), (.int p540), (.ref a539)]) _
   refine XS.iloadN X545.here hx rfl (hb hby d27_23) rfl ?_
   show SG p e below T545 (mkF m 24 #[vR a539, vI p540, vI p541, vI (p541 - p540), vR b545] [(.int (p541 - p540)), (.int (p548 - p540)), (.int (0 : Int32)), (.ref b545), (.int p540), (.ref a539)]) _
   refine st553 _ ?_
   show SG p e below T553 (mkF m 27 #[vR a539, vI p540, vI p541, vI (p541 - p540), vR b545] [(.int (p541 - p540)), (.int (0 : Int32)), (.ref b545), (.int p540), (.ref a539)]) _
   refine st555 _ ?_
   show SG p e below T555 (mkF m 30 #[vR a539, vI p540, vI p541, vI (p541 - p540), vR b545] []) _
   refine XS.aload X555.here hx rfl (hb hby d27_30) rfl rfl ?_
   show SG p e below T555 (mkF m 32 #[vR a539, vI p540, vI p541, vI (p541 - p540), vR b545] [(.ref b545)]) _
   jvm_step X555.here [X555.here.top, hx, (hb hby d27_32), X555.method', Bd.returns, Value.isRef, FieldType.isReference]
   first | (intro acts; rw [hr _ acts rfl rfl rfl]) | rw [hr _ _ rfl rfl rfl]
   exact Steps.refl _
 · show Qr27_1 Z a539 p540 p541 k546 u547 p548 h0 n0 _ T555.heap _
   rw [e555]
   exact ⟨N555, b545, k545, rfl, z556, KC555, f557, B555⟩
theorem pd_14 : parseMethodDescriptor "([BII)[B" = some ⟨[(.array .byte), .int, .int], some (.array .byte)⟩ := by decide +kernel
theorem d26_16 : decode jdk_65_method_132_code 16 = .ok (.areturn, 1) := by decide +kernel
theorem ef_26_vvv (m : MethodId) (x0 : Addr) (x1 : Int32) (x2 : Int32) : entryFrame m #[(.ref x0), (.int x1), (.int x2)] 3 = mkF m 0 #[.val (.ref x0), .val (.int x1), .val (.int x2)] [] := by first | (simp [entryFrame, mkF, argsToLocals, Value.category]; done) | rfl
def Qr26_1 (Z : State) (a532 : Addr) (p533 : Int32) (p534 : Int32) (k535 : ClassId) (u536 : Nat → Int32) (p537 : Int32) (h0 : Heap) (n0 : Nat) (v : Option Value) (h : Heap) (L : List Loc) : Prop := Fr n0 L ∧ ∃ b558_0 : Addr, ∃ k558_0 : ClassId, v = some (.ref b558_0) ∧ h0.size ≤ b558_0 ∧ KSx h0 h [] [] ∧ Exa Z h b558_0 "[B" ∧ BA Z h b558_0 k558_0 .byte (p534 - p533) (fun i => if ((0 : Int32)).toNatClampNeg ≤ i ∧ i < ((0 : Int32)).toNatClampNeg + ((p534 - p533)).toNatClampNeg then u536 ((p533).toNatClampNeg + (i - ((0 : Int32)).toNatClampNeg)) else (fun _ => (0 : Int32)) i)
theorem r26_1 (l : Launch) (Z : State) (a0 : Array Value) (hw : ∀ d ∈ tables_1, d.before a0 Z = true) (a532 : Addr) (p533 : Int32) (p534 : Int32) (k535 : ClassId) (u536 : Nat → Int32) (p537 : Int32) (h0 : Heap) (n0 : Nat) (Z0 : n0 ≤ h0.size) (H0 : p533 = (0 : Int32)) (H1 : BA Z h0 a532 k535 .byte p537 u536) (H2 : ¬ (p534 = p537)) (H3 : ¬ (p534 < p533)) (H4 : ¬ ((p534 - p533) < (0 : Int32))) (H5 : ¬ ((34 : Int32) < (p534 - p533))) (H6 : (p534 - p533) < (p537 - p533)) (H7 : ¬ (p533 < (0 : Int32))) (H8 : (p533).toNatClampNeg + ((p534 - p533)).toNatClampNeg ≤ (p537).toNatClampNeg) (H9 : ((0 : Int32)).toNatClampNeg + ((p534 - p533)).toNatClampNeg ≤ ((p534 - p533)).toNatClampNeg) :
   OMet l Z mN22 jdk_65_method_132_code 3 (some (.array .byte)) [] ({ frames := 2, cells := 1, slots := 34, locals := 34 } : Room) h0 #[(.ref a532), (.int p533), (.int p534)] (Qr26_1 Z a532 p533 p534 k535 u536 p537 h0 n0) := by
 refine MetFree.of_bodySF (plainFor_of_name pn_java_util_Arrays) hisR ?_
 intro p e s m args below meth c s₁ Bd hml0 hP hK
 obtain ⟨rfl, hZ, hh⟩ := hP
 have hx := Bd.exec
 have hby := Bd.bytes
 have hml : c.maxLocals = 3 := hml0
 have hown : s.vm.findClass "java/util/Arrays" = some m.cls := findClass_of_methodNamed Bd.named
 have hnm := (name_of_methodNamed Bd.named Bd.method).1
 have X0 : Stand p l e ({ frames := 2, cells := 1, slots := 34, locals := 34 } : Room) s m #[(.ref a532), (.int p533), (.int p534)] below meth c s₁ [] 0 0 := Stand.of_body Bd
 have e0 : s₁.heap = h0 := by rw [← hh, Bd.state]; rfl
 have N0 := Fr.nil n0
 have pre0 : ∀ t, Steps p.tables e below (s₁.setTop (mkF m 0 #[vR a532, vI p533, vI p534] [])) t → Steps p.tables e below (s₁.setTop (entryFrame m #[(.ref a532), (.int p533), (.int p534)] 3)) t := fun t k => castTop (ef_26_vvv m a532 p533 p534) k
 have vc538 := H1
 obtain ⟨cl538, Ar538, q538, S538, N538, Hh538, G538⟩ := vc538
 obtain ⟨_, _, ⟨T558, L558, k558, n558⟩, -, X558, ⟨Lc558, hQ558, l558, y558, z558⟩, st558⟩ := Jvm.LawKit.callS X0 hx (y := mN21) hown (mvT hZ (tw hw 156 rfl)) (mvT hZ (tw hw 157 rfl)) (mvT hZ (tw hw 154 rfl)) (mvT hZ (tw hw 158 rfl)) (by decide) (backOf (W := 0) (r27_1 l Z a0 hw a532 p533 p534 k535 u536 p537 h0 n0 Z0 H3 H4 H5 H1 H6 H7 H8 H9) hZ (tw hw 158 rfl) (tw hw 154 rfl) (by decide) (by decide)) (g := (mkF m 13 #[vR a532, vI p533, vI p534] [(.int p534), (.int p533), (.ref a532)])) rfl (by rw [hml]; rfl) (argsL := [(.ref a532), (.int p533), (.int p534)]) (rest := []) (lenOf pd_14 rfl) rfl (own_w _) (hb hby d26_13) (fun _ _ => ⟨rfl, e0, (by decide : 0 + 1 ≤ _), (by decide : 0 + 34 ≤ _)⟩)
 dsimp only [Pt.U, Pt.locs, Pt.cells, Pt.slots] at X558 l558 y558 z558 st558 hQ558
 replace X558 := own_mvX X558 (a := 1) (b := 34) y558 z558
 obtain ⟨N558q, b558_0, k558_0, rfl, ge_b558_0, K558, o558_0, o558_1⟩ := hQ558
 have N558 := own_mvN l558 N0 N558q
 have KC558 := KSx.trans (KSx.refl h0 [] []) K558 ks0 all0
 obtain ⟨fs, hr, hrun, hended, hW, hsame⟩ := X558.leave (v := some (.ref b558_0)) (fun h => by rw [Bd.returns] at h; cases h)
 refine ⟨_, _, pre0 _ ?_, hrun, hended, _, _, rfl, ?_, ⟨_, rfl⟩, hW, hsame.mono (by decide) (by decide)⟩
 · show SG p e below s₁ (mkF m 0 #[vR a532, vI p533, vI p534] []) _
   refine XS.iloadN X0.here hx rfl (hb hby d26_0) rfl ?_
   show SG p e below s₁ (mkF m 1 #[vR a532, vI p533, vI p534] [(.int p533)]) _
   refine XS.ifNo X0.here hx rfl (hb hby d26_1) rfl ((if0 _ _).trans (teq H0).2) ?_
   show SG p e below s₁ (mkF m 4 #[vR a532, vI p533, vI p534] []) _
   refine XS.iloadN X0.here hx rfl (hb hby d26_4) rfl ?_
   show SG p e below s₁ (mkF m 5 #[vR a532, vI p533, vI p534] [(.int p534)]) _
   refine XS.aloadN X0.here hx rfl (hb hby d26_5) rfl rfl ?_
   show SG p e below s₁ (mkF m 6 #[vR a532, vI p533, vI p534] [(.ref a532), (.int p534)]) _
   refine X0.arraylength hx (by rw [e0]; exact Ar538.1) (State.isArrayOf_alike hZ.alike Ar538.2.1) (g := (mkF m 6 #[vR a532, vI p533, vI p534] [(.ref a532), (.int p534)])) rfl rfl (hb hby d26_6) _ ?_
   rw [len_of S538 N538]
   show SG p e below s₁ (mkF m 7 #[vR a532, vI p533, vI p534] [(.int p537), (.int p534)]) _
   refine XS.icmpNo X0.here hx rfl (hb hby d26_7) rfl (feq H2).1 ?_
   show SG p e below s₁ (mkF m 10 #[vR a532, vI p533, vI p534] []) _
   refine XS.aloadN X0.here hx rfl (hb hby d26_10) rfl rfl ?_
   show SG p e below s₁ (mkF m 11 #[vR a532, vI p533, vI p534] [(.ref a532)]) _
   refine XS.iloadN X0.here hx rfl (hb hby d26_11) rfl ?_
   show SG p e below s₁ (mkF m 12 #[vR a532, vI p533, vI p534] [(.int p533), (.ref a532)]) _
   refine XS.iloadN X0.here hx rfl (hb hby d26_12) rfl ?_
   show SG p e below s₁ (mkF m 13 #[vR a532, vI p533, vI p534] [(.int p534), (.int p533), (.ref a532)]) _
   refine st558 _ ?_
   show SG p e below T558 (mkF m 16 #[vR a532, vI p533, vI p534] [(.ref b558_0)]) _
   jvm_step X558.here [X558.here.top, hx, (hb hby d26_16), X558.method', Bd.returns, Value.isRef, FieldType.isReference]
   first | (intro acts; rw [hr _ acts rfl rfl rfl]) | rw [hr _ _ rfl rfl rfl]
   exact Steps.refl _
 · show Qr26_1 Z a532 p533 p534 k535 u536 p537 h0 n0 _ T558.heap _
   exact ⟨N558, b558_0, k558_0, rfl, (Nat.le_trans (KSx.refl h0 [] []).1 ge_b558_0), KC558, o558_0, o558_1⟩
theorem d22_35 : decode jdk_42_method_150_code 35 = .ok (.putfield 9, 3) := by decide +kernel
theorem d22_38 : decode jdk_42_method_150_code 38 = .ok (.goto 59, 3) := by decide +kernel
theorem d22_97 : decode jdk_42_method_150_code 97 = .ok (.return_, 1) := by decide +kernel
theorem ef_22_vvn (m : MethodId) (x0 : Addr) (x1 : Addr) : entryFrame m #[(.ref x0), (.ref x1), .null] 5 = mkF m 0 #[.val (.ref x0), .val (.ref x1), .val .null, .unset, .unset] [] := by first | (simp [entryFrame, mkF, argsToLocals, Value.category]; done) | rfl
def Qr22_1 (Z : State) (a506 : Addr) (a507 : Addr) (w513 : Addr) (w521 : Int32) (w528 : Int32) (w529 : Int32) (w530 : Int32) (k560 : ClassId) (u561 : Nat → Int32) (p562 : Int32) (h0 : Heap) (n0 : Nat) (v : Option Value) (h : Heap) (L : List Loc) : Prop := Fr n0 L ∧ ∃ b559_0 : Addr, ∃ k559_0 : ClassId, v = none ∧ h0.size ≤ b559_0 ∧ KSx h0 h [(a506, Jvm.RoadKit.slotOf Z "java/lang/String" "coder" "B"), (a506, Jvm.RoadKit.slotOf Z "java/lang/String" "value" "[B")] [] ∧ Exa Z h b559_0 "[B" ∧ Fld Z h a506 "java/lang/String" "coder" "B" (.int (0 : Int32)) ∧ Fld Z h a506 "java/lang/String" "value" "[B" (.ref b559_0) ∧ BA Z h b559_0 k559_0 .byte (w521 - (0 : Int32)) (fun i => if ((0 : Int32)).toNatClampNeg ≤ i ∧ i < ((0 : Int32)).toNatClampNeg + ((w521 - (0 : Int32))).toNatClampNeg then u561 (((0 : Int32)).toNatClampNeg + (i - ((0 : Int32)).toNatClampNeg)) else (fun _ => (0 : Int32)) i)
theorem r22_1 (l : Launch) (Z : State) (a0 : Array Value) (hw : ∀ d ∈ tables_1, d.before a0 Z = true) (a506 : Addr) (a507 : Addr) (w513 : Addr) (w521 : Int32) (w528 : Int32) (w529 : Int32) (w530 : Int32) (k560 : ClassId) (u561 : Nat → Int32) (p562 : Int32) (h0 : Heap) (n0 : Nat) (Z0 : n0 ≤ h0.size) (H0 : Fld Z h0 a507 "java/lang/AbstractStringBuilder" "value" "[B" (.ref w513)) (H1 : Exa Z h0 a507 "java/lang/StringBuilder") (H2 : Fld Z h0 a507 "java/lang/AbstractStringBuilder" "count" "I" (.int w521)) (H3 : Sta Z h0 "java/lang/String" "COMPACT_STRINGS" "Z" (.int w528)) (H4 : ¬ (w528 = (0 : Int32))) (H5 : Fld Z h0 a507 "java/lang/AbstractStringBuilder" "coder" "B" (.int w529)) (H6 : w529 = (0 : Int32)) (H7 : Exa Z h0 a506 "java/lang/String") (H8 : Fld Z h0 a506 "java/lang/String" "coder" "B" (.int w530)) (H9 : n0 ≤ a506) (H10 : BA Z h0 w513 k560 .byte p562 u561) (H11 : w513 ≠ a506) (H12 : ¬ (w521 = p562)) (H13 : ¬ (w521 < (0 : Int32))) (H14 : ¬ ((w521 - (0 : Int32)) < (0 : Int32))) (H15 : ¬ ((34 : Int32) < (w521 - (0 : Int32)))) (H16 : (w521 - (0 : Int32)) < (p562 - (0 : Int32))) (H17 : ((0 : Int32)).toNatClampNeg + ((w521 - (0 : Int32))).toNatClampNeg ≤ (p562).toNatClampNeg) (H18 : ((0 : Int32)).toNatClampNeg + ((w521 - (0 : Int32))).toNatClampNeg ≤ ((w521 - (0 : Int32))).toNatClampNeg) (H19 : Fld Z h0 a506 "java/lang/String" "value" "[B" .null) :
   OMet l Z mN23 jdk_42_method_150_code 5 none [] ({ frames := 3, cells := 1, slots := 34, locals := 49 } : Room) h0 #[(.ref a506), (.ref a507), .null] (Qr22_1 Z a506 a507 w513 w521 w528 w529 w530 k560 u561 p562 h0 n0) := by
 refine MetFree.of_bodySF (plainFor_of_name pn_java_lang_String) hisR ?_
 intro p e s m args below meth c s₁ Bd hml0 hP hK
 obtain ⟨rfl, hZ, hh⟩ := hP
 have hx := Bd.exec
 have hby := Bd.bytes
 have hml : c.maxLocals = 5 := hml0
 have hown : s.vm.findClass "java/lang/String" = some m.cls := findClass_of_methodNamed Bd.named
 have hnm := (name_of_methodNamed Bd.named Bd.method).1
 have X0 : Stand p l e ({ frames := 3, cells := 1, slots := 34, locals := 49 } : Room) s m #[(.ref a506), (.ref a507), .null] below meth c s₁ [] 0 0 := Stand.of_body Bd
 have e0 : s₁.heap = h0 := by rw [← hh, Bd.state]; rfl
 have N0 := Fr.nil n0
 have pre0 : ∀ t, Steps p.tables e below (s₁.setTop (mkF m 0 #[vR a506, vR a507, .val .null, .unset, .unset] [])) t → Steps p.tables e below (s₁.setTop (entryFrame m #[(.ref a506), (.ref a507), .null] 5)) t := fun t k => castTop (ef_22_vvn m a506 a507) k
 obtain ⟨T508, X508, e508, st508⟩ := initO X0 hx hZ hown (tw hw 137 rfl) (tw hw 12 rfl) (tw hw 13 rfl) e0 (g := (mkF m 1 #[vR a506, vR a507, .val .null, vU, vU] [(.ref a506)])) rfl (by rw [hml]; rfl) rfl (hb hby d22_1) (by decide) (W := 0) (own_w _) (by decide)
 obtain ⟨cq512, kq512, q512a, q512b, q512c⟩ := isOf hZ e508 H1
 obtain ⟨_, _, ⟨T512, L512, k512, n512⟩, -, X512, ⟨Lc512, hQ512, l512, y512, z512⟩, st512⟩ := X508.virtualBack hx (y := mN14) (z := mN14) hown (mvT hZ (tw hw 138 rfl)) (mvT hZ (tw hw 139 rfl)) (notFace_of_selects (args := #[]) (mvT hZ (tw hw 141 rfl))) (mvT hZ (tw hw 141 rfl)) (mvT hZ (tw hw 140 rfl)) (by decide) (backOf (W := 0) (r23_1 l Z a0 hw a507 w513 h0 n0 Z0 H0) hZ (tw hw 142 rfl) (tw hw 33 rfl) (by decide) (by decide)) q512a q512c (g := (mkF m 5 #[vR a506, vR a507, .val .null, vU, vU] [(.ref a507)])) rfl (by rw [hml]; rfl) (Steps.refl _) (argsL := []) (rest := []) (lenOf pd_12 rfl) rfl (own_w _) (hb hby d22_5) (fun _ _ => ⟨rfl, e508, (by decide : 0 + 0 ≤ _), (by decide : 0 + 0 ≤ _)⟩)
 dsimp only [Pt.U, Pt.locs, Pt.cells, Pt.slots] at X512 l512 y512 z512 st512 hQ512
 replace X512 := own_mvX X512 (a := 0) (b := 0) y512 z512
 obtain ⟨rfl, N512q, e512⟩ := hQ512
 have N512 := own_mvN l512 N0 N512q
 obtain ⟨cq520, kq520, q520a, q520b, q520c⟩ := isOf hZ e512 H1
 obtain ⟨_, _, ⟨T520, L520, k520, n520⟩, -, X520, ⟨Lc520, hQ520, l520, y520, z520⟩, st520⟩ := X512.virtualBack hx (y := mN15) (z := mN17) hown (mvT hZ (tw hw 143 rfl)) (mvT hZ (tw hw 144 rfl)) (own_nf (w := mN16) (args := #[]) rfl (mvT hZ (tw hw 77 rfl))) (mvT hZ (tw hw 146 rfl)) (mvT hZ (tw hw 147 rfl)) (by decide) (backOf (W := 0) (r24_1 l Z a0 hw a507 w521 h0 n0 Z0 H2 H1) hZ (tw hw 148 rfl) (tw hw 25 rfl) (by decide) (by decide)) q520a q520c (g := (mkF m 10 #[vR a506, vR a507, .val .null, vR w513, vU] [(.ref a507)])) rfl (by rw [hml]; rfl) (Steps.refl _) (argsL := []) (rest := []) (lenOf pd_7 rfl) rfl (own_w _) (hb hby d22_10) (fun _ _ => ⟨rfl, e512, (by decide : 0 + 0 ≤ _), (by decide : 0 + 0 ≤ _)⟩)
 dsimp only [Pt.U, Pt.locs, Pt.cells, Pt.slots] at X520 l520 y520 z520 st520 hQ520
 replace X520 := own_mvX X520 (a := 0) (b := 0) y520 z520
 obtain ⟨rfl, N520q, e520⟩ := hQ520
 have N520 := own_mvN l520 N512 N520q
 obtain ⟨cq527, kq527, q527a, q527b, q527c⟩ := isOf hZ e520 H1
 obtain ⟨_, _, ⟨T527, L527, k527, n527⟩, -, X527, ⟨Lc527, hQ527, l527, y527, z527⟩, st527⟩ := X520.virtualBack hx (y := mN18) (z := mN18) hown (mvT hZ (tw hw 151 rfl)) (mvT hZ (tw hw 114 rfl)) (notFace_of_selects (args := #[]) (mvT hZ (tw hw 116 rfl))) (mvT hZ (tw hw 116 rfl)) (mvT hZ (tw hw 115 rfl)) (by decide) (backOf (W := 0) (r18_1 l Z a0 hw a507 w528 w529 h0 n0 Z0 H3 H4 H5 H6) hZ (tw hw 117 rfl) (tw hw 33 rfl) (by decide) (by decide)) q527a q527c (g := (mkF m 16 #[vR a506, vR a507, .val .null, vR w513, vI w521] [(.ref a507)])) rfl (by rw [hml]; rfl) (Steps.refl _) (argsL := []) (rest := []) (lenOf pd_0 rfl) rfl (own_w _) (hb hby d22_16) (fun _ _ => ⟨rfl, e520, (by decide : 0 + 0 ≤ _), (by decide : 0 + 0 ≤ _)⟩)
 dsimp only [Pt.U, Pt.locs, Pt.cells, Pt.slots] at X527 l527 y527 z527 st527 hQ527
 replace X527 := own_mvX X527 (a := 0) (b := 0) y527 z527
 obtain ⟨rfl, N527q, e527⟩ := hQ527
 have N527 := own_mvN l527 N520 N527q
 obtain ⟨T531, h531, X531, e531, W531, st531⟩ := putF X527 hx hZ hown (host := "") (Or.inl (tw hw 71 rfl)) Via.refl e527 H8 H7 (Or.inr ⟨(tw hw 46 rfl), rfl, hnm⟩) (tw hw 44 rfl) (ty := .byte) (by decide) rfl rfl (g := (mkF m 24 #[vR a506, vR a507, .val .null, vR w513, vI w521] [(.int (0 : Int32)), (.ref a506)])) rfl rfl (hb hby d22_24)
 have Fw531 := Fld.same W531 H8
 have KC531 := KSx.wr (KSx.refl h0 [(a506, Jvm.RoadKit.slotOf Z "java/lang/String" "coder" "B"), (a506, Jvm.RoadKit.slotOf Z "java/lang/String" "value" "[B")] []) W531 (Or.inl (List.mem_of_getElem? (i := 0) rfl))
 have N531 := Fr.snoc X531 N527 H9
 have f563 := (H10.other W531 H11)
 have Z531 : n0 ≤ h531.size := Nat.le_trans Z0 (Nat.le_of_eq W531.size.symm)
 obtain ⟨_, _, ⟨T559, L559, k559, n559⟩, -, X559, ⟨Lc559, hQ559, l559, y559, z559⟩, st559⟩ := Jvm.LawKit.callS X531 hx (y := mN22) hown (mvT hZ (tw hw 152 rfl)) (mvT hZ (tw hw 153 rfl)) (mvT hZ (tw hw 154 rfl)) (mvT hZ (tw hw 155 rfl)) (by decide) (backOf (W := 1) (r26_1 l Z a0 hw w513 (0 : Int32) w521 k560 u561 p562 h531 n0 Z531 rfl f563 H12 H13 H14 H15 H16 (by first | decide | rfl) H17 H18) hZ (tw hw 155 rfl) (tw hw 154 rfl) (by decide) (by decide)) (g := (mkF m 32 #[vR a506, vR a507, .val .null, vR w513, vI w521] [(.int w521), (.int (0 : Int32)), (.ref w513), (.ref a506)])) rfl (by rw [hml]; rfl) (argsL := [(.ref w513), (.int (0 : Int32)), (.int w521)]) (rest := [(.ref a506)]) (lenOf pd_14 rfl) rfl (own_w _) (hb hby d22_32) (fun _ _ => ⟨rfl, e531, (by decide : 0 + 1 ≤ _), (by decide : 0 + 34 ≤ _)⟩)
 dsimp only [Pt.U, Pt.locs, Pt.cells, Pt.slots] at X559 l559 y559 z559 st559 hQ559
 replace X559 := own_mvX X559 (a := 1) (b := 34) y559 z559
 obtain ⟨N559q, b559_0, k559_0, rfl, ge_b559_0, K559, o559_0, o559_1⟩ := hQ559
 have N559 := own_mvN l559 N531 N559q
 have KC559 := KSx.trans KC531 K559 ks0 all0
 have f564 := ((H7.wr W531).ks K559)
 have f565 := ((H19.other W531 (Or.inr (slot_ne (Or.inr (tw hw 45 rfl)) (Or.inr (tw hw 46 rfl)) (by decide) (t := (.array .byte)) (t' := .byte) (by decide) (by decide)))).ks K559 ks0 all0)
 obtain ⟨T566, h566, X566, e566, W566, st566⟩ := putF X559 hx hZ hown (host := "") (Or.inl (tw hw 64 rfl)) Via.refl rfl f565 f564 (Or.inr ⟨(tw hw 45 rfl), rfl, hnm⟩) (tw hw 44 rfl) (ty := (.array .byte)) (by decide) rfl rfl (g := (mkF m 35 #[vR a506, vR a507, .val .null, vR w513, vI w521] [(.ref b559_0), (.ref a506)])) rfl rfl (hb hby d22_35)
 have Fw566 := Fld.same W566 f565
 have KC566 := KSx.wr KC559 W566 (Or.inl (List.mem_of_getElem? (i := 1) rfl))
 have N566 := Fr.snoc X566 N559 H9
 have f567 := (o559_0.wr W566)
 have f568 := ((Fw531.ks K559 ks0 all0).other W566 (Or.inr (slot_ne (Or.inr (tw hw 46 rfl)) (Or.inr (tw hw 45 rfl)) (by decide) (t := .byte) (t' := (.array .byte)) (by decide) (by decide))))
 have f569 := (H7.wr W531)
 have ne570 : a506 ≠ b559_0 := (Nat.ne_of_lt (Nat.lt_of_lt_of_le (f569).lt ge_b559_0))
 have f571 := (o559_1.other W566 (Ne.symm ne570))
 obtain ⟨fs, hr, hrun, hended, hW, hsame⟩ := X566.leave (v := none) (fun _ => rfl)
 refine ⟨_, _, pre0 _ ?_, hrun, hended, _, _, rfl, ?_, ⟨_, rfl⟩, hW, hsame.mono (by decide) (by decide)⟩
 · show SG p e below s₁ (mkF m 0 #[vR a506, vR a507, .val .null, vU, vU] []) _
   refine XS.aloadN X0.here hx rfl (hb hby d22_0) rfl rfl ?_
   show SG p e below s₁ (mkF m 1 #[vR a506, vR a507, .val .null, vU, vU] [(.ref a506)]) _
   refine st508 _ ?_
   show SG p e below T508 (mkF m 4 #[vR a506, vR a507, .val .null, vU, vU] []) _
   refine XS.aloadN X508.here hx rfl (hb hby d22_4) rfl rfl ?_
   show SG p e below T508 (mkF m 5 #[vR a506, vR a507, .val .null, vU, vU] [(.ref a507)]) _
   refine st512.trans ?_
   show SG p e below T512 (mkF m 8 #[vR a506, vR a507, .val .null, vU, vU] [(.ref w513)]) _
   refine XS.astoreN X512.here hx rfl (hb hby d22_8) rfl rfl (l' := #[vR a506, vR a507, .val .null, vR w513, vU]) rfl ?_
   show SG p e below T512 (mkF m 9 #[vR a506, vR a507, .val .null, vR w513, vU] []) _
   refine XS.aloadN X512.here hx rfl (hb hby d22_9) rfl rfl ?_
   show SG p e below T512 (mkF m 10 #[vR a506, vR a507, .val .null, vR w513, vU] [(.ref a507)]) _
   refine st520.trans ?_
   show SG p e below T520 (mkF m 13 #[vR a506, vR a507, .val .null, vR w513, vU] [(.int w521)]) _
   refine XS.istore X520.here hx rfl (hb hby d22_13) rfl (l' := #[vR a506, vR a507, .val .null, vR w513, vI w521]) rfl ?_
   show SG p e below T520 (mkF m 15 #[vR a506, vR a507, .val .null, vR w513, vI w521] []) _
   refine XS.aloadN X520.here hx rfl (hb hby d22_15) rfl rfl ?_
   show SG p e below T520 (mkF m 16 #[vR a506, vR a507, .val .null, vR w513, vI w521] [(.ref a507)]) _
   refine st527.trans ?_
   show SG p e below T527 (mkF m 19 #[vR a506, vR a507, .val .null, vR w513, vI w521] [(.int (1 : Int32))]) _
   refine XS.ifNo X527.here hx rfl (hb hby d22_19) rfl ((if0 _ _).trans (feq (by decide : ¬ ((1 : Int32) = (0 : Int32)))).1) ?_
   show SG p e below T527 (mkF m 22 #[vR a506, vR a507, .val .null, vR w513, vI w521] []) _
   refine XS.aloadN X527.here hx rfl (hb hby d22_22) rfl rfl ?_
   show SG p e below T527 (mkF m 23 #[vR a506, vR a507, .val .null, vR w513, vI w521] [(.ref a506)]) _
   refine XS.iconst X527.here hx rfl (hb hby d22_23) ?_
   show SG p e below T527 (mkF m 24 #[vR a506, vR a507, .val .null, vR w513, vI w521] [(.int (0 : Int32)), (.ref a506)]) _
   refine st531 _ ?_
   show SG p e below T531 (mkF m 27 #[vR a506, vR a507, .val .null, vR w513, vI w521] []) _
   refine XS.aloadN X531.here hx rfl (hb hby d22_27) rfl rfl ?_
   show SG p e below T531 (mkF m 28 #[vR a506, vR a507, .val .null, vR w513, vI w521] [(.ref a506)]) _
   refine XS.aloadN X531.here hx rfl (hb hby d22_28) rfl rfl ?_
   show SG p e below T531 (mkF m 29 #[vR a506, vR a507, .val .null, vR w513, vI w521] [(.ref w513), (.ref a506)]) _
   refine XS.iconst X531.here hx rfl (hb hby d22_29) ?_
   show SG p e below T531 (mkF m 30 #[vR a506, vR a507, .val .null, vR w513, vI w521] [(.int (0 : Int32)), (.ref w513), (.ref a506)]) _
   refine XS.iload X531.here hx rfl (hb hby d22_30) rfl ?_
   show SG p e below T531 (mkF m 32 #[vR a506, vR a507, .val .null, vR w513, vI w521] [(.int w521), (.int (0 : Int32)), (.ref w513), (.ref a506)]) _
   refine st559 _ ?_
   show SG p e below T559 (mkF m 35 #[vR a506, vR a507, .val .null, vR w513, vI w521] [(.ref b559_0), (.ref a506)]) _
   refine st566 _ ?_
   show SG p e below T566 (mkF m 38 #[vR a506, vR a507, .val .null, vR w513, vI w521] []) _
   refine XS.goto X566.here hx rfl (pc0 := 38) (pc' := 97) rfl (hb hby d22_38) (by decide) (by decide) ?_
   show SG p e below T566 (mkF m 97 #[vR a506, vR a507, .val .null, vR w513, vI w521] []) _
   exact X566.returnOut hx Bd.returns (hb hby d22_97) hr
 · show Qr22_1 Z a506 a507 w513 w521 w528 w529 w530 k560 u561 p562 h0 n0 _ T566.heap _
   rw [e566]
   exact ⟨N566, b559_0, k559_0, rfl, (Nat.le_trans KC531.1 ge_b559_0), KC566, f567, f568, Fw566, f571⟩
theorem pd_15 : parseMethodDescriptor "(Ljava/lang/AbstractStringBuilder;Ljava/lang/Void;)V" = some ⟨[(.object "java/lang/AbstractStringBuilder"), (.object "java/lang/Void")], none⟩ := by decide +kernel
theorem d21_6 : decode jdk_42_method_53_code 6 = .ok (.return_, 1) := by decide +kernel
theorem ef_21_vv (m : MethodId) (x0 : Addr) (x1 : Addr) : entryFrame m #[(.ref x0), (.ref x1)] 2 = mkF m 0 #[.val (.ref x0), .val (.ref x1)] [] := by first | (simp [entryFrame, mkF, argsToLocals, Value.category]; done) | rfl
def Qr21_1 (Z : State) (a504 : Addr) (a505 : Addr) (w573 : Addr) (w574 : Int32) (w575 : Int32) (w576 : Int32) (w577 : Int32) (k578 : ClassId) (u579 : Nat → Int32) (p580 : Int32) (h0 : Heap) (n0 : Nat) (v : Option Value) (h : Heap) (L : List Loc) : Prop := Fr n0 L ∧ ∃ b572_0 : Addr, ∃ k572_0 : ClassId, v = none ∧ h0.size ≤ b572_0 ∧ KSx h0 h [(a504, Jvm.RoadKit.slotOf Z "java/lang/String" "value" "[B"), (a504, Jvm.RoadKit.slotOf Z "java/lang/String" "coder" "B")] [] ∧ Exa Z h b572_0 "[B" ∧ Fld Z h a504 "java/lang/String" "coder" "B" (.int (0 : Int32)) ∧ Fld Z h a504 "java/lang/String" "value" "[B" (.ref b572_0) ∧ BA Z h b572_0 k572_0 .byte (w574 - (0 : Int32)) (fun i => if ((0 : Int32)).toNatClampNeg ≤ i ∧ i < ((0 : Int32)).toNatClampNeg + ((w574 - (0 : Int32))).toNatClampNeg then u579 (((0 : Int32)).toNatClampNeg + (i - ((0 : Int32)).toNatClampNeg)) else (fun _ => (0 : Int32)) i)
theorem r21_1 (l : Launch) (Z : State) (a0 : Array Value) (hw : ∀ d ∈ tables_1, d.before a0 Z = true) (a504 : Addr) (a505 : Addr) (w573 : Addr) (w574 : Int32) (w575 : Int32) (w576 : Int32) (w577 : Int32) (k578 : ClassId) (u579 : Nat → Int32) (p580 : Int32) (h0 : Heap) (n0 : Nat) (Z0 : n0 ≤ h0.size) (H0 : Fld Z h0 a505 "java/lang/AbstractStringBuilder" "value" "[B" (.ref w573)) (H1 : Exa Z h0 a505 "java/lang/StringBuilder") (H2 : Fld Z h0 a505 "java/lang/AbstractStringBuilder" "count" "I" (.int w574)) (H3 : Sta Z h0 "java/lang/String" "COMPACT_STRINGS" "Z" (.int w575)) (H4 : ¬ (w575 = (0 : Int32))) (H5 : Fld Z h0 a505 "java/lang/AbstractStringBuilder" "coder" "B" (.int w576)) (H6 : w576 = (0 : Int32)) (H7 : Exa Z h0 a504 "java/lang/String") (H8 : Fld Z h0 a504 "java/lang/String" "coder" "B" (.int w577)) (H9 : n0 ≤ a504) (H10 : BA Z h0 w573 k578 .byte p580 u579) (H11 : w573 ≠ a504) (H12 : ¬ (w574 = p580)) (H13 : ¬ (w574 < (0 : Int32))) (H14 : ¬ ((w574 - (0 : Int32)) < (0 : Int32))) (H15 : ¬ ((34 : Int32) < (w574 - (0 : Int32)))) (H16 : (w574 - (0 : Int32)) < (p580 - (0 : Int32))) (H17 : ((0 : Int32)).toNatClampNeg + ((w574 - (0 : Int32))).toNatClampNeg ≤ (p580).toNatClampNeg) (H18 : ((0 : Int32)).toNatClampNeg + ((w574 - (0 : Int32))).toNatClampNeg ≤ ((w574 - (0 : Int32))).toNatClampNeg) (H19 : Fld Z h0 a504 "java/lang/String" "value" "[B" .null) :
   OMet l Z mN24 jdk_42_method_53_code 2 none [] ({ frames := 4, cells := 1, slots := 34, locals := 65 } : Room) h0 #[(.ref a504), (.ref a505)] (Qr21_1 Z a504 a505 w573 w574 w575 w576 w577 k578 u579 p580 h0 n0) := by
 refine MetFree.of_bodySF (plainFor_of_name pn_java_lang_String) hisR ?_
 intro p e s m args below meth c s₁ Bd hml0 hP hK
 obtain ⟨rfl, hZ, hh⟩ := hP
 have hx := Bd.exec
 have hby := Bd.bytes
 have hml : c.maxLocals = 2 := hml0
 have hown : s.vm.findClass "java/lang/String" = some m.cls := findClass_of_methodNamed Bd.named
 have hnm := (name_of_methodNamed Bd.named Bd.method).1
 have X0 : Stand p l e ({ frames := 4, cells := 1, slots := 34, locals := 65 } : Room) s m #[(.ref a504), (.ref a505)] below meth c s₁ [] 0 0 := Stand.of_body Bd
 have e0 : s₁.heap = h0 := by rw [← hh, Bd.state]; rfl
 have N0 := Fr.nil n0
 have pre0 : ∀ t, Steps p.tables e below (s₁.setTop (mkF m 0 #[vR a504, vR a505] [])) t → Steps p.tables e below (s₁.setTop (entryFrame m #[(.ref a504), (.ref a505)] 2)) t := fun t k => castTop (ef_21_vv m a504 a505) k
 obtain ⟨_, _, ⟨T572, L572, k572, n572⟩, -, X572, ⟨Lc572, hQ572, l572, y572, z572⟩, st572⟩ := X0.specialBack hx (y := mN23) rfl hown (mvT hZ (tw hw 134 rfl)) (mvT hZ (tw hw 135 rfl)) (mvT hZ (tw hw 136 rfl)) (by decide) (backOf (W := 0) (r22_1 l Z a0 hw a504 a505 w573 w574 w575 w576 w577 k578 u579 p580 h0 n0 Z0 H0 H1 H2 H3 H4 H5 H6 H7 H8 H9 H10 H11 H12 H13 H14 H15 H16 H17 H18 H19) hZ (tw hw 136 rfl) (tw hw 37 rfl) (by decide) (by decide)) (g := (mkF m 3 #[vR a504, vR a505] [.null, (.ref a505), (.ref a504)])) rfl (by rw [hml]; rfl) (Steps.refl _) (a := a504) (argsL := [(.ref a505), .null]) (rest := []) (lenOf pd_15 rfl) rfl (own_w _) (hb hby d21_3) (fun _ _ => ⟨rfl, e0, (by decide : 0 + 1 ≤ _), (by decide : 0 + 34 ≤ _)⟩)
 dsimp only [Pt.U, Pt.locs, Pt.cells, Pt.slots] at X572 l572 y572 z572 st572 hQ572
 replace X572 := own_mvX X572 (a := 1) (b := 34) y572 z572
 obtain ⟨N572q, b572_0, k572_0, rfl, ge_b572_0, K572, o572_0, o572_1, o572_2, o572_3⟩ := hQ572
 have N572 := own_mvN l572 N0 N572q
 have KC572 := KSx.trans (KSx.refl h0 [(a504, Jvm.RoadKit.slotOf Z "java/lang/String" "value" "[B"), (a504, Jvm.RoadKit.slotOf Z "java/lang/String" "coder" "B")] []) K572 (ksS (Or.inl (List.mem_of_getElem? (i := 1) rfl)) (ksS (Or.inl (List.mem_of_getElem? (i := 0) rfl)) ks0)) all0
 obtain ⟨fs, hr, hrun, hended, hW, hsame⟩ := X572.leave (v := none) (fun _ => rfl)
 refine ⟨_, _, pre0 _ ?_, hrun, hended, _, _, rfl, ?_, ⟨_, rfl⟩, hW, hsame.mono (by decide) (by decide)⟩
 · show SG p e below s₁ (mkF m 0 #[vR a504, vR a505] []) _
   refine XS.aloadN X0.here hx rfl (hb hby d21_0) rfl rfl ?_
   show SG p e below s₁ (mkF m 1 #[vR a504, vR a505] [(.ref a504)]) _
   refine XS.aloadN X0.here hx rfl (hb hby d21_1) rfl rfl ?_
   show SG p e below s₁ (mkF m 2 #[vR a504, vR a505] [(.ref a505), (.ref a504)]) _
   refine XS.aconstNull X0.here hx rfl (hb hby d21_2) ?_
   show SG p e below s₁ (mkF m 3 #[vR a504, vR a505] [.null, (.ref a505), (.ref a504)]) _
   refine st572.trans ?_
   show SG p e below T572 (mkF m 6 #[vR a504, vR a505] []) _
   exact X572.returnOut hx Bd.returns (hb hby d21_6) hr
 · show Qr21_1 Z a504 a505 w573 w574 w575 w576 w577 k578 u579 p580 h0 n0 _ T572.heap _
   exact ⟨N572, b572_0, k572_0, rfl, (Nat.le_trans (KSx.refl h0 [(a504, Jvm.RoadKit.slotOf Z "java/lang/String" "value" "[B"), (a504, Jvm.RoadKit.slotOf Z "java/lang/String" "coder" "B")] []).1 ge_b572_0), KC572, o572_0, o572_1, o572_2, o572_3⟩
theorem pd_16 : parseMethodDescriptor "(Ljava/lang/StringBuilder;)V" = some ⟨[(.object "java/lang/StringBuilder")], none⟩ := by decide +kernel
theorem d20_8 : decode jdk_67_method_42_code 8 = .ok (.areturn, 1) := by decide +kernel
theorem ef_20_v (m : MethodId) (x0 : Addr) : entryFrame m #[(.ref x0)] 1 = mkF m 0 #[.val (.ref x0)] [] := by first | (simp [entryFrame, mkF, argsToLocals, Value.category]; done) | rfl
def Qr20_1 (Z : State) (a502 : Addr) (w582 : Addr) (w585 : Int32) (w587 : Int32) (w589 : Int32) (k592 : ClassId) (u593 : Nat → Int32) (p594 : Int32) (h0 : Heap) (n0 : Nat) (v : Option Value) (h : Heap) (L : List Loc) : Prop := Fr n0 L ∧ ∃ b503 b581_0 : Addr, ∃ k581_0 : ClassId, v = some (.ref b503) ∧ h0.size ≤ b503 ∧ h0.size ≤ b581_0 ∧ KSx h0 h [] [] ∧ Exa Z h b503 "java/lang/String" ∧ Exa Z h b581_0 "[B" ∧ Fld Z h b503 "java/lang/String" "value" "[B" (.ref b581_0) ∧ Fld Z h b503 "java/lang/String" "coder" "B" (.int (0 : Int32)) ∧ BA Z h b581_0 k581_0 .byte (w585 - (0 : Int32)) (fun i => if ((0 : Int32)).toNatClampNeg ≤ i ∧ i < ((0 : Int32)).toNatClampNeg + ((w585 - (0 : Int32))).toNatClampNeg then u593 (((0 : Int32)).toNatClampNeg + (i - ((0 : Int32)).toNatClampNeg)) else (fun _ => (0 : Int32)) i)
theorem r20_1 (l : Launch) (Z : State) (a0 : Array Value) (hw : ∀ d ∈ tables_1, d.before a0 Z = true) (a502 : Addr) (w582 : Addr) (w585 : Int32) (w587 : Int32) (w589 : Int32) (k592 : ClassId) (u593 : Nat → Int32) (p594 : Int32) (h0 : Heap) (n0 : Nat) (Z0 : n0 ≤ h0.size) (H0 : Fld Z h0 a502 "java/lang/AbstractStringBuilder" "value" "[B" (.ref w582)) (H1 : Exa Z h0 a502 "java/lang/StringBuilder") (H2 : Fld Z h0 a502 "java/lang/AbstractStringBuilder" "count" "I" (.int w585)) (H3 : Sta Z h0 "java/lang/String" "COMPACT_STRINGS" "Z" (.int w587)) (H4 : ¬ (w587 = (0 : Int32))) (H5 : Fld Z h0 a502 "java/lang/AbstractStringBuilder" "coder" "B" (.int w589)) (H6 : w589 = (0 : Int32)) (H7 : BA Z h0 w582 k592 .byte p594 u593) (H8 : ¬ (w585 = p594)) (H9 : ¬ (w585 < (0 : Int32))) (H10 : ¬ ((w585 - (0 : Int32)) < (0 : Int32))) (H11 : ¬ ((34 : Int32) < (w585 - (0 : Int32)))) (H12 : (w585 - (0 : Int32)) < (p594 - (0 : Int32))) (H13 : ((0 : Int32)).toNatClampNeg + ((w585 - (0 : Int32))).toNatClampNeg ≤ (p594).toNatClampNeg) (H14 : ((0 : Int32)).toNatClampNeg + ((w585 - (0 : Int32))).toNatClampNeg ≤ ((w585 - (0 : Int32))).toNatClampNeg) :
   OMet l Z mN25 jdk_67_method_42_code 1 (some (.object "java/lang/String")) [] ({ frames := 5, cells := 2, slots := 38, locals := 79 } : Room) h0 #[(.ref a502)] (Qr20_1 Z a502 w582 w585 w587 w589 k592 u593 p594 h0 n0) := by
 refine MetFree.of_bodySF (plainFor_of_name pn_java_lang_StringBuilder) hisR ?_
 intro p e s m args below meth c s₁ Bd hml0 hP hK
 obtain ⟨rfl, hZ, hh⟩ := hP
 have hx := Bd.exec
 have hby := Bd.bytes
 have hml : c.maxLocals = 1 := hml0
 have hown : s.vm.findClass "java/lang/StringBuilder" = some m.cls := findClass_of_methodNamed Bd.named
 have hnm := (name_of_methodNamed Bd.named Bd.method).1
 have X0 : Stand p l e ({ frames := 5, cells := 2, slots := 38, locals := 79 } : Room) s m #[(.ref a502)] below meth c s₁ [] 0 0 := Stand.of_body Bd
 have e0 : s₁.heap = h0 := by rw [← hh, Bd.state]; rfl
 have N0 := Fr.nil n0
 have pre0 : ∀ t, Steps p.tables e below (s₁.setTop (mkF m 0 #[vR a502] [])) t → Steps p.tables e below (s₁.setTop (entryFrame m #[(.ref a502)] 1)) t := fun t k => castTop (ef_20_v m a502) k
 obtain ⟨T503, h503, X503, e503, E503, A503, D503, -, st503⟩ := newO X0 hx hZ hown (tw hw 129 rfl) (tw hw 44 rfl) (tw hw 37 rfl) e0 (g := (mkF m 0 #[vR a502] [])) rfl (hb hby d20_0) (by decide) (by decide)
 obtain ⟨b503, g503⟩ : ∃ z, z = h0.size := ⟨_, rfl⟩
 rw [← g503] at A503 D503 st503
 have KC503 := KSx.ext (KSx.refl h0 [] []) E503
 have f583 := (H0.ext E503)
 have f584 := (H1.ext E503)
 have f586 := (H2.ext E503)
 have f588 := (H3.ext E503)
 have f590 := (H5.ext E503)
 have g591 : n0 ≤ b503 := Nat.le_trans Z0 (Nat.le_of_eq g503.symm)
 have f595 := (H7.ext E503)
 have ne596 : w582 ≠ b503 := (Nat.ne_of_lt (Nat.lt_of_lt_of_le (H7).lt (Nat.le_of_eq g503.symm)))
 have Z503 : n0 ≤ h503.size := Nat.le_trans Z0 E503.1
 obtain ⟨_, _, ⟨T581, L581, k581, n581⟩, -, X581, ⟨Lc581, hQ581, l581, y581, z581⟩, st581⟩ := X503.specialBack hx (y := mN24) rfl hown (mvT hZ (tw hw 130 rfl)) (mvT hZ (tw hw 131 rfl)) (mvT hZ (tw hw 133 rfl)) (by decide) (backOf (W := 1) (r21_1 l Z a0 hw b503 a502 w582 w585 w587 w589 (0 : Int32) k592 u593 p594 h503 n0 Z503 f583 f584 f586 f588 H4 f590 H6 A503 (D503 (Or.inr (tw hw 46 rfl)) (ty := .byte) (by decide)) g591 f595 ne596 H8 H9 H10 H11 H12 H13 H14 (D503 (Or.inr (tw hw 45 rfl)) (ty := (.array .byte)) (by decide))) hZ (tw hw 133 rfl) (tw hw 37 rfl) (by decide) (by decide)) (g := (mkF m 5 #[vR a502] [(.ref a502), (.ref b503), (.ref b503)])) rfl (by rw [hml]; rfl) (Steps.refl _) (a := b503) (argsL := [(.ref a502)]) (rest := [(.ref b503)]) (lenOf pd_16 rfl) rfl (own_w _) (hb hby d20_5) (fun _ _ => ⟨rfl, e503, (by decide : 1 + 1 ≤ _), (by decide : 4 + 34 ≤ _)⟩)
 dsimp only [Pt.U, Pt.locs, Pt.cells, Pt.slots] at X581 l581 y581 z581 st581 hQ581
 replace X581 := own_mvX X581 (a := 2) (b := 38) y581 z581
 obtain ⟨N581q, b581_0, k581_0, rfl, ge_b581_0, K581, o581_0, o581_1, o581_2, o581_3⟩ := hQ581
 have N581 := own_mvN l581 N0 N581q
 have z597 : h0.size ≤ b503 := Nat.le_trans (KSx.refl h0 [] []).1 (Nat.le_of_eq g503.symm)
 have KC581 := KSx.trans KC503 K581 (ksS (Or.inr z597) (ksS (Or.inr z597) ks0)) all0
 have f598 := (A503.ks K581)
 obtain ⟨fs, hr, hrun, hended, hW, hsame⟩ := X581.leave (v := some (.ref b503)) (fun h => by rw [Bd.returns] at h; cases h)
 refine ⟨_, _, pre0 _ ?_, hrun, hended, _, _, rfl, ?_, ⟨_, rfl⟩, hW, hsame.mono (by decide) (by decide)⟩
 · show SG p e below s₁ (mkF m 0 #[vR a502] []) _
   refine st503 _ ?_
   show SG p e below T503 (mkF m 3 #[vR a502] [(.ref b503)]) _
   refine XS.dup X503.here hx rfl (hb hby d20_3) rfl rfl ?_
   show SG p e below T503 (mkF m 4 #[vR a502] [(.ref b503), (.ref b503)]) _
   refine XS.aloadN X503.here hx rfl (hb hby d20_4) rfl rfl ?_
   show SG p e below T503 (mkF m 5 #[vR a502] [(.ref a502), (.ref b503), (.ref b503)]) _
   refine st581.trans ?_
   show SG p e below T581 (mkF m 8 #[vR a502] [(.ref b503)]) _
   jvm_step X581.here [X581.here.top, hx, (hb hby d20_8), X581.method', Bd.returns, Value.isRef, FieldType.isReference]
   first | (intro acts; rw [hr _ acts rfl rfl rfl]) | rw [hr _ _ rfl rfl rfl]
   exact Steps.refl _
 · show Qr20_1 Z a502 w582 w585 w587 w589 k592 u593 p594 h0 n0 _ T581.heap _
   exact ⟨N581, b503, b581_0, k581_0, rfl, z597, (Nat.le_trans KC503.1 ge_b581_0), KC581, f598, o581_0, o581_2, o581_1, o581_3⟩
theorem d26_17 : decode jdk_65_method_132_code 17 = .ok (.aload_n 0, 1) := by decide +kernel
theorem d26_18 : decode jdk_65_method_132_code 18 = .ok (.invokevirtual 310, 3) := by decide +kernel
theorem d26_21 : decode jdk_65_method_132_code 21 = .ok (.checkcast 311, 3) := by decide +kernel
theorem d26_24 : decode jdk_65_method_132_code 24 = .ok (.areturn, 1) := by decide +kernel
def Qr26_2 (Z : State) (a629 : Addr) (p630 : Int32) (p631 : Int32) (k632 : ClassId) (u633 : Nat → Int32) (p634 : Int32) (h0 : Heap) (n0 : Nat) (v : Option Value) (h : Heap) (L : List Loc) : Prop := Fr n0 L ∧ ∃ b636 : Addr, v = some (.ref b636) ∧ h0.size ≤ b636 ∧ KSx h0 h [] [] ∧ Exa Z h b636 "[B" ∧ BA Z h b636 k632 .byte p634 u633
theorem r26_2 (l : Launch) (Z : State) (a0 : Array Value) (hw : ∀ d ∈ tables_1, d.before a0 Z = true) (a629 : Addr) (p630 : Int32) (p631 : Int32) (k632 : ClassId) (u633 : Nat → Int32) (p634 : Int32) (h0 : Heap) (n0 : Nat) (Z0 : n0 ≤ h0.size) (H0 : p630 = (0 : Int32)) (H1 : BA Z h0 a629 k632 .byte p634 u633) (H2 : p631 = p634) (H3 : Exa Z h0 a629 "[B") (H4 : ¬ ((34 : Int32) < p634)) :
   OMet l Z mN22 jdk_65_method_132_code 3 (some (.array .byte)) [] ({ frames := 1, cells := 1, slots := 34, locals := 14 } : Room) h0 #[(.ref a629), (.int p630), (.int p631)] (Qr26_2 Z a629 p630 p631 k632 u633 p634 h0 n0) := by
 refine MetFree.of_bodySF (plainFor_of_name pn_java_util_Arrays) hisR ?_
 intro p e s m args below meth c s₁ Bd hml0 hP hK
 obtain ⟨rfl, hZ, hh⟩ := hP
 have hx := Bd.exec
 have hby := Bd.bytes
 have hml : c.maxLocals = 3 := hml0
 have hown : s.vm.findClass "java/util/Arrays" = some m.cls := findClass_of_methodNamed Bd.named
 have hnm := (name_of_methodNamed Bd.named Bd.method).1
 have X0 : Stand p l e ({ frames := 1, cells := 1, slots := 34, locals := 14 } : Room) s m #[(.ref a629), (.int p630), (.int p631)] below meth c s₁ [] 0 0 := Stand.of_body Bd
 have e0 : s₁.heap = h0 := by rw [← hh, Bd.state]; rfl
 have N0 := Fr.nil n0
 have pre0 : ∀ t, Steps p.tables e below (s₁.setTop (mkF m 0 #[vR a629, vI p630, vI p631] [])) t → Steps p.tables e below (s₁.setTop (entryFrame m #[(.ref a629), (.int p630), (.int p631)] 3)) t := fun t k => castTop (ef_26_vvv m a629 p630 p631) k
 have vc635 := H1
 obtain ⟨cl635, Ar635, q635, S635, N635, Hh635, G635⟩ := vc635
 obtain ⟨T636, h636, X636, e636, E636, B636, A636, st636⟩ := cloneB X0 hx hZ hown (tw hw 310 rfl) (tw hw 311 rfl) (tw hw 315 rfl) (tw hw 313 rfl) (tw hw 314 rfl) (tw hw 316 rfl) e0 H1 H3 (g := (mkF m 18 #[vR a629, vI p630, vI p631] [(.ref a629)])) rfl (by rw [hml]; rfl) rfl (hb hby d26_18) (by decide) (W := 0) (own_w _) (by decide) (cap := 34) (own_cap (k := 34) (by decide) H4) (by decide) (by decide)
 obtain ⟨b636, g636⟩ : ∃ z, z = h0.size := ⟨_, rfl⟩
 rw [← g636] at A636 B636 st636
 have KC636 := KSx.ext (KSx.refl h0 [] []) E636
 obtain ⟨T637, X637, e637, st637⟩ := castY X636 hx hZ hown (tw hw 317 rfl) e636 (Ins.self A636) (g := (mkF m 21 #[vR a629, vI p630, vI p631] [(.ref b636)])) rfl rfl (hb hby d26_21)
 obtain ⟨fs, hr, hrun, hended, hW, hsame⟩ := X637.leave (v := some (.ref b636)) (fun h => by rw [Bd.returns] at h; cases h)
 refine ⟨_, _, pre0 _ ?_, hrun, hended, _, _, rfl, ?_, ⟨_, rfl⟩, hW, hsame.mono (by decide) (by decide)⟩
 · show SG p e below s₁ (mkF m 0 #[vR a629, vI p630, vI p631] []) _
   refine XS.iloadN X0.here hx rfl (hb hby d26_0) rfl ?_
   show SG p e below s₁ (mkF m 1 #[vR a629, vI p630, vI p631] [(.int p630)]) _
   refine XS.ifNo X0.here hx rfl (hb hby d26_1) rfl ((if0 _ _).trans (teq H0).2) ?_
   show SG p e below s₁ (mkF m 4 #[vR a629, vI p630, vI p631] []) _
   refine XS.iloadN X0.here hx rfl (hb hby d26_4) rfl ?_
   show SG p e below s₁ (mkF m 5 #[vR a629, vI p630, vI p631] [(.int p631)]) _
   refine XS.aloadN X0.here hx rfl (hb hby d26_5) rfl rfl ?_
   show SG p e below s₁ (mkF m 6 #[vR a629, vI p630, vI p631] [(.ref a629), (.int p631)]) _
   refine X0.arraylength hx (by rw [e0]; exact Ar635.1) (State.isArrayOf_alike hZ.alike Ar635.2.1) (g := (mkF m 6 #[vR a629, vI p630, vI p631] [(.ref a629), (.int p631)])) rfl rfl (hb hby d26_6) _ ?_
   rw [len_of S635 N635]
   show SG p e below s₁ (mkF m 7 #[vR a629, vI p630, vI p631] [(.int p634), (.int p631)]) _
   refine XS.icmpYes X0.here hx rfl (pc0 := 7) (pc' := 17) rfl (hb hby d26_7) rfl (teq H2).1 (by decide) (by decide) ?_
   show SG p e below s₁ (mkF m 17 #[vR a629, vI p630, vI p631] []) _
   refine XS.aloadN X0.here hx rfl (hb hby d26_17) rfl rfl ?_
   show SG p e below s₁ (mkF m 18 #[vR a629, vI p630, vI p631] [(.ref a629)]) _
   refine st636 _ ?_
   show SG p e below T636 (mkF m 21 #[vR a629, vI p630, vI p631] [(.ref b636)]) _
   refine st637 _ ?_
   show SG p e below T637 (mkF m 24 #[vR a629, vI p630, vI p631] [(.ref b636)]) _
   jvm_step X637.here [X637.here.top, hx, (hb hby d26_24), X637.method', Bd.returns, Value.isRef, FieldType.isReference]
   first | (intro acts; rw [hr _ acts rfl rfl rfl]) | rw [hr _ _ rfl rfl rfl]
   exact Steps.refl _
 · show Qr26_2 Z a629 p630 p631 k632 u633 p634 h0 n0 _ T637.heap _
   rw [e637]
   exact ⟨N0, b636, rfl, (Nat.le_trans (KSx.refl h0 [] []).1 (Nat.le_of_eq g636.symm)), KC636, A636, B636⟩
def Qr22_2 (Z : State) (a603 : Addr) (a604 : Addr) (w610 : Addr) (w618 : Int32) (w625 : Int32) (w626 : Int32) (w627 : Int32) (k639 : ClassId) (u640 : Nat → Int32) (p641 : Int32) (h0 : Heap) (n0 : Nat) (v : Option Value) (h : Heap) (L : List Loc) : Prop := Fr n0 L ∧ ∃ b638_0 : Addr, v = none ∧ h0.size ≤ b638_0 ∧ KSx h0 h [(a603, Jvm.RoadKit.slotOf Z "java/lang/String" "coder" "B"), (a603, Jvm.RoadKit.slotOf Z "java/lang/String" "value" "[B")] [] ∧ Exa Z h b638_0 "[B" ∧ Fld Z h a603 "java/lang/String" "coder" "B" (.int (0 : Int32)) ∧ Fld Z h a603 "java/lang/String" "value" "[B" (.ref b638_0) ∧ BA Z h b638_0 k639 .byte p641 u640
theorem r22_2 (l : Launch) (Z : State) (a0 : Array Value) (hw : ∀ d ∈ tables_1, d.before a0 Z = true) (a603 : Addr) (a604 : Addr) (w610 : Addr) (w618 : Int32) (w625 : Int32) (w626 : Int32) (w627 : Int32) (k639 : ClassId) (u640 : Nat → Int32) (p641 : Int32) (h0 : Heap) (n0 : Nat) (Z0 : n0 ≤ h0.size) (H0 : Fld Z h0 a604 "java/lang/AbstractStringBuilder" "value" "[B" (.ref w610)) (H1 : Exa Z h0 a604 "java/lang/StringBuilder") (H2 : Fld Z h0 a604 "java/lang/AbstractStringBuilder" "count" "I" (.int w618)) (H3 : Sta Z h0 "java/lang/String" "COMPACT_STRINGS" "Z" (.int w625)) (H4 : ¬ (w625 = (0 : Int32))) (H5 : Fld Z h0 a604 "java/lang/AbstractStringBuilder" "coder" "B" (.int w626)) (H6 : w626 = (0 : Int32)) (H7 : Exa Z h0 a603 "java/lang/String") (H8 : Fld Z h0 a603 "java/lang/String" "coder" "B" (.int w627)) (H9 : n0 ≤ a603) (H10 : BA Z h0 w610 k639 .byte p641 u640) (H11 : w610 ≠ a603) (H12 : w618 = p641) (H13 : Exa Z h0 w610 "[B") (H14 : ¬ ((34 : Int32) < p641)) (H15 : Fld Z h0 a603 "java/lang/String" "value" "[B" .null) :
   OMet l Z mN23 jdk_42_method_150_code 5 none [] ({ frames := 2, cells := 1, slots := 34, locals := 29 } : Room) h0 #[(.ref a603), (.ref a604), .null] (Qr22_2 Z a603 a604 w610 w618 w625 w626 w627 k639 u640 p641 h0 n0) := by
 refine MetFree.of_bodySF (plainFor_of_name pn_java_lang_String) hisR ?_
 intro p e s m args below meth c s₁ Bd hml0 hP hK
 obtain ⟨rfl, hZ, hh⟩ := hP
 have hx := Bd.exec
 have hby := Bd.bytes
 have hml : c.maxLocals = 5 := hml0
 have hown : s.vm.findClass "java/lang/String" = some m.cls := findClass_of_methodNamed Bd.named
 have hnm := (name_of_methodNamed Bd.named Bd.method).1
 have X0 : Stand p l e ({ frames := 2, cells := 1, slots := 34, locals := 29 } : Room) s m #[(.ref a603), (.ref a604), .null] below meth c s₁ [] 0 0 := Stand.of_body Bd
 have e0 : s₁.heap = h0 := by rw [← hh, Bd.state]; rfl
 have N0 := Fr.nil n0
 have pre0 : ∀ t, Steps p.tables e below (s₁.setTop (mkF m 0 #[vR a603, vR a604, .val .null, .unset, .unset] [])) t → Steps p.tables e below (s₁.setTop (entryFrame m #[(.ref a603), (.ref a604), .null] 5)) t := fun t k => castTop (ef_22_vvn m a603 a604) k
 obtain ⟨T605, X605, e605, st605⟩ := initO X0 hx hZ hown (tw hw 137 rfl) (tw hw 12 rfl) (tw hw 13 rfl) e0 (g := (mkF m 1 #[vR a603, vR a604, .val .null, vU, vU] [(.ref a603)])) rfl (by rw [hml]; rfl) rfl (hb hby d22_1) (by decide) (W := 0) (own_w _) (by decide)
 obtain ⟨cq609, kq609, q609a, q609b, q609c⟩ := isOf hZ e605 H1
 obtain ⟨_, _, ⟨T609, L609, k609, n609⟩, -, X609, ⟨Lc609, hQ609, l609, y609, z609⟩, st609⟩ := X605.virtualBack hx (y := mN14) (z := mN14) hown (mvT hZ (tw hw 138 rfl)) (mvT hZ (tw hw 139 rfl)) (notFace_of_selects (args := #[]) (mvT hZ (tw hw 141 rfl))) (mvT hZ (tw hw 141 rfl)) (mvT hZ (tw hw 140 rfl)) (by decide) (backOf (W := 0) (r23_1 l Z a0 hw a604 w610 h0 n0 Z0 H0) hZ (tw hw 142 rfl) (tw hw 33 rfl) (by decide) (by decide)) q609a q609c (g := (mkF m 5 #[vR a603, vR a604, .val .null, vU, vU] [(.ref a604)])) rfl (by rw [hml]; rfl) (Steps.refl _) (argsL := []) (rest := []) (lenOf pd_12 rfl) rfl (own_w _) (hb hby d22_5) (fun _ _ => ⟨rfl, e605, (by decide : 0 + 0 ≤ _), (by decide : 0 + 0 ≤ _)⟩)
 dsimp only [Pt.U, Pt.locs, Pt.cells, Pt.slots] at X609 l609 y609 z609 st609 hQ609
 replace X609 := own_mvX X609 (a := 0) (b := 0) y609 z609
 obtain ⟨rfl, N609q, e609⟩ := hQ609
 have N609 := own_mvN l609 N0 N609q
 obtain ⟨cq617, kq617, q617a, q617b, q617c⟩ := isOf hZ e609 H1
 obtain ⟨_, _, ⟨T617, L617, k617, n617⟩, -, X617, ⟨Lc617, hQ617, l617, y617, z617⟩, st617⟩ := X609.virtualBack hx (y := mN15) (z := mN17) hown (mvT hZ (tw hw 143 rfl)) (mvT hZ (tw hw 144 rfl)) (own_nf (w := mN16) (args := #[]) rfl (mvT hZ (tw hw 77 rfl))) (mvT hZ (tw hw 146 rfl)) (mvT hZ (tw hw 147 rfl)) (by decide) (backOf (W := 0) (r24_1 l Z a0 hw a604 w618 h0 n0 Z0 H2 H1) hZ (tw hw 148 rfl) (tw hw 25 rfl) (by decide) (by decide)) q617a q617c (g := (mkF m 10 #[vR a603, vR a604, .val .null, vR w610, vU] [(.ref a604)])) rfl (by rw [hml]; rfl) (Steps.refl _) (argsL := []) (rest := []) (lenOf pd_7 rfl) rfl (own_w _) (hb hby d22_10) (fun _ _ => ⟨rfl, e609, (by decide : 0 + 0 ≤ _), (by decide : 0 + 0 ≤ _)⟩)
 dsimp only [Pt.U, Pt.locs, Pt.cells, Pt.slots] at X617 l617 y617 z617 st617 hQ617
 replace X617 := own_mvX X617 (a := 0) (b := 0) y617 z617
 obtain ⟨rfl, N617q, e617⟩ := hQ617
 have N617 := own_mvN l617 N609 N617q
 obtain ⟨cq624, kq624, q624a, q624b, q624c⟩ := isOf hZ e617 H1
 obtain ⟨_, _, ⟨T624, L624, k624, n624⟩, -, X624, ⟨Lc624, hQ624, l624, y624, z624⟩, st624⟩ := X617.virtualBack hx (y := mN18) (z := mN18) hown (mvT hZ (tw hw 151 rfl)) (mvT hZ (tw hw 114 rfl)) (notFace_of_selects (args := #[]) (mvT hZ (tw hw 116 rfl))) (mvT hZ (tw hw 116 rfl)) (mvT hZ (tw hw 115 rfl)) (by decide) (backOf (W := 0) (r18_1 l Z a0 hw a604 w625 w626 h0 n0 Z0 H3 H4 H5 H6) hZ (tw hw 117 rfl) (tw hw 33 rfl) (by decide) (by decide)) q624a q624c (g := (mkF m 16 #[vR a603, vR a604, .val .null, vR w610, vI w618] [(.ref a604)])) rfl (by rw [hml]; rfl) (Steps.refl _) (argsL := []) (rest := []) (lenOf pd_0 rfl) rfl (own_w _) (hb hby d22_16) (fun _ _ => ⟨rfl, e617, (by decide : 0 + 0 ≤ _), (by decide : 0 + 0 ≤ _)⟩)
 dsimp only [Pt.U, Pt.locs, Pt.cells, Pt.slots] at X624 l624 y624 z624 st624 hQ624
 replace X624 := own_mvX X624 (a := 0) (b := 0) y624 z624
 obtain ⟨rfl, N624q, e624⟩ := hQ624
 have N624 := own_mvN l624 N617 N624q
 obtain ⟨T628, h628, X628, e628, W628, st628⟩ := putF X624 hx hZ hown (host := "") (Or.inl (tw hw 71 rfl)) Via.refl e624 H8 H7 (Or.inr ⟨(tw hw 46 rfl), rfl, hnm⟩) (tw hw 44 rfl) (ty := .byte) (by decide) rfl rfl (g := (mkF m 24 #[vR a603, vR a604, .val .null, vR w610, vI w618] [(.int (0 : Int32)), (.ref a603)])) rfl rfl (hb hby d22_24)
 have Fw628 := Fld.same W628 H8
 have KC628 := KSx.wr (KSx.refl h0 [(a603, Jvm.RoadKit.slotOf Z "java/lang/String" "coder" "B"), (a603, Jvm.RoadKit.slotOf Z "java/lang/String" "value" "[B")] []) W628 (Or.inl (List.mem_of_getElem? (i := 0) rfl))
 have N628 := Fr.snoc X628 N624 H9
 have f642 := (H10.other W628 H11)
 have f643 := (H13.wr W628)
 have Z628 : n0 ≤ h628.size := Nat.le_trans Z0 (Nat.le_of_eq W628.size.symm)
 obtain ⟨_, _, ⟨T638, L638, k638, n638⟩, -, X638, ⟨Lc638, hQ638, l638, y638, z638⟩, st638⟩ := Jvm.LawKit.callS X628 hx (y := mN22) hown (mvT hZ (tw hw 152 rfl)) (mvT hZ (tw hw 153 rfl)) (mvT hZ (tw hw 154 rfl)) (mvT hZ (tw hw 155 rfl)) (by decide) (backOf (W := 1) (r26_2 l Z a0 hw w610 (0 : Int32) w618 k639 u640 p641 h628 n0 Z628 rfl f642 H12 f643 H14) hZ (tw hw 155 rfl) (tw hw 154 rfl) (by decide) (by decide)) (g := (mkF m 32 #[vR a603, vR a604, .val .null, vR w610, vI w618] [(.int w618), (.int (0 : Int32)), (.ref w610), (.ref a603)])) rfl (by rw [hml]; rfl) (argsL := [(.ref w610), (.int (0 : Int32)), (.int w618)]) (rest := [(.ref a603)]) (lenOf pd_14 rfl) rfl (own_w _) (hb hby d22_32) (fun _ _ => ⟨rfl, e628, (by decide : 0 + 1 ≤ _), (by decide : 0 + 34 ≤ _)⟩)
 dsimp only [Pt.U, Pt.locs, Pt.cells, Pt.slots] at X638 l638 y638 z638 st638 hQ638
 replace X638 := own_mvX X638 (a := 1) (b := 34) y638 z638
 obtain ⟨N638q, b638_0, rfl, ge_b638_0, K638, o638_0, o638_1⟩ := hQ638
 have N638 := own_mvN l638 N628 N638q
 have KC638 := KSx.trans KC628 K638 ks0 all0
 have f644 := ((H7.wr W628).ks K638)
 have f645 := ((H15.other W628 (Or.inr (slot_ne (Or.inr (tw hw 45 rfl)) (Or.inr (tw hw 46 rfl)) (by decide) (t := (.array .byte)) (t' := .byte) (by decide) (by decide)))).ks K638 ks0 all0)
 obtain ⟨T646, h646, X646, e646, W646, st646⟩ := putF X638 hx hZ hown (host := "") (Or.inl (tw hw 64 rfl)) Via.refl rfl f645 f644 (Or.inr ⟨(tw hw 45 rfl), rfl, hnm⟩) (tw hw 44 rfl) (ty := (.array .byte)) (by decide) rfl rfl (g := (mkF m 35 #[vR a603, vR a604, .val .null, vR w610, vI w618] [(.ref b638_0), (.ref a603)])) rfl rfl (hb hby d22_35)
 have Fw646 := Fld.same W646 f645
 have KC646 := KSx.wr KC638 W646 (Or.inl (List.mem_of_getElem? (i := 1) rfl))
 have N646 := Fr.snoc X646 N638 H9
 have f647 := (o638_0.wr W646)
 have f648 := ((Fw628.ks K638 ks0 all0).other W646 (Or.inr (slot_ne (Or.inr (tw hw 46 rfl)) (Or.inr (tw hw 45 rfl)) (by decide) (t := .byte) (t' := (.array .byte)) (by decide) (by decide))))
 have f649 := (H7.wr W628)
 have ne650 : a603 ≠ b638_0 := (Nat.ne_of_lt (Nat.lt_of_lt_of_le (f649).lt ge_b638_0))
 have f651 := (o638_1.other W646 (Ne.symm ne650))
 obtain ⟨fs, hr, hrun, hended, hW, hsame⟩ := X646.leave (v := none) (fun _ => rfl)
 refine ⟨_, _, pre0 _ ?_, hrun, hended, _, _, rfl, ?_, ⟨_, rfl⟩, hW, hsame.mono (by decide) (by decide)⟩
 · show SG p e below s₁ (mkF m 0 #[vR a603, vR a604, .val .null, vU, vU] []) _
   refine XS.aloadN X0.here hx rfl (hb hby d22_0) rfl rfl ?_
   show SG p e below s₁ (mkF m 1 #[vR a603, vR a604, .val .null, vU, vU] [(.ref a603)]) _
   refine st605 _ ?_
   show SG p e below T605 (mkF m 4 #[vR a603, vR a604, .val .null, vU, vU] []) _
   refine XS.aloadN X605.here hx rfl (hb hby d22_4) rfl rfl ?_
   show SG p e below T605 (mkF m 5 #[vR a603, vR a604, .val .null, vU, vU] [(.ref a604)]) _
   refine st609.trans ?_
   show SG p e below T609 (mkF m 8 #[vR a603, vR a604, .val .null, vU, vU] [(.ref w610)]) _
   refine XS.astoreN X609.here hx rfl (hb hby d22_8) rfl rfl (l' := #[vR a603, vR a604, .val .null, vR w610, vU]) rfl ?_
   show SG p e below T609 (mkF m 9 #[vR a603, vR a604, .val .null, vR w610, vU] []) _
   refine XS.aloadN X609.here hx rfl (hb hby d22_9) rfl rfl ?_
   show SG p e below T609 (mkF m 10 #[vR a603, vR a604, .val .null, vR w610, vU] [(.ref a604)]) _
   refine st617.trans ?_
   show SG p e below T617 (mkF m 13 #[vR a603, vR a604, .val .null, vR w610, vU] [(.int w618)]) _
   refine XS.istore X617.here hx rfl (hb hby d22_13) rfl (l' := #[vR a603, vR a604, .val .null, vR w610, vI w618]) rfl ?_
   show SG p e below T617 (mkF m 15 #[vR a603, vR a604, .val .null, vR w610, vI w618] []) _
   refine XS.aloadN X617.here hx rfl (hb hby d22_15) rfl rfl ?_
   show SG p e below T617 (mkF m 16 #[vR a603, vR a604, .val .null, vR w610, vI w618] [(.ref a604)]) _
   refine st624.trans ?_
   show SG p e below T624 (mkF m 19 #[vR a603, vR a604, .val .null, vR w610, vI w618] [(.int (1 : Int32))]) _
   refine XS.ifNo X624.here hx rfl (hb hby d22_19) rfl ((if0 _ _).trans (feq (by decide : ¬ ((1 : Int32) = (0 : Int32)))).1) ?_
   show SG p e below T624 (mkF m 22 #[vR a603, vR a604, .val .null, vR w610, vI w618] []) _
   refine XS.aloadN X624.here hx rfl (hb hby d22_22) rfl rfl ?_
   show SG p e below T624 (mkF m 23 #[vR a603, vR a604, .val .null, vR w610, vI w618] [(.ref a603)]) _
   refine XS.iconst X624.here hx rfl (hb hby d22_23) ?_
   show SG p e below T624 (mkF m 24 #[vR a603, vR a604, .val .null, vR w610, vI w618] [(.int (0 : Int32)), (.ref a603)]) _
   refine st628 _ ?_
   show SG p e below T628 (mkF m 27 #[vR a603, vR a604, .val .null, vR w610, vI w618] []) _
   refine XS.aloadN X628.here hx rfl (hb hby d22_27) rfl rfl ?_
   show SG p e below T628 (mkF m 28 #[vR a603, vR a604, .val .null, vR w610, vI w618] [(.ref a603)]) _
   refine XS.aloadN X628.here hx rfl (hb hby d22_28) rfl rfl ?_
   show SG p e below T628 (mkF m 29 #[vR a603, vR a604, .val .null, vR w610, vI w618] [(.ref w610), (.ref a603)]) _
   refine XS.iconst X628.here hx rfl (hb hby d22_29) ?_
   show SG p e below T628 (mkF m 30 #[vR a603, vR a604, .val .null, vR w610, vI w618] [(.int (0 : Int32)), (.ref w610), (.ref a603)]) _
   refine XS.iload X628.here hx rfl (hb hby d22_30) rfl ?_
   show SG p e below T628 (mkF m 32 #[vR a603, vR a604, .val .null, vR w610, vI w618] [(.int w618), (.int (0 : Int32)), (.ref w610), (.ref a603)]) _
   refine st638 _ ?_
   show SG p e below T638 (mkF m 35 #[vR a603, vR a604, .val .null, vR w610, vI w618] [(.ref b638_0), (.ref a603)]) _
   refine st646 _ ?_
   show SG p e below T646 (mkF m 38 #[vR a603, vR a604, .val .null, vR w610, vI w618] []) _
   refine XS.goto X646.here hx rfl (pc0 := 38) (pc' := 97) rfl (hb hby d22_38) (by decide) (by decide) ?_
   show SG p e below T646 (mkF m 97 #[vR a603, vR a604, .val .null, vR w610, vI w618] []) _
   exact X646.returnOut hx Bd.returns (hb hby d22_97) hr
 · show Qr22_2 Z a603 a604 w610 w618 w625 w626 w627 k639 u640 p641 h0 n0 _ T646.heap _
   rw [e646]
   exact ⟨N646, b638_0, rfl, (Nat.le_trans KC628.1 ge_b638_0), KC646, f647, f648, Fw646, f651⟩
def Qr21_2 (Z : State) (a601 : Addr) (a602 : Addr) (w653 : Addr) (w654 : Int32) (w655 : Int32) (w656 : Int32) (w657 : Int32) (k658 : ClassId) (u659 : Nat → Int32) (p660 : Int32) (h0 : Heap) (n0 : Nat) (v : Option Value) (h : Heap) (L : List Loc) : Prop := Fr n0 L ∧ ∃ b652_0 : Addr, v = none ∧ h0.size ≤ b652_0 ∧ KSx h0 h [(a601, Jvm.RoadKit.slotOf Z "java/lang/String" "value" "[B"), (a601, Jvm.RoadKit.slotOf Z "java/lang/String" "coder" "B")] [] ∧ Exa Z h b652_0 "[B" ∧ Fld Z h a601 "java/lang/String" "coder" "B" (.int (0 : Int32)) ∧ Fld Z h a601 "java/lang/String" "value" "[B" (.ref b652_0) ∧ BA Z h b652_0 k658 .byte p660 u659
theorem r21_2 (l : Launch) (Z : State) (a0 : Array Value) (hw : ∀ d ∈ tables_1, d.before a0 Z = true) (a601 : Addr) (a602 : Addr) (w653 : Addr) (w654 : Int32) (w655 : Int32) (w656 : Int32) (w657 : Int32) (k658 : ClassId) (u659 : Nat → Int32) (p660 : Int32) (h0 : Heap) (n0 : Nat) (Z0 : n0 ≤ h0.size) (H0 : Fld Z h0 a602 "java/lang/AbstractStringBuilder" "value" "[B" (.ref w653)) (H1 : Exa Z h0 a602 "java/lang/StringBuilder") (H2 : Fld Z h0 a602 "java/lang/AbstractStringBuilder" "count" "I" (.int w654)) (H3 : Sta Z h0 "java/lang/String" "COMPACT_STRINGS" "Z" (.int w655)) (H4 : ¬ (w655 = (0 : Int32))) (H5 : Fld Z h0 a602 "java/lang/AbstractStringBuilder" "coder" "B" (.int w656)) (H6 : w656 = (0 : Int32)) (H7 : Exa Z h0 a601 "java/lang/String") (H8 : Fld Z h0 a601 "java/lang/String" "coder" "B" (.int w657)) (H9 : n0 ≤ a601) (H10 : BA Z h0 w653 k658 .byte p660 u659) (H11 : w653 ≠ a601) (H12 : w654 = p660) (H13 : Exa Z h0 w653 "[B") (H14 : ¬ ((34 : Int32) < p660)) (H15 : Fld Z h0 a601 "java/lang/String" "value" "[B" .null) :
   OMet l Z mN24 jdk_42_method_53_code 2 none [] ({ frames := 3, cells := 1, slots := 34, locals := 45 } : Room) h0 #[(.ref a601), (.ref a602)] (Qr21_2 Z a601 a602 w653 w654 w655 w656 w657 k658 u659 p660 h0 n0) := by
 refine MetFree.of_bodySF (plainFor_of_name pn_java_lang_String) hisR ?_
 intro p e s m args below meth c s₁ Bd hml0 hP hK
 obtain ⟨rfl, hZ, hh⟩ := hP
 have hx := Bd.exec
 have hby := Bd.bytes
 have hml : c.maxLocals = 2 := hml0
 have hown : s.vm.findClass "java/lang/String" = some m.cls := findClass_of_methodNamed Bd.named
 have hnm := (name_of_methodNamed Bd.named Bd.method).1
 have X0 : Stand p l e ({ frames := 3, cells := 1, slots := 34, locals := 45 } : Room) s m #[(.ref a601), (.ref a602)] below meth c s₁ [] 0 0 := Stand.of_body Bd
 have e0 : s₁.heap = h0 := by rw [← hh, Bd.state]; rfl
 have N0 := Fr.nil n0
 have pre0 : ∀ t, Steps p.tables e below (s₁.setTop (mkF m 0 #[vR a601, vR a602] [])) t → Steps p.tables e below (s₁.setTop (entryFrame m #[(.ref a601), (.ref a602)] 2)) t := fun t k => castTop (ef_21_vv m a601 a602) k
 obtain ⟨_, _, ⟨T652, L652, k652, n652⟩, -, X652, ⟨Lc652, hQ652, l652, y652, z652⟩, st652⟩ := X0.specialBack hx (y := mN23) rfl hown (mvT hZ (tw hw 134 rfl)) (mvT hZ (tw hw 135 rfl)) (mvT hZ (tw hw 136 rfl)) (by decide) (backOf (W := 0) (r22_2 l Z a0 hw a601 a602 w653 w654 w655 w656 w657 k658 u659 p660 h0 n0 Z0 H0 H1 H2 H3 H4 H5 H6 H7 H8 H9 H10 H11 H12 H13 H14 H15) hZ (tw hw 136 rfl) (tw hw 37 rfl) (by decide) (by decide)) (g := (mkF m 3 #[vR a601, vR a602] [.null, (.ref a602), (.ref a601)])) rfl (by rw [hml]; rfl) (Steps.refl _) (a := a601) (argsL := [(.ref a602), .null]) (rest := []) (lenOf pd_15 rfl) rfl (own_w _) (hb hby d21_3) (fun _ _ => ⟨rfl, e0, (by decide : 0 + 1 ≤ _), (by decide : 0 + 34 ≤ _)⟩)
 dsimp only [Pt.U, Pt.locs, Pt.cells, Pt.slots] at X652 l652 y652 z652 st652 hQ652
 replace X652 := own_mvX X652 (a := 1) (b := 34) y652 z652
 obtain ⟨N652q, b652_0, rfl, ge_b652_0, K652, o652_0, o652_1, o652_2, o652_3⟩ := hQ652
 have N652 := own_mvN l652 N0 N652q
 have KC652 := KSx.trans (KSx.refl h0 [(a601, Jvm.RoadKit.slotOf Z "java/lang/String" "value" "[B"), (a601, Jvm.RoadKit.slotOf Z "java/lang/String" "coder" "B")] []) K652 (ksS (Or.inl (List.mem_of_getElem? (i := 1) rfl)) (ksS (Or.inl (List.mem_of_getElem? (i := 0) rfl)) ks0)) all0
 obtain ⟨fs, hr, hrun, hended, hW, hsame⟩ := X652.leave (v := none) (fun _ => rfl)
 refine ⟨_, _, pre0 _ ?_, hrun, hended, _, _, rfl, ?_, ⟨_, rfl⟩, hW, hsame.mono (by decide) (by decide)⟩
 · show SG p e below s₁ (mkF m 0 #[vR a601, vR a602] []) _
   refine XS.aloadN X0.here hx rfl (hb hby d21_0) rfl rfl ?_
   show SG p e below s₁ (mkF m 1 #[vR a601, vR a602] [(.ref a601)]) _
   refine XS.aloadN X0.here hx rfl (hb hby d21_1) rfl rfl ?_
   show SG p e below s₁ (mkF m 2 #[vR a601, vR a602] [(.ref a602), (.ref a601)]) _
   refine XS.aconstNull X0.here hx rfl (hb hby d21_2) ?_
   show SG p e below s₁ (mkF m 3 #[vR a601, vR a602] [.null, (.ref a602), (.ref a601)]) _
   refine st652.trans ?_
   show SG p e below T652 (mkF m 6 #[vR a601, vR a602] []) _
   exact X652.returnOut hx Bd.returns (hb hby d21_6) hr
 · show Qr21_2 Z a601 a602 w653 w654 w655 w656 w657 k658 u659 p660 h0 n0 _ T652.heap _
   exact ⟨N652, b652_0, rfl, (Nat.le_trans (KSx.refl h0 [(a601, Jvm.RoadKit.slotOf Z "java/lang/String" "value" "[B"), (a601, Jvm.RoadKit.slotOf Z "java/lang/String" "coder" "B")] []).1 ge_b652_0), KC652, o652_0, o652_1, o652_2, o652_3⟩
def Qr20_2 (Z : State) (a599 : Addr) (w662 : Addr) (w665 : Int32) (w667 : Int32) (w669 : Int32) (k672 : ClassId) (u673 : Nat → Int32) (p674 : Int32) (h0 : Heap) (n0 : Nat) (v : Option Value) (h : Heap) (L : List Loc) : Prop := Fr n0 L ∧ ∃ b600 b661_0 : Addr, v = some (.ref b600) ∧ h0.size ≤ b600 ∧ h0.size ≤ b661_0 ∧ KSx h0 h [] [] ∧ Exa Z h b600 "java/lang/String" ∧ Exa Z h b661_0 "[B" ∧ Fld Z h b600 "java/lang/String" "value" "[B" (.ref b661_0) ∧ Fld Z h b600 "java/lang/String" "coder" "B" (.int (0 : Int32)) ∧ BA Z h b661_0 k672 .byte p674 u673
theorem r20_2 (l : Launch) (Z : State) (a0 : Array Value) (hw : ∀ d ∈ tables_1, d.before a0 Z = true) (a599 : Addr) (w662 : Addr) (w665 : Int32) (w667 : Int32) (w669 : Int32) (k672 : ClassId) (u673 : Nat → Int32) (p674 : Int32) (h0 : Heap) (n0 : Nat) (Z0 : n0 ≤ h0.size) (H0 : Fld Z h0 a599 "java/lang/AbstractStringBuilder" "value" "[B" (.ref w662)) (H1 : Exa Z h0 a599 "java/lang/StringBuilder") (H2 : Fld Z h0 a599 "java/lang/AbstractStringBuilder" "count" "I" (.int w665)) (H3 : Sta Z h0 "java/lang/String" "COMPACT_STRINGS" "Z" (.int w667)) (H4 : ¬ (w667 = (0 : Int32))) (H5 : Fld Z h0 a599 "java/lang/AbstractStringBuilder" "coder" "B" (.int w669)) (H6 : w669 = (0 : Int32)) (H7 : BA Z h0 w662 k672 .byte p674 u673) (H8 : w665 = p674) (H9 : Exa Z h0 w662 "[B") (H10 : ¬ ((34 : Int32) < p674)) :
   OMet l Z mN25 jdk_67_method_42_code 1 (some (.object "java/lang/String")) [] ({ frames := 5, cells := 2, slots := 38, locals := 79 } : Room) h0 #[(.ref a599)] (Qr20_2 Z a599 w662 w665 w667 w669 k672 u673 p674 h0 n0) := by
 refine MetFree.of_bodySF (plainFor_of_name pn_java_lang_StringBuilder) hisR ?_
 intro p e s m args below meth c s₁ Bd hml0 hP hK
 obtain ⟨rfl, hZ, hh⟩ := hP
 have hx := Bd.exec
 have hby := Bd.bytes
 have hml : c.maxLocals = 1 := hml0
 have hown : s.vm.findClass "java/lang/StringBuilder" = some m.cls := findClass_of_methodNamed Bd.named
 have hnm := (name_of_methodNamed Bd.named Bd.method).1
 have X0 : Stand p l e ({ frames := 5, cells := 2, slots := 38, locals := 79 } : Room) s m #[(.ref a599)] below meth c s₁ [] 0 0 := Stand.of_body Bd
 have e0 : s₁.heap = h0 := by rw [← hh, Bd.state]; rfl
 have N0 := Fr.nil n0
 have pre0 : ∀ t, Steps p.tables e below (s₁.setTop (mkF m 0 #[vR a599] [])) t → Steps p.tables e below (s₁.setTop (entryFrame m #[(.ref a599)] 1)) t := fun t k => castTop (ef_20_v m a599) k
 obtain ⟨T600, h600, X600, e600, E600, A600, D600, -, st600⟩ := newO X0 hx hZ hown (tw hw 129 rfl) (tw hw 44 rfl) (tw hw 37 rfl) e0 (g := (mkF m 0 #[vR a599] [])) rfl (hb hby d20_0) (by decide) (by decide)
 obtain ⟨b600, g600⟩ : ∃ z, z = h0.size := ⟨_, rfl⟩
 rw [← g600] at A600 D600 st600
 have KC600 := KSx.ext (KSx.refl h0 [] []) E600
 have f663 := (H0.ext E600)
 have f664 := (H1.ext E600)
 have f666 := (H2.ext E600)
 have f668 := (H3.ext E600)
 have f670 := (H5.ext E600)
 have g671 : n0 ≤ b600 := Nat.le_trans Z0 (Nat.le_of_eq g600.symm)
 have f675 := (H7.ext E600)
 have ne676 : w662 ≠ b600 := (Nat.ne_of_lt (Nat.lt_of_lt_of_le (H7).lt (Nat.le_of_eq g600.symm)))
 have f677 := (H9.ext E600)
 have Z600 : n0 ≤ h600.size := Nat.le_trans Z0 E600.1
 obtain ⟨_, _, ⟨T661, L661, k661, n661⟩, -, X661, ⟨Lc661, hQ661, l661, y661, z661⟩, st661⟩ := X600.specialBack hx (y := mN24) rfl hown (mvT hZ (tw hw 130 rfl)) (mvT hZ (tw hw 131 rfl)) (mvT hZ (tw hw 133 rfl)) (by decide) (backOf (W := 1) (r21_2 l Z a0 hw b600 a599 w662 w665 w667 w669 (0 : Int32) k672 u673 p674 h600 n0 Z600 f663 f664 f666 f668 H4 f670 H6 A600 (D600 (Or.inr (tw hw 46 rfl)) (ty := .byte) (by decide)) g671 f675 ne676 H8 f677 H10 (D600 (Or.inr (tw hw 45 rfl)) (ty := (.array .byte)) (by decide))) hZ (tw hw 133 rfl) (tw hw 37 rfl) (by decide) (by decide)) (g := (mkF m 5 #[vR a599] [(.ref a599), (.ref b600), (.ref b600)])) rfl (by rw [hml]; rfl) (Steps.refl _) (a := b600) (argsL := [(.ref a599)]) (rest := [(.ref b600)]) (lenOf pd_16 rfl) rfl (own_w _) (hb hby d20_5) (fun _ _ => ⟨rfl, e600, (by decide : 1 + 1 ≤ _), (by decide : 4 + 34 ≤ _)⟩)
 dsimp only [Pt.U, Pt.locs, Pt.cells, Pt.slots] at X661 l661 y661 z661 st661 hQ661
 replace X661 := own_mvX X661 (a := 2) (b := 38) y661 z661
 obtain ⟨N661q, b661_0, rfl, ge_b661_0, K661, o661_0, o661_1, o661_2, o661_3⟩ := hQ661
 have N661 := own_mvN l661 N0 N661q
 have z678 : h0.size ≤ b600 := Nat.le_trans (KSx.refl h0 [] []).1 (Nat.le_of_eq g600.symm)
 have KC661 := KSx.trans KC600 K661 (ksS (Or.inr z678) (ksS (Or.inr z678) ks0)) all0
 have f679 := (A600.ks K661)
 obtain ⟨fs, hr, hrun, hended, hW, hsame⟩ := X661.leave (v := some (.ref b600)) (fun h => by rw [Bd.returns] at h; cases h)
 refine ⟨_, _, pre0 _ ?_, hrun, hended, _, _, rfl, ?_, ⟨_, rfl⟩, hW, hsame.mono (by decide) (by decide)⟩
 · show SG p e below s₁ (mkF m 0 #[vR a599] []) _
   refine st600 _ ?_
   show SG p e below T600 (mkF m 3 #[vR a599] [(.ref b600)]) _
   refine XS.dup X600.here hx rfl (hb hby d20_3) rfl rfl ?_
   show SG p e below T600 (mkF m 4 #[vR a599] [(.ref b600), (.ref b600)]) _
   refine XS.aloadN X600.here hx rfl (hb hby d20_4) rfl rfl ?_
   show SG p e below T600 (mkF m 5 #[vR a599] [(.ref a599), (.ref b600), (.ref b600)]) _
   refine st661.trans ?_
   show SG p e below T661 (mkF m 8 #[vR a599] [(.ref b600)]) _
   jvm_step X661.here [X661.here.top, hx, (hb hby d20_8), X661.method', Bd.returns, Value.isRef, FieldType.isReference]
   first | (intro acts; rw [hr _ acts rfl rfl rfl]) | rw [hr _ _ rfl rfl rfl]
   exact Steps.refl _
 · show Qr20_2 Z a599 w662 w665 w667 w669 k672 u673 p674 h0 n0 _ T661.heap _
   exact ⟨N661, b600, b661_0, rfl, z678, (Nat.le_trans KC600.1 ge_b661_0), KC661, f679, o661_0, o661_2, o661_1, o661_3⟩
def OQs (Z : State) (n : Int32) (f : Nat → Int32) (h0 : Heap) (n0 : Nat) (v : Option Value) (h : Heap) (L : List Loc) : Prop := Fr n0 L ∧ ∃ sa sd : Addr, ∃ k : ClassId, v = some (.ref sa) ∧ h0.size ≤ sa ∧ h0.size ≤ sd ∧ KSx h0 h [] [] ∧ Exa Z h sa "java/lang/String" ∧ Exa Z h sd "[B" ∧ Fld Z h sa "java/lang/String" "value" "[B" (.ref sd) ∧ Fld Z h sa "java/lang/String" "coder" "B" (.int (0 : Int32)) ∧ BA Z h sd k .byte n f
theorem own_tos (l : Launch) (Z : State) (a0 : Array Value) (hw : ∀ d ∈ tables_1, d.before a0 Z = true) (a b : Addr) (n wS wc : Int32) (k : ClassId) (z : Int32) (f : Nat → Int32) (h0 : Heap) (n0 : Nat) (Z0 : n0 ≤ h0.size) (H1 : Fld Z h0 a "java/lang/AbstractStringBuilder" "value" "[B" (.ref b)) (H2 : Exa Z h0 a "java/lang/StringBuilder") (H3 : Fld Z h0 a "java/lang/AbstractStringBuilder" "count" "I" (.int n)) (H4 : Sta Z h0 "java/lang/String" "COMPACT_STRINGS" "Z" (.int wS)) (H5 : ¬ (wS = (0 : Int32))) (H6 : Fld Z h0 a "java/lang/AbstractStringBuilder" "coder" "B" (.int wc)) (H7 : wc = (0 : Int32)) (H8 : BA Z h0 b k .byte z f) (H9 : Exa Z h0 b "[B") (H10 : ¬ (n < (0 : Int32))) (H11 : (n).toNatClampNeg ≤ (z).toNatClampNeg) (H12 : ¬ ((34 : Int32) < z)) :
   OMet l Z mN25 jdk_67_method_42_code 1 (some (.object "java/lang/String")) [] ({ frames := 5, cells := 2, slots := 38, locals := 79 } : Room) h0 #[(.ref a)] (OQs Z n f h0 n0) := by
 have hz : ¬ z < 0 := by obtain ⟨c, _, _, _, h, _⟩ := H8; exact h
 by_cases hnz : n = z
 · refine own_imp (r20_2 l Z a0 hw a b n wS wc k f z h0 n0 Z0 H1 H2 H3 H4 H5 H6 H7 H8 hnz H9 H12) fun v h L q => ?_
   obtain ⟨N, sa, sd, e, g1, g2, K, E, E2, F, C, B⟩ := q
   exact ⟨N, sa, sd, _, e, g1, g2, K, E, E2, F, C, by rw [hnz]; exact B⟩
 · refine own_imp (r20_1 l Z a0 hw a b n wS wc k f z h0 n0 Z0 H1 H2 H3 H4 H5 H6 H7 H8 hnz H10 (by rw [Int32.sub_zero]; exact H10) (own_t2 H10 hz H11 H12) (own_t1 H10 hz H11 hnz) (by rw [Int32.sub_zero, show (0 : Int32).toNatClampNeg = 0 from rfl, Nat.zero_add]; exact H11) (by rw [show (0 : Int32).toNatClampNeg = 0 from rfl, Nat.zero_add]; exact Nat.le_refl _)) fun v h L q => ?_
   obtain ⟨N, sa, sd, k', e, g1, g2, K, E, E2, F, C, B⟩ := q
   exact ⟨N, sa, sd, _, e, g1, g2, K, E, E2, F, C, by
     rw [Int32.sub_zero] at B
     refine B.congr fun i hi => ?_
     rw [show (0 : Int32).toNatClampNeg = 0 from rfl]
     simp only [Nat.zero_le, Nat.zero_add, Nat.sub_zero, true_and]
     rw [if_pos hi]⟩
theorem d15_0 : decode jdk_67_method_16_code 0 = .ok (.aload_n 0, 1) := by decide +kernel
theorem d15_1 : decode jdk_67_method_16_code 1 = .ok (.lload_n 1, 1) := by decide +kernel
theorem d15_2 : decode jdk_67_method_16_code 2 = .ok (.invokespecial 56, 3) := by decide +kernel
theorem d16_0 : decode jdk_68_method_33_code 0 = .ok (.aload_n 0, 1) := by decide +kernel
theorem d16_1 : decode jdk_68_method_33_code 1 = .ok (.getfield 79, 3) := by decide +kernel
theorem d16_4 : decode jdk_68_method_33_code 4 = .ok (.istore_n 3, 1) := by decide +kernel
theorem d16_5 : decode jdk_68_method_33_code 5 = .ok (.iload_n 3, 1) := by decide +kernel
theorem d16_6 : decode jdk_68_method_33_code 6 = .ok (.lload_n 1, 1) := by decide +kernel
theorem d16_7 : decode jdk_68_method_33_code 7 = .ok (.invokestatic 254, 3) := by decide +kernel
theorem d16_10 : decode jdk_68_method_33_code 10 = .ok (.iadd, 1) := by decide +kernel
theorem d16_11 : decode jdk_68_method_33_code 11 = .ok (.istore 4, 2) := by decide +kernel
theorem d16_13 : decode jdk_68_method_33_code 13 = .ok (.aload_n 0, 1) := by decide +kernel
abbrev la16 (a682 : Addr) (q683 : Int64) (w684 : Int32) : Array Slot := #[vR a682, vJ q683, vS, vI w684, vI (w684 + (SBG.strSizeOfL q683))]
theorem d16_14 : decode jdk_68_method_33_code 14 = .ok (.iload 4, 2) := by decide +kernel
theorem d16_16 : decode jdk_68_method_33_code 16 = .ok (.invokevirtual 100, 3) := by decide +kernel
theorem d11_0 : decode jdk_68_method_9_code 0 = .ok (.aload_n 0, 1) := by decide +kernel
theorem d11_1 : decode jdk_68_method_9_code 1 = .ok (.getfield 15, 3) := by decide +kernel
theorem d11_4 : decode jdk_68_method_9_code 4 = .ok (.arraylength, 1) := by decide +kernel
theorem d11_5 : decode jdk_68_method_9_code 5 = .ok (.aload_n 0, 1) := by decide +kernel
theorem d11_6 : decode jdk_68_method_9_code 6 = .ok (.getfield 22, 3) := by decide +kernel
theorem d11_9 : decode jdk_68_method_9_code 9 = .ok (.ishr, 1) := by decide +kernel
theorem d11_10 : decode jdk_68_method_9_code 10 = .ok (.istore_n 2, 1) := by decide +kernel
theorem d11_11 : decode jdk_68_method_9_code 11 = .ok (.iload_n 1, 1) := by decide +kernel
theorem d11_12 : decode jdk_68_method_9_code 12 = .ok (.iload_n 2, 1) := by decide +kernel
theorem d11_13 : decode jdk_68_method_9_code 13 = .ok (.isub, 1) := by decide +kernel
theorem d11_14 : decode jdk_68_method_9_code 14 = .ok (.ifCond .le 24, 3) := by decide +kernel
theorem d11_38 : decode jdk_68_method_9_code 38 = .ok (.return_, 1) := by decide +kernel
theorem ef_11_vv (m : MethodId) (x0 : Addr) (x1 : Int32) : entryFrame m #[(.ref x0), (.int x1)] 3 = mkF m 0 #[.val (.ref x0), .val (.int x1), .unset] [] := by first | (simp [entryFrame, mkF, argsToLocals, Value.category]; done) | rfl
theorem r11_1 (l : Launch) (Z : State) (a0 : Array Value) (hw : ∀ d ∈ tables_1, d.before a0 Z = true) (a687 : Addr) (p688 : Int32) (w689 : Addr) (k691 : ClassId) (u692 : Nat → Int32) (w694 : Int32) (h0 : Heap) (n0 : Nat) (Z0 : n0 ≤ h0.size) (H0 : Fld Z h0 a687 "java/lang/AbstractStringBuilder" "value" "[B" (.ref w689)) (H1 : BA Z h0 w689 k691 .byte (16 : Int32) u692) (H2 : Fld Z h0 a687 "java/lang/AbstractStringBuilder" "coder" "B" (.int w694)) (H3 : ¬ ((0 : Int32) < (p688 - ((16 : Int32) >>> (w694 &&& 31))))) :
   OMet l Z mN16 jdk_68_method_9_code 3 none [] ({ frames := 0, cells := 0, slots := 0, locals := 0 } : Room) h0 #[(.ref a687), (.int p688)] (OQp (none) h0 n0) := by
 refine MetFree.of_bodySF (plainFor_of_name pn_java_lang_AbstractStringBuilder) hisR ?_
 intro p e s m args below meth c s₁ Bd hml0 hP hK
 obtain ⟨rfl, hZ, hh⟩ := hP
 have hx := Bd.exec
 have hby := Bd.bytes
 have hml : c.maxLocals = 3 := hml0
 have hown : s.vm.findClass "java/lang/AbstractStringBuilder" = some m.cls := findClass_of_methodNamed Bd.named
 have hnm := (name_of_methodNamed Bd.named Bd.method).1
 have X0 : Stand p l e ({ frames := 0, cells := 0, slots := 0, locals := 0 } : Room) s m #[(.ref a687), (.int p688)] below meth c s₁ [] 0 0 := Stand.of_body Bd
 have e0 : s₁.heap = h0 := by rw [← hh, Bd.state]; rfl
 have N0 := Fr.nil n0
 have pre0 : ∀ t, Steps p.tables e below (s₁.setTop (mkF m 0 #[vR a687, vI p688, .unset] [])) t → Steps p.tables e below (s₁.setTop (entryFrame m #[(.ref a687), (.int p688)] 3)) t := fun t k => castTop (ef_11_vv m a687 p688) k
 obtain ⟨T690, X690, e690, st690⟩ := getF X0 hx hZ hown (host := "") (Or.inl (tw hw 39 rfl)) Via.refl e0 H0 (g := (mkF m 1 #[vR a687, vI p688, vU] [(.ref a687)])) rfl rfl (hb hby d11_1)
 have vc693 := H1
 obtain ⟨cl693, Ar693, q693, S693, N693, Hh693, G693⟩ := vc693
 obtain ⟨T695, X695, e695, st695⟩ := getF X690 hx hZ hown (host := "") (Or.inl (tw hw 41 rfl)) Via.refl e690 H2 (g := (mkF m 6 #[vR a687, vI p688, vU] [(.ref a687), (.int (16 : Int32))])) rfl rfl (hb hby d11_6)
 obtain ⟨fs, hr, hrun, hended, hW, hsame⟩ := X695.leave (v := none) (fun _ => rfl)
 refine ⟨_, _, pre0 _ ?_, hrun, hended, _, _, rfl, ?_, ⟨_, rfl⟩, hW, hsame.mono (by decide) (by decide)⟩
 · show SG p e below s₁ (mkF m 0 #[vR a687, vI p688, vU] []) _
   refine XS.aloadN X0.here hx rfl (hb hby d11_0) rfl rfl ?_
   show SG p e below s₁ (mkF m 1 #[vR a687, vI p688, vU] [(.ref a687)]) _
   refine st690 _ ?_
   show SG p e below T690 (mkF m 4 #[vR a687, vI p688, vU] [(.ref w689)]) _
   refine X690.arraylength hx (by rw [e690]; exact Ar693.1) (State.isArrayOf_alike hZ.alike Ar693.2.1) (g := (mkF m 4 #[vR a687, vI p688, vU] [(.ref w689)])) rfl rfl (hb hby d11_4) _ ?_
   rw [len_of S693 N693]
   show SG p e below T690 (mkF m 5 #[vR a687, vI p688, vU] [(.int (16 : Int32))]) _
   refine XS.aloadN X690.here hx rfl (hb hby d11_5) rfl rfl ?_
   show SG p e below T690 (mkF m 6 #[vR a687, vI p688, vU] [(.ref a687), (.int (16 : Int32))]) _
   refine st695 _ ?_
   show SG p e below T695 (mkF m 9 #[vR a687, vI p688, vU] [(.int w694), (.int (16 : Int32))]) _
   refine XS.ishr X695.here hx rfl (hb hby d11_9) rfl ?_
   show SG p e below T695 (mkF m 10 #[vR a687, vI p688, vU] [(.int ((16 : Int32) >>> (w694 &&& 31)))]) _
   refine XS.istoreN X695.here hx rfl (hb hby d11_10) rfl (l' := #[vR a687, vI p688, vI ((16 : Int32) >>> (w694 &&& 31))]) rfl ?_
   show SG p e below T695 (mkF m 11 #[vR a687, vI p688, vI ((16 : Int32) >>> (w694 &&& 31))] []) _
   refine XS.iloadN X695.here hx rfl (hb hby d11_11) rfl ?_
   show SG p e below T695 (mkF m 12 #[vR a687, vI p688, vI ((16 : Int32) >>> (w694 &&& 31))] [(.int p688)]) _
   refine XS.iloadN X695.here hx rfl (hb hby d11_12) rfl ?_
   show SG p e below T695 (mkF m 13 #[vR a687, vI p688, vI ((16 : Int32) >>> (w694 &&& 31))] [(.int ((16 : Int32) >>> (w694 &&& 31))), (.int p688)]) _
   refine XS.isub X695.here hx rfl (hb hby d11_13) rfl ?_
   show SG p e below T695 (mkF m 14 #[vR a687, vI p688, vI ((16 : Int32) >>> (w694 &&& 31))] [(.int (p688 - ((16 : Int32) >>> (w694 &&& 31))))]) _
   refine XS.ifYes X695.here hx rfl (pc0 := 14) (pc' := 38) rfl (hb hby d11_14) rfl ((if0 _ _).trans (flt H3).2.2.2) (by decide) (by decide) ?_
   show SG p e below T695 (mkF m 38 #[vR a687, vI p688, vI ((16 : Int32) >>> (w694 &&& 31))] []) _
   exact X695.returnOut hx Bd.returns (hb hby d11_38) hr
 · show OQp (none) h0 n0 _ T695.heap _
   rw [e695]
   exact ⟨rfl, N0, rfl⟩
theorem pd_17 : parseMethodDescriptor "(I)V" = some ⟨[.int], none⟩ := by decide +kernel
theorem d16_19 : decode jdk_68_method_33_code 19 = .ok (.aload_n 0, 1) := by decide +kernel
theorem d16_20 : decode jdk_68_method_33_code 20 = .ok (.invokevirtual 83, 3) := by decide +kernel
theorem d16_23 : decode jdk_68_method_33_code 23 = .ok (.ifCond .eq 17, 3) := by decide +kernel
theorem d16_26 : decode jdk_68_method_33_code 26 = .ok (.lload_n 1, 1) := by decide +kernel
theorem d16_27 : decode jdk_68_method_33_code 27 = .ok (.iload 4, 2) := by decide +kernel
theorem d16_29 : decode jdk_68_method_33_code 29 = .ok (.aload_n 0, 1) := by decide +kernel
theorem d16_30 : decode jdk_68_method_33_code 30 = .ok (.getfield 15, 3) := by decide +kernel
theorem d16_33 : decode jdk_68_method_33_code 33 = .ok (.invokestatic 259, 3) := by decide +kernel
theorem pd_18 : parseMethodDescriptor "(JI[B)I" = some ⟨[.long, .int, (.array .byte)], some .int⟩ := by decide +kernel
theorem d16_36 : decode jdk_68_method_33_code 36 = .ok (.pop, 1) := by decide +kernel
theorem d16_37 : decode jdk_68_method_33_code 37 = .ok (.goto 15, 3) := by decide +kernel
theorem d16_52 : decode jdk_68_method_33_code 52 = .ok (.aload_n 0, 1) := by decide +kernel
theorem d16_53 : decode jdk_68_method_33_code 53 = .ok (.iload 4, 2) := by decide +kernel
theorem d16_55 : decode jdk_68_method_33_code 55 = .ok (.putfield 79, 3) := by decide +kernel
theorem d16_58 : decode jdk_68_method_33_code 58 = .ok (.aload_n 0, 1) := by decide +kernel
theorem d16_59 : decode jdk_68_method_33_code 59 = .ok (.areturn, 1) := by decide +kernel
theorem ef_16_vv (m : MethodId) (x0 : Addr) (x1 : Int64) : entryFrame m #[(.ref x0), (.long x1)] 5 = mkF m 0 #[.val (.ref x0), .val (.long x1), .second, .unset, .unset] [] := by first | (simp [entryFrame, mkF, argsToLocals, Value.category]; done) | rfl
def Qr16_1 (Z : State) (a682 : Addr) (q683 : Int64) (w684 : Int32) (w697 : Addr) (k698 : ClassId) (u699 : Nat → Int32) (w700 : Int32) (w707 : Int32) (w710 : Addr) (w711 : Addr) (k712 : ClassId) (u713 : Nat → Int32) (k714 : ClassId) (u715 : Nat → Int32) (h0 : Heap) (n0 : Nat) (v : Option Value) (h : Heap) (L : List Loc) : Prop := Fr n0 L ∧ v = some (.ref a682) ∧ KSx h0 h [(a682, Jvm.RoadKit.slotOf Z "java/lang/AbstractStringBuilder" "count" "I")] [w697] ∧ Fld Z h a682 "java/lang/AbstractStringBuilder" "count" "I" (.int (w684 + (SBG.strSizeOfL q683))) ∧ BA Z h w697 k698 .byte (16 : Int32) (SBG.ogc (decide (q683 < 0)) (q683).toInt.natAbs (SBG.digitsL (q683).toInt.natAbs) ((w684 + (SBG.strSizeOfL q683))).toNatClampNeg u699)
theorem r16_1 (l : Launch) (Z : State) (a0 : Array Value) (hw : ∀ d ∈ tables_1, d.before a0 Z = true) (a682 : Addr) (q683 : Int64) (w684 : Int32) (w697 : Addr) (k698 : ClassId) (u699 : Nat → Int32) (w700 : Int32) (w707 : Int32) (w710 : Addr) (w711 : Addr) (k712 : ClassId) (u713 : Nat → Int32) (k714 : ClassId) (u715 : Nat → Int32) (h0 : Heap) (n0 : Nat) (Z0 : n0 ≤ h0.size) (H0 : Fld Z h0 a682 "java/lang/AbstractStringBuilder" "count" "I" (.int w684)) (H1 : Fld Z h0 a682 "java/lang/AbstractStringBuilder" "value" "[B" (.ref w697)) (H2 : BA Z h0 w697 k698 .byte (16 : Int32) u699) (H3 : Fld Z h0 a682 "java/lang/AbstractStringBuilder" "coder" "B" (.int w700)) (H4 : ¬ ((0 : Int32) < ((w684 + (SBG.strSizeOfL q683)) - ((16 : Int32) >>> (w700 &&& 31))))) (H5 : Exa Z h0 a682 "java/lang/StringBuilder") (H6 : Sta Z h0 "java/lang/String" "COMPACT_STRINGS" "Z" (.int w707)) (H7 : ¬ (w707 = (0 : Int32))) (H8 : w700 = (0 : Int32)) (H9 : Sta Z h0 "java/lang/Integer" "DigitOnes" "[B" (.ref w710)) (H10 : Sta Z h0 "java/lang/Integer" "DigitTens" "[B" (.ref w711)) (H11 : BA Z h0 w710 k712 .byte (100 : Int32) u713) (H12 : BA Z h0 w711 k714 .byte (100 : Int32) u715) (H13 : w697 ≠ w710) (H14 : w697 ≠ w711) (H15 : n0 ≤ w697) (H16 : ¬ ((w684 + (SBG.strSizeOfL q683)) < (0 : Int32))) (H17 : ((w684 + (SBG.strSizeOfL q683))).toNatClampNeg ≤ ((16 : Int32)).toNatClampNeg) (H18 : SBG.digitsL (q683).toInt.natAbs + (if q683 < 0 then 1 else 0) ≤ ((w684 + (SBG.strSizeOfL q683))).toNatClampNeg) (H19 : u713 = (fun r => Int32.ofNat (48 + r % 10))) (H20 : u715 = (fun r => Int32.ofNat (48 + r / 10))) (H21 : (Jvm.Cond.laysStatic "java/lang/Integer" "DigitOnes" "[B").before a0 Z = true) (H22 : (Jvm.Cond.laysStatic "java/lang/Integer" "DigitTens" "[B").before a0 Z = true) (H23 : a682 ≠ w697) (H24 : n0 ≤ a682) (H25 : w697 ≠ a682) :
   OMet l Z mN28 jdk_68_method_33_code 5 (some (.object "java/lang/AbstractStringBuilder")) [] ({ frames := 2, cells := 0, slots := 0, locals := 102 } : Room) h0 #[(.ref a682), (.long q683)] (Qr16_1 Z a682 q683 w684 w697 k698 u699 w700 w707 w710 w711 k712 u713 k714 u715 h0 n0) := by
 refine MetFree.of_bodySF (plainFor_of_name pn_java_lang_AbstractStringBuilder) hisR ?_
 intro p e s m args below meth c s₁ Bd hml0 hP hK
 obtain ⟨rfl, hZ, hh⟩ := hP
 have hx := Bd.exec
 have hby := Bd.bytes
 have hml : c.maxLocals = 5 := hml0
 have hown : s.vm.findClass "java/lang/AbstractStringBuilder" = some m.cls := findClass_of_methodNamed Bd.named
 have hnm := (name_of_methodNamed Bd.named Bd.method).1
 have X0 : Stand p l e ({ frames := 2, cells := 0, slots := 0, locals := 102 } : Room) s m #[(.ref a682), (.long q683)] below meth c s₁ [] 0 0 := Stand.of_body Bd
 have e0 : s₁.heap = h0 := by rw [← hh, Bd.state]; rfl
 have N0 := Fr.nil n0
 have pre0 : ∀ t, Steps p.tables e below (s₁.setTop (mkF m 0 #[vR a682, vJ q683, vS, .unset, .unset] [])) t → Steps p.tables e below (s₁.setTop (entryFrame m #[(.ref a682), (.long q683)] 5)) t := fun t k => castTop (ef_16_vv m a682 q683) k
 obtain ⟨T685, X685, e685, st685⟩ := getF X0 hx hZ hown (host := "") (Or.inl (tw hw 72 rfl)) Via.refl e0 H0 (g := (mkF m 1 #[vR a682, vJ q683, vS, vU, vU] [(.ref a682)])) rfl rfl (hb hby d16_1)
 obtain ⟨_, _, ⟨T686, L686, k686, n686⟩, -, X686, ⟨Lc686, hQ686, l686, y686, z686⟩, st686⟩ := Jvm.LawKit.callS X685 hx (y := mN26) hown (mvT hZ (tw hw 108 rfl)) (mvT hZ (tw hw 109 rfl)) (mvT hZ (tw hw 110 rfl)) (mvT hZ (tw hw 111 rfl)) (by decide) (backOf (W := 1) (own_ssL (l := l) (h0 := h0) (n0 := n0) (x := q683) (tw hw 111 rfl) (tw hw 112 rfl) (tw hw 287 rfl)) hZ (tw hw 111 rfl) (tw hw 110 rfl) (by decide) (by decide)) (g := (mkF m 7 #[vR a682, vJ q683, vS, vI w684, vU] [(.long q683), (.int w684)])) rfl (by rw [hml]; rfl) (argsL := [(.long q683)]) (rest := [(.int w684)]) (lenOf pd_9 rfl) rfl (own_w _) (hb hby d16_7) (fun _ _ => ⟨rfl, e685, (by decide : 0 + 0 ≤ _), (by decide : 0 + 0 ≤ _)⟩)
 dsimp only [Pt.U, Pt.locs, Pt.cells, Pt.slots] at X686 l686 y686 z686 st686 hQ686
 replace X686 := own_mvX X686 (a := 0) (b := 0) y686 z686
 obtain ⟨rfl, N686q, e686⟩ := hQ686
 have N686 := own_mvN l686 N0 N686q
 obtain ⟨cq696, kq696, q696a, q696b, q696c⟩ := isOf hZ e686 H5
 obtain ⟨_, _, ⟨T696, L696, k696, n696⟩, -, X696, ⟨Lc696, hQ696, l696, y696, z696⟩, st696⟩ := X686.virtualBack hx (y := mN16) (z := mN16) hown (mvT hZ (tw hw 74 rfl)) (own_decl (mvT hZ (tw hw 75 rfl)) (mvT hZ (tw hw 78 rfl))) (notFace_of_selects (args := #[]) (mvT hZ (tw hw 77 rfl))) (mvT hZ (tw hw 77 rfl)) (mvT hZ (tw hw 75 rfl)) (by decide) (backOf (W := 0) (r11_1 l Z a0 hw a682 (w684 + (SBG.strSizeOfL q683)) w697 k698 u699 w700 h0 n0 Z0 H1 H2 H3 H4) hZ (tw hw 78 rfl) (tw hw 33 rfl) (by decide) (by decide)) q696a q696c (g := (mkF m 16 (la16 a682 q683 w684) [(.int (w684 + (SBG.strSizeOfL q683))), (.ref a682)])) rfl (by rw [hml]; rfl) (Steps.refl _) (argsL := [(.int (w684 + (SBG.strSizeOfL q683)))]) (rest := []) (lenOf pd_17 rfl) rfl (own_w _) (hb hby d16_16) (fun _ _ => ⟨rfl, e686, (by decide : 0 + 0 ≤ _), (by decide : 0 + 0 ≤ _)⟩)
 dsimp only [Pt.U, Pt.locs, Pt.cells, Pt.slots] at X696 l696 y696 z696 st696 hQ696
 replace X696 := own_mvX X696 (a := 0) (b := 0) y696 z696
 obtain ⟨rfl, N696q, e696⟩ := hQ696
 have N696 := own_mvN l696 N686 N696q
 obtain ⟨cq706, kq706, q706a, q706b, q706c⟩ := isOf hZ e696 H5
 obtain ⟨_, _, ⟨T706, L706, k706, n706⟩, -, X706, ⟨Lc706, hQ706, l706, y706, z706⟩, st706⟩ := X696.virtualBack hx (y := mN18) (z := mN18) hown (mvT hZ (tw hw 113 rfl)) (mvT hZ (tw hw 114 rfl)) (notFace_of_selects (args := #[]) (mvT hZ (tw hw 116 rfl))) (mvT hZ (tw hw 116 rfl)) (mvT hZ (tw hw 115 rfl)) (by decide) (backOf (W := 0) (r18_1 l Z a0 hw a682 w707 w700 h0 n0 Z0 H6 H7 H3 H8) hZ (tw hw 117 rfl) (tw hw 33 rfl) (by decide) (by decide)) q706a q706c (g := (mkF m 20 (la16 a682 q683 w684) [(.ref a682)])) rfl (by rw [hml]; rfl) (Steps.refl _) (argsL := []) (rest := []) (lenOf pd_0 rfl) rfl (own_w _) (hb hby d16_20) (fun _ _ => ⟨rfl, e696, (by decide : 0 + 0 ≤ _), (by decide : 0 + 0 ≤ _)⟩)
 dsimp only [Pt.U, Pt.locs, Pt.cells, Pt.slots] at X706 l706 y706 z706 st706 hQ706
 replace X706 := own_mvX X706 (a := 0) (b := 0) y706 z706
 obtain ⟨rfl, N706q, e706⟩ := hQ706
 have N706 := own_mvN l706 N696 N706q
 obtain ⟨T708, X708, e708, st708⟩ := getF X706 hx hZ hown (host := "") (Or.inl (tw hw 39 rfl)) Via.refl e706 H1 (g := (mkF m 30 (la16 a682 q683 w684) [(.ref a682), (.int (w684 + (SBG.strSizeOfL q683))), (.long q683)])) rfl rfl (hb hby d16_30)
 obtain ⟨_, _, ⟨T709, L709, k709, n709⟩, -, X709, ⟨Lc709, hQ709, l709, y709, z709⟩, st709⟩ := Jvm.LawKit.callS X708 hx (y := mN27) hown (mvT hZ (tw hw 118 rfl)) (mvT hZ (tw hw 119 rfl)) (mvT hZ (tw hw 110 rfl)) (mvT hZ (tw hw 120 rfl)) (by decide) (backOf (W := 0) (own_gcL2 (l := l) (h0 := h0) (n0 := n0) (x := q683) (j := (w684 + (SBG.strSizeOfL q683))) (tw hw 120 rfl) (tw hw 122 rfl) (tw hw 288 rfl) (tw hw 121 rfl) (tw hw 306 rfl) H9 H10 H21 H22 H19 H11 H20 H12 H2 H13 H14 H15 H16 H17 H18) hZ (tw hw 120 rfl) (tw hw 110 rfl) (by decide) (by decide)) (g := (mkF m 33 (la16 a682 q683 w684) [(.ref w697), (.int (w684 + (SBG.strSizeOfL q683))), (.long q683)])) rfl (by rw [hml]; rfl) (argsL := [(.long q683), (.int (w684 + (SBG.strSizeOfL q683))), (.ref w697)]) (rest := []) (lenOf pd_18 rfl) rfl (own_w _) (hb hby d16_33) (fun _ _ => ⟨rfl, e708, (by decide : 0 + 0 ≤ _), (by decide : 0 + 0 ≤ _)⟩)
 dsimp only [Pt.U, Pt.locs, Pt.cells, Pt.slots] at X709 l709 y709 z709 st709 hQ709
 replace X709 := own_mvX X709 (a := 0) (b := 0) y709 z709
 obtain ⟨N709q, rfl, K709, o709_0⟩ := hQ709
 have N709 := own_mvN l709 N706 N709q
 have KC709 := KSx.trans (KSx.refl h0 [(a682, Jvm.RoadKit.slotOf Z "java/lang/AbstractStringBuilder" "count" "I")] [w697]) K709 ks0 (allS (Or.inl (List.mem_of_getElem? (i := 0) rfl)) all0)
 have f716 := (H5.ks K709)
 have f717 := (H0.ks K709 ks0 (allS H23 all0))
 obtain ⟨T718, h718, X718, e718, W718, st718⟩ := putF X709 hx hZ hown (host := "") (Or.inl (tw hw 72 rfl)) Via.refl rfl f717 f716 (Or.inl (tw hw 73 rfl)) (tw hw 24 rfl) (ty := .int) (by decide) rfl rfl (g := (mkF m 55 (la16 a682 q683 w684) [(.int (w684 + (SBG.strSizeOfL q683))), (.ref a682)])) rfl rfl (hb hby d16_55)
 have Fw718 := Fld.same W718 f717
 have KC718 := KSx.wr KC709 W718 (Or.inl (List.mem_of_getElem? (i := 0) rfl))
 have N718 := Fr.snoc X718 N709 H24
 have f719 := (o709_0.other W718 H25)
 obtain ⟨fs, hr, hrun, hended, hW, hsame⟩ := X718.leave (v := some (.ref a682)) (fun h => by rw [Bd.returns] at h; cases h)
 refine ⟨_, _, pre0 _ ?_, hrun, hended, _, _, rfl, ?_, ⟨_, rfl⟩, hW, hsame.mono (by decide) (by decide)⟩
 · show SG p e below s₁ (mkF m 0 #[vR a682, vJ q683, vS, vU, vU] []) _
   refine XS.aloadN X0.here hx rfl (hb hby d16_0) rfl rfl ?_
   show SG p e below s₁ (mkF m 1 #[vR a682, vJ q683, vS, vU, vU] [(.ref a682)]) _
   refine st685 _ ?_
   show SG p e below T685 (mkF m 4 #[vR a682, vJ q683, vS, vU, vU] [(.int w684)]) _
   refine XS.istoreN X685.here hx rfl (hb hby d16_4) rfl (l' := #[vR a682, vJ q683, vS, vI w684, vU]) rfl ?_
   show SG p e below T685 (mkF m 5 #[vR a682, vJ q683, vS, vI w684, vU] []) _
   refine XS.iloadN X685.here hx rfl (hb hby d16_5) rfl ?_
   show SG p e below T685 (mkF m 6 #[vR a682, vJ q683, vS, vI w684, vU] [(.int w684)]) _
   refine XS.lloadN X685.here hx rfl (hb hby d16_6) rfl ?_
   show SG p e below T685 (mkF m 7 #[vR a682, vJ q683, vS, vI w684, vU] [(.long q683), (.int w684)]) _
   refine st686 _ ?_
   show SG p e below T686 (mkF m 10 #[vR a682, vJ q683, vS, vI w684, vU] [(.int (SBG.strSizeOfL q683)), (.int w684)]) _
   refine XS.iadd X686.here hx rfl (hb hby d16_10) rfl ?_
   show SG p e below T686 (mkF m 11 #[vR a682, vJ q683, vS, vI w684, vU] [(.int (w684 + (SBG.strSizeOfL q683)))]) _
   refine XS.istore X686.here hx rfl (hb hby d16_11) rfl (l' := #[vR a682, vJ q683, vS, vI w684, vI (w684 + (SBG.strSizeOfL q683))]) rfl ?_
   show SG p e below T686 (mkF m 13 (la16 a682 q683 w684) []) _
   refine XS.aloadN X686.here hx rfl (hb hby d16_13) rfl rfl ?_
   show SG p e below T686 (mkF m 14 (la16 a682 q683 w684) [(.ref a682)]) _
   refine XS.iload X686.here hx rfl (hb hby d16_14) rfl ?_
   show SG p e below T686 (mkF m 16 (la16 a682 q683 w684) [(.int (w684 + (SBG.strSizeOfL q683))), (.ref a682)]) _
   refine st696.trans ?_
   show SG p e below T696 (mkF m 19 (la16 a682 q683 w684) []) _
   refine XS.aloadN X696.here hx rfl (hb hby d16_19) rfl rfl ?_
   show SG p e below T696 (mkF m 20 (la16 a682 q683 w684) [(.ref a682)]) _
   refine st706.trans ?_
   show SG p e below T706 (mkF m 23 (la16 a682 q683 w684) [(.int (1 : Int32))]) _
   refine XS.ifNo X706.here hx rfl (hb hby d16_23) rfl ((if0 _ _).trans (feq (by decide : ¬ ((1 : Int32) = (0 : Int32)))).1) ?_
   show SG p e below T706 (mkF m 26 (la16 a682 q683 w684) []) _
   refine XS.lloadN X706.here hx rfl (hb hby d16_26) rfl ?_
   show SG p e below T706 (mkF m 27 (la16 a682 q683 w684) [(.long q683)]) _
   refine XS.iload X706.here hx rfl (hb hby d16_27) rfl ?_
   show SG p e below T706 (mkF m 29 (la16 a682 q683 w684) [(.int (w684 + (SBG.strSizeOfL q683))), (.long q683)]) _
   refine XS.aloadN X706.here hx rfl (hb hby d16_29) rfl rfl ?_
   show SG p e below T706 (mkF m 30 (la16 a682 q683 w684) [(.ref a682), (.int (w684 + (SBG.strSizeOfL q683))), (.long q683)]) _
   refine st708 _ ?_
   show SG p e below T708 (mkF m 33 (la16 a682 q683 w684) [(.ref w697), (.int (w684 + (SBG.strSizeOfL q683))), (.long q683)]) _
   refine st709 _ ?_
   show SG p e below T709 (mkF m 36 (la16 a682 q683 w684) [(.int (Int32.ofNat (((w684 + (SBG.strSizeOfL q683))).toNatClampNeg - (SBG.digitsL (q683).toInt.natAbs + (if q683 < 0 then 1 else 0)))))]) _
   refine XS.pop X709.here hx rfl (hb hby d16_36) rfl rfl ?_
   show SG p e below T709 (mkF m 37 (la16 a682 q683 w684) []) _
   refine XS.goto X709.here hx rfl (pc0 := 37) (pc' := 52) rfl (hb hby d16_37) (by decide) (by decide) ?_
   show SG p e below T709 (mkF m 52 (la16 a682 q683 w684) []) _
   refine XS.aloadN X709.here hx rfl (hb hby d16_52) rfl rfl ?_
   show SG p e below T709 (mkF m 53 (la16 a682 q683 w684) [(.ref a682)]) _
   refine XS.iload X709.here hx rfl (hb hby d16_53) rfl ?_
   show SG p e below T709 (mkF m 55 (la16 a682 q683 w684) [(.int (w684 + (SBG.strSizeOfL q683))), (.ref a682)]) _
   refine st718 _ ?_
   show SG p e below T718 (mkF m 58 (la16 a682 q683 w684) []) _
   refine XS.aloadN X718.here hx rfl (hb hby d16_58) rfl rfl ?_
   show SG p e below T718 (mkF m 59 (la16 a682 q683 w684) [(.ref a682)]) _
   jvm_step X718.here [X718.here.top, hx, (hb hby d16_59), X718.method', Bd.returns, Value.isRef, FieldType.isReference]
   first | (intro acts; rw [hr _ acts rfl rfl rfl]) | rw [hr _ _ rfl rfl rfl]
   exact Steps.refl _
 · show Qr16_1 Z a682 q683 w684 w697 k698 u699 w700 w707 w710 w711 k712 u713 k714 u715 h0 n0 _ T718.heap _
   rw [e718]
   exact ⟨N718, rfl, KC718, Fw718, f719⟩
theorem pd_19 : parseMethodDescriptor "(J)Ljava/lang/AbstractStringBuilder;" = some ⟨[.long], some (.object "java/lang/AbstractStringBuilder")⟩ := by decide +kernel
theorem d15_5 : decode jdk_67_method_16_code 5 = .ok (.pop, 1) := by decide +kernel
theorem d15_6 : decode jdk_67_method_16_code 6 = .ok (.aload_n 0, 1) := by decide +kernel
theorem d15_7 : decode jdk_67_method_16_code 7 = .ok (.areturn, 1) := by decide +kernel
theorem ef_15_vv (m : MethodId) (x0 : Addr) (x1 : Int64) : entryFrame m #[(.ref x0), (.long x1)] 3 = mkF m 0 #[.val (.ref x0), .val (.long x1), .second] [] := by first | (simp [entryFrame, mkF, argsToLocals, Value.category]; done) | rfl
def Qr15_1 (Z : State) (a680 : Addr) (q681 : Int64) (w721 : Int32) (w722 : Addr) (k723 : ClassId) (u724 : Nat → Int32) (w725 : Int32) (w726 : Int32) (w727 : Addr) (w728 : Addr) (k729 : ClassId) (u730 : Nat → Int32) (k731 : ClassId) (u732 : Nat → Int32) (h0 : Heap) (n0 : Nat) (v : Option Value) (h : Heap) (L : List Loc) : Prop := Fr n0 L ∧ v = some (.ref a680) ∧ KSx h0 h [(a680, Jvm.RoadKit.slotOf Z "java/lang/AbstractStringBuilder" "count" "I")] [w722] ∧ Fld Z h a680 "java/lang/AbstractStringBuilder" "count" "I" (.int (w721 + (SBG.strSizeOfL q681))) ∧ BA Z h w722 k723 .byte (16 : Int32) (SBG.ogc (decide (q681 < 0)) (q681).toInt.natAbs (SBG.digitsL (q681).toInt.natAbs) ((w721 + (SBG.strSizeOfL q681))).toNatClampNeg u724)
theorem r15_1 (l : Launch) (Z : State) (a0 : Array Value) (hw : ∀ d ∈ tables_1, d.before a0 Z = true) (a680 : Addr) (q681 : Int64) (w721 : Int32) (w722 : Addr) (k723 : ClassId) (u724 : Nat → Int32) (w725 : Int32) (w726 : Int32) (w727 : Addr) (w728 : Addr) (k729 : ClassId) (u730 : Nat → Int32) (k731 : ClassId) (u732 : Nat → Int32) (h0 : Heap) (n0 : Nat) (Z0 : n0 ≤ h0.size) (H0 : Fld Z h0 a680 "java/lang/AbstractStringBuilder" "count" "I" (.int w721)) (H1 : Fld Z h0 a680 "java/lang/AbstractStringBuilder" "value" "[B" (.ref w722)) (H2 : BA Z h0 w722 k723 .byte (16 : Int32) u724) (H3 : Fld Z h0 a680 "java/lang/AbstractStringBuilder" "coder" "B" (.int w725)) (H4 : ¬ ((0 : Int32) < ((w721 + (SBG.strSizeOfL q681)) - ((16 : Int32) >>> (w725 &&& 31))))) (H5 : Exa Z h0 a680 "java/lang/StringBuilder") (H6 : Sta Z h0 "java/lang/String" "COMPACT_STRINGS" "Z" (.int w726)) (H7 : ¬ (w726 = (0 : Int32))) (H8 : w725 = (0 : Int32)) (H9 : Sta Z h0 "java/lang/Integer" "DigitOnes" "[B" (.ref w727)) (H10 : Sta Z h0 "java/lang/Integer" "DigitTens" "[B" (.ref w728)) (H11 : BA Z h0 w727 k729 .byte (100 : Int32) u730) (H12 : BA Z h0 w728 k731 .byte (100 : Int32) u732) (H13 : w722 ≠ w727) (H14 : w722 ≠ w728) (H15 : n0 ≤ w722) (H16 : ¬ ((w721 + (SBG.strSizeOfL q681)) < (0 : Int32))) (H17 : ((w721 + (SBG.strSizeOfL q681))).toNatClampNeg ≤ ((16 : Int32)).toNatClampNeg) (H18 : SBG.digitsL (q681).toInt.natAbs + (if q681 < 0 then 1 else 0) ≤ ((w721 + (SBG.strSizeOfL q681))).toNatClampNeg) (H19 : u730 = (fun r => Int32.ofNat (48 + r % 10))) (H20 : u732 = (fun r => Int32.ofNat (48 + r / 10))) (H21 : (Jvm.Cond.laysStatic "java/lang/Integer" "DigitOnes" "[B").before a0 Z = true) (H22 : (Jvm.Cond.laysStatic "java/lang/Integer" "DigitTens" "[B").before a0 Z = true) (H23 : a680 ≠ w722) (H24 : n0 ≤ a680) (H25 : w722 ≠ a680) :
   OMet l Z mN29 jdk_67_method_16_code 3 (some (.object "java/lang/StringBuilder")) [] ({ frames := 5, cells := 1, slots := 34, locals := 118 } : Room) h0 #[(.ref a680), (.long q681)] (Qr15_1 Z a680 q681 w721 w722 k723 u724 w725 w726 w727 w728 k729 u730 k731 u732 h0 n0) := by
 refine MetFree.of_bodySF (plainFor_of_name pn_java_lang_StringBuilder) hisR ?_
 intro p e s m args below meth c s₁ Bd hml0 hP hK
 obtain ⟨rfl, hZ, hh⟩ := hP
 have hx := Bd.exec
 have hby := Bd.bytes
 have hml : c.maxLocals = 3 := hml0
 have hown : s.vm.findClass "java/lang/StringBuilder" = some m.cls := findClass_of_methodNamed Bd.named
 have hnm := (name_of_methodNamed Bd.named Bd.method).1
 have X0 : Stand p l e ({ frames := 5, cells := 1, slots := 34, locals := 118 } : Room) s m #[(.ref a680), (.long q681)] below meth c s₁ [] 0 0 := Stand.of_body Bd
 have e0 : s₁.heap = h0 := by rw [← hh, Bd.state]; rfl
 have N0 := Fr.nil n0
 have pre0 : ∀ t, Steps p.tables e below (s₁.setTop (mkF m 0 #[vR a680, vJ q681, vS] [])) t → Steps p.tables e below (s₁.setTop (entryFrame m #[(.ref a680), (.long q681)] 3)) t := fun t k => castTop (ef_15_vv m a680 q681) k
 obtain ⟨_, _, ⟨T720, L720, k720, n720⟩, -, X720, ⟨Lc720, hQ720, l720, y720, z720⟩, st720⟩ := superBack X0 hx hZ (y := mN28) hown (tw hw 104 rfl) (own_same (y := mN28) (by decide) (tw hw 105 rfl) (own_nf (args := a0) (w := mN16) rfl (tw hw 77 rfl))) (tw hw 105 rfl) (tw hw 56 rfl) (by decide) (backOf (W := 0) (r16_1 l Z a0 hw a680 q681 w721 w722 k723 u724 w725 w726 w727 w728 k729 u730 k731 u732 h0 n0 Z0 H0 H1 H2 H3 H4 H5 H6 H7 H8 H9 H10 H11 H12 H13 H14 H15 H16 H17 H18 H19 H20 H21 H22 H23 H24 H25) hZ (tw hw 107 rfl) (tw hw 33 rfl) (by decide) (by decide)) e0 (Ins.self H5) (g := (mkF m 2 #[vR a680, vJ q681, vS] [(.long q681), (.ref a680)])) rfl (by rw [hml]; rfl) (tw hw 107 rfl) (argsL := [(.long q681)]) (rest := []) (lenOf pd_19 rfl) rfl (own_w _) (hb hby d15_2) (fun _ _ => ⟨rfl, e0, (by decide : 0 + 0 ≤ _), (by decide : 0 + 0 ≤ _)⟩)
 dsimp only [Pt.U, Pt.locs, Pt.cells, Pt.slots] at X720 l720 y720 z720 st720 hQ720
 replace X720 := own_mvX X720 (a := 0) (b := 0) y720 z720
 obtain ⟨N720q, rfl, K720, o720_0, o720_1⟩ := hQ720
 have N720 := own_mvN l720 N0 N720q
 have KC720 := KSx.trans (KSx.refl h0 [(a680, Jvm.RoadKit.slotOf Z "java/lang/AbstractStringBuilder" "count" "I")] [w722]) K720 (ksS (Or.inl (List.mem_of_getElem? (i := 0) rfl)) ks0) (allS (Or.inl (List.mem_of_getElem? (i := 0) rfl)) all0)
 obtain ⟨fs, hr, hrun, hended, hW, hsame⟩ := X720.leave (v := some (.ref a680)) (fun h => by rw [Bd.returns] at h; cases h)
 refine ⟨_, _, pre0 _ ?_, hrun, hended, _, _, rfl, ?_, ⟨_, rfl⟩, hW, hsame.mono (by decide) (by decide)⟩
 · show SG p e below s₁ (mkF m 0 #[vR a680, vJ q681, vS] []) _
   refine XS.aloadN X0.here hx rfl (hb hby d15_0) rfl rfl ?_
   show SG p e below s₁ (mkF m 1 #[vR a680, vJ q681, vS] [(.ref a680)]) _
   refine XS.lloadN X0.here hx rfl (hb hby d15_1) rfl ?_
   show SG p e below s₁ (mkF m 2 #[vR a680, vJ q681, vS] [(.long q681), (.ref a680)]) _
   refine st720.trans ?_
   show SG p e below T720 (mkF m 5 #[vR a680, vJ q681, vS] [(.ref a680)]) _
   refine XS.pop X720.here hx rfl (hb hby d15_5) rfl rfl ?_
   show SG p e below T720 (mkF m 6 #[vR a680, vJ q681, vS] []) _
   refine XS.aloadN X720.here hx rfl (hb hby d15_6) rfl rfl ?_
   show SG p e below T720 (mkF m 7 #[vR a680, vJ q681, vS] [(.ref a680)]) _
   jvm_step X720.here [X720.here.top, hx, (hb hby d15_7), X720.method', Bd.returns, Value.isRef, FieldType.isReference]
   first | (intro acts; rw [hr _ acts rfl rfl rfl]) | rw [hr _ _ rfl rfl rfl]
   exact Steps.refl _
 · show Qr15_1 Z a680 q681 w721 w722 k723 u724 w725 w726 w727 w728 k729 u730 k731 u732 h0 n0 _ T720.heap _
   exact ⟨N720, rfl, KC720, o720_0, o720_1⟩
abbrev la17 (a735 : Addr) (q736 : Int64) (w737 : Int32) : Array Slot := #[vR a735, vJ q736, vS, vI w737, vI (w737 + (SBG.strSizeOfL q736))]
theorem d11_17 : decode jdk_68_method_9_code 17 = .ok (.aload_n 0, 1) := by decide +kernel
theorem d11_18 : decode jdk_68_method_9_code 18 = .ok (.aload_n 0, 1) := by decide +kernel
theorem d11_19 : decode jdk_68_method_9_code 19 = .ok (.getfield 15, 3) := by decide +kernel
theorem d11_22 : decode jdk_68_method_9_code 22 = .ok (.aload_n 0, 1) := by decide +kernel
theorem d11_23 : decode jdk_68_method_9_code 23 = .ok (.iload_n 1, 1) := by decide +kernel
theorem d11_24 : decode jdk_68_method_9_code 24 = .ok (.invokevirtual 104, 3) := by decide +kernel
theorem d48_0 : decode jdk_68_method_10_code 0 = .ok (.aload_n 0, 1) := by decide +kernel
theorem d48_1 : decode jdk_68_method_10_code 1 = .ok (.getfield 15, 3) := by decide +kernel
theorem d48_4 : decode jdk_68_method_10_code 4 = .ok (.arraylength, 1) := by decide +kernel
theorem d48_5 : decode jdk_68_method_10_code 5 = .ok (.istore_n 2, 1) := by decide +kernel
theorem d48_6 : decode jdk_68_method_10_code 6 = .ok (.iload_n 1, 1) := by decide +kernel
theorem d48_7 : decode jdk_68_method_10_code 7 = .ok (.aload_n 0, 1) := by decide +kernel
theorem d48_8 : decode jdk_68_method_10_code 8 = .ok (.getfield 22, 3) := by decide +kernel
theorem d48_11 : decode jdk_68_method_10_code 11 = .ok (.ishl, 1) := by decide +kernel
theorem d48_12 : decode jdk_68_method_10_code 12 = .ok (.istore_n 3, 1) := by decide +kernel
theorem d48_13 : decode jdk_68_method_10_code 13 = .ok (.iload_n 3, 1) := by decide +kernel
abbrev la18 (a750 : Addr) (p751 : Int32) (w757 : Int32) : Array Slot := #[vR a750, vI p751, vI (16 : Int32), vI (p751 <<< (w757 &&& 31)), vU, vU]
theorem d48_14 : decode jdk_68_method_10_code 14 = .ok (.iload_n 2, 1) := by decide +kernel
theorem d48_15 : decode jdk_68_method_10_code 15 = .ok (.isub, 1) := by decide +kernel
theorem d48_16 : decode jdk_68_method_10_code 16 = .ok (.istore 4, 2) := by decide +kernel
theorem d48_18 : decode jdk_68_method_10_code 18 = .ok (.iload_n 2, 1) := by decide +kernel
abbrev la19 (a750 : Addr) (p751 : Int32) (w757 : Int32) : Array Slot := #[vR a750, vI p751, vI (16 : Int32), vI (p751 <<< (w757 &&& 31)), vI ((p751 <<< (w757 &&& 31)) - (16 : Int32)), vU]
theorem d48_19 : decode jdk_68_method_10_code 19 = .ok (.iload 4, 2) := by decide +kernel
theorem d48_21 : decode jdk_68_method_10_code 21 = .ok (.iload_n 2, 1) := by decide +kernel
theorem d48_22 : decode jdk_68_method_10_code 22 = .ok (.iconst 2, 1) := by decide +kernel
theorem d48_23 : decode jdk_68_method_10_code 23 = .ok (.aload_n 0, 1) := by decide +kernel
theorem d48_24 : decode jdk_68_method_10_code 24 = .ok (.getfield 22, 3) := by decide +kernel
theorem d48_27 : decode jdk_68_method_10_code 27 = .ok (.ishl, 1) := by decide +kernel
theorem d48_28 : decode jdk_68_method_10_code 28 = .ok (.iadd, 1) := by decide +kernel
theorem d48_29 : decode jdk_68_method_10_code 29 = .ok (.invokestatic 114, 3) := by decide +kernel
theorem d49_0 : decode jdk_48_method_27_code 0 = .ok (.iload_n 0, 1) := by decide +kernel
theorem d49_1 : decode jdk_48_method_27_code 1 = .ok (.iload_n 1, 1) := by decide +kernel
theorem d49_2 : decode jdk_48_method_27_code 2 = .ok (.iload_n 2, 1) := by decide +kernel
theorem d49_3 : decode jdk_48_method_27_code 3 = .ok (.invokestatic 194, 3) := by decide +kernel
theorem d50_0 : decode jdk_29_method_65_code 0 = .ok (.iload_n 0, 1) := by decide +kernel
theorem d50_1 : decode jdk_29_method_65_code 1 = .ok (.iload_n 1, 1) := by decide +kernel
theorem d50_2 : decode jdk_29_method_65_code 2 = .ok (.if_icmp .lt 7, 3) := by decide +kernel
theorem d50_9 : decode jdk_29_method_65_code 9 = .ok (.iload_n 1, 1) := by decide +kernel
theorem d50_10 : decode jdk_29_method_65_code 10 = .ok (.ireturn, 1) := by decide +kernel
theorem ef_50_vv (m : MethodId) (x0 : Int32) (x1 : Int32) : entryFrame m #[(.int x0), (.int x1)] 2 = mkF m 0 #[.val (.int x0), .val (.int x1)] [] := by first | (simp [entryFrame, mkF, argsToLocals, Value.category]; done) | rfl
theorem r50_1 (l : Launch) (Z : State) (a0 : Array Value) (hw : ∀ d ∈ tables_1, d.before a0 Z = true) (p763 : Int32) (p764 : Int32) (h0 : Heap) (n0 : Nat) (Z0 : n0 ≤ h0.size) (H0 : p763 < p764) :
   OMet l Z mN30 jdk_29_method_65_code 2 (some .int) [] ({ frames := 0, cells := 0, slots := 0, locals := 0 } : Room) h0 #[(.int p763), (.int p764)] (OQp (some (.int p764)) h0 n0) := by
 refine MetFree.of_bodySF (Jvm.Free.JP.mathPlain rfl (by decide +kernel)) hisR ?_
 intro p e s m args below meth c s₁ Bd hml0 hP hK
 obtain ⟨rfl, hZ, hh⟩ := hP
 have hx := Bd.exec
 have hby := Bd.bytes
 have hml : c.maxLocals = 2 := hml0
 have hown : s.vm.findClass "java/lang/Math" = some m.cls := findClass_of_methodNamed Bd.named
 have hnm := (name_of_methodNamed Bd.named Bd.method).1
 have X0 : Stand p l e ({ frames := 0, cells := 0, slots := 0, locals := 0 } : Room) s m #[(.int p763), (.int p764)] below meth c s₁ [] 0 0 := Stand.of_body Bd
 have e0 : s₁.heap = h0 := by rw [← hh, Bd.state]; rfl
 have N0 := Fr.nil n0
 have pre0 : ∀ t, Steps p.tables e below (s₁.setTop (mkF m 0 #[vI p763, vI p764] [])) t → Steps p.tables e below (s₁.setTop (entryFrame m #[(.int p763), (.int p764)] 2)) t := fun t k => castTop (ef_50_vv m p763 p764) k

 obtain ⟨fs, hr, hrun, hended, hW, hsame⟩ := X0.leave (v := some (.int p764)) (fun h => by rw [Bd.returns] at h; cases h)
 refine ⟨_, _, pre0 _ ?_, hrun, hended, _, _, rfl, ?_, ⟨_, rfl⟩, hW, hsame.mono (by decide) (by decide)⟩
 · show SG p e below s₁ (mkF m 0 #[vI p763, vI p764] []) _
   refine XS.iloadN X0.here hx rfl (hb hby d50_0) rfl ?_
   show SG p e below s₁ (mkF m 1 #[vI p763, vI p764] [(.int p763)]) _
   refine XS.iloadN X0.here hx rfl (hb hby d50_1) rfl ?_
   show SG p e below s₁ (mkF m 2 #[vI p763, vI p764] [(.int p764), (.int p763)]) _
   refine XS.icmpYes X0.here hx rfl (pc0 := 2) (pc' := 9) rfl (hb hby d50_2) rfl (tlt H0).1 (by decide) (by decide) ?_
   show SG p e below s₁ (mkF m 9 #[vI p763, vI p764] []) _
   refine XS.iloadN X0.here hx rfl (hb hby d50_9) rfl ?_
   show SG p e below s₁ (mkF m 10 #[vI p763, vI p764] [(.int p764)]) _
   exact retI X0 hx Bd.returns (hb hby d50_10) hr
 · show OQp (some (.int p764)) h0 n0 _ s₁.heap _
   rw [e0]
   exact ⟨rfl, N0, rfl⟩
theorem d49_6 : decode jdk_48_method_27_code 6 = .ok (.iadd, 1) := by decide +kernel
theorem d49_7 : decode jdk_48_method_27_code 7 = .ok (.istore_n 3, 1) := by decide +kernel
theorem d49_8 : decode jdk_48_method_27_code 8 = .ok (.iconst 0, 1) := by decide +kernel
theorem d49_9 : decode jdk_48_method_27_code 9 = .ok (.iload_n 3, 1) := by decide +kernel
theorem d49_10 : decode jdk_48_method_27_code 10 = .ok (.if_icmp .ge 11, 3) := by decide +kernel
theorem d49_13 : decode jdk_48_method_27_code 13 = .ok (.iload_n 3, 1) := by decide +kernel
theorem d49_14 : decode jdk_48_method_27_code 14 = .ok (.ldc 200, 2) := by decide +kernel
theorem d49_16 : decode jdk_48_method_27_code 16 = .ok (.if_icmp .gt 5, 3) := by decide +kernel
theorem d49_19 : decode jdk_48_method_27_code 19 = .ok (.iload_n 3, 1) := by decide +kernel
theorem d49_20 : decode jdk_48_method_27_code 20 = .ok (.ireturn, 1) := by decide +kernel
theorem pn_jdk_internal_util_ArraysSupport : plainName "jdk/internal/util/ArraysSupport" = true := by first | (simp [plainName, overriddenIn]; done) | decide +kernel
theorem ef_49_vvv (m : MethodId) (x0 : Int32) (x1 : Int32) (x2 : Int32) : entryFrame m #[(.int x0), (.int x1), (.int x2)] 4 = mkF m 0 #[.val (.int x0), .val (.int x1), .val (.int x2), .unset] [] := by first | (simp [entryFrame, mkF, argsToLocals, Value.category]; done) | rfl
theorem r49_1 (l : Launch) (Z : State) (a0 : Array Value) (hw : ∀ d ∈ tables_1, d.before a0 Z = true) (p760 : Int32) (p761 : Int32) (p762 : Int32) (h0 : Heap) (n0 : Nat) (Z0 : n0 ≤ h0.size) (H0 : p761 < p762) (H1 : (0 : Int32) < (p760 + p762)) (H2 : ¬ ((2147483639 : Int32) < (p760 + p762))) :
   OMet l Z mN31 jdk_48_method_27_code 4 (some .int) [] ({ frames := 1, cells := 0, slots := 0, locals := 14 } : Room) h0 #[(.int p760), (.int p761), (.int p762)] (OQp (some (.int (p760 + p762))) h0 n0) := by
 refine MetFree.of_bodySF (plainFor_of_name pn_jdk_internal_util_ArraysSupport) hisR ?_
 intro p e s m args below meth c s₁ Bd hml0 hP hK
 obtain ⟨rfl, hZ, hh⟩ := hP
 have hx := Bd.exec
 have hby := Bd.bytes
 have hml : c.maxLocals = 4 := hml0
 have hown : s.vm.findClass "jdk/internal/util/ArraysSupport" = some m.cls := findClass_of_methodNamed Bd.named
 have hnm := (name_of_methodNamed Bd.named Bd.method).1
 have X0 : Stand p l e ({ frames := 1, cells := 0, slots := 0, locals := 14 } : Room) s m #[(.int p760), (.int p761), (.int p762)] below meth c s₁ [] 0 0 := Stand.of_body Bd
 have e0 : s₁.heap = h0 := by rw [← hh, Bd.state]; rfl
 have N0 := Fr.nil n0
 have pre0 : ∀ t, Steps p.tables e below (s₁.setTop (mkF m 0 #[vI p760, vI p761, vI p762, .unset] [])) t → Steps p.tables e below (s₁.setTop (entryFrame m #[(.int p760), (.int p761), (.int p762)] 4)) t := fun t k => castTop (ef_49_vvv m p760 p761 p762) k
 obtain ⟨_, _, ⟨T765, L765, k765, n765⟩, -, X765, ⟨Lc765, hQ765, l765, y765, z765⟩, st765⟩ := Jvm.LawKit.callS X0 hx (y := mN30) hown (mvT hZ (tw hw 298 rfl)) (mvT hZ (tw hw 299 rfl)) (mvT hZ (tw hw 164 rfl)) (mvT hZ (tw hw 300 rfl)) (by decide) (backOf (W := 1) (r50_1 l Z a0 hw p761 p762 h0 n0 Z0 H0) hZ (tw hw 300 rfl) (tw hw 164 rfl) (by decide) (by decide)) (g := (mkF m 3 #[vI p760, vI p761, vI p762, vU] [(.int p762), (.int p761), (.int p760)])) rfl (by rw [hml]; rfl) (argsL := [(.int p761), (.int p762)]) (rest := [(.int p760)]) (lenOf pd_13 rfl) rfl (own_w _) (hb hby d49_3) (fun _ _ => ⟨rfl, e0, (by decide : 0 + 0 ≤ _), (by decide : 0 + 0 ≤ _)⟩)
 dsimp only [Pt.U, Pt.locs, Pt.cells, Pt.slots] at X765 l765 y765 z765 st765 hQ765
 replace X765 := own_mvX X765 (a := 0) (b := 0) y765 z765
 obtain ⟨rfl, N765q, e765⟩ := hQ765
 have N765 := own_mvN l765 N0 N765q
 obtain ⟨fs, hr, hrun, hended, hW, hsame⟩ := X765.leave (v := some (.int (p760 + p762))) (fun h => by rw [Bd.returns] at h; cases h)
 refine ⟨_, _, pre0 _ ?_, hrun, hended, _, _, rfl, ?_, ⟨_, rfl⟩, hW, hsame.mono (by decide) (by decide)⟩
 · show SG p e below s₁ (mkF m 0 #[vI p760, vI p761, vI p762, vU] []) _
   refine XS.iloadN X0.here hx rfl (hb hby d49_0) rfl ?_
   show SG p e below s₁ (mkF m 1 #[vI p760, vI p761, vI p762, vU] [(.int p760)]) _
   refine XS.iloadN X0.here hx rfl (hb hby d49_1) rfl ?_
   show SG p e below s₁ (mkF m 2 #[vI p760, vI p761, vI p762, vU] [(.int p761), (.int p760)]) _
   refine XS.iloadN X0.here hx rfl (hb hby d49_2) rfl ?_
   show SG p e below s₁ (mkF m 3 #[vI p760, vI p761, vI p762, vU] [(.int p762), (.int p761), (.int p760)]) _
   refine st765 _ ?_
   show SG p e below T765 (mkF m 6 #[vI p760, vI p761, vI p762, vU] [(.int p762), (.int p760)]) _
   refine XS.iadd X765.here hx rfl (hb hby d49_6) rfl ?_
   show SG p e below T765 (mkF m 7 #[vI p760, vI p761, vI p762, vU] [(.int (p760 + p762))]) _
   refine XS.istoreN X765.here hx rfl (hb hby d49_7) rfl (l' := #[vI p760, vI p761, vI p762, vI (p760 + p762)]) rfl ?_
   show SG p e below T765 (mkF m 8 #[vI p760, vI p761, vI p762, vI (p760 + p762)] []) _
   refine XS.iconst X765.here hx rfl (hb hby d49_8) ?_
   show SG p e below T765 (mkF m 9 #[vI p760, vI p761, vI p762, vI (p760 + p762)] [(.int (0 : Int32))]) _
   refine XS.iloadN X765.here hx rfl (hb hby d49_9) rfl ?_
   show SG p e below T765 (mkF m 10 #[vI p760, vI p761, vI p762, vI (p760 + p762)] [(.int (p760 + p762)), (.int (0 : Int32))]) _
   refine XS.icmpNo X765.here hx rfl (hb hby d49_10) rfl (tlt H1).2.1 ?_
   show SG p e below T765 (mkF m 13 #[vI p760, vI p761, vI p762, vI (p760 + p762)] []) _
   refine XS.iloadN X765.here hx rfl (hb hby d49_13) rfl ?_
   show SG p e below T765 (mkF m 14 #[vI p760, vI p761, vI p762, vI (p760 + p762)] [(.int (p760 + p762))]) _
   refine X765.ldcInt hx hown (mvT hZ (tw hw 301 rfl)) (g := (mkF m 14 #[vI p760, vI p761, vI p762, vI (p760 + p762)] [(.int (p760 + p762))])) rfl (hb hby d49_14) _ ?_
   show SG p e below T765 (mkF m 16 #[vI p760, vI p761, vI p762, vI (p760 + p762)] [(.int (2147483639 : Int32)), (.int (p760 + p762))]) _
   refine XS.icmpNo X765.here hx rfl (hb hby d49_16) rfl (flt H2).2.2.1 ?_
   show SG p e below T765 (mkF m 19 #[vI p760, vI p761, vI p762, vI (p760 + p762)] []) _
   refine XS.iloadN X765.here hx rfl (hb hby d49_19) rfl ?_
   show SG p e below T765 (mkF m 20 #[vI p760, vI p761, vI p762, vI (p760 + p762)] [(.int (p760 + p762))]) _
   exact retI X765 hx Bd.returns (hb hby d49_20) hr
 · show OQp (some (.int (p760 + p762))) h0 n0 _ T765.heap _
   rw [e765]
   exact ⟨rfl, N765, rfl⟩
theorem pd_20 : parseMethodDescriptor "(III)I" = some ⟨[.int, .int, .int], some .int⟩ := by decide +kernel
theorem d48_32 : decode jdk_68_method_10_code 32 = .ok (.istore 5, 2) := by decide +kernel
theorem d48_34 : decode jdk_68_method_10_code 34 = .ok (.iload 5, 2) := by decide +kernel
abbrev la20 (a750 : Addr) (p751 : Int32) (w757 : Int32) : Array Slot := #[vR a750, vI p751, vI (16 : Int32), vI (p751 <<< (w757 &&& 31)), vI ((p751 <<< (w757 &&& 31)) - (16 : Int32)), vI ((16 : Int32) + ((16 : Int32) + ((2 : Int32) <<< (w757 &&& 31))))]
theorem d48_36 : decode jdk_68_method_10_code 36 = .ok (.ldc 39, 2) := by decide +kernel
theorem d48_38 : decode jdk_68_method_10_code 38 = .ok (.if_icmp .ne 13, 3) := by decide +kernel
theorem d48_51 : decode jdk_68_method_10_code 51 = .ok (.iload 5, 2) := by decide +kernel
theorem d48_53 : decode jdk_68_method_10_code 53 = .ok (.aload_n 0, 1) := by decide +kernel
theorem d48_54 : decode jdk_68_method_10_code 54 = .ok (.getfield 22, 3) := by decide +kernel
theorem d48_57 : decode jdk_68_method_10_code 57 = .ok (.ishr, 1) := by decide +kernel
theorem d48_58 : decode jdk_68_method_10_code 58 = .ok (.ireturn, 1) := by decide +kernel
theorem ef_48_vv (m : MethodId) (x0 : Addr) (x1 : Int32) : entryFrame m #[(.ref x0), (.int x1)] 6 = mkF m 0 #[.val (.ref x0), .val (.int x1), .unset, .unset, .unset, .unset] [] := by first | (simp [entryFrame, mkF, argsToLocals, Value.category]; done) | rfl
theorem r48_1 (l : Launch) (Z : State) (a0 : Array Value) (hw : ∀ d ∈ tables_1, d.before a0 Z = true) (a750 : Addr) (p751 : Int32) (w752 : Addr) (k754 : ClassId) (u755 : Nat → Int32) (w757 : Int32) (h0 : Heap) (n0 : Nat) (Z0 : n0 ≤ h0.size) (H0 : Fld Z h0 a750 "java/lang/AbstractStringBuilder" "value" "[B" (.ref w752)) (H1 : BA Z h0 w752 k754 .byte (16 : Int32) u755) (H2 : Fld Z h0 a750 "java/lang/AbstractStringBuilder" "coder" "B" (.int w757)) (H3 : ((p751 <<< (w757 &&& 31)) - (16 : Int32)) < ((16 : Int32) + ((2 : Int32) <<< (w757 &&& 31)))) (H4 : (0 : Int32) < ((16 : Int32) + ((16 : Int32) + ((2 : Int32) <<< (w757 &&& 31))))) (H5 : ¬ ((2147483639 : Int32) < ((16 : Int32) + ((16 : Int32) + ((2 : Int32) <<< (w757 &&& 31)))))) (H6 : ¬ (((16 : Int32) + ((16 : Int32) + ((2 : Int32) <<< (w757 &&& 31)))) = (2147483647 : Int32))) :
   OMet l Z mN32 jdk_68_method_10_code 6 (some .int) [] ({ frames := 2, cells := 0, slots := 0, locals := 29 } : Room) h0 #[(.ref a750), (.int p751)] (OQp (some (.int (((16 : Int32) + ((16 : Int32) + ((2 : Int32) <<< (w757 &&& 31)))) >>> (w757 &&& 31)))) h0 n0) := by
 refine MetFree.of_bodySF (plainFor_of_name pn_java_lang_AbstractStringBuilder) hisR ?_
 intro p e s m args below meth c s₁ Bd hml0 hP hK
 obtain ⟨rfl, hZ, hh⟩ := hP
 have hx := Bd.exec
 have hby := Bd.bytes
 have hml : c.maxLocals = 6 := hml0
 have hown : s.vm.findClass "java/lang/AbstractStringBuilder" = some m.cls := findClass_of_methodNamed Bd.named
 have hnm := (name_of_methodNamed Bd.named Bd.method).1
 have X0 : Stand p l e ({ frames := 2, cells := 0, slots := 0, locals := 29 } : Room) s m #[(.ref a750), (.int p751)] below meth c s₁ [] 0 0 := Stand.of_body Bd
 have e0 : s₁.heap = h0 := by rw [← hh, Bd.state]; rfl
 have N0 := Fr.nil n0
 have pre0 : ∀ t, Steps p.tables e below (s₁.setTop (mkF m 0 #[vR a750, vI p751, .unset, .unset, .unset, .unset] [])) t → Steps p.tables e below (s₁.setTop (entryFrame m #[(.ref a750), (.int p751)] 6)) t := fun t k => castTop (ef_48_vv m a750 p751) k
 obtain ⟨T753, X753, e753, st753⟩ := getF X0 hx hZ hown (host := "") (Or.inl (tw hw 39 rfl)) Via.refl e0 H0 (g := (mkF m 1 #[vR a750, vI p751, vU, vU, vU, vU] [(.ref a750)])) rfl rfl (hb hby d48_1)
 have vc756 := H1
 obtain ⟨cl756, Ar756, q756, S756, N756, Hh756, G756⟩ := vc756
 obtain ⟨T758, X758, e758, st758⟩ := getF X753 hx hZ hown (host := "") (Or.inl (tw hw 41 rfl)) Via.refl e753 H2 (g := (mkF m 8 #[vR a750, vI p751, vI (16 : Int32), vU, vU, vU] [(.ref a750), (.int p751)])) rfl rfl (hb hby d48_8)
 obtain ⟨T759, X759, e759, st759⟩ := getF X758 hx hZ hown (host := "") (Or.inl (tw hw 41 rfl)) Via.refl e758 H2 (g := (mkF m 24 (la19 a750 p751 w757) [(.ref a750), (.int (2 : Int32)), (.int (16 : Int32)), (.int ((p751 <<< (w757 &&& 31)) - (16 : Int32))), (.int (16 : Int32))])) rfl rfl (hb hby d48_24)
 obtain ⟨_, _, ⟨T766, L766, k766, n766⟩, -, X766, ⟨Lc766, hQ766, l766, y766, z766⟩, st766⟩ := Jvm.LawKit.callS X759 hx (y := mN31) hown (mvT hZ (tw hw 294 rfl)) (mvT hZ (tw hw 295 rfl)) (mvT hZ (tw hw 296 rfl)) (mvT hZ (tw hw 297 rfl)) (by decide) (backOf (W := 0) (r49_1 l Z a0 hw (16 : Int32) ((p751 <<< (w757 &&& 31)) - (16 : Int32)) ((16 : Int32) + ((2 : Int32) <<< (w757 &&& 31))) h0 n0 Z0 H3 H4 H5) hZ (tw hw 297 rfl) (tw hw 296 rfl) (by decide) (by decide)) (g := (mkF m 29 (la19 a750 p751 w757) [(.int ((16 : Int32) + ((2 : Int32) <<< (w757 &&& 31)))), (.int ((p751 <<< (w757 &&& 31)) - (16 : Int32))), (.int (16 : Int32))])) rfl (by rw [hml]; rfl) (argsL := [(.int (16 : Int32)), (.int ((p751 <<< (w757 &&& 31)) - (16 : Int32))), (.int ((16 : Int32) + ((2 : Int32) <<< (w757 &&& 31))))]) (rest := []) (lenOf pd_20 rfl) rfl (own_w _) (hb hby d48_29) (fun _ _ => ⟨rfl, e759, (by decide : 0 + 0 ≤ _), (by decide : 0 + 0 ≤ _)⟩)
 dsimp only [Pt.U, Pt.locs, Pt.cells, Pt.slots] at X766 l766 y766 z766 st766 hQ766
 replace X766 := own_mvX X766 (a := 0) (b := 0) y766 z766
 obtain ⟨rfl, N766q, e766⟩ := hQ766
 have N766 := own_mvN l766 N0 N766q
 obtain ⟨T767, X767, e767, st767⟩ := getF X766 hx hZ hown (host := "") (Or.inl (tw hw 41 rfl)) Via.refl e766 H2 (g := (mkF m 54 (la20 a750 p751 w757) [(.ref a750), (.int ((16 : Int32) + ((16 : Int32) + ((2 : Int32) <<< (w757 &&& 31)))))])) rfl rfl (hb hby d48_54)
 obtain ⟨fs, hr, hrun, hended, hW, hsame⟩ := X767.leave (v := some (.int (((16 : Int32) + ((16 : Int32) + ((2 : Int32) <<< (w757 &&& 31)))) >>> (w757 &&& 31)))) (fun h => by rw [Bd.returns] at h; cases h)
 refine ⟨_, _, pre0 _ ?_, hrun, hended, _, _, rfl, ?_, ⟨_, rfl⟩, hW, hsame.mono (by decide) (by decide)⟩
 · show SG p e below s₁ (mkF m 0 #[vR a750, vI p751, vU, vU, vU, vU] []) _
   refine XS.aloadN X0.here hx rfl (hb hby d48_0) rfl rfl ?_
   show SG p e below s₁ (mkF m 1 #[vR a750, vI p751, vU, vU, vU, vU] [(.ref a750)]) _
   refine st753 _ ?_
   show SG p e below T753 (mkF m 4 #[vR a750, vI p751, vU, vU, vU, vU] [(.ref w752)]) _
   refine X753.arraylength hx (by rw [e753]; exact Ar756.1) (State.isArrayOf_alike hZ.alike Ar756.2.1) (g := (mkF m 4 #[vR a750, vI p751, vU, vU, vU, vU] [(.ref w752)])) rfl rfl (hb hby d48_4) _ ?_
   rw [len_of S756 N756]
   show SG p e below T753 (mkF m 5 #[vR a750, vI p751, vU, vU, vU, vU] [(.int (16 : Int32))]) _
   refine XS.istoreN X753.here hx rfl (hb hby d48_5) rfl (l' := #[vR a750, vI p751, vI (16 : Int32), vU, vU, vU]) rfl ?_
   show SG p e below T753 (mkF m 6 #[vR a750, vI p751, vI (16 : Int32), vU, vU, vU] []) _
   refine XS.iloadN X753.here hx rfl (hb hby d48_6) rfl ?_
   show SG p e below T753 (mkF m 7 #[vR a750, vI p751, vI (16 : Int32), vU, vU, vU] [(.int p751)]) _
   refine XS.aloadN X753.here hx rfl (hb hby d48_7) rfl rfl ?_
   show SG p e below T753 (mkF m 8 #[vR a750, vI p751, vI (16 : Int32), vU, vU, vU] [(.ref a750), (.int p751)]) _
   refine st758 _ ?_
   show SG p e below T758 (mkF m 11 #[vR a750, vI p751, vI (16 : Int32), vU, vU, vU] [(.int w757), (.int p751)]) _
   refine XS.ishl X758.here hx rfl (hb hby d48_11) rfl ?_
   show SG p e below T758 (mkF m 12 #[vR a750, vI p751, vI (16 : Int32), vU, vU, vU] [(.int (p751 <<< (w757 &&& 31)))]) _
   refine XS.istoreN X758.here hx rfl (hb hby d48_12) rfl (l' := #[vR a750, vI p751, vI (16 : Int32), vI (p751 <<< (w757 &&& 31)), vU, vU]) rfl ?_
   show SG p e below T758 (mkF m 13 (la18 a750 p751 w757) []) _
   refine XS.iloadN X758.here hx rfl (hb hby d48_13) rfl ?_
   show SG p e below T758 (mkF m 14 (la18 a750 p751 w757) [(.int (p751 <<< (w757 &&& 31)))]) _
   refine XS.iloadN X758.here hx rfl (hb hby d48_14) rfl ?_
   show SG p e below T758 (mkF m 15 (la18 a750 p751 w757) [(.int (16 : Int32)), (.int (p751 <<< (w757 &&& 31)))]) _
   refine XS.isub X758.here hx rfl (hb hby d48_15) rfl ?_
   show SG p e below T758 (mkF m 16 (la18 a750 p751 w757) [(.int ((p751 <<< (w757 &&& 31)) - (16 : Int32)))]) _
   refine XS.istore X758.here hx rfl (hb hby d48_16) rfl (l' := #[vR a750, vI p751, vI (16 : Int32), vI (p751 <<< (w757 &&& 31)), vI ((p751 <<< (w757 &&& 31)) - (16 : Int32)), vU]) rfl ?_
   show SG p e below T758 (mkF m 18 (la19 a750 p751 w757) []) _
   refine XS.iloadN X758.here hx rfl (hb hby d48_18) rfl ?_
   show SG p e below T758 (mkF m 19 (la19 a750 p751 w757) [(.int (16 : Int32))]) _
   refine XS.iload X758.here hx rfl (hb hby d48_19) rfl ?_
   show SG p e below T758 (mkF m 21 (la19 a750 p751 w757) [(.int ((p751 <<< (w757 &&& 31)) - (16 : Int32))), (.int (16 : Int32))]) _
   refine XS.iloadN X758.here hx rfl (hb hby d48_21) rfl ?_
   show SG p e below T758 (mkF m 22 (la19 a750 p751 w757) [(.int (16 : Int32)), (.int ((p751 <<< (w757 &&& 31)) - (16 : Int32))), (.int (16 : Int32))]) _
   refine XS.iconst X758.here hx rfl (hb hby d48_22) ?_
   show SG p e below T758 (mkF m 23 (la19 a750 p751 w757) [(.int (2 : Int32)), (.int (16 : Int32)), (.int ((p751 <<< (w757 &&& 31)) - (16 : Int32))), (.int (16 : Int32))]) _
   refine XS.aloadN X758.here hx rfl (hb hby d48_23) rfl rfl ?_
   show SG p e below T758 (mkF m 24 (la19 a750 p751 w757) [(.ref a750), (.int (2 : Int32)), (.int (16 : Int32)), (.int ((p751 <<< (w757 &&& 31)) - (16 : Int32))), (.int (16 : Int32))]) _
   refine st759 _ ?_
   show SG p e below T759 (mkF m 27 (la19 a750 p751 w757) [(.int w757), (.int (2 : Int32)), (.int (16 : Int32)), (.int ((p751 <<< (w757 &&& 31)) - (16 : Int32))), (.int (16 : Int32))]) _
   refine XS.ishl X759.here hx rfl (hb hby d48_27) rfl ?_
   show SG p e below T759 (mkF m 28 (la19 a750 p751 w757) [(.int ((2 : Int32) <<< (w757 &&& 31))), (.int (16 : Int32)), (.int ((p751 <<< (w757 &&& 31)) - (16 : Int32))), (.int (16 : Int32))]) _
   refine XS.iadd X759.here hx rfl (hb hby d48_28) rfl ?_
   show SG p e below T759 (mkF m 29 (la19 a750 p751 w757) [(.int ((16 : Int32) + ((2 : Int32) <<< (w757 &&& 31)))), (.int ((p751 <<< (w757 &&& 31)) - (16 : Int32))), (.int (16 : Int32))]) _
   refine st766 _ ?_
   show SG p e below T766 (mkF m 32 (la19 a750 p751 w757) [(.int ((16 : Int32) + ((16 : Int32) + ((2 : Int32) <<< (w757 &&& 31)))))]) _
   refine XS.istore X766.here hx rfl (hb hby d48_32) rfl (l' := #[vR a750, vI p751, vI (16 : Int32), vI (p751 <<< (w757 &&& 31)), vI ((p751 <<< (w757 &&& 31)) - (16 : Int32)), vI ((16 : Int32) + ((16 : Int32) + ((2 : Int32) <<< (w757 &&& 31))))]) rfl ?_
   show SG p e below T766 (mkF m 34 (la20 a750 p751 w757) []) _
   refine XS.iload X766.here hx rfl (hb hby d48_34) rfl ?_
   show SG p e below T766 (mkF m 36 (la20 a750 p751 w757) [(.int ((16 : Int32) + ((16 : Int32) + ((2 : Int32) <<< (w757 &&& 31)))))]) _
   refine X766.ldcInt hx hown (mvT hZ (tw hw 302 rfl)) (g := (mkF m 36 (la20 a750 p751 w757) [(.int ((16 : Int32) + ((16 : Int32) + ((2 : Int32) <<< (w757 &&& 31)))))])) rfl (hb hby d48_36) _ ?_
   show SG p e below T766 (mkF m 38 (la20 a750 p751 w757) [(.int (2147483647 : Int32)), (.int ((16 : Int32) + ((16 : Int32) + ((2 : Int32) <<< (w757 &&& 31)))))]) _
   refine XS.icmpYes X766.here hx rfl (pc0 := 38) (pc' := 51) rfl (hb hby d48_38) rfl (feq H6).2 (by decide) (by decide) ?_
   show SG p e below T766 (mkF m 51 (la20 a750 p751 w757) []) _
   refine XS.iload X766.here hx rfl (hb hby d48_51) rfl ?_
   show SG p e below T766 (mkF m 53 (la20 a750 p751 w757) [(.int ((16 : Int32) + ((16 : Int32) + ((2 : Int32) <<< (w757 &&& 31)))))]) _
   refine XS.aloadN X766.here hx rfl (hb hby d48_53) rfl rfl ?_
   show SG p e below T766 (mkF m 54 (la20 a750 p751 w757) [(.ref a750), (.int ((16 : Int32) + ((16 : Int32) + ((2 : Int32) <<< (w757 &&& 31)))))]) _
   refine st767 _ ?_
   show SG p e below T767 (mkF m 57 (la20 a750 p751 w757) [(.int w757), (.int ((16 : Int32) + ((16 : Int32) + ((2 : Int32) <<< (w757 &&& 31)))))]) _
   refine XS.ishr X767.here hx rfl (hb hby d48_57) rfl ?_
   show SG p e below T767 (mkF m 58 (la20 a750 p751 w757) [(.int (((16 : Int32) + ((16 : Int32) + ((2 : Int32) <<< (w757 &&& 31)))) >>> (w757 &&& 31)))]) _
   exact retI X767 hx Bd.returns (hb hby d48_58) hr
 · show OQp (some (.int (((16 : Int32) + ((16 : Int32) + ((2 : Int32) <<< (w757 &&& 31)))) >>> (w757 &&& 31)))) h0 n0 _ T767.heap _
   rw [e767]
   exact ⟨rfl, N766, rfl⟩
theorem pd_21 : parseMethodDescriptor "(I)I" = some ⟨[.int], some .int⟩ := by decide +kernel
theorem d11_27 : decode jdk_68_method_9_code 27 = .ok (.aload_n 0, 1) := by decide +kernel
theorem d11_28 : decode jdk_68_method_9_code 28 = .ok (.getfield 22, 3) := by decide +kernel
theorem d11_31 : decode jdk_68_method_9_code 31 = .ok (.ishl, 1) := by decide +kernel
theorem d11_32 : decode jdk_68_method_9_code 32 = .ok (.invokestatic 108, 3) := by decide +kernel
theorem d51_0 : decode jdk_65_method_121_code 0 = .ok (.iload_n 1, 1) := by decide +kernel
theorem d51_1 : decode jdk_65_method_121_code 1 = .ok (.aload_n 0, 1) := by decide +kernel
theorem d51_2 : decode jdk_65_method_121_code 2 = .ok (.arraylength, 1) := by decide +kernel
theorem d51_3 : decode jdk_65_method_121_code 3 = .ok (.if_icmp .ne 11, 3) := by decide +kernel
theorem d51_14 : decode jdk_65_method_121_code 14 = .ok (.iload_n 1, 1) := by decide +kernel
theorem d51_15 : decode jdk_65_method_121_code 15 = .ok (.newarray .byte, 2) := by decide +kernel
theorem d51_17 : decode jdk_65_method_121_code 17 = .ok (.astore_n 2, 1) := by decide +kernel
theorem d51_18 : decode jdk_65_method_121_code 18 = .ok (.aload_n 0, 1) := by decide +kernel
theorem d51_19 : decode jdk_65_method_121_code 19 = .ok (.iconst 0, 1) := by decide +kernel
theorem d51_20 : decode jdk_65_method_121_code 20 = .ok (.aload_n 2, 1) := by decide +kernel
theorem d51_21 : decode jdk_65_method_121_code 21 = .ok (.iconst 0, 1) := by decide +kernel
theorem d51_22 : decode jdk_65_method_121_code 22 = .ok (.aload_n 0, 1) := by decide +kernel
theorem d51_23 : decode jdk_65_method_121_code 23 = .ok (.arraylength, 1) := by decide +kernel
theorem d51_24 : decode jdk_65_method_121_code 24 = .ok (.iload_n 1, 1) := by decide +kernel
theorem d51_25 : decode jdk_65_method_121_code 25 = .ok (.invokestatic 304, 3) := by decide +kernel
theorem d29_5 : decode jdk_29_method_69_code 5 = .ok (.iload_n 0, 1) := by decide +kernel
theorem d29_6 : decode jdk_29_method_69_code 6 = .ok (.goto 4, 3) := by decide +kernel
theorem r29_2 (l : Launch) (Z : State) (a0 : Array Value) (hw : ∀ d ∈ tables_1, d.before a0 Z = true) (p778 : Int32) (p779 : Int32) (h0 : Heap) (n0 : Nat) (Z0 : n0 ≤ h0.size) (H0 : ¬ (p779 < p778)) :
   OMet l Z mN20 jdk_29_method_69_code 2 (some .int) [] ({ frames := 0, cells := 0, slots := 0, locals := 0 } : Room) h0 #[(.int p778), (.int p779)] (OQp (some (.int p778)) h0 n0) := by
 refine MetFree.of_bodySF (Jvm.Free.JP.mathPlain rfl (by decide +kernel)) hisR ?_
 intro p e s m args below meth c s₁ Bd hml0 hP hK
 obtain ⟨rfl, hZ, hh⟩ := hP
 have hx := Bd.exec
 have hby := Bd.bytes
 have hml : c.maxLocals = 2 := hml0
 have hown : s.vm.findClass "java/lang/Math" = some m.cls := findClass_of_methodNamed Bd.named
 have hnm := (name_of_methodNamed Bd.named Bd.method).1
 have X0 : Stand p l e ({ frames := 0, cells := 0, slots := 0, locals := 0 } : Room) s m #[(.int p778), (.int p779)] below meth c s₁ [] 0 0 := Stand.of_body Bd
 have e0 : s₁.heap = h0 := by rw [← hh, Bd.state]; rfl
 have N0 := Fr.nil n0
 have pre0 : ∀ t, Steps p.tables e below (s₁.setTop (mkF m 0 #[vI p778, vI p779] [])) t → Steps p.tables e below (s₁.setTop (entryFrame m #[(.int p778), (.int p779)] 2)) t := fun t k => castTop (ef_29_vv m p778 p779) k

 obtain ⟨fs, hr, hrun, hended, hW, hsame⟩ := X0.leave (v := some (.int p778)) (fun h => by rw [Bd.returns] at h; cases h)
 refine ⟨_, _, pre0 _ ?_, hrun, hended, _, _, rfl, ?_, ⟨_, rfl⟩, hW, hsame.mono (by decide) (by decide)⟩
 · show SG p e below s₁ (mkF m 0 #[vI p778, vI p779] []) _
   refine XS.iloadN X0.here hx rfl (hb hby d29_0) rfl ?_
   show SG p e below s₁ (mkF m 1 #[vI p778, vI p779] [(.int p778)]) _
   refine XS.iloadN X0.here hx rfl (hb hby d29_1) rfl ?_
   show SG p e below s₁ (mkF m 2 #[vI p778, vI p779] [(.int p779), (.int p778)]) _
   refine XS.icmpNo X0.here hx rfl (hb hby d29_2) rfl (flt H0).2.2.1 ?_
   show SG p e below s₁ (mkF m 5 #[vI p778, vI p779] []) _
   refine XS.iloadN X0.here hx rfl (hb hby d29_5) rfl ?_
   show SG p e below s₁ (mkF m 6 #[vI p778, vI p779] [(.int p778)]) _
   refine XS.goto X0.here hx rfl (pc0 := 6) (pc' := 10) rfl (hb hby d29_6) (by decide) (by decide) ?_
   show SG p e below s₁ (mkF m 10 #[vI p778, vI p779] [(.int p778)]) _
   exact retI X0 hx Bd.returns (hb hby d29_10) hr
 · show OQp (some (.int p778)) h0 n0 _ s₁.heap _
   rw [e0]
   exact ⟨rfl, N0, rfl⟩
theorem d51_28 : decode jdk_65_method_121_code 28 = .ok (.invokestatic 150, 3) := by decide +kernel
theorem d51_31 : decode jdk_65_method_121_code 31 = .ok (.aload_n 2, 1) := by decide +kernel
theorem d51_32 : decode jdk_65_method_121_code 32 = .ok (.areturn, 1) := by decide +kernel
theorem ef_51_vv (m : MethodId) (x0 : Addr) (x1 : Int32) : entryFrame m #[(.ref x0), (.int x1)] 3 = mkF m 0 #[.val (.ref x0), .val (.int x1), .unset] [] := by first | (simp [entryFrame, mkF, argsToLocals, Value.category]; done) | rfl
def Qr51_1 (Z : State) (a770 : Addr) (p771 : Int32) (k772 : ClassId) (u773 : Nat → Int32) (h0 : Heap) (n0 : Nat) (v : Option Value) (h : Heap) (L : List Loc) : Prop := Fr n0 L ∧ ∃ b775 : Addr, ∃ k775 : ClassId, v = some (.ref b775) ∧ h0.size ≤ b775 ∧ KSx h0 h [] [] ∧ Exa Z h b775 "[B" ∧ BA Z h b775 k775 .byte p771 (fun i => if ((0 : Int32)).toNatClampNeg ≤ i ∧ i < ((0 : Int32)).toNatClampNeg + ((16 : Int32)).toNatClampNeg then u773 (((0 : Int32)).toNatClampNeg + (i - ((0 : Int32)).toNatClampNeg)) else (fun _ => (0 : Int32)) i)
theorem r51_1 (l : Launch) (Z : State) (a0 : Array Value) (hw : ∀ d ∈ tables_1, d.before a0 Z = true) (a770 : Addr) (p771 : Int32) (k772 : ClassId) (u773 : Nat → Int32) (h0 : Heap) (n0 : Nat) (Z0 : n0 ≤ h0.size) (H0 : BA Z h0 a770 k772 .byte (16 : Int32) u773) (H1 : ¬ (p771 = (16 : Int32))) (H2 : ¬ (p771 < (0 : Int32))) (H3 : ¬ ((34 : Int32) < p771)) (H4 : ¬ (p771 < (16 : Int32))) (H5 : ((0 : Int32)).toNatClampNeg + ((16 : Int32)).toNatClampNeg ≤ (p771).toNatClampNeg) :
   OMet l Z mN33 jdk_65_method_121_code 3 (some (.array .byte)) [] ({ frames := 1, cells := 1, slots := 34, locals := 18 } : Room) h0 #[(.ref a770), (.int p771)] (Qr51_1 Z a770 p771 k772 u773 h0 n0) := by
 refine MetFree.of_bodySF (plainFor_of_name pn_java_util_Arrays) hisR ?_
 intro p e s m args below meth c s₁ Bd hml0 hP hK
 obtain ⟨rfl, hZ, hh⟩ := hP
 have hx := Bd.exec
 have hby := Bd.bytes
 have hml : c.maxLocals = 3 := hml0
 have hown : s.vm.findClass "java/util/Arrays" = some m.cls := findClass_of_methodNamed Bd.named
 have hnm := (name_of_methodNamed Bd.named Bd.method).1
 have X0 : Stand p l e ({ frames := 1, cells := 1, slots := 34, locals := 18 } : Room) s m #[(.ref a770), (.int p771)] below meth c s₁ [] 0 0 := Stand.of_body Bd
 have e0 : s₁.heap = h0 := by rw [← hh, Bd.state]; rfl
 have N0 := Fr.nil n0
 have pre0 : ∀ t, Steps p.tables e below (s₁.setTop (mkF m 0 #[vR a770, vI p771, .unset] [])) t → Steps p.tables e below (s₁.setTop (entryFrame m #[(.ref a770), (.int p771)] 3)) t := fun t k => castTop (ef_51_vv m a770 p771) k
 have vc774 := H0
 obtain ⟨cl774, Ar774, q774, S774, N774, Hh774, G774⟩ := vc774
 obtain ⟨T775, h775, k775, X775, e775, E775, A775, Ea775, st775⟩ := newPE X0 hx hZ (tw hw 38 rfl) e0 (g := (mkF m 15 #[vR a770, vI p771, vU] [(.int p771)])) rfl (hb hby d51_15) rfl H2 (cap := 34) (own_cap (k := 34) (by decide) H3) (by decide) (by decide) (by decide) (ad := "[B") rfl
 obtain ⟨b775, g775⟩ : ∃ z, z = h0.size := ⟨_, rfl⟩
 rw [← g775] at A775 Ea775 st775
 have KC775 := KSx.ext (KSx.refl h0 [] []) E775
 have B775 : BA Z h775 b775 k775 .byte p771 (fun _ => (0 : Int32)) := BA.new A775 H2 rfl rfl
 have f776 := (H0.ext E775)
 have vc777 := f776
 obtain ⟨cl777, Ar777, q777, S777, N777, Hh777, G777⟩ := vc777
 have Z775 : n0 ≤ h775.size := Nat.le_trans Z0 E775.1
 obtain ⟨_, _, ⟨T780, L780, k780, n780⟩, -, X780, ⟨Lc780, hQ780, l780, y780, z780⟩, st780⟩ := Jvm.LawKit.callS X775 hx (y := mN20) hown (mvT hZ (tw hw 162 rfl)) (mvT hZ (tw hw 163 rfl)) (mvT hZ (tw hw 164 rfl)) (mvT hZ (tw hw 165 rfl)) (by decide) (backOf (W := 4) (r29_2 l Z a0 hw (16 : Int32) p771 h775 n0 Z775 H4) hZ (tw hw 165 rfl) (tw hw 164 rfl) (by decide) (by decide)) (g := (mkF m 25 #[vR a770, vI p771, vR b775] [(.int p771), (.int (16 : Int32)), (.int (0 : Int32)), (.ref b775), (.int (0 : Int32)), (.ref a770)])) rfl (by rw [hml]; rfl) (argsL := [(.int (16 : Int32)), (.int p771)]) (rest := [(.int (0 : Int32)), (.ref b775), (.int (0 : Int32)), (.ref a770)]) (lenOf pd_13 rfl) rfl (own_w _) (hb hby d51_25) (fun _ _ => ⟨rfl, e775, (by decide : 1 + 0 ≤ _), (by decide : 34 + 0 ≤ _)⟩)
 dsimp only [Pt.U, Pt.locs, Pt.cells, Pt.slots] at X780 l780 y780 z780 st780 hQ780
 replace X780 := own_mvX X780 (a := 1) (b := 34) y780 z780
 obtain ⟨rfl, N780q, e780⟩ := hQ780
 have N780 := own_mvN l780 N0 N780q
 have g781 : n0 ≤ b775 := Nat.le_trans Z0 (Nat.le_of_eq g775.symm)
 obtain ⟨T782, h782, L782, X782, e782, N782, K782, B782, st782⟩ := cpB X780 hx hZ hown (tw hw 166 rfl) (tw hw 98 rfl) (tw hw 96 rfl) (tw hw 97 rfl) e780 f776 B775 rfl (by decide) (by decide) (by decide) (by decide) H5 N780 g781 (g0 := (mkF m 28 #[vR a770, vI p771, vR b775] [(.int (16 : Int32)), (.int (0 : Int32)), (.ref b775), (.int (0 : Int32)), (.ref a770)])) rfl (by rw [hml]; rfl) rfl (hb hby d51_28) (by decide) (W := 0) (own_w _) (by decide)
 have z783 : h0.size ≤ b775 := Nat.le_trans (KSx.refl h0 [] []).1 (Nat.le_of_eq g775.symm)
 have KC782 := KSx.trans KC775 K782 ks0 (allS (Or.inr z783) all0)
 have f784 := (Ea775.ks K782)
 obtain ⟨fs, hr, hrun, hended, hW, hsame⟩ := X782.leave (v := some (.ref b775)) (fun h => by rw [Bd.returns] at h; cases h)
 refine ⟨_, _, pre0 _ ?_, hrun, hended, _, _, rfl, ?_, ⟨_, rfl⟩, hW, hsame.mono (by decide) (by decide)⟩
 · show SG p e below s₁ (mkF m 0 #[vR a770, vI p771, vU] []) _
   refine XS.iloadN X0.here hx rfl (hb hby d51_0) rfl ?_
   show SG p e below s₁ (mkF m 1 #[vR a770, vI p771, vU] [(.int p771)]) _
   refine XS.aloadN X0.here hx rfl (hb hby d51_1) rfl rfl ?_
   show SG p e below s₁ (mkF m 2 #[vR a770, vI p771, vU] [(.ref a770), (.int p771)]) _
   refine X0.arraylength hx (by rw [e0]; exact Ar774.1) (State.isArrayOf_alike hZ.alike Ar774.2.1) (g := (mkF m 2 #[vR a770, vI p771, vU] [(.ref a770), (.int p771)])) rfl rfl (hb hby d51_2) _ ?_
   rw [len_of S774 N774]
   show SG p e below s₁ (mkF m 3 #[vR a770, vI p771, vU] [(.int (16 : Int32)), (.int p771)]) _
   refine XS.icmpYes X0.here hx rfl (pc0 := 3) (pc' := 14) rfl (hb hby d51_3) rfl (feq H1).2 (by decide) (by decide) ?_
   show SG p e below s₁ (mkF m 14 #[vR a770, vI p771, vU] []) _
   refine XS.iloadN X0.here hx rfl (hb hby d51_14) rfl ?_
   show SG p e below s₁ (mkF m 15 #[vR a770, vI p771, vU] [(.int p771)]) _
   refine st775 _ ?_
   show SG p e below T775 (mkF m 17 #[vR a770, vI p771, vU] [(.ref b775)]) _
   refine XS.astoreN X775.here hx rfl (hb hby d51_17) rfl rfl (l' := #[vR a770, vI p771, vR b775]) rfl ?_
   show SG p e below T775 (mkF m 18 #[vR a770, vI p771, vR b775] []) _
   refine XS.aloadN X775.here hx rfl (hb hby d51_18) rfl rfl ?_
   show SG p e below T775 (mkF m 19 #[vR a770, vI p771, vR b775] [(.ref a770)]) _
   refine XS.iconst X775.here hx rfl (hb hby d51_19) ?_
   show SG p e below T775 (mkF m 20 #[vR a770, vI p771, vR b775] [(.int (0 : Int32)), (.ref a770)]) _
   refine XS.aloadN X775.here hx rfl (hb hby d51_20) rfl rfl ?_
   show SG p e below T775 (mkF m 21 #[vR a770, vI p771, vR b775] [(.ref b775), (.int (0 : Int32)), (.ref a770)]) _
   refine XS.iconst X775.here hx rfl (hb hby d51_21) ?_
   show SG p e below T775 (mkF m 22 #[vR a770, vI p771, vR b775] [(.int (0 : Int32)), (.ref b775), (.int (0 : Int32)), (.ref a770)]) _
   refine XS.aloadN X775.here hx rfl (hb hby d51_22) rfl rfl ?_
   show SG p e below T775 (mkF m 23 #[vR a770, vI p771, vR b775] [(.ref a770), (.int (0 : Int32)), (.ref b775), (.int (0 : Int32)), (.ref a770)]) _
   refine X775.arraylength hx (by rw [e775]; exact Ar777.1) (State.isArrayOf_alike hZ.alike Ar777.2.1) (g := (mkF m 23 #[vR a770, vI p771, vR b775] [(.ref a770), (.int (0 : Int32)), (.ref b775), (.int (0 : Int32)), (.ref a770)])) rfl rfl (hb hby d51_23) _ ?_
   rw [len_of S777 N777]
   show SG p e below T775 (mkF m 24 #[vR a770, vI p771, vR b775] [(.int (16 : Int32)), (.int (0 : Int32)), (.ref b775), (.int (0 : Int32)), (.ref a770)]) _
   refine XS.iloadN X775.here hx rfl (hb hby d51_24) rfl ?_
   show SG p e below T775 (mkF m 25 #[vR a770, vI p771, vR b775] [(.int p771), (.int (16 : Int32)), (.int (0 : Int32)), (.ref b775), (.int (0 : Int32)), (.ref a770)]) _
   refine st780 _ ?_
   show SG p e below T780 (mkF m 28 #[vR a770, vI p771, vR b775] [(.int (16 : Int32)), (.int (0 : Int32)), (.ref b775), (.int (0 : Int32)), (.ref a770)]) _
   refine st782 _ ?_
   show SG p e below T782 (mkF m 31 #[vR a770, vI p771, vR b775] []) _
   refine XS.aloadN X782.here hx rfl (hb hby d51_31) rfl rfl ?_
   show SG p e below T782 (mkF m 32 #[vR a770, vI p771, vR b775] [(.ref b775)]) _
   jvm_step X782.here [X782.here.top, hx, (hb hby d51_32), X782.method', Bd.returns, Value.isRef, FieldType.isReference]
   first | (intro acts; rw [hr _ acts rfl rfl rfl]) | rw [hr _ _ rfl rfl rfl]
   exact Steps.refl _
 · show Qr51_1 Z a770 p771 k772 u773 h0 n0 _ T782.heap _
   rw [e782]
   exact ⟨N782, b775, k775, rfl, z783, KC782, f784, B782⟩
theorem pd_22 : parseMethodDescriptor "([BI)[B" = some ⟨[(.array .byte), .int], some (.array .byte)⟩ := by decide +kernel
theorem d11_35 : decode jdk_68_method_9_code 35 = .ok (.putfield 15, 3) := by decide +kernel
def Qr11_2 (Z : State) (a740 : Addr) (p741 : Int32) (w742 : Addr) (k744 : ClassId) (u745 : Nat → Int32) (w747 : Int32) (h0 : Heap) (n0 : Nat) (v : Option Value) (h : Heap) (L : List Loc) : Prop := Fr n0 L ∧ ∃ b785_0 : Addr, ∃ k785_0 : ClassId, v = none ∧ h0.size ≤ b785_0 ∧ KSx h0 h [(a740, Jvm.RoadKit.slotOf Z "java/lang/AbstractStringBuilder" "value" "[B")] [] ∧ Exa Z h b785_0 "[B" ∧ Fld Z h a740 "java/lang/AbstractStringBuilder" "value" "[B" (.ref b785_0) ∧ BA Z h b785_0 k785_0 .byte ((((16 : Int32) + ((16 : Int32) + ((2 : Int32) <<< (w747 &&& 31)))) >>> (w747 &&& 31)) <<< (w747 &&& 31)) (fun i => if ((0 : Int32)).toNatClampNeg ≤ i ∧ i < ((0 : Int32)).toNatClampNeg + ((16 : Int32)).toNatClampNeg then u745 (((0 : Int32)).toNatClampNeg + (i - ((0 : Int32)).toNatClampNeg)) else (fun _ => (0 : Int32)) i)
theorem r11_2 (l : Launch) (Z : State) (a0 : Array Value) (hw : ∀ d ∈ tables_1, d.before a0 Z = true) (a740 : Addr) (p741 : Int32) (w742 : Addr) (k744 : ClassId) (u745 : Nat → Int32) (w747 : Int32) (h0 : Heap) (n0 : Nat) (Z0 : n0 ≤ h0.size) (H0 : Fld Z h0 a740 "java/lang/AbstractStringBuilder" "value" "[B" (.ref w742)) (H1 : BA Z h0 w742 k744 .byte (16 : Int32) u745) (H2 : Fld Z h0 a740 "java/lang/AbstractStringBuilder" "coder" "B" (.int w747)) (H3 : (0 : Int32) < (p741 - ((16 : Int32) >>> (w747 &&& 31)))) (H4 : ((p741 <<< (w747 &&& 31)) - (16 : Int32)) < ((16 : Int32) + ((2 : Int32) <<< (w747 &&& 31)))) (H5 : (0 : Int32) < ((16 : Int32) + ((16 : Int32) + ((2 : Int32) <<< (w747 &&& 31))))) (H6 : ¬ ((2147483639 : Int32) < ((16 : Int32) + ((16 : Int32) + ((2 : Int32) <<< (w747 &&& 31)))))) (H7 : ¬ (((16 : Int32) + ((16 : Int32) + ((2 : Int32) <<< (w747 &&& 31)))) = (2147483647 : Int32))) (H8 : Exa Z h0 a740 "java/lang/StringBuilder") (H9 : ¬ (((((16 : Int32) + ((16 : Int32) + ((2 : Int32) <<< (w747 &&& 31)))) >>> (w747 &&& 31)) <<< (w747 &&& 31)) = (16 : Int32))) (H10 : ¬ (((((16 : Int32) + ((16 : Int32) + ((2 : Int32) <<< (w747 &&& 31)))) >>> (w747 &&& 31)) <<< (w747 &&& 31)) < (0 : Int32))) (H11 : ¬ ((34 : Int32) < ((((16 : Int32) + ((16 : Int32) + ((2 : Int32) <<< (w747 &&& 31)))) >>> (w747 &&& 31)) <<< (w747 &&& 31)))) (H12 : ¬ (((((16 : Int32) + ((16 : Int32) + ((2 : Int32) <<< (w747 &&& 31)))) >>> (w747 &&& 31)) <<< (w747 &&& 31)) < (16 : Int32))) (H13 : ((0 : Int32)).toNatClampNeg + ((16 : Int32)).toNatClampNeg ≤ (((((16 : Int32) + ((16 : Int32) + ((2 : Int32) <<< (w747 &&& 31)))) >>> (w747 &&& 31)) <<< (w747 &&& 31))).toNatClampNeg) (H14 : n0 ≤ a740) :
   OMet l Z mN16 jdk_68_method_9_code 3 none [] ({ frames := 3, cells := 1, slots := 34, locals := 48 } : Room) h0 #[(.ref a740), (.int p741)] (Qr11_2 Z a740 p741 w742 k744 u745 w747 h0 n0) := by
 refine MetFree.of_bodySF (plainFor_of_name pn_java_lang_AbstractStringBuilder) hisR ?_
 intro p e s m args below meth c s₁ Bd hml0 hP hK
 obtain ⟨rfl, hZ, hh⟩ := hP
 have hx := Bd.exec
 have hby := Bd.bytes
 have hml : c.maxLocals = 3 := hml0
 have hown : s.vm.findClass "java/lang/AbstractStringBuilder" = some m.cls := findClass_of_methodNamed Bd.named
 have hnm := (name_of_methodNamed Bd.named Bd.method).1
 have X0 : Stand p l e ({ frames := 3, cells := 1, slots := 34, locals := 48 } : Room) s m #[(.ref a740), (.int p741)] below meth c s₁ [] 0 0 := Stand.of_body Bd
 have e0 : s₁.heap = h0 := by rw [← hh, Bd.state]; rfl
 have N0 := Fr.nil n0
 have pre0 : ∀ t, Steps p.tables e below (s₁.setTop (mkF m 0 #[vR a740, vI p741, .unset] [])) t → Steps p.tables e below (s₁.setTop (entryFrame m #[(.ref a740), (.int p741)] 3)) t := fun t k => castTop (ef_11_vv m a740 p741) k
 obtain ⟨T743, X743, e743, st743⟩ := getF X0 hx hZ hown (host := "") (Or.inl (tw hw 39 rfl)) Via.refl e0 H0 (g := (mkF m 1 #[vR a740, vI p741, vU] [(.ref a740)])) rfl rfl (hb hby d11_1)
 have vc746 := H1
 obtain ⟨cl746, Ar746, q746, S746, N746, Hh746, G746⟩ := vc746
 obtain ⟨T748, X748, e748, st748⟩ := getF X743 hx hZ hown (host := "") (Or.inl (tw hw 41 rfl)) Via.refl e743 H2 (g := (mkF m 6 #[vR a740, vI p741, vU] [(.ref a740), (.int (16 : Int32))])) rfl rfl (hb hby d11_6)
 obtain ⟨T749, X749, e749, st749⟩ := getF X748 hx hZ hown (host := "") (Or.inl (tw hw 39 rfl)) Via.refl e748 H0 (g := (mkF m 19 #[vR a740, vI p741, vI ((16 : Int32) >>> (w747 &&& 31))] [(.ref a740), (.ref a740)])) rfl rfl (hb hby d11_19)
 obtain ⟨cq768, kq768, q768a, q768b, q768c⟩ := isOf hZ e749 H8
 obtain ⟨_, _, ⟨T768, L768, k768, n768⟩, -, X768, ⟨Lc768, hQ768, l768, y768, z768⟩, st768⟩ := X749.virtualBack hx (y := mN32) (z := mN32) hown (mvT hZ (tw hw 289 rfl)) (own_decl (mvT hZ (tw hw 290 rfl)) (mvT hZ (tw hw 293 rfl))) (notFace_of_selects (args := #[]) (mvT hZ (tw hw 292 rfl))) (mvT hZ (tw hw 292 rfl)) (mvT hZ (tw hw 290 rfl)) (by decide) (backOf (W := 2) (r48_1 l Z a0 hw a740 p741 w742 k744 u745 w747 h0 n0 Z0 H0 H1 H2 H4 H5 H6 H7) hZ (tw hw 293 rfl) (tw hw 33 rfl) (by decide) (by decide)) q768a q768c (g := (mkF m 24 #[vR a740, vI p741, vI ((16 : Int32) >>> (w747 &&& 31))] [(.int p741), (.ref a740), (.ref w742), (.ref a740)])) rfl (by rw [hml]; rfl) (Steps.refl _) (argsL := [(.int p741)]) (rest := [(.ref w742), (.ref a740)]) (lenOf pd_21 rfl) rfl (own_w _) (hb hby d11_24) (fun _ _ => ⟨rfl, e749, (by decide : 0 + 0 ≤ _), (by decide : 0 + 0 ≤ _)⟩)
 dsimp only [Pt.U, Pt.locs, Pt.cells, Pt.slots] at X768 l768 y768 z768 st768 hQ768
 replace X768 := own_mvX X768 (a := 0) (b := 0) y768 z768
 obtain ⟨rfl, N768q, e768⟩ := hQ768
 have N768 := own_mvN l768 N0 N768q
 obtain ⟨T769, X769, e769, st769⟩ := getF X768 hx hZ hown (host := "") (Or.inl (tw hw 41 rfl)) Via.refl e768 H2 (g := (mkF m 28 #[vR a740, vI p741, vI ((16 : Int32) >>> (w747 &&& 31))] [(.ref a740), (.int (((16 : Int32) + ((16 : Int32) + ((2 : Int32) <<< (w747 &&& 31)))) >>> (w747 &&& 31))), (.ref w742), (.ref a740)])) rfl rfl (hb hby d11_28)
 obtain ⟨_, _, ⟨T785, L785, k785, n785⟩, -, X785, ⟨Lc785, hQ785, l785, y785, z785⟩, st785⟩ := Jvm.LawKit.callS X769 hx (y := mN33) hown (mvT hZ (tw hw 303 rfl)) (mvT hZ (tw hw 304 rfl)) (mvT hZ (tw hw 154 rfl)) (mvT hZ (tw hw 305 rfl)) (by decide) (backOf (W := 1) (r51_1 l Z a0 hw w742 ((((16 : Int32) + ((16 : Int32) + ((2 : Int32) <<< (w747 &&& 31)))) >>> (w747 &&& 31)) <<< (w747 &&& 31)) k744 u745 h0 n0 Z0 H1 H9 H10 H11 H12 H13) hZ (tw hw 305 rfl) (tw hw 154 rfl) (by decide) (by decide)) (g := (mkF m 32 #[vR a740, vI p741, vI ((16 : Int32) >>> (w747 &&& 31))] [(.int ((((16 : Int32) + ((16 : Int32) + ((2 : Int32) <<< (w747 &&& 31)))) >>> (w747 &&& 31)) <<< (w747 &&& 31))), (.ref w742), (.ref a740)])) rfl (by rw [hml]; rfl) (argsL := [(.ref w742), (.int ((((16 : Int32) + ((16 : Int32) + ((2 : Int32) <<< (w747 &&& 31)))) >>> (w747 &&& 31)) <<< (w747 &&& 31)))]) (rest := [(.ref a740)]) (lenOf pd_22 rfl) rfl (own_w _) (hb hby d11_32) (fun _ _ => ⟨rfl, e769, (by decide : 0 + 1 ≤ _), (by decide : 0 + 34 ≤ _)⟩)
 dsimp only [Pt.U, Pt.locs, Pt.cells, Pt.slots] at X785 l785 y785 z785 st785 hQ785
 replace X785 := own_mvX X785 (a := 1) (b := 34) y785 z785
 obtain ⟨N785q, b785_0, k785_0, rfl, ge_b785_0, K785, o785_0, o785_1⟩ := hQ785
 have N785 := own_mvN l785 N768 N785q
 have KC785 := KSx.trans (KSx.refl h0 [(a740, Jvm.RoadKit.slotOf Z "java/lang/AbstractStringBuilder" "value" "[B")] []) K785 ks0 all0
 have f786 := (H8.ks K785)
 have f787 := (H0.ks K785 ks0 all0)
 obtain ⟨T788, h788, X788, e788, W788, st788⟩ := putF X785 hx hZ hown (host := "") (Or.inl (tw hw 39 rfl)) Via.refl rfl f787 f786 (Or.inl (tw hw 40 rfl)) (tw hw 24 rfl) (ty := (.array .byte)) (by decide) rfl rfl (g := (mkF m 35 #[vR a740, vI p741, vI ((16 : Int32) >>> (w747 &&& 31))] [(.ref b785_0), (.ref a740)])) rfl rfl (hb hby d11_35)
 have Fw788 := Fld.same W788 f787
 have KC788 := KSx.wr KC785 W788 (Or.inl (List.mem_of_getElem? (i := 0) rfl))
 have N788 := Fr.snoc X788 N785 H14
 have f789 := (o785_0.wr W788)
 have ne790 : a740 ≠ b785_0 := (Nat.ne_of_lt (Nat.lt_of_lt_of_le (H2).lt ge_b785_0))
 have f791 := (o785_1.other W788 (Ne.symm ne790))
 obtain ⟨fs, hr, hrun, hended, hW, hsame⟩ := X788.leave (v := none) (fun _ => rfl)
 refine ⟨_, _, pre0 _ ?_, hrun, hended, _, _, rfl, ?_, ⟨_, rfl⟩, hW, hsame.mono (by decide) (by decide)⟩
 · show SG p e below s₁ (mkF m 0 #[vR a740, vI p741, vU] []) _
   refine XS.aloadN X0.here hx rfl (hb hby d11_0) rfl rfl ?_
   show SG p e below s₁ (mkF m 1 #[vR a740, vI p741, vU] [(.ref a740)]) _
   refine st743 _ ?_
   show SG p e below T743 (mkF m 4 #[vR a740, vI p741, vU] [(.ref w742)]) _
   refine X743.arraylength hx (by rw [e743]; exact Ar746.1) (State.isArrayOf_alike hZ.alike Ar746.2.1) (g := (mkF m 4 #[vR a740, vI p741, vU] [(.ref w742)])) rfl rfl (hb hby d11_4) _ ?_
   rw [len_of S746 N746]
   show SG p e below T743 (mkF m 5 #[vR a740, vI p741, vU] [(.int (16 : Int32))]) _
   refine XS.aloadN X743.here hx rfl (hb hby d11_5) rfl rfl ?_
   show SG p e below T743 (mkF m 6 #[vR a740, vI p741, vU] [(.ref a740), (.int (16 : Int32))]) _
   refine st748 _ ?_
   show SG p e below T748 (mkF m 9 #[vR a740, vI p741, vU] [(.int w747), (.int (16 : Int32))]) _
   refine XS.ishr X748.here hx rfl (hb hby d11_9) rfl ?_
   show SG p e below T748 (mkF m 10 #[vR a740, vI p741, vU] [(.int ((16 : Int32) >>> (w747 &&& 31)))]) _
   refine XS.istoreN X748.here hx rfl (hb hby d11_10) rfl (l' := #[vR a740, vI p741, vI ((16 : Int32) >>> (w747 &&& 31))]) rfl ?_
   show SG p e below T748 (mkF m 11 #[vR a740, vI p741, vI ((16 : Int32) >>> (w747 &&& 31))] []) _
   refine XS.iloadN X748.here hx rfl (hb hby d11_11) rfl ?_
   show SG p e below T748 (mkF m 12 #[vR a740, vI p741, vI ((16 : Int32) >>> (w747 &&& 31))] [(.int p741)]) _
   refine XS.iloadN X748.here hx rfl (hb hby d11_12) rfl ?_
   show SG p e below T748 (mkF m 13 #[vR a740, vI p741, vI ((16 : Int32) >>> (w747 &&& 31))] [(.int ((16 : Int32) >>> (w747 &&& 31))), (.int p741)]) _
   refine XS.isub X748.here hx rfl (hb hby d11_13) rfl ?_
   show SG p e below T748 (mkF m 14 #[vR a740, vI p741, vI ((16 : Int32) >>> (w747 &&& 31))] [(.int (p741 - ((16 : Int32) >>> (w747 &&& 31))))]) _
   refine XS.ifNo X748.here hx rfl (hb hby d11_14) rfl ((if0 _ _).trans (tlt H3).2.2.2) ?_
   show SG p e below T748 (mkF m 17 #[vR a740, vI p741, vI ((16 : Int32) >>> (w747 &&& 31))] []) _
   refine XS.aloadN X748.here hx rfl (hb hby d11_17) rfl rfl ?_
   show SG p e below T748 (mkF m 18 #[vR a740, vI p741, vI ((16 : Int32) >>> (w747 &&& 31))] [(.ref a740)]) _
   refine XS.aloadN X748.here hx rfl (hb hby d11_18) rfl rfl ?_
   show SG p e below T748 (mkF m 19 #[vR a740, vI p741, vI ((16 : Int32) >>> (w747 &&& 31))] [(.ref a740), (.ref a740)]) _
   refine st749 _ ?_
   show SG p e below T749 (mkF m 22 #[vR a740, vI p741, vI ((16 : Int32) >>> (w747 &&& 31))] [(.ref w742), (.ref a740)]) _
   refine XS.aloadN X749.here hx rfl (hb hby d11_22) rfl rfl ?_
   show SG p e below T749 (mkF m 23 #[vR a740, vI p741, vI ((16 : Int32) >>> (w747 &&& 31))] [(.ref a740), (.ref w742), (.ref a740)]) _
   refine XS.iloadN X749.here hx rfl (hb hby d11_23) rfl ?_
   show SG p e below T749 (mkF m 24 #[vR a740, vI p741, vI ((16 : Int32) >>> (w747 &&& 31))] [(.int p741), (.ref a740), (.ref w742), (.ref a740)]) _
   refine st768.trans ?_
   show SG p e below T768 (mkF m 27 #[vR a740, vI p741, vI ((16 : Int32) >>> (w747 &&& 31))] [(.int (((16 : Int32) + ((16 : Int32) + ((2 : Int32) <<< (w747 &&& 31)))) >>> (w747 &&& 31))), (.ref w742), (.ref a740)]) _
   refine XS.aloadN X768.here hx rfl (hb hby d11_27) rfl rfl ?_
   show SG p e below T768 (mkF m 28 #[vR a740, vI p741, vI ((16 : Int32) >>> (w747 &&& 31))] [(.ref a740), (.int (((16 : Int32) + ((16 : Int32) + ((2 : Int32) <<< (w747 &&& 31)))) >>> (w747 &&& 31))), (.ref w742), (.ref a740)]) _
   refine st769 _ ?_
   show SG p e below T769 (mkF m 31 #[vR a740, vI p741, vI ((16 : Int32) >>> (w747 &&& 31))] [(.int w747), (.int (((16 : Int32) + ((16 : Int32) + ((2 : Int32) <<< (w747 &&& 31)))) >>> (w747 &&& 31))), (.ref w742), (.ref a740)]) _
   refine XS.ishl X769.here hx rfl (hb hby d11_31) rfl ?_
   show SG p e below T769 (mkF m 32 #[vR a740, vI p741, vI ((16 : Int32) >>> (w747 &&& 31))] [(.int ((((16 : Int32) + ((16 : Int32) + ((2 : Int32) <<< (w747 &&& 31)))) >>> (w747 &&& 31)) <<< (w747 &&& 31))), (.ref w742), (.ref a740)]) _
   refine st785 _ ?_
   show SG p e below T785 (mkF m 35 #[vR a740, vI p741, vI ((16 : Int32) >>> (w747 &&& 31))] [(.ref b785_0), (.ref a740)]) _
   refine st788 _ ?_
   show SG p e below T788 (mkF m 38 #[vR a740, vI p741, vI ((16 : Int32) >>> (w747 &&& 31))] []) _
   exact X788.returnOut hx Bd.returns (hb hby d11_38) hr
 · show Qr11_2 Z a740 p741 w742 k744 u745 w747 h0 n0 _ T788.heap _
   rw [e788]
   exact ⟨N788, b785_0, k785_0, rfl, (Nat.le_trans (KSx.refl h0 [(a740, Jvm.RoadKit.slotOf Z "java/lang/AbstractStringBuilder" "value" "[B")] []).1 ge_b785_0), KC788, f789, Fw788, f791⟩
def Qr16_2 (Z : State) (a735 : Addr) (q736 : Int64) (w737 : Int32) (w793 : Addr) (k794 : ClassId) (u795 : Nat → Int32) (w796 : Int32) (w803 : Int32) (w809 : Addr) (w811 : Addr) (k813 : ClassId) (u814 : Nat → Int32) (k816 : ClassId) (u817 : Nat → Int32) (h0 : Heap) (n0 : Nat) (v : Option Value) (h : Heap) (L : List Loc) : Prop := Fr n0 L ∧ ∃ b792_0 : Addr, ∃ k792_0 : ClassId, v = some (.ref a735) ∧ h0.size ≤ b792_0 ∧ KSx h0 h [(a735, Jvm.RoadKit.slotOf Z "java/lang/AbstractStringBuilder" "value" "[B"), (a735, Jvm.RoadKit.slotOf Z "java/lang/AbstractStringBuilder" "count" "I")] [] ∧ Exa Z h b792_0 "[B" ∧ Fld Z h a735 "java/lang/AbstractStringBuilder" "count" "I" (.int (w737 + (SBG.strSizeOfL q736))) ∧ Fld Z h a735 "java/lang/AbstractStringBuilder" "value" "[B" (.ref b792_0) ∧ BA Z h b792_0 k792_0 .byte ((((16 : Int32) + ((16 : Int32) + ((2 : Int32) <<< (w796 &&& 31)))) >>> (w796 &&& 31)) <<< (w796 &&& 31)) (SBG.ogc (decide (q736 < 0)) (q736).toInt.natAbs (SBG.digitsL (q736).toInt.natAbs) ((w737 + (SBG.strSizeOfL q736))).toNatClampNeg (fun i => if ((0 : Int32)).toNatClampNeg ≤ i ∧ i < ((0 : Int32)).toNatClampNeg + ((16 : Int32)).toNatClampNeg then u795 (((0 : Int32)).toNatClampNeg + (i - ((0 : Int32)).toNatClampNeg)) else (fun _ => (0 : Int32)) i))
theorem r16_2 (l : Launch) (Z : State) (a0 : Array Value) (hw : ∀ d ∈ tables_1, d.before a0 Z = true) (a735 : Addr) (q736 : Int64) (w737 : Int32) (w793 : Addr) (k794 : ClassId) (u795 : Nat → Int32) (w796 : Int32) (w803 : Int32) (w809 : Addr) (w811 : Addr) (k813 : ClassId) (u814 : Nat → Int32) (k816 : ClassId) (u817 : Nat → Int32) (h0 : Heap) (n0 : Nat) (Z0 : n0 ≤ h0.size) (H0 : Fld Z h0 a735 "java/lang/AbstractStringBuilder" "count" "I" (.int w737)) (H1 : Fld Z h0 a735 "java/lang/AbstractStringBuilder" "value" "[B" (.ref w793)) (H2 : BA Z h0 w793 k794 .byte (16 : Int32) u795) (H3 : Fld Z h0 a735 "java/lang/AbstractStringBuilder" "coder" "B" (.int w796)) (H4 : (0 : Int32) < ((w737 + (SBG.strSizeOfL q736)) - ((16 : Int32) >>> (w796 &&& 31)))) (H5 : (((w737 + (SBG.strSizeOfL q736)) <<< (w796 &&& 31)) - (16 : Int32)) < ((16 : Int32) + ((2 : Int32) <<< (w796 &&& 31)))) (H6 : (0 : Int32) < ((16 : Int32) + ((16 : Int32) + ((2 : Int32) <<< (w796 &&& 31))))) (H7 : ¬ ((2147483639 : Int32) < ((16 : Int32) + ((16 : Int32) + ((2 : Int32) <<< (w796 &&& 31)))))) (H8 : ¬ (((16 : Int32) + ((16 : Int32) + ((2 : Int32) <<< (w796 &&& 31)))) = (2147483647 : Int32))) (H9 : Exa Z h0 a735 "java/lang/StringBuilder") (H10 : ¬ (((((16 : Int32) + ((16 : Int32) + ((2 : Int32) <<< (w796 &&& 31)))) >>> (w796 &&& 31)) <<< (w796 &&& 31)) = (16 : Int32))) (H11 : ¬ (((((16 : Int32) + ((16 : Int32) + ((2 : Int32) <<< (w796 &&& 31)))) >>> (w796 &&& 31)) <<< (w796 &&& 31)) < (0 : Int32))) (H12 : ¬ ((34 : Int32) < ((((16 : Int32) + ((16 : Int32) + ((2 : Int32) <<< (w796 &&& 31)))) >>> (w796 &&& 31)) <<< (w796 &&& 31)))) (H13 : ¬ (((((16 : Int32) + ((16 : Int32) + ((2 : Int32) <<< (w796 &&& 31)))) >>> (w796 &&& 31)) <<< (w796 &&& 31)) < (16 : Int32))) (H14 : ((0 : Int32)).toNatClampNeg + ((16 : Int32)).toNatClampNeg ≤ (((((16 : Int32) + ((16 : Int32) + ((2 : Int32) <<< (w796 &&& 31)))) >>> (w796 &&& 31)) <<< (w796 &&& 31))).toNatClampNeg) (H15 : n0 ≤ a735) (H16 : Sta Z h0 "java/lang/String" "COMPACT_STRINGS" "Z" (.int w803)) (H17 : ¬ (w803 = (0 : Int32))) (H18 : w796 = (0 : Int32)) (H19 : Sta Z h0 "java/lang/Integer" "DigitOnes" "[B" (.ref w809)) (H20 : Sta Z h0 "java/lang/Integer" "DigitTens" "[B" (.ref w811)) (H21 : BA Z h0 w809 k813 .byte (100 : Int32) u814) (H22 : w809 ≠ a735) (H23 : BA Z h0 w811 k816 .byte (100 : Int32) u817) (H24 : w811 ≠ a735) (H25 : ¬ ((w737 + (SBG.strSizeOfL q736)) < (0 : Int32))) (H26 : ((w737 + (SBG.strSizeOfL q736))).toNatClampNeg ≤ (((((16 : Int32) + ((16 : Int32) + ((2 : Int32) <<< (w796 &&& 31)))) >>> (w796 &&& 31)) <<< (w796 &&& 31))).toNatClampNeg) (H27 : SBG.digitsL (q736).toInt.natAbs + (if q736 < 0 then 1 else 0) ≤ ((w737 + (SBG.strSizeOfL q736))).toNatClampNeg) (H28 : u814 = (fun r => Int32.ofNat (48 + r % 10))) (H29 : u817 = (fun r => Int32.ofNat (48 + r / 10))) (H30 : (Jvm.Cond.laysStatic "java/lang/Integer" "DigitOnes" "[B").before a0 Z = true) (H31 : (Jvm.Cond.laysStatic "java/lang/Integer" "DigitTens" "[B").before a0 Z = true) :
   OMet l Z mN28 jdk_68_method_33_code 5 (some (.object "java/lang/AbstractStringBuilder")) [] ({ frames := 4, cells := 1, slots := 34, locals := 102 } : Room) h0 #[(.ref a735), (.long q736)] (Qr16_2 Z a735 q736 w737 w793 k794 u795 w796 w803 w809 w811 k813 u814 k816 u817 h0 n0) := by
 refine MetFree.of_bodySF (plainFor_of_name pn_java_lang_AbstractStringBuilder) hisR ?_
 intro p e s m args below meth c s₁ Bd hml0 hP hK
 obtain ⟨rfl, hZ, hh⟩ := hP
 have hx := Bd.exec
 have hby := Bd.bytes
 have hml : c.maxLocals = 5 := hml0
 have hown : s.vm.findClass "java/lang/AbstractStringBuilder" = some m.cls := findClass_of_methodNamed Bd.named
 have hnm := (name_of_methodNamed Bd.named Bd.method).1
 have X0 : Stand p l e ({ frames := 4, cells := 1, slots := 34, locals := 102 } : Room) s m #[(.ref a735), (.long q736)] below meth c s₁ [] 0 0 := Stand.of_body Bd
 have e0 : s₁.heap = h0 := by rw [← hh, Bd.state]; rfl
 have N0 := Fr.nil n0
 have pre0 : ∀ t, Steps p.tables e below (s₁.setTop (mkF m 0 #[vR a735, vJ q736, vS, .unset, .unset] [])) t → Steps p.tables e below (s₁.setTop (entryFrame m #[(.ref a735), (.long q736)] 5)) t := fun t k => castTop (ef_16_vv m a735 q736) k
 obtain ⟨T738, X738, e738, st738⟩ := getF X0 hx hZ hown (host := "") (Or.inl (tw hw 72 rfl)) Via.refl e0 H0 (g := (mkF m 1 #[vR a735, vJ q736, vS, vU, vU] [(.ref a735)])) rfl rfl (hb hby d16_1)
 obtain ⟨_, _, ⟨T739, L739, k739, n739⟩, -, X739, ⟨Lc739, hQ739, l739, y739, z739⟩, st739⟩ := Jvm.LawKit.callS X738 hx (y := mN26) hown (mvT hZ (tw hw 108 rfl)) (mvT hZ (tw hw 109 rfl)) (mvT hZ (tw hw 110 rfl)) (mvT hZ (tw hw 111 rfl)) (by decide) (backOf (W := 1) (own_ssL (l := l) (h0 := h0) (n0 := n0) (x := q736) (tw hw 111 rfl) (tw hw 112 rfl) (tw hw 287 rfl)) hZ (tw hw 111 rfl) (tw hw 110 rfl) (by decide) (by decide)) (g := (mkF m 7 #[vR a735, vJ q736, vS, vI w737, vU] [(.long q736), (.int w737)])) rfl (by rw [hml]; rfl) (argsL := [(.long q736)]) (rest := [(.int w737)]) (lenOf pd_9 rfl) rfl (own_w _) (hb hby d16_7) (fun _ _ => ⟨rfl, e738, (by decide : 0 + 0 ≤ _), (by decide : 0 + 0 ≤ _)⟩)
 dsimp only [Pt.U, Pt.locs, Pt.cells, Pt.slots] at X739 l739 y739 z739 st739 hQ739
 replace X739 := own_mvX X739 (a := 0) (b := 0) y739 z739
 obtain ⟨rfl, N739q, e739⟩ := hQ739
 have N739 := own_mvN l739 N0 N739q
 obtain ⟨cq792, kq792, q792a, q792b, q792c⟩ := isOf hZ e739 H9
 obtain ⟨_, _, ⟨T792, L792, k792, n792⟩, -, X792, ⟨Lc792, hQ792, l792, y792, z792⟩, st792⟩ := X739.virtualBack hx (y := mN16) (z := mN16) hown (mvT hZ (tw hw 74 rfl)) (own_decl (mvT hZ (tw hw 75 rfl)) (mvT hZ (tw hw 78 rfl))) (notFace_of_selects (args := #[]) (mvT hZ (tw hw 77 rfl))) (mvT hZ (tw hw 77 rfl)) (mvT hZ (tw hw 75 rfl)) (by decide) (backOf (W := 0) (r11_2 l Z a0 hw a735 (w737 + (SBG.strSizeOfL q736)) w793 k794 u795 w796 h0 n0 Z0 H1 H2 H3 H4 H5 H6 H7 H8 H9 H10 H11 H12 H13 H14 H15) hZ (tw hw 78 rfl) (tw hw 33 rfl) (by decide) (by decide)) q792a q792c (g := (mkF m 16 (la17 a735 q736 w737) [(.int (w737 + (SBG.strSizeOfL q736))), (.ref a735)])) rfl (by rw [hml]; rfl) (Steps.refl _) (argsL := [(.int (w737 + (SBG.strSizeOfL q736)))]) (rest := []) (lenOf pd_17 rfl) rfl (own_w _) (hb hby d16_16) (fun _ _ => ⟨rfl, e739, (by decide : 0 + 1 ≤ _), (by decide : 0 + 34 ≤ _)⟩)
 dsimp only [Pt.U, Pt.locs, Pt.cells, Pt.slots] at X792 l792 y792 z792 st792 hQ792
 replace X792 := own_mvX X792 (a := 1) (b := 34) y792 z792
 obtain ⟨N792q, b792_0, k792_0, rfl, ge_b792_0, K792, o792_0, o792_1, o792_2⟩ := hQ792
 have N792 := own_mvN l792 N739 N792q
 have KC792 := KSx.trans (KSx.refl h0 [(a735, Jvm.RoadKit.slotOf Z "java/lang/AbstractStringBuilder" "value" "[B"), (a735, Jvm.RoadKit.slotOf Z "java/lang/AbstractStringBuilder" "count" "I")] []) K792 (ksS (Or.inl (List.mem_of_getElem? (i := 0) rfl)) ks0) all0
 have f804 := (H16.ks K792)
 have f805 := (H3.ks K792 (ksS (Or.inr (slot_ne (Or.inl (tw hw 42 rfl)) (Or.inl (tw hw 40 rfl)) (by decide) (t := .byte) (t' := (.array .byte)) (by decide) (by decide))) ks0) all0)
 have Z792 : n0 ≤ T792.heap.size := Nat.le_trans Z0 K792.1
 have f806 := (H9.ks K792)
 obtain ⟨cq802, kq802, q802a, q802b, q802c⟩ := isOf hZ rfl f806
 obtain ⟨_, _, ⟨T802, L802, k802, n802⟩, -, X802, ⟨Lc802, hQ802, l802, y802, z802⟩, st802⟩ := X792.virtualBack hx (y := mN18) (z := mN18) hown (mvT hZ (tw hw 113 rfl)) (mvT hZ (tw hw 114 rfl)) (notFace_of_selects (args := #[]) (mvT hZ (tw hw 116 rfl))) (mvT hZ (tw hw 116 rfl)) (mvT hZ (tw hw 115 rfl)) (by decide) (backOf (W := 0) (r18_1 l Z a0 hw a735 w803 w796 T792.heap n0 Z792 f804 H17 f805 H18) hZ (tw hw 117 rfl) (tw hw 33 rfl) (by decide) (by decide)) q802a q802c (g := (mkF m 20 (la17 a735 q736 w737) [(.ref a735)])) rfl (by rw [hml]; rfl) (Steps.refl _) (argsL := []) (rest := []) (lenOf pd_0 rfl) rfl (own_w _) (hb hby d16_20) (fun _ _ => ⟨rfl, rfl, (by decide : 1 + 0 ≤ _), (by decide : 34 + 0 ≤ _)⟩)
 dsimp only [Pt.U, Pt.locs, Pt.cells, Pt.slots] at X802 l802 y802 z802 st802 hQ802
 replace X802 := own_mvX X802 (a := 1) (b := 34) y802 z802
 obtain ⟨rfl, N802q, e802⟩ := hQ802
 have N802 := own_mvN l802 N792 N802q
 obtain ⟨T807, X807, e807, st807⟩ := getF X802 hx hZ hown (host := "") (Or.inl (tw hw 39 rfl)) Via.refl e802 o792_1 (g := (mkF m 30 (la17 a735 q736 w737) [(.ref a735), (.int (w737 + (SBG.strSizeOfL q736))), (.long q736)])) rfl rfl (hb hby d16_30)
 have f810 := (H19.ks K792)
 have f812 := (H20.ks K792)
 have f815 := (H21.ks K792 (ksS H22 ks0) all0)
 have f818 := (H23.ks K792 (ksS H24 ks0) all0)
 have ne819 : w809 ≠ b792_0 := (Nat.ne_of_lt (Nat.lt_of_lt_of_le (H21).lt ge_b792_0))
 have ne820 : w811 ≠ b792_0 := (Nat.ne_of_lt (Nat.lt_of_lt_of_le (H23).lt ge_b792_0))
 have g821 : n0 ≤ b792_0 := Nat.le_trans Z0 ge_b792_0
 obtain ⟨_, _, ⟨T808, L808, k808, n808⟩, -, X808, ⟨Lc808, hQ808, l808, y808, z808⟩, st808⟩ := Jvm.LawKit.callS X807 hx (y := mN27) hown (mvT hZ (tw hw 118 rfl)) (mvT hZ (tw hw 119 rfl)) (mvT hZ (tw hw 110 rfl)) (mvT hZ (tw hw 120 rfl)) (by decide) (backOf (W := 0) (own_gcL2 (l := l) (h0 := T792.heap) (n0 := n0) (x := q736) (j := (w737 + (SBG.strSizeOfL q736))) (tw hw 120 rfl) (tw hw 122 rfl) (tw hw 288 rfl) (tw hw 121 rfl) (tw hw 306 rfl) f810 f812 H30 H31 H28 f815 H29 f818 o792_2 (Ne.symm ne819) (Ne.symm ne820) g821 H25 H26 H27) hZ (tw hw 120 rfl) (tw hw 110 rfl) (by decide) (by decide)) (g := (mkF m 33 (la17 a735 q736 w737) [(.ref b792_0), (.int (w737 + (SBG.strSizeOfL q736))), (.long q736)])) rfl (by rw [hml]; rfl) (argsL := [(.long q736), (.int (w737 + (SBG.strSizeOfL q736))), (.ref b792_0)]) (rest := []) (lenOf pd_18 rfl) rfl (own_w _) (hb hby d16_33) (fun _ _ => ⟨rfl, e807, (by decide : 1 + 0 ≤ _), (by decide : 34 + 0 ≤ _)⟩)
 dsimp only [Pt.U, Pt.locs, Pt.cells, Pt.slots] at X808 l808 y808 z808 st808 hQ808
 replace X808 := own_mvX X808 (a := 1) (b := 34) y808 z808
 obtain ⟨N808q, rfl, K808, o808_0⟩ := hQ808
 have N808 := own_mvN l808 N802 N808q
 have z822 : h0.size ≤ b792_0 := Nat.le_trans (KSx.refl h0 [(a735, Jvm.RoadKit.slotOf Z "java/lang/AbstractStringBuilder" "value" "[B"), (a735, Jvm.RoadKit.slotOf Z "java/lang/AbstractStringBuilder" "count" "I")] []).1 ge_b792_0
 have KC808 := KSx.trans KC792 K808 ks0 (allS (Or.inr z822) all0)
 have f823 := (f806.ks K808)
 have ne824 : a735 ≠ b792_0 := (Nat.ne_of_lt (Nat.lt_of_lt_of_le (H0).lt ge_b792_0))
 have f825 := ((H0.ks K792 (ksS (Or.inr (slot_ne (Or.inl (tw hw 73 rfl)) (Or.inl (tw hw 40 rfl)) (by decide) (t := .int) (t' := (.array .byte)) (by decide) (by decide))) ks0) all0).ks K808 ks0 (allS ne824 all0))
 obtain ⟨T826, h826, X826, e826, W826, st826⟩ := putF X808 hx hZ hown (host := "") (Or.inl (tw hw 72 rfl)) Via.refl rfl f825 f823 (Or.inl (tw hw 73 rfl)) (tw hw 24 rfl) (ty := .int) (by decide) rfl rfl (g := (mkF m 55 (la17 a735 q736 w737) [(.int (w737 + (SBG.strSizeOfL q736))), (.ref a735)])) rfl rfl (hb hby d16_55)
 have Fw826 := Fld.same W826 f825
 have KC826 := KSx.wr KC808 W826 (Or.inl (List.mem_of_getElem? (i := 1) rfl))
 have N826 := Fr.snoc X826 N808 H15
 have f827 := ((o792_0.ks K808).wr W826)
 have f828 := ((o792_1.ks K808 ks0 (allS ne824 all0)).other W826 (Or.inr (slot_ne (Or.inl (tw hw 40 rfl)) (Or.inl (tw hw 73 rfl)) (by decide) (t := (.array .byte)) (t' := .int) (by decide) (by decide))))
 have f829 := (o808_0.other W826 (Ne.symm ne824))
 obtain ⟨fs, hr, hrun, hended, hW, hsame⟩ := X826.leave (v := some (.ref a735)) (fun h => by rw [Bd.returns] at h; cases h)
 refine ⟨_, _, pre0 _ ?_, hrun, hended, _, _, rfl, ?_, ⟨_, rfl⟩, hW, hsame.mono (by decide) (by decide)⟩
 · show SG p e below s₁ (mkF m 0 #[vR a735, vJ q736, vS, vU, vU] []) _
   refine XS.aloadN X0.here hx rfl (hb hby d16_0) rfl rfl ?_
   show SG p e below s₁ (mkF m 1 #[vR a735, vJ q736, vS, vU, vU] [(.ref a735)]) _
   refine st738 _ ?_
   show SG p e below T738 (mkF m 4 #[vR a735, vJ q736, vS, vU, vU] [(.int w737)]) _
   refine XS.istoreN X738.here hx rfl (hb hby d16_4) rfl (l' := #[vR a735, vJ q736, vS, vI w737, vU]) rfl ?_
   show SG p e below T738 (mkF m 5 #[vR a735, vJ q736, vS, vI w737, vU] []) _
   refine XS.iloadN X738.here hx rfl (hb hby d16_5) rfl ?_
   show SG p e below T738 (mkF m 6 #[vR a735, vJ q736, vS, vI w737, vU] [(.int w737)]) _
   refine XS.lloadN X738.here hx rfl (hb hby d16_6) rfl ?_
   show SG p e below T738 (mkF m 7 #[vR a735, vJ q736, vS, vI w737, vU] [(.long q736), (.int w737)]) _
   refine st739 _ ?_
   show SG p e below T739 (mkF m 10 #[vR a735, vJ q736, vS, vI w737, vU] [(.int (SBG.strSizeOfL q736)), (.int w737)]) _
   refine XS.iadd X739.here hx rfl (hb hby d16_10) rfl ?_
   show SG p e below T739 (mkF m 11 #[vR a735, vJ q736, vS, vI w737, vU] [(.int (w737 + (SBG.strSizeOfL q736)))]) _
   refine XS.istore X739.here hx rfl (hb hby d16_11) rfl (l' := #[vR a735, vJ q736, vS, vI w737, vI (w737 + (SBG.strSizeOfL q736))]) rfl ?_
   show SG p e below T739 (mkF m 13 (la17 a735 q736 w737) []) _
   refine XS.aloadN X739.here hx rfl (hb hby d16_13) rfl rfl ?_
   show SG p e below T739 (mkF m 14 (la17 a735 q736 w737) [(.ref a735)]) _
   refine XS.iload X739.here hx rfl (hb hby d16_14) rfl ?_
   show SG p e below T739 (mkF m 16 (la17 a735 q736 w737) [(.int (w737 + (SBG.strSizeOfL q736))), (.ref a735)]) _
   refine st792.trans ?_
   show SG p e below T792 (mkF m 19 (la17 a735 q736 w737) []) _
   refine XS.aloadN X792.here hx rfl (hb hby d16_19) rfl rfl ?_
   show SG p e below T792 (mkF m 20 (la17 a735 q736 w737) [(.ref a735)]) _
   refine st802.trans ?_
   show SG p e below T802 (mkF m 23 (la17 a735 q736 w737) [(.int (1 : Int32))]) _
   refine XS.ifNo X802.here hx rfl (hb hby d16_23) rfl ((if0 _ _).trans (feq (by decide : ¬ ((1 : Int32) = (0 : Int32)))).1) ?_
   show SG p e below T802 (mkF m 26 (la17 a735 q736 w737) []) _
   refine XS.lloadN X802.here hx rfl (hb hby d16_26) rfl ?_
   show SG p e below T802 (mkF m 27 (la17 a735 q736 w737) [(.long q736)]) _
   refine XS.iload X802.here hx rfl (hb hby d16_27) rfl ?_
   show SG p e below T802 (mkF m 29 (la17 a735 q736 w737) [(.int (w737 + (SBG.strSizeOfL q736))), (.long q736)]) _
   refine XS.aloadN X802.here hx rfl (hb hby d16_29) rfl rfl ?_
   show SG p e below T802 (mkF m 30 (la17 a735 q736 w737) [(.ref a735), (.int (w737 + (SBG.strSizeOfL q736))), (.long q736)]) _
   refine st807 _ ?_
   show SG p e below T807 (mkF m 33 (la17 a735 q736 w737) [(.ref b792_0), (.int (w737 + (SBG.strSizeOfL q736))), (.long q736)]) _
   refine st808 _ ?_
   show SG p e below T808 (mkF m 36 (la17 a735 q736 w737) [(.int (Int32.ofNat (((w737 + (SBG.strSizeOfL q736))).toNatClampNeg - (SBG.digitsL (q736).toInt.natAbs + (if q736 < 0 then 1 else 0)))))]) _
   refine XS.pop X808.here hx rfl (hb hby d16_36) rfl rfl ?_
   show SG p e below T808 (mkF m 37 (la17 a735 q736 w737) []) _
   refine XS.goto X808.here hx rfl (pc0 := 37) (pc' := 52) rfl (hb hby d16_37) (by decide) (by decide) ?_
   show SG p e below T808 (mkF m 52 (la17 a735 q736 w737) []) _
   refine XS.aloadN X808.here hx rfl (hb hby d16_52) rfl rfl ?_
   show SG p e below T808 (mkF m 53 (la17 a735 q736 w737) [(.ref a735)]) _
   refine XS.iload X808.here hx rfl (hb hby d16_53) rfl ?_
   show SG p e below T808 (mkF m 55 (la17 a735 q736 w737) [(.int (w737 + (SBG.strSizeOfL q736))), (.ref a735)]) _
   refine st826 _ ?_
   show SG p e below T826 (mkF m 58 (la17 a735 q736 w737) []) _
   refine XS.aloadN X826.here hx rfl (hb hby d16_58) rfl rfl ?_
   show SG p e below T826 (mkF m 59 (la17 a735 q736 w737) [(.ref a735)]) _
   jvm_step X826.here [X826.here.top, hx, (hb hby d16_59), X826.method', Bd.returns, Value.isRef, FieldType.isReference]
   first | (intro acts; rw [hr _ acts rfl rfl rfl]) | rw [hr _ _ rfl rfl rfl]
   exact Steps.refl _
 · show Qr16_2 Z a735 q736 w737 w793 k794 u795 w796 w803 w809 w811 k813 u814 k816 u817 h0 n0 _ T826.heap _
   rw [e826]
   exact ⟨N826, b792_0, k792_0, rfl, z822, KC826, f827, Fw826, f828, f829⟩
def Qr15_2 (Z : State) (a733 : Addr) (q734 : Int64) (w831 : Int32) (w832 : Addr) (k833 : ClassId) (u834 : Nat → Int32) (w835 : Int32) (w836 : Int32) (w837 : Addr) (w838 : Addr) (k839 : ClassId) (u840 : Nat → Int32) (k841 : ClassId) (u842 : Nat → Int32) (h0 : Heap) (n0 : Nat) (v : Option Value) (h : Heap) (L : List Loc) : Prop := Fr n0 L ∧ ∃ b830_0 : Addr, ∃ k830_0 : ClassId, v = some (.ref a733) ∧ h0.size ≤ b830_0 ∧ KSx h0 h [(a733, Jvm.RoadKit.slotOf Z "java/lang/AbstractStringBuilder" "count" "I"), (a733, Jvm.RoadKit.slotOf Z "java/lang/AbstractStringBuilder" "value" "[B")] [] ∧ Exa Z h b830_0 "[B" ∧ Fld Z h a733 "java/lang/AbstractStringBuilder" "count" "I" (.int (w831 + (SBG.strSizeOfL q734))) ∧ Fld Z h a733 "java/lang/AbstractStringBuilder" "value" "[B" (.ref b830_0) ∧ BA Z h b830_0 k830_0 .byte ((((16 : Int32) + ((16 : Int32) + ((2 : Int32) <<< (w835 &&& 31)))) >>> (w835 &&& 31)) <<< (w835 &&& 31)) (SBG.ogc (decide (q734 < 0)) (q734).toInt.natAbs (SBG.digitsL (q734).toInt.natAbs) ((w831 + (SBG.strSizeOfL q734))).toNatClampNeg (fun i => if ((0 : Int32)).toNatClampNeg ≤ i ∧ i < ((0 : Int32)).toNatClampNeg + ((16 : Int32)).toNatClampNeg then u834 (((0 : Int32)).toNatClampNeg + (i - ((0 : Int32)).toNatClampNeg)) else (fun _ => (0 : Int32)) i))
theorem r15_2 (l : Launch) (Z : State) (a0 : Array Value) (hw : ∀ d ∈ tables_1, d.before a0 Z = true) (a733 : Addr) (q734 : Int64) (w831 : Int32) (w832 : Addr) (k833 : ClassId) (u834 : Nat → Int32) (w835 : Int32) (w836 : Int32) (w837 : Addr) (w838 : Addr) (k839 : ClassId) (u840 : Nat → Int32) (k841 : ClassId) (u842 : Nat → Int32) (h0 : Heap) (n0 : Nat) (Z0 : n0 ≤ h0.size) (H0 : Fld Z h0 a733 "java/lang/AbstractStringBuilder" "count" "I" (.int w831)) (H1 : Fld Z h0 a733 "java/lang/AbstractStringBuilder" "value" "[B" (.ref w832)) (H2 : BA Z h0 w832 k833 .byte (16 : Int32) u834) (H3 : Fld Z h0 a733 "java/lang/AbstractStringBuilder" "coder" "B" (.int w835)) (H4 : (0 : Int32) < ((w831 + (SBG.strSizeOfL q734)) - ((16 : Int32) >>> (w835 &&& 31)))) (H5 : (((w831 + (SBG.strSizeOfL q734)) <<< (w835 &&& 31)) - (16 : Int32)) < ((16 : Int32) + ((2 : Int32) <<< (w835 &&& 31)))) (H6 : (0 : Int32) < ((16 : Int32) + ((16 : Int32) + ((2 : Int32) <<< (w835 &&& 31))))) (H7 : ¬ ((2147483639 : Int32) < ((16 : Int32) + ((16 : Int32) + ((2 : Int32) <<< (w835 &&& 31)))))) (H8 : ¬ (((16 : Int32) + ((16 : Int32) + ((2 : Int32) <<< (w835 &&& 31)))) = (2147483647 : Int32))) (H9 : Exa Z h0 a733 "java/lang/StringBuilder") (H10 : ¬ (((((16 : Int32) + ((16 : Int32) + ((2 : Int32) <<< (w835 &&& 31)))) >>> (w835 &&& 31)) <<< (w835 &&& 31)) = (16 : Int32))) (H11 : ¬ (((((16 : Int32) + ((16 : Int32) + ((2 : Int32) <<< (w835 &&& 31)))) >>> (w835 &&& 31)) <<< (w835 &&& 31)) < (0 : Int32))) (H12 : ¬ ((34 : Int32) < ((((16 : Int32) + ((16 : Int32) + ((2 : Int32) <<< (w835 &&& 31)))) >>> (w835 &&& 31)) <<< (w835 &&& 31)))) (H13 : ¬ (((((16 : Int32) + ((16 : Int32) + ((2 : Int32) <<< (w835 &&& 31)))) >>> (w835 &&& 31)) <<< (w835 &&& 31)) < (16 : Int32))) (H14 : ((0 : Int32)).toNatClampNeg + ((16 : Int32)).toNatClampNeg ≤ (((((16 : Int32) + ((16 : Int32) + ((2 : Int32) <<< (w835 &&& 31)))) >>> (w835 &&& 31)) <<< (w835 &&& 31))).toNatClampNeg) (H15 : n0 ≤ a733) (H16 : Sta Z h0 "java/lang/String" "COMPACT_STRINGS" "Z" (.int w836)) (H17 : ¬ (w836 = (0 : Int32))) (H18 : w835 = (0 : Int32)) (H19 : Sta Z h0 "java/lang/Integer" "DigitOnes" "[B" (.ref w837)) (H20 : Sta Z h0 "java/lang/Integer" "DigitTens" "[B" (.ref w838)) (H21 : BA Z h0 w837 k839 .byte (100 : Int32) u840) (H22 : w837 ≠ a733) (H23 : BA Z h0 w838 k841 .byte (100 : Int32) u842) (H24 : w838 ≠ a733) (H25 : ¬ ((w831 + (SBG.strSizeOfL q734)) < (0 : Int32))) (H26 : ((w831 + (SBG.strSizeOfL q734))).toNatClampNeg ≤ (((((16 : Int32) + ((16 : Int32) + ((2 : Int32) <<< (w835 &&& 31)))) >>> (w835 &&& 31)) <<< (w835 &&& 31))).toNatClampNeg) (H27 : SBG.digitsL (q734).toInt.natAbs + (if q734 < 0 then 1 else 0) ≤ ((w831 + (SBG.strSizeOfL q734))).toNatClampNeg) (H28 : u840 = (fun r => Int32.ofNat (48 + r % 10))) (H29 : u842 = (fun r => Int32.ofNat (48 + r / 10))) (H30 : (Jvm.Cond.laysStatic "java/lang/Integer" "DigitOnes" "[B").before a0 Z = true) (H31 : (Jvm.Cond.laysStatic "java/lang/Integer" "DigitTens" "[B").before a0 Z = true) :
   OMet l Z mN29 jdk_67_method_16_code 3 (some (.object "java/lang/StringBuilder")) [] ({ frames := 5, cells := 1, slots := 34, locals := 118 } : Room) h0 #[(.ref a733), (.long q734)] (Qr15_2 Z a733 q734 w831 w832 k833 u834 w835 w836 w837 w838 k839 u840 k841 u842 h0 n0) := by
 refine MetFree.of_bodySF (plainFor_of_name pn_java_lang_StringBuilder) hisR ?_
 intro p e s m args below meth c s₁ Bd hml0 hP hK
 obtain ⟨rfl, hZ, hh⟩ := hP
 have hx := Bd.exec
 have hby := Bd.bytes
 have hml : c.maxLocals = 3 := hml0
 have hown : s.vm.findClass "java/lang/StringBuilder" = some m.cls := findClass_of_methodNamed Bd.named
 have hnm := (name_of_methodNamed Bd.named Bd.method).1
 have X0 : Stand p l e ({ frames := 5, cells := 1, slots := 34, locals := 118 } : Room) s m #[(.ref a733), (.long q734)] below meth c s₁ [] 0 0 := Stand.of_body Bd
 have e0 : s₁.heap = h0 := by rw [← hh, Bd.state]; rfl
 have N0 := Fr.nil n0
 have pre0 : ∀ t, Steps p.tables e below (s₁.setTop (mkF m 0 #[vR a733, vJ q734, vS] [])) t → Steps p.tables e below (s₁.setTop (entryFrame m #[(.ref a733), (.long q734)] 3)) t := fun t k => castTop (ef_15_vv m a733 q734) k
 obtain ⟨_, _, ⟨T830, L830, k830, n830⟩, -, X830, ⟨Lc830, hQ830, l830, y830, z830⟩, st830⟩ := superBack X0 hx hZ (y := mN28) hown (tw hw 104 rfl) (own_same (y := mN28) (by decide) (tw hw 105 rfl) (own_nf (args := a0) (w := mN16) rfl (tw hw 77 rfl))) (tw hw 105 rfl) (tw hw 56 rfl) (by decide) (backOf (W := 0) (r16_2 l Z a0 hw a733 q734 w831 w832 k833 u834 w835 w836 w837 w838 k839 u840 k841 u842 h0 n0 Z0 H0 H1 H2 H3 H4 H5 H6 H7 H8 H9 H10 H11 H12 H13 H14 H15 H16 H17 H18 H19 H20 H21 H22 H23 H24 H25 H26 H27 H28 H29 H30 H31) hZ (tw hw 107 rfl) (tw hw 33 rfl) (by decide) (by decide)) e0 (Ins.self H9) (g := (mkF m 2 #[vR a733, vJ q734, vS] [(.long q734), (.ref a733)])) rfl (by rw [hml]; rfl) (tw hw 107 rfl) (argsL := [(.long q734)]) (rest := []) (lenOf pd_19 rfl) rfl (own_w _) (hb hby d15_2) (fun _ _ => ⟨rfl, e0, (by decide : 0 + 1 ≤ _), (by decide : 0 + 34 ≤ _)⟩)
 dsimp only [Pt.U, Pt.locs, Pt.cells, Pt.slots] at X830 l830 y830 z830 st830 hQ830
 replace X830 := own_mvX X830 (a := 1) (b := 34) y830 z830
 obtain ⟨N830q, b830_0, k830_0, rfl, ge_b830_0, K830, o830_0, o830_1, o830_2, o830_3⟩ := hQ830
 have N830 := own_mvN l830 N0 N830q
 have KC830 := KSx.trans (KSx.refl h0 [(a733, Jvm.RoadKit.slotOf Z "java/lang/AbstractStringBuilder" "count" "I"), (a733, Jvm.RoadKit.slotOf Z "java/lang/AbstractStringBuilder" "value" "[B")] []) K830 (ksS (Or.inl (List.mem_of_getElem? (i := 1) rfl)) (ksS (Or.inl (List.mem_of_getElem? (i := 0) rfl)) ks0)) all0
 obtain ⟨fs, hr, hrun, hended, hW, hsame⟩ := X830.leave (v := some (.ref a733)) (fun h => by rw [Bd.returns] at h; cases h)
 refine ⟨_, _, pre0 _ ?_, hrun, hended, _, _, rfl, ?_, ⟨_, rfl⟩, hW, hsame.mono (by decide) (by decide)⟩
 · show SG p e below s₁ (mkF m 0 #[vR a733, vJ q734, vS] []) _
   refine XS.aloadN X0.here hx rfl (hb hby d15_0) rfl rfl ?_
   show SG p e below s₁ (mkF m 1 #[vR a733, vJ q734, vS] [(.ref a733)]) _
   refine XS.lloadN X0.here hx rfl (hb hby d15_1) rfl ?_
   show SG p e below s₁ (mkF m 2 #[vR a733, vJ q734, vS] [(.long q734), (.ref a733)]) _
   refine st830.trans ?_
   show SG p e below T830 (mkF m 5 #[vR a733, vJ q734, vS] [(.ref a733)]) _
   refine XS.pop X830.here hx rfl (hb hby d15_5) rfl rfl ?_
   show SG p e below T830 (mkF m 6 #[vR a733, vJ q734, vS] []) _
   refine XS.aloadN X830.here hx rfl (hb hby d15_6) rfl rfl ?_
   show SG p e below T830 (mkF m 7 #[vR a733, vJ q734, vS] [(.ref a733)]) _
   jvm_step X830.here [X830.here.top, hx, (hb hby d15_7), X830.method', Bd.returns, Value.isRef, FieldType.isReference]
   first | (intro acts; rw [hr _ acts rfl rfl rfl]) | rw [hr _ _ rfl rfl rfl]
   exact Steps.refl _
 · show Qr15_2 Z a733 q734 w831 w832 k833 u834 w835 w836 w837 w838 k839 u840 k841 u842 h0 n0 _ T830.heap _
   exact ⟨N830, b830_0, k830_0, rfl, (Nat.le_trans (KSx.refl h0 [(a733, Jvm.RoadKit.slotOf Z "java/lang/AbstractStringBuilder" "count" "I"), (a733, Jvm.RoadKit.slotOf Z "java/lang/AbstractStringBuilder" "value" "[B")] []).1 ge_b830_0), KC830, o830_0, o830_1, o830_2, o830_3⟩
def OQa (Z : State) (a b : Addr) (v : Int64) (n : Int32) (f : Nat → Int32) (h0 : Heap) (n0 : Nat) (v' : Option Value) (h : Heap) (L : List Loc) : Prop := Fr n0 L ∧ ∃ b' : Addr, ∃ k' : ClassId, v' = some (.ref a) ∧ (b' = b ∨ h0.size ≤ b') ∧ KSx h0 h [(a, Jvm.RoadKit.slotOf Z "java/lang/AbstractStringBuilder" "count" "I"), (a, Jvm.RoadKit.slotOf Z "java/lang/AbstractStringBuilder" "value" "[B")] [b] ∧ Exa Z h b' "[B" ∧ Fld Z h a "java/lang/AbstractStringBuilder" "count" "I" (.int (n + (SBG.strSizeOfL v))) ∧ Fld Z h a "java/lang/AbstractStringBuilder" "value" "[B" (.ref b') ∧ BA Z h b' k' .byte (oz16 n v) (SBG.ogc (decide (v < 0)) (v).toInt.natAbs (SBG.digitsL (v).toInt.natAbs) ((n + (SBG.strSizeOfL v))).toNatClampNeg (fun i => if i < 16 then f i else 0))
theorem own_apJ (l : Launch) (Z : State) (a0 : Array Value) (hw : ∀ d ∈ tables_1, d.before a0 Z = true) (a : Addr) (v : Int64) (n : Int32) (b : Addr) (k : ClassId) (f : Nat → Int32) (wc wS : Int32) (d1 d2 : Addr) (k1 : ClassId) (u1 : Nat → Int32) (k2 : ClassId) (u2 : Nat → Int32) (h0 : Heap) (n0 : Nat) (Z0 : n0 ≤ h0.size) (H0 : Fld Z h0 a "java/lang/AbstractStringBuilder" "count" "I" (.int n)) (H1 : Fld Z h0 a "java/lang/AbstractStringBuilder" "value" "[B" (.ref b)) (H2 : BA Z h0 b k .byte (16 : Int32) f) (H3 : Fld Z h0 a "java/lang/AbstractStringBuilder" "coder" "B" (.int wc)) (H4 : Exa Z h0 a "java/lang/StringBuilder") (H5 : Sta Z h0 "java/lang/String" "COMPACT_STRINGS" "Z" (.int wS)) (H6 : ¬ (wS = (0 : Int32))) (H7 : wc = (0 : Int32)) (H8 : Sta Z h0 "java/lang/Integer" "DigitOnes" "[B" (.ref d1)) (H9 : Sta Z h0 "java/lang/Integer" "DigitTens" "[B" (.ref d2)) (H10 : BA Z h0 d1 k1 .byte (100 : Int32) u1) (H11 : BA Z h0 d2 k2 .byte (100 : Int32) u2) (H12 : b ≠ d1) (H13 : b ≠ d2) (H14 : n0 ≤ b) (H15 : u1 = (fun r => Int32.ofNat (48 + r % 10))) (H16 : u2 = (fun r => Int32.ofNat (48 + r / 10))) (H17 : (Jvm.Cond.laysStatic "java/lang/Integer" "DigitOnes" "[B").before a0 Z = true) (H18 : (Jvm.Cond.laysStatic "java/lang/Integer" "DigitTens" "[B").before a0 Z = true) (H19 : a ≠ b) (H20 : n0 ≤ a) (H21 : d1 ≠ a) (H22 : d2 ≠ a) (H23 : Exa Z h0 b "[B") (H24 : ¬ (n < (0 : Int32))) (H25 : (n).toNatClampNeg ≤ 12) :
   OMet l Z mN29 jdk_67_method_16_code 3 (some (.object "java/lang/StringBuilder")) [] ({ frames := 5, cells := 1, slots := 34, locals := 118 } : Room) h0 #[(.ref a), (.long v)] (OQa Z a b v n f h0 n0) := by
 have hsz := oszL_le v
 have en : n = Int32.ofNat n.toNatClampNeg := own_ofNat H24
 have es : n + SBG.strSizeOfL v = Int32.ofNat (n.toNatClampNeg + oszL v) := by rw [own_ssxL, ← own_add, ← en]
 have hcl : (n + SBG.strSizeOfL v).toNatClampNeg = n.toNatClampNeg + oszL v := by rw [es, own_cl (by omega)]
 have hx := H25
 have hosz : SBG.digitsL (v).toInt.natAbs + (if v < 0 then 1 else 0) = oszL v := rfl
 have hc0 := H7
 subst hc0
 by_cases hg : n.toNatClampNeg + oszL v ≤ 16
 · refine own_imp (r15_1 l Z a0 hw a v n b k f (0 : Int32) wS d1 d2 k1 u1 k2 u2 h0 n0 Z0 H0 H1 H2 H3 (by rw [own_ishr0, es]; exact own_g1 hg) H4 H5 H6 (by decide) H8 H9 H10 H11 H12 H13 H14 (by rw [es]; exact own_n0 (by omega)) (by rw [hcl]; exact hg) (by rw [hcl, hosz]; omega) H15 H16 H17 H18 H19 H20 (Ne.symm H19)) fun v' h L q => ?_
   obtain ⟨N, e, K, Fc, B⟩ := q
   exact ⟨N, b, k, e, Or.inl rfl, KSx.more K (fun p hp => List.mem_cons.mpr (Or.inl (List.mem_singleton.mp hp))) (fun p hp => hp), (H23).ks K, Fc, (H1).ks K (ksS (Or.inr (slot_ne (Or.inl (tw hw 40 rfl)) (Or.inl (tw hw 73 rfl)) (by decide) (t := .array .byte) (t' := .int) (by decide) (by decide))) ks0) (allS H19 all0), by
     rw [show oz16 n v = 16 from if_pos hg]
     refine B.congr fun i hi => ?_
     exact own_gcc (if_pos hi).symm⟩
 · refine own_imp (r15_2 l Z a0 hw a v n b k f (0 : Int32) wS d1 d2 k1 u1 k2 u2 h0 n0 Z0 H0 H1 H2 H3 (by rw [own_ishr0, es]; exact own_g5 (by omega) (by omega)) (by rw [own_ishl0, own_ishl0, es]; exact own_g6 (by omega) (by omega)) (by decide) (by decide) (by decide) H4 (by decide) (by decide) (by decide) (by decide) (by decide) H20 H5 H6 (by decide) H8 H9 H10 H21 H11 H22 (by rw [es]; exact own_n0 (by omega)) (by rw [hcl]; show _ ≤ (34 : Int32).toNatClampNeg; show _ ≤ 34; omega) (by rw [hcl, hosz]; omega) H15 H16 H17 H18) fun v' h L q => ?_
   obtain ⟨N, b', k', e, ge, K, Eb, Fc, Fv, B⟩ := q
   exact ⟨N, b', k', e, Or.inr ge, KSx.more K (fun p hp => hp) (fun p hp => nomatch hp), Eb, Fc, Fv, by
     rw [show oz16 n v = 34 from if_neg hg]
     refine (own_bz (show _ = (34 : Int32) from by decide) B).congr fun i hi => ?_
     refine own_gcc ?_
     simp only [own_c0', own_c16', Nat.zero_le, Nat.zero_add, Nat.sub_zero, true_and]⟩
theorem d4_0 : decode prog_2_method_2_code 0 = .ok (.new 16, 3) := by decide +kernel
theorem d4_3 : decode prog_2_method_2_code 3 = .ok (.dup, 1) := by decide +kernel
theorem d4_4 : decode prog_2_method_2_code 4 = .ok (.invokespecial 18, 3) := by decide +kernel
theorem d5_0 : decode jdk_67_method_1_code 0 = .ok (.aload_n 0, 1) := by decide +kernel
theorem d5_1 : decode jdk_67_method_1_code 1 = .ok (.bipush 16, 2) := by decide +kernel
theorem d5_3 : decode jdk_67_method_1_code 3 = .ok (.invokespecial 1, 3) := by decide +kernel
theorem d6_0 : decode jdk_68_method_2_code 0 = .ok (.aload_n 0, 1) := by decide +kernel
theorem d6_1 : decode jdk_68_method_2_code 1 = .ok (.invokespecial 3, 3) := by decide +kernel
theorem d6_4 : decode jdk_68_method_2_code 4 = .ok (.getstatic 18, 3) := by decide +kernel
theorem d6_7 : decode jdk_68_method_2_code 7 = .ok (.ifCond .eq 18, 3) := by decide +kernel
theorem d6_10 : decode jdk_68_method_2_code 10 = .ok (.aload_n 0, 1) := by decide +kernel
theorem d6_11 : decode jdk_68_method_2_code 11 = .ok (.iload_n 1, 1) := by decide +kernel
theorem d6_12 : decode jdk_68_method_2_code 12 = .ok (.newarray .byte, 2) := by decide +kernel
theorem d6_14 : decode jdk_68_method_2_code 14 = .ok (.putfield 15, 3) := by decide +kernel
theorem d6_17 : decode jdk_68_method_2_code 17 = .ok (.aload_n 0, 1) := by decide +kernel
theorem d6_18 : decode jdk_68_method_2_code 18 = .ok (.iconst 0, 1) := by decide +kernel
theorem d6_19 : decode jdk_68_method_2_code 19 = .ok (.putfield 22, 3) := by decide +kernel
theorem d6_22 : decode jdk_68_method_2_code 22 = .ok (.goto 16, 3) := by decide +kernel
theorem d6_38 : decode jdk_68_method_2_code 38 = .ok (.return_, 1) := by decide +kernel
theorem ef_6_vv (m : MethodId) (x0 : Addr) (x1 : Int32) : entryFrame m #[(.ref x0), (.int x1)] 2 = mkF m 0 #[.val (.ref x0), .val (.int x1)] [] := by first | (simp [entryFrame, mkF, argsToLocals, Value.category]; done) | rfl
def Qr6_1 (Z : State) (a846 : Addr) (p847 : Int32) (w849 : Int32) (w856 : Int32) (h0 : Heap) (n0 : Nat) (v : Option Value) (h : Heap) (L : List Loc) : Prop := Fr n0 L ∧ ∃ b851 : Addr, ∃ k851 : ClassId, v = none ∧ h0.size ≤ b851 ∧ KSx h0 h [(a846, Jvm.RoadKit.slotOf Z "java/lang/AbstractStringBuilder" "value" "[B"), (a846, Jvm.RoadKit.slotOf Z "java/lang/AbstractStringBuilder" "coder" "B")] [] ∧ Exa Z h b851 "[B" ∧ Fld Z h a846 "java/lang/AbstractStringBuilder" "value" "[B" (.ref b851) ∧ Fld Z h a846 "java/lang/AbstractStringBuilder" "coder" "B" (.int (0 : Int32)) ∧ BA Z h b851 k851 .byte p847 (fun _ => (0 : Int32))
theorem r6_1 (l : Launch) (Z : State) (a0 : Array Value) (hw : ∀ d ∈ tables_1, d.before a0 Z = true) (a846 : Addr) (p847 : Int32) (w849 : Int32) (w856 : Int32) (h0 : Heap) (n0 : Nat) (Z0 : n0 ≤ h0.size) (H0 : Sta Z h0 "java/lang/String" "COMPACT_STRINGS" "Z" (.int w849)) (H1 : ¬ (w849 = (0 : Int32))) (H2 : ¬ (p847 < (0 : Int32))) (H3 : ¬ ((34 : Int32) < p847)) (H4 : Exa Z h0 a846 "java/lang/StringBuilder") (H5 : Fld Z h0 a846 "java/lang/AbstractStringBuilder" "value" "[B" .null) (H6 : n0 ≤ a846) (H7 : Fld Z h0 a846 "java/lang/AbstractStringBuilder" "coder" "B" (.int w856)) :
   OMet l Z mN34 jdk_68_method_2_code 2 none [] ({ frames := 1, cells := 1, slots := 34, locals := 12 } : Room) h0 #[(.ref a846), (.int p847)] (Qr6_1 Z a846 p847 w849 w856 h0 n0) := by
 refine MetFree.of_bodySF (plainFor_of_name pn_java_lang_AbstractStringBuilder) hisR ?_
 intro p e s m args below meth c s₁ Bd hml0 hP hK
 obtain ⟨rfl, hZ, hh⟩ := hP
 have hx := Bd.exec
 have hby := Bd.bytes
 have hml : c.maxLocals = 2 := hml0
 have hown : s.vm.findClass "java/lang/AbstractStringBuilder" = some m.cls := findClass_of_methodNamed Bd.named
 have hnm := (name_of_methodNamed Bd.named Bd.method).1
 have X0 : Stand p l e ({ frames := 1, cells := 1, slots := 34, locals := 12 } : Room) s m #[(.ref a846), (.int p847)] below meth c s₁ [] 0 0 := Stand.of_body Bd
 have e0 : s₁.heap = h0 := by rw [← hh, Bd.state]; rfl
 have N0 := Fr.nil n0
 have pre0 : ∀ t, Steps p.tables e below (s₁.setTop (mkF m 0 #[vR a846, vI p847] [])) t → Steps p.tables e below (s₁.setTop (entryFrame m #[(.ref a846), (.int p847)] 2)) t := fun t k => castTop (ef_6_vv m a846 p847) k
 obtain ⟨T848, X848, e848, st848⟩ := initO X0 hx hZ hown (tw hw 35 rfl) (tw hw 12 rfl) (tw hw 13 rfl) e0 (g := (mkF m 1 #[vR a846, vI p847] [(.ref a846)])) rfl (by rw [hml]; rfl) rfl (hb hby d6_1) (by decide) (W := 0) (own_w _) (by decide)
 obtain ⟨T850, X850, e850, st850⟩ := getS2 X848 hx hZ hown (host := "") (Or.inl (tw hw 36 rfl)) Via.refl e848 H0 (g := (mkF m 4 #[vR a846, vI p847] [])) rfl (hb hby d6_4)
 obtain ⟨T851, h851, k851, X851, e851, E851, A851, Ea851, st851⟩ := newPE X850 hx hZ (tw hw 38 rfl) e850 (g := (mkF m 12 #[vR a846, vI p847] [(.int p847), (.ref a846)])) rfl (hb hby d6_12) rfl H2 (cap := 34) (own_cap (k := 34) (by decide) H3) (by decide) (by decide) (by decide) (ad := "[B") rfl
 obtain ⟨b851, g851⟩ : ∃ z, z = h0.size := ⟨_, rfl⟩
 rw [← g851] at A851 Ea851 st851
 have KC851 := KSx.ext (KSx.refl h0 [(a846, Jvm.RoadKit.slotOf Z "java/lang/AbstractStringBuilder" "value" "[B"), (a846, Jvm.RoadKit.slotOf Z "java/lang/AbstractStringBuilder" "coder" "B")] []) E851
 have B851 : BA Z h851 b851 k851 .byte p847 (fun _ => (0 : Int32)) := BA.new A851 H2 rfl rfl
 have f852 := (H4.ext E851)
 have f853 := (H5.ext E851)
 obtain ⟨T854, h854, X854, e854, W854, st854⟩ := putF X851 hx hZ hown (host := "") (Or.inl (tw hw 39 rfl)) Via.refl e851 f853 f852 (Or.inl (tw hw 40 rfl)) (tw hw 24 rfl) (ty := (.array .byte)) (by decide) rfl rfl (g := (mkF m 14 #[vR a846, vI p847] [(.ref b851), (.ref a846)])) rfl rfl (hb hby d6_14)
 have Fw854 := Fld.same W854 f853
 have KC854 := KSx.wr KC851 W854 (Or.inl (List.mem_of_getElem? (i := 0) rfl))
 have N854 := Fr.snoc X854 N0 H6
 have f855 := (f852.wr W854)
 have f857 := ((H7.ext E851).other W854 (Or.inr (slot_ne (Or.inl (tw hw 42 rfl)) (Or.inl (tw hw 40 rfl)) (by decide) (t := .byte) (t' := (.array .byte)) (by decide) (by decide))))
 obtain ⟨T858, h858, X858, e858, W858, st858⟩ := putF X854 hx hZ hown (host := "") (Or.inl (tw hw 41 rfl)) Via.refl e854 f857 f855 (Or.inl (tw hw 42 rfl)) (tw hw 24 rfl) (ty := .byte) (by decide) rfl rfl (g := (mkF m 19 #[vR a846, vI p847] [(.int (0 : Int32)), (.ref a846)])) rfl rfl (hb hby d6_19)
 have Fw858 := Fld.same W858 f857
 have KC858 := KSx.wr KC854 W858 (Or.inl (List.mem_of_getElem? (i := 1) rfl))
 have N858 := Fr.snoc X858 N854 H6
 have f859 := ((Ea851.wr W854).wr W858)
 have f860 := (Fw854.other W858 (Or.inr (slot_ne (Or.inl (tw hw 40 rfl)) (Or.inl (tw hw 42 rfl)) (by decide) (t := (.array .byte)) (t' := .byte) (by decide) (by decide))))
 have ne861 : a846 ≠ b851 := (Nat.ne_of_lt (Nat.lt_of_lt_of_le (H4).lt (Nat.le_of_eq g851.symm)))
 have f862 := ((B851.other W854 (Ne.symm ne861)).other W858 (Ne.symm ne861))
 obtain ⟨fs, hr, hrun, hended, hW, hsame⟩ := X858.leave (v := none) (fun _ => rfl)
 refine ⟨_, _, pre0 _ ?_, hrun, hended, _, _, rfl, ?_, ⟨_, rfl⟩, hW, hsame.mono (by decide) (by decide)⟩
 · show SG p e below s₁ (mkF m 0 #[vR a846, vI p847] []) _
   refine XS.aloadN X0.here hx rfl (hb hby d6_0) rfl rfl ?_
   show SG p e below s₁ (mkF m 1 #[vR a846, vI p847] [(.ref a846)]) _
   refine st848 _ ?_
   show SG p e below T848 (mkF m 4 #[vR a846, vI p847] []) _
   refine st850 _ ?_
   show SG p e below T850 (mkF m 7 #[vR a846, vI p847] [(.int w849)]) _
   refine XS.ifNo X850.here hx rfl (hb hby d6_7) rfl ((if0 _ _).trans (feq H1).1) ?_
   show SG p e below T850 (mkF m 10 #[vR a846, vI p847] []) _
   refine XS.aloadN X850.here hx rfl (hb hby d6_10) rfl rfl ?_
   show SG p e below T850 (mkF m 11 #[vR a846, vI p847] [(.ref a846)]) _
   refine XS.iloadN X850.here hx rfl (hb hby d6_11) rfl ?_
   show SG p e below T850 (mkF m 12 #[vR a846, vI p847] [(.int p847), (.ref a846)]) _
   refine st851 _ ?_
   show SG p e below T851 (mkF m 14 #[vR a846, vI p847] [(.ref b851), (.ref a846)]) _
   refine st854 _ ?_
   show SG p e below T854 (mkF m 17 #[vR a846, vI p847] []) _
   refine XS.aloadN X854.here hx rfl (hb hby d6_17) rfl rfl ?_
   show SG p e below T854 (mkF m 18 #[vR a846, vI p847] [(.ref a846)]) _
   refine XS.iconst X854.here hx rfl (hb hby d6_18) ?_
   show SG p e below T854 (mkF m 19 #[vR a846, vI p847] [(.int (0 : Int32)), (.ref a846)]) _
   refine st858 _ ?_
   show SG p e below T858 (mkF m 22 #[vR a846, vI p847] []) _
   refine XS.goto X858.here hx rfl (pc0 := 22) (pc' := 38) rfl (hb hby d6_22) (by decide) (by decide) ?_
   show SG p e below T858 (mkF m 38 #[vR a846, vI p847] []) _
   exact X858.returnOut hx Bd.returns (hb hby d6_38) hr
 · show Qr6_1 Z a846 p847 w849 w856 h0 n0 _ T858.heap _
   rw [e858]
   exact ⟨N858, b851, k851, rfl, (Nat.le_trans (KSx.refl h0 [(a846, Jvm.RoadKit.slotOf Z "java/lang/AbstractStringBuilder" "value" "[B"), (a846, Jvm.RoadKit.slotOf Z "java/lang/AbstractStringBuilder" "coder" "B")] []).1 (Nat.le_of_eq g851.symm)), KC858, f859, f860, Fw858, f862⟩
theorem d5_6 : decode jdk_67_method_1_code 6 = .ok (.return_, 1) := by decide +kernel
theorem ef_5_v (m : MethodId) (x0 : Addr) : entryFrame m #[(.ref x0)] 1 = mkF m 0 #[.val (.ref x0)] [] := by first | (simp [entryFrame, mkF, argsToLocals, Value.category]; done) | rfl
def Qr5_1 (Z : State) (a845 : Addr) (w864 : Int32) (w865 : Int32) (h0 : Heap) (n0 : Nat) (v : Option Value) (h : Heap) (L : List Loc) : Prop := Fr n0 L ∧ ∃ b863_0 : Addr, ∃ k863_0 : ClassId, v = none ∧ h0.size ≤ b863_0 ∧ KSx h0 h [(a845, Jvm.RoadKit.slotOf Z "java/lang/AbstractStringBuilder" "coder" "B"), (a845, Jvm.RoadKit.slotOf Z "java/lang/AbstractStringBuilder" "value" "[B")] [] ∧ Exa Z h b863_0 "[B" ∧ Fld Z h a845 "java/lang/AbstractStringBuilder" "value" "[B" (.ref b863_0) ∧ Fld Z h a845 "java/lang/AbstractStringBuilder" "coder" "B" (.int (0 : Int32)) ∧ BA Z h b863_0 k863_0 .byte (16 : Int32) (fun _ => (0 : Int32))
theorem r5_1 (l : Launch) (Z : State) (a0 : Array Value) (hw : ∀ d ∈ tables_1, d.before a0 Z = true) (a845 : Addr) (w864 : Int32) (w865 : Int32) (h0 : Heap) (n0 : Nat) (Z0 : n0 ≤ h0.size) (H0 : Sta Z h0 "java/lang/String" "COMPACT_STRINGS" "Z" (.int w864)) (H1 : ¬ (w864 = (0 : Int32))) (H2 : Exa Z h0 a845 "java/lang/StringBuilder") (H3 : Fld Z h0 a845 "java/lang/AbstractStringBuilder" "value" "[B" .null) (H4 : n0 ≤ a845) (H5 : Fld Z h0 a845 "java/lang/AbstractStringBuilder" "coder" "B" (.int w865)) :
   OMet l Z mN35 jdk_67_method_1_code 1 none [] ({ frames := 2, cells := 1, slots := 34, locals := 25 } : Room) h0 #[(.ref a845)] (Qr5_1 Z a845 w864 w865 h0 n0) := by
 refine MetFree.of_bodySF (plainFor_of_name pn_java_lang_StringBuilder) hisR ?_
 intro p e s m args below meth c s₁ Bd hml0 hP hK
 obtain ⟨rfl, hZ, hh⟩ := hP
 have hx := Bd.exec
 have hby := Bd.bytes
 have hml : c.maxLocals = 1 := hml0
 have hown : s.vm.findClass "java/lang/StringBuilder" = some m.cls := findClass_of_methodNamed Bd.named
 have hnm := (name_of_methodNamed Bd.named Bd.method).1
 have X0 : Stand p l e ({ frames := 2, cells := 1, slots := 34, locals := 25 } : Room) s m #[(.ref a845)] below meth c s₁ [] 0 0 := Stand.of_body Bd
 have e0 : s₁.heap = h0 := by rw [← hh, Bd.state]; rfl
 have N0 := Fr.nil n0
 have pre0 : ∀ t, Steps p.tables e below (s₁.setTop (mkF m 0 #[vR a845] [])) t → Steps p.tables e below (s₁.setTop (entryFrame m #[(.ref a845)] 1)) t := fun t k => castTop (ef_5_v m a845) k
 obtain ⟨_, _, ⟨T863, L863, k863, n863⟩, -, X863, ⟨Lc863, hQ863, l863, y863, z863⟩, st863⟩ := X0.specialBack hx (y := mN34) rfl hown (mvT hZ (tw hw 29 rfl)) (mvT hZ (tw hw 30 rfl)) (mvT hZ (tw hw 34 rfl)) (by decide) (backOf (W := 0) (r6_1 l Z a0 hw a845 (16 : Int32) w864 w865 h0 n0 Z0 H0 H1 (by first | decide | rfl) (by first | decide | rfl) H2 H3 H4 H5) hZ (tw hw 34 rfl) (tw hw 33 rfl) (by decide) (by decide)) (g := (mkF m 3 #[vR a845] [(.int (16 : Int32)), (.ref a845)])) rfl (by rw [hml]; rfl) (Steps.refl _) (a := a845) (argsL := [(.int (16 : Int32))]) (rest := []) (lenOf pd_17 rfl) rfl (own_w _) (hb hby d5_3) (fun _ _ => ⟨rfl, e0, (by decide : 0 + 1 ≤ _), (by decide : 0 + 34 ≤ _)⟩)
 dsimp only [Pt.U, Pt.locs, Pt.cells, Pt.slots] at X863 l863 y863 z863 st863 hQ863
 replace X863 := own_mvX X863 (a := 1) (b := 34) y863 z863
 obtain ⟨N863q, b863_0, k863_0, rfl, ge_b863_0, K863, o863_0, o863_1, o863_2, o863_3⟩ := hQ863
 have N863 := own_mvN l863 N0 N863q
 have KC863 := KSx.trans (KSx.refl h0 [(a845, Jvm.RoadKit.slotOf Z "java/lang/AbstractStringBuilder" "coder" "B"), (a845, Jvm.RoadKit.slotOf Z "java/lang/AbstractStringBuilder" "value" "[B")] []) K863 (ksS (Or.inl (List.mem_of_getElem? (i := 1) rfl)) (ksS (Or.inl (List.mem_of_getElem? (i := 0) rfl)) ks0)) all0
 obtain ⟨fs, hr, hrun, hended, hW, hsame⟩ := X863.leave (v := none) (fun _ => rfl)
 refine ⟨_, _, pre0 _ ?_, hrun, hended, _, _, rfl, ?_, ⟨_, rfl⟩, hW, hsame.mono (by decide) (by decide)⟩
 · show SG p e below s₁ (mkF m 0 #[vR a845] []) _
   refine XS.aloadN X0.here hx rfl (hb hby d5_0) rfl rfl ?_
   show SG p e below s₁ (mkF m 1 #[vR a845] [(.ref a845)]) _
   refine XS.bipush X0.here hx rfl (hb hby d5_1) ?_
   show SG p e below s₁ (mkF m 3 #[vR a845] [(.int (16 : Int32)), (.ref a845)]) _
   refine st863.trans ?_
   show SG p e below T863 (mkF m 6 #[vR a845] []) _
   exact X863.returnOut hx Bd.returns (hb hby d5_6) hr
 · show Qr5_1 Z a845 w864 w865 h0 n0 _ T863.heap _
   exact ⟨N863, b863_0, k863_0, rfl, (Nat.le_trans (KSx.refl h0 [(a845, Jvm.RoadKit.slotOf Z "java/lang/AbstractStringBuilder" "coder" "B"), (a845, Jvm.RoadKit.slotOf Z "java/lang/AbstractStringBuilder" "value" "[B")] []).1 ge_b863_0), KC863, o863_0, o863_1, o863_2, o863_3⟩
theorem pd_23 : parseMethodDescriptor "()V" = some ⟨[], none⟩ := by decide +kernel
theorem d4_7 : decode prog_2_method_2_code 7 = .ok (.ldc 19, 2) := by decide +kernel
theorem str_in : ∀ w ∈ Bundle.stringAtoms, w ∈ tables_1 := by decide +kernel
theorem d4_9 : decode prog_2_method_2_code 9 = .ok (.invokevirtual 21, 3) := by decide +kernel
theorem d7_0 : decode jdk_67_method_7_code 0 = .ok (.aload_n 0, 1) := by decide +kernel
theorem d7_1 : decode jdk_67_method_7_code 1 = .ok (.aload_n 1, 1) := by decide +kernel
theorem d7_2 : decode jdk_67_method_7_code 2 = .ok (.invokespecial 29, 3) := by decide +kernel
theorem d8_0 : decode jdk_68_method_22_code 0 = .ok (.aload_n 1, 1) := by decide +kernel
theorem d8_1 : decode jdk_68_method_22_code 1 = .ok (.ifnonnull 8, 3) := by decide +kernel
theorem d8_9 : decode jdk_68_method_22_code 9 = .ok (.aload_n 1, 1) := by decide +kernel
theorem d8_10 : decode jdk_68_method_22_code 10 = .ok (.invokevirtual 32, 3) := by decide +kernel
theorem r9_2 (l : Launch) (Z : State) (a0 : Array Value) (hw : ∀ d ∈ tables_1, d.before a0 Z = true) (a878 : Addr) (w879 : Addr) (k881 : ClassId) (u882 : Nat → Int32) (w890 : Int32) (w891 : Int32) (h0 : Heap) (n0 : Nat) (Z0 : n0 ≤ h0.size) (H0 : Fld Z h0 a878 "java/lang/String" "value" "[B" (.ref w879)) (H1 : BA Z h0 w879 k881 .byte (10 : Int32) u882) (H2 : Sta Z h0 "java/lang/String" "COMPACT_STRINGS" "Z" (.int w890)) (H3 : ¬ (w890 = (0 : Int32))) (H4 : Fld Z h0 a878 "java/lang/String" "coder" "B" (.int w891)) (H5 : nar .byte w891 = w891) (H6 : Exa Z h0 a878 "java/lang/String") :
   OMet l Z mN11 jdk_42_method_54_code 1 (some .int) [] ({ frames := 1, cells := 0, slots := 0, locals := 13 } : Room) h0 #[(.ref a878)] (OQp (some (.int ((10 : Int32) >>> (w891 &&& 31)))) h0 n0) := by
 refine MetFree.of_bodySF (plainFor_of_name pn_java_lang_String) hisR ?_
 intro p e s m args below meth c s₁ Bd hml0 hP hK
 obtain ⟨rfl, hZ, hh⟩ := hP
 have hx := Bd.exec
 have hby := Bd.bytes
 have hml : c.maxLocals = 1 := hml0
 have hown : s.vm.findClass "java/lang/String" = some m.cls := findClass_of_methodNamed Bd.named
 have hnm := (name_of_methodNamed Bd.named Bd.method).1
 have X0 : Stand p l e ({ frames := 1, cells := 0, slots := 0, locals := 13 } : Room) s m #[(.ref a878)] below meth c s₁ [] 0 0 := Stand.of_body Bd
 have e0 : s₁.heap = h0 := by rw [← hh, Bd.state]; rfl
 have N0 := Fr.nil n0
 have pre0 : ∀ t, Steps p.tables e below (s₁.setTop (mkF m 0 #[vR a878] [])) t → Steps p.tables e below (s₁.setTop (entryFrame m #[(.ref a878)] 1)) t := fun t k => castTop (ef_9_v m a878) k
 obtain ⟨T880, X880, e880, st880⟩ := getF X0 hx hZ hown (host := "") (Or.inl (tw hw 64 rfl)) Via.refl e0 H0 (g := (mkF m 1 #[vR a878] [(.ref a878)])) rfl rfl (hb hby d9_1)
 have vc883 := H1
 obtain ⟨cl883, Ar883, q883, S883, N883, Hh883, G883⟩ := vc883
 obtain ⟨cq889, kq889, q889a, q889b, q889c⟩ := isOf hZ e880 H6
 obtain ⟨_, _, ⟨T889, L889, k889, n889⟩, -, X889, ⟨Lc889, hQ889, l889, y889, z889⟩, st889⟩ := X880.virtualBack hx (y := mN10) (z := mN10) hown (mvT hZ (tw hw 65 rfl)) (mvT hZ (tw hw 66 rfl)) (notFace_of_selects (args := #[]) (mvT hZ (tw hw 68 rfl))) (mvT hZ (tw hw 68 rfl)) (mvT hZ (tw hw 67 rfl)) (by decide) (backOf (W := 1) (r10_1 l Z a0 hw a878 w890 w891 h0 n0 Z0 H2 H3 H4 H5) hZ (tw hw 69 rfl) (tw hw 37 rfl) (by decide) (by decide)) q889a q889c (g := (mkF m 6 #[vR a878] [(.ref a878), (.int (10 : Int32))])) rfl (by rw [hml]; rfl) (Steps.refl _) (argsL := []) (rest := [(.int (10 : Int32))]) (lenOf pd_6 rfl) rfl (own_w _) (hb hby d9_6) (fun _ _ => ⟨rfl, e880, (by decide : 0 + 0 ≤ _), (by decide : 0 + 0 ≤ _)⟩)
 dsimp only [Pt.U, Pt.locs, Pt.cells, Pt.slots] at X889 l889 y889 z889 st889 hQ889
 replace X889 := own_mvX X889 (a := 0) (b := 0) y889 z889
 obtain ⟨rfl, N889q, e889⟩ := hQ889
 have N889 := own_mvN l889 N0 N889q
 obtain ⟨fs, hr, hrun, hended, hW, hsame⟩ := X889.leave (v := some (.int ((10 : Int32) >>> (w891 &&& 31)))) (fun h => by rw [Bd.returns] at h; cases h)
 refine ⟨_, _, pre0 _ ?_, hrun, hended, _, _, rfl, ?_, ⟨_, rfl⟩, hW, hsame.mono (by decide) (by decide)⟩
 · show SG p e below s₁ (mkF m 0 #[vR a878] []) _
   refine XS.aloadN X0.here hx rfl (hb hby d9_0) rfl rfl ?_
   show SG p e below s₁ (mkF m 1 #[vR a878] [(.ref a878)]) _
   refine st880 _ ?_
   show SG p e below T880 (mkF m 4 #[vR a878] [(.ref w879)]) _
   refine X880.arraylength hx (by rw [e880]; exact Ar883.1) (State.isArrayOf_alike hZ.alike Ar883.2.1) (g := (mkF m 4 #[vR a878] [(.ref w879)])) rfl rfl (hb hby d9_4) _ ?_
   rw [len_of S883 N883]
   show SG p e below T880 (mkF m 5 #[vR a878] [(.int (10 : Int32))]) _
   refine XS.aloadN X880.here hx rfl (hb hby d9_5) rfl rfl ?_
   show SG p e below T880 (mkF m 6 #[vR a878] [(.ref a878), (.int (10 : Int32))]) _
   refine st889.trans ?_
   show SG p e below T889 (mkF m 9 #[vR a878] [(.int w891), (.int (10 : Int32))]) _
   refine XS.ishr X889.here hx rfl (hb hby d9_9) rfl ?_
   show SG p e below T889 (mkF m 10 #[vR a878] [(.int ((10 : Int32) >>> (w891 &&& 31)))]) _
   exact retI X889 hx Bd.returns (hb hby d9_10) hr
 · show OQp (some (.int ((10 : Int32) >>> (w891 &&& 31)))) h0 n0 _ T889.heap _
   rw [e889]
   exact ⟨rfl, N889, rfl⟩
theorem d8_13 : decode jdk_68_method_22_code 13 = .ok (.istore_n 2, 1) := by decide +kernel
theorem d8_14 : decode jdk_68_method_22_code 14 = .ok (.aload_n 0, 1) := by decide +kernel
theorem d8_15 : decode jdk_68_method_22_code 15 = .ok (.aload_n 0, 1) := by decide +kernel
theorem d8_16 : decode jdk_68_method_22_code 16 = .ok (.getfield 79, 3) := by decide +kernel
theorem d8_19 : decode jdk_68_method_22_code 19 = .ok (.iload_n 2, 1) := by decide +kernel
theorem d8_20 : decode jdk_68_method_22_code 20 = .ok (.iadd, 1) := by decide +kernel
theorem d8_21 : decode jdk_68_method_22_code 21 = .ok (.invokevirtual 100, 3) := by decide +kernel
theorem r11_3 (l : Launch) (Z : State) (a0 : Array Value) (hw : ∀ d ∈ tables_1, d.before a0 Z = true) (a900 : Addr) (p901 : Int32) (w902 : Addr) (k904 : ClassId) (u905 : Nat → Int32) (p906 : Int32) (w908 : Int32) (h0 : Heap) (n0 : Nat) (Z0 : n0 ≤ h0.size) (H0 : Fld Z h0 a900 "java/lang/AbstractStringBuilder" "value" "[B" (.ref w902)) (H1 : BA Z h0 w902 k904 .byte p906 u905) (H2 : Fld Z h0 a900 "java/lang/AbstractStringBuilder" "coder" "B" (.int w908)) (H3 : ¬ ((0 : Int32) < (p901 - (p906 >>> (w908 &&& 31))))) :
   OMet l Z mN16 jdk_68_method_9_code 3 none [] ({ frames := 0, cells := 0, slots := 0, locals := 0 } : Room) h0 #[(.ref a900), (.int p901)] (OQp (none) h0 n0) := by
 refine MetFree.of_bodySF (plainFor_of_name pn_java_lang_AbstractStringBuilder) hisR ?_
 intro p e s m args below meth c s₁ Bd hml0 hP hK
 obtain ⟨rfl, hZ, hh⟩ := hP
 have hx := Bd.exec
 have hby := Bd.bytes
 have hml : c.maxLocals = 3 := hml0
 have hown : s.vm.findClass "java/lang/AbstractStringBuilder" = some m.cls := findClass_of_methodNamed Bd.named
 have hnm := (name_of_methodNamed Bd.named Bd.method).1
 have X0 : Stand p l e ({ frames := 0, cells := 0, slots := 0, locals := 0 } : Room) s m #[(.ref a900), (.int p901)] below meth c s₁ [] 0 0 := Stand.of_body Bd
 have e0 : s₁.heap = h0 := by rw [← hh, Bd.state]; rfl
 have N0 := Fr.nil n0
 have pre0 : ∀ t, Steps p.tables e below (s₁.setTop (mkF m 0 #[vR a900, vI p901, .unset] [])) t → Steps p.tables e below (s₁.setTop (entryFrame m #[(.ref a900), (.int p901)] 3)) t := fun t k => castTop (ef_11_vv m a900 p901) k
 obtain ⟨T903, X903, e903, st903⟩ := getF X0 hx hZ hown (host := "") (Or.inl (tw hw 39 rfl)) Via.refl e0 H0 (g := (mkF m 1 #[vR a900, vI p901, vU] [(.ref a900)])) rfl rfl (hb hby d11_1)
 have vc907 := H1
 obtain ⟨cl907, Ar907, q907, S907, N907, Hh907, G907⟩ := vc907
 obtain ⟨T909, X909, e909, st909⟩ := getF X903 hx hZ hown (host := "") (Or.inl (tw hw 41 rfl)) Via.refl e903 H2 (g := (mkF m 6 #[vR a900, vI p901, vU] [(.ref a900), (.int p906)])) rfl rfl (hb hby d11_6)
 obtain ⟨fs, hr, hrun, hended, hW, hsame⟩ := X909.leave (v := none) (fun _ => rfl)
 refine ⟨_, _, pre0 _ ?_, hrun, hended, _, _, rfl, ?_, ⟨_, rfl⟩, hW, hsame.mono (by decide) (by decide)⟩
 · show SG p e below s₁ (mkF m 0 #[vR a900, vI p901, vU] []) _
   refine XS.aloadN X0.here hx rfl (hb hby d11_0) rfl rfl ?_
   show SG p e below s₁ (mkF m 1 #[vR a900, vI p901, vU] [(.ref a900)]) _
   refine st903 _ ?_
   show SG p e below T903 (mkF m 4 #[vR a900, vI p901, vU] [(.ref w902)]) _
   refine X903.arraylength hx (by rw [e903]; exact Ar907.1) (State.isArrayOf_alike hZ.alike Ar907.2.1) (g := (mkF m 4 #[vR a900, vI p901, vU] [(.ref w902)])) rfl rfl (hb hby d11_4) _ ?_
   rw [len_of S907 N907]
   show SG p e below T903 (mkF m 5 #[vR a900, vI p901, vU] [(.int p906)]) _
   refine XS.aloadN X903.here hx rfl (hb hby d11_5) rfl rfl ?_
   show SG p e below T903 (mkF m 6 #[vR a900, vI p901, vU] [(.ref a900), (.int p906)]) _
   refine st909 _ ?_
   show SG p e below T909 (mkF m 9 #[vR a900, vI p901, vU] [(.int w908), (.int p906)]) _
   refine XS.ishr X909.here hx rfl (hb hby d11_9) rfl ?_
   show SG p e below T909 (mkF m 10 #[vR a900, vI p901, vU] [(.int (p906 >>> (w908 &&& 31)))]) _
   refine XS.istoreN X909.here hx rfl (hb hby d11_10) rfl (l' := #[vR a900, vI p901, vI (p906 >>> (w908 &&& 31))]) rfl ?_
   show SG p e below T909 (mkF m 11 #[vR a900, vI p901, vI (p906 >>> (w908 &&& 31))] []) _
   refine XS.iloadN X909.here hx rfl (hb hby d11_11) rfl ?_
   show SG p e below T909 (mkF m 12 #[vR a900, vI p901, vI (p906 >>> (w908 &&& 31))] [(.int p901)]) _
   refine XS.iloadN X909.here hx rfl (hb hby d11_12) rfl ?_
   show SG p e below T909 (mkF m 13 #[vR a900, vI p901, vI (p906 >>> (w908 &&& 31))] [(.int (p906 >>> (w908 &&& 31))), (.int p901)]) _
   refine XS.isub X909.here hx rfl (hb hby d11_13) rfl ?_
   show SG p e below T909 (mkF m 14 #[vR a900, vI p901, vI (p906 >>> (w908 &&& 31))] [(.int (p901 - (p906 >>> (w908 &&& 31))))]) _
   refine XS.ifYes X909.here hx rfl (pc0 := 14) (pc' := 38) rfl (hb hby d11_14) rfl ((if0 _ _).trans (flt H3).2.2.2) (by decide) (by decide) ?_
   show SG p e below T909 (mkF m 38 #[vR a900, vI p901, vI (p906 >>> (w908 &&& 31))] []) _
   exact X909.returnOut hx Bd.returns (hb hby d11_38) hr
 · show OQp (none) h0 n0 _ T909.heap _
   rw [e909]
   exact ⟨rfl, N0, rfl⟩
theorem d8_24 : decode jdk_68_method_22_code 24 = .ok (.aload_n 0, 1) := by decide +kernel
theorem d8_25 : decode jdk_68_method_22_code 25 = .ok (.aload_n 0, 1) := by decide +kernel
theorem d8_26 : decode jdk_68_method_22_code 26 = .ok (.getfield 79, 3) := by decide +kernel
theorem d8_29 : decode jdk_68_method_22_code 29 = .ok (.aload_n 1, 1) := by decide +kernel
theorem d8_30 : decode jdk_68_method_22_code 30 = .ok (.invokevirtual 208, 3) := by decide +kernel
theorem d12_0 : decode jdk_68_method_73_code 0 = .ok (.aload_n 0, 1) := by decide +kernel
theorem d12_1 : decode jdk_68_method_73_code 1 = .ok (.aload_n 2, 1) := by decide +kernel
theorem d12_2 : decode jdk_68_method_73_code 2 = .ok (.invokevirtual 397, 3) := by decide +kernel
theorem d13_0 : decode jdk_68_method_71_code 0 = .ok (.getstatic 18, 3) := by decide +kernel
theorem d13_3 : decode jdk_68_method_71_code 3 = .ok (.ifCond .eq 18, 3) := by decide +kernel
theorem d13_6 : decode jdk_68_method_71_code 6 = .ok (.aload_n 0, 1) := by decide +kernel
theorem d13_7 : decode jdk_68_method_71_code 7 = .ok (.getfield 22, 3) := by decide +kernel
theorem d13_10 : decode jdk_68_method_71_code 10 = .ok (.aload_n 1, 1) := by decide +kernel
theorem d13_11 : decode jdk_68_method_71_code 11 = .ok (.invokevirtual 40, 3) := by decide +kernel
theorem d13_14 : decode jdk_68_method_71_code 14 = .ok (.if_icmp .eq 7, 3) := by decide +kernel
theorem d13_21 : decode jdk_68_method_71_code 21 = .ok (.return_, 1) := by decide +kernel
theorem ef_13_vv (m : MethodId) (x0 : Addr) (x1 : Addr) : entryFrame m #[(.ref x0), (.ref x1)] 2 = mkF m 0 #[.val (.ref x0), .val (.ref x1)] [] := by first | (simp [entryFrame, mkF, argsToLocals, Value.category]; done) | rfl
theorem r13_1 (l : Launch) (Z : State) (a0 : Array Value) (hw : ∀ d ∈ tables_1, d.before a0 Z = true) (a920 : Addr) (a921 : Addr) (w922 : Int32) (w924 : Int32) (w932 : Int32) (h0 : Heap) (n0 : Nat) (Z0 : n0 ≤ h0.size) (H0 : Sta Z h0 "java/lang/String" "COMPACT_STRINGS" "Z" (.int w922)) (H1 : ¬ (w922 = (0 : Int32))) (H2 : Fld Z h0 a920 "java/lang/AbstractStringBuilder" "coder" "B" (.int w924)) (H3 : Fld Z h0 a921 "java/lang/String" "coder" "B" (.int w932)) (H4 : nar .byte w932 = w932) (H5 : Exa Z h0 a921 "java/lang/String") (H6 : w924 = w932) :
   OMet l Z mN36 jdk_68_method_71_code 2 none [] ({ frames := 1, cells := 0, slots := 0, locals := 13 } : Room) h0 #[(.ref a920), (.ref a921)] (OQp (none) h0 n0) := by
 refine MetFree.of_bodySF (plainFor_of_name pn_java_lang_AbstractStringBuilder) hisR ?_
 intro p e s m args below meth c s₁ Bd hml0 hP hK
 obtain ⟨rfl, hZ, hh⟩ := hP
 have hx := Bd.exec
 have hby := Bd.bytes
 have hml : c.maxLocals = 2 := hml0
 have hown : s.vm.findClass "java/lang/AbstractStringBuilder" = some m.cls := findClass_of_methodNamed Bd.named
 have hnm := (name_of_methodNamed Bd.named Bd.method).1
 have X0 : Stand p l e ({ frames := 1, cells := 0, slots := 0, locals := 13 } : Room) s m #[(.ref a920), (.ref a921)] below meth c s₁ [] 0 0 := Stand.of_body Bd
 have e0 : s₁.heap = h0 := by rw [← hh, Bd.state]; rfl
 have N0 := Fr.nil n0
 have pre0 : ∀ t, Steps p.tables e below (s₁.setTop (mkF m 0 #[vR a920, vR a921] [])) t → Steps p.tables e below (s₁.setTop (entryFrame m #[(.ref a920), (.ref a921)] 2)) t := fun t k => castTop (ef_13_vv m a920 a921) k
 obtain ⟨T923, X923, e923, st923⟩ := getS2 X0 hx hZ hown (host := "") (Or.inl (tw hw 36 rfl)) Via.refl e0 H0 (g := (mkF m 0 #[vR a920, vR a921] [])) rfl (hb hby d13_0)
 obtain ⟨T925, X925, e925, st925⟩ := getF X923 hx hZ hown (host := "") (Or.inl (tw hw 41 rfl)) Via.refl e923 H2 (g := (mkF m 7 #[vR a920, vR a921] [(.ref a920)])) rfl rfl (hb hby d13_7)
 obtain ⟨cq931, kq931, q931a, q931b, q931c⟩ := isOf hZ e925 H5
 obtain ⟨_, _, ⟨T931, L931, k931, n931⟩, -, X931, ⟨Lc931, hQ931, l931, y931, z931⟩, st931⟩ := X925.virtualBack hx (y := mN10) (z := mN10) hown (mvT hZ (tw hw 89 rfl)) (mvT hZ (tw hw 66 rfl)) (notFace_of_selects (args := #[]) (mvT hZ (tw hw 68 rfl))) (mvT hZ (tw hw 68 rfl)) (mvT hZ (tw hw 67 rfl)) (by decide) (backOf (W := 1) (r10_1 l Z a0 hw a921 w922 w932 h0 n0 Z0 H0 H1 H3 H4) hZ (tw hw 69 rfl) (tw hw 37 rfl) (by decide) (by decide)) q931a q931c (g := (mkF m 11 #[vR a920, vR a921] [(.ref a921), (.int w924)])) rfl (by rw [hml]; rfl) (Steps.refl _) (argsL := []) (rest := [(.int w924)]) (lenOf pd_6 rfl) rfl (own_w _) (hb hby d13_11) (fun _ _ => ⟨rfl, e925, (by decide : 0 + 0 ≤ _), (by decide : 0 + 0 ≤ _)⟩)
 dsimp only [Pt.U, Pt.locs, Pt.cells, Pt.slots] at X931 l931 y931 z931 st931 hQ931
 replace X931 := own_mvX X931 (a := 0) (b := 0) y931 z931
 obtain ⟨rfl, N931q, e931⟩ := hQ931
 have N931 := own_mvN l931 N0 N931q
 obtain ⟨fs, hr, hrun, hended, hW, hsame⟩ := X931.leave (v := none) (fun _ => rfl)
 refine ⟨_, _, pre0 _ ?_, hrun, hended, _, _, rfl, ?_, ⟨_, rfl⟩, hW, hsame.mono (by decide) (by decide)⟩
 · show SG p e below s₁ (mkF m 0 #[vR a920, vR a921] []) _
   refine st923 _ ?_
   show SG p e below T923 (mkF m 3 #[vR a920, vR a921] [(.int w922)]) _
   refine XS.ifNo X923.here hx rfl (hb hby d13_3) rfl ((if0 _ _).trans (feq H1).1) ?_
   show SG p e below T923 (mkF m 6 #[vR a920, vR a921] []) _
   refine XS.aloadN X923.here hx rfl (hb hby d13_6) rfl rfl ?_
   show SG p e below T923 (mkF m 7 #[vR a920, vR a921] [(.ref a920)]) _
   refine st925 _ ?_
   show SG p e below T925 (mkF m 10 #[vR a920, vR a921] [(.int w924)]) _
   refine XS.aloadN X925.here hx rfl (hb hby d13_10) rfl rfl ?_
   show SG p e below T925 (mkF m 11 #[vR a920, vR a921] [(.ref a921), (.int w924)]) _
   refine st931.trans ?_
   show SG p e below T931 (mkF m 14 #[vR a920, vR a921] [(.int w932), (.int w924)]) _
   refine XS.icmpYes X931.here hx rfl (pc0 := 14) (pc' := 21) rfl (hb hby d13_14) rfl (teq H6).1 (by decide) (by decide) ?_
   show SG p e below T931 (mkF m 21 #[vR a920, vR a921] []) _
   exact X931.returnOut hx Bd.returns (hb hby d13_21) hr
 · show OQp (none) h0 n0 _ T931.heap _
   rw [e931]
   exact ⟨rfl, N931, rfl⟩
theorem pd_24 : parseMethodDescriptor "(Ljava/lang/String;)V" = some ⟨[(.object "java/lang/String")], none⟩ := by decide +kernel
theorem d12_5 : decode jdk_68_method_73_code 5 = .ok (.aload_n 2, 1) := by decide +kernel
theorem d12_6 : decode jdk_68_method_73_code 6 = .ok (.aload_n 0, 1) := by decide +kernel
theorem d12_7 : decode jdk_68_method_73_code 7 = .ok (.getfield 15, 3) := by decide +kernel
theorem d12_10 : decode jdk_68_method_73_code 10 = .ok (.iload_n 1, 1) := by decide +kernel
theorem d12_11 : decode jdk_68_method_73_code 11 = .ok (.aload_n 0, 1) := by decide +kernel
theorem d12_12 : decode jdk_68_method_73_code 12 = .ok (.getfield 22, 3) := by decide +kernel
theorem d12_15 : decode jdk_68_method_73_code 15 = .ok (.invokevirtual 399, 3) := by decide +kernel
theorem d14_0 : decode jdk_42_method_147_code 0 = .ok (.aload_n 0, 1) := by decide +kernel
theorem d14_1 : decode jdk_42_method_147_code 1 = .ok (.invokevirtual 335, 3) := by decide +kernel
theorem d14_4 : decode jdk_42_method_147_code 4 = .ok (.iload_n 3, 1) := by decide +kernel
theorem d14_5 : decode jdk_42_method_147_code 5 = .ok (.if_icmp .ne 23, 3) := by decide +kernel
theorem d14_8 : decode jdk_42_method_147_code 8 = .ok (.aload_n 0, 1) := by decide +kernel
theorem d14_9 : decode jdk_42_method_147_code 9 = .ok (.getfield 9, 3) := by decide +kernel
theorem d14_12 : decode jdk_42_method_147_code 12 = .ok (.iconst 0, 1) := by decide +kernel
theorem d14_13 : decode jdk_42_method_147_code 13 = .ok (.aload_n 1, 1) := by decide +kernel
theorem d14_14 : decode jdk_42_method_147_code 14 = .ok (.iload_n 2, 1) := by decide +kernel
theorem d14_15 : decode jdk_42_method_147_code 15 = .ok (.iload_n 3, 1) := by decide +kernel
theorem d14_16 : decode jdk_42_method_147_code 16 = .ok (.ishl, 1) := by decide +kernel
theorem d14_17 : decode jdk_42_method_147_code 17 = .ok (.aload_n 0, 1) := by decide +kernel
theorem d14_18 : decode jdk_42_method_147_code 18 = .ok (.getfield 9, 3) := by decide +kernel
theorem d14_21 : decode jdk_42_method_147_code 21 = .ok (.arraylength, 1) := by decide +kernel
theorem d14_22 : decode jdk_42_method_147_code 22 = .ok (.invokestatic 212, 3) := by decide +kernel
theorem d14_25 : decode jdk_42_method_147_code 25 = .ok (.goto 18, 3) := by decide +kernel
theorem d14_43 : decode jdk_42_method_147_code 43 = .ok (.return_, 1) := by decide +kernel
theorem ef_14_vvvv (m : MethodId) (x0 : Addr) (x1 : Addr) (x2 : Int32) (x3 : Int32) : entryFrame m #[(.ref x0), (.ref x1), (.int x2), (.int x3)] 4 = mkF m 0 #[.val (.ref x0), .val (.ref x1), .val (.int x2), .val (.int x3)] [] := by first | (simp [entryFrame, mkF, argsToLocals, Value.category]; done) | rfl
def Qr14_1 (Z : State) (a940 : Addr) (a941 : Addr) (p942 : Int32) (p943 : Int32) (w950 : Int32) (w951 : Int32) (w952 : Addr) (k955 : ClassId) (u956 : Nat → Int32) (k958 : ClassId) (u959 : Nat → Int32) (p960 : Int32) (h0 : Heap) (n0 : Nat) (v : Option Value) (h : Heap) (L : List Loc) : Prop := Fr n0 L ∧ v = none ∧ KSx h0 h [] [a941] ∧ BA Z h a941 k958 .byte p960 (fun i => if ((p942 <<< (p943 &&& 31))).toNatClampNeg ≤ i ∧ i < ((p942 <<< (p943 &&& 31))).toNatClampNeg + ((10 : Int32)).toNatClampNeg then u956 (((0 : Int32)).toNatClampNeg + (i - ((p942 <<< (p943 &&& 31))).toNatClampNeg)) else u959 i)
theorem r14_1 (l : Launch) (Z : State) (a0 : Array Value) (hw : ∀ d ∈ tables_1, d.before a0 Z = true) (a940 : Addr) (a941 : Addr) (p942 : Int32) (p943 : Int32) (w950 : Int32) (w951 : Int32) (w952 : Addr) (k955 : ClassId) (u956 : Nat → Int32) (k958 : ClassId) (u959 : Nat → Int32) (p960 : Int32) (h0 : Heap) (n0 : Nat) (Z0 : n0 ≤ h0.size) (H0 : Sta Z h0 "java/lang/String" "COMPACT_STRINGS" "Z" (.int w950)) (H1 : ¬ (w950 = (0 : Int32))) (H2 : Fld Z h0 a940 "java/lang/String" "coder" "B" (.int w951)) (H3 : nar .byte w951 = w951) (H4 : Exa Z h0 a940 "java/lang/String") (H5 : w951 = p943) (H6 : Fld Z h0 a940 "java/lang/String" "value" "[B" (.ref w952)) (H7 : BA Z h0 w952 k955 .byte (10 : Int32) u956) (H8 : BA Z h0 a941 k958 .byte p960 u959) (H9 : ¬ ((p942 <<< (p943 &&& 31)) < (0 : Int32))) (H10 : ((p942 <<< (p943 &&& 31))).toNatClampNeg + ((10 : Int32)).toNatClampNeg ≤ (p960).toNatClampNeg) (H11 : n0 ≤ a941) :
   OMet l Z mN37 jdk_42_method_147_code 4 none [] ({ frames := 1, cells := 0, slots := 0, locals := 18 } : Room) h0 #[(.ref a940), (.ref a941), (.int p942), (.int p943)] (Qr14_1 Z a940 a941 p942 p943 w950 w951 w952 k955 u956 k958 u959 p960 h0 n0) := by
 refine MetFree.of_bodySF (plainFor_of_name pn_java_lang_String) hisR ?_
 intro p e s m args below meth c s₁ Bd hml0 hP hK
 obtain ⟨rfl, hZ, hh⟩ := hP
 have hx := Bd.exec
 have hby := Bd.bytes
 have hml : c.maxLocals = 4 := hml0
 have hown : s.vm.findClass "java/lang/String" = some m.cls := findClass_of_methodNamed Bd.named
 have hnm := (name_of_methodNamed Bd.named Bd.method).1
 have X0 : Stand p l e ({ frames := 1, cells := 0, slots := 0, locals := 18 } : Room) s m #[(.ref a940), (.ref a941), (.int p942), (.int p943)] below meth c s₁ [] 0 0 := Stand.of_body Bd
 have e0 : s₁.heap = h0 := by rw [← hh, Bd.state]; rfl
 have N0 := Fr.nil n0
 have pre0 : ∀ t, Steps p.tables e below (s₁.setTop (mkF m 0 #[vR a940, vR a941, vI p942, vI p943] [])) t → Steps p.tables e below (s₁.setTop (entryFrame m #[(.ref a940), (.ref a941), (.int p942), (.int p943)] 4)) t := fun t k => castTop (ef_14_vvvv m a940 a941 p942 p943) k
 obtain ⟨cq949, kq949, q949a, q949b, q949c⟩ := isOf hZ e0 H4
 obtain ⟨_, _, ⟨T949, L949, k949, n949⟩, -, X949, ⟨Lc949, hQ949, l949, y949, z949⟩, st949⟩ := X0.virtualBack hx (y := mN10) (z := mN10) hown (mvT hZ (tw hw 65 rfl)) (mvT hZ (tw hw 66 rfl)) (notFace_of_selects (args := #[]) (mvT hZ (tw hw 68 rfl))) (mvT hZ (tw hw 68 rfl)) (mvT hZ (tw hw 67 rfl)) (by decide) (backOf (W := 0) (r10_1 l Z a0 hw a940 w950 w951 h0 n0 Z0 H0 H1 H2 H3) hZ (tw hw 69 rfl) (tw hw 37 rfl) (by decide) (by decide)) q949a q949c (g := (mkF m 1 #[vR a940, vR a941, vI p942, vI p943] [(.ref a940)])) rfl (by rw [hml]; rfl) (Steps.refl _) (argsL := []) (rest := []) (lenOf pd_6 rfl) rfl (own_w _) (hb hby d14_1) (fun _ _ => ⟨rfl, e0, (by decide : 0 + 0 ≤ _), (by decide : 0 + 0 ≤ _)⟩)
 dsimp only [Pt.U, Pt.locs, Pt.cells, Pt.slots] at X949 l949 y949 z949 st949 hQ949
 replace X949 := own_mvX X949 (a := 0) (b := 0) y949 z949
 obtain ⟨rfl, N949q, e949⟩ := hQ949
 have N949 := own_mvN l949 N0 N949q
 obtain ⟨T953, X953, e953, st953⟩ := getF X949 hx hZ hown (host := "") (Or.inl (tw hw 64 rfl)) Via.refl e949 H6 (g := (mkF m 9 #[vR a940, vR a941, vI p942, vI p943] [(.ref a940)])) rfl rfl (hb hby d14_9)
 obtain ⟨T954, X954, e954, st954⟩ := getF X953 hx hZ hown (host := "") (Or.inl (tw hw 64 rfl)) Via.refl e953 H6 (g := (mkF m 18 #[vR a940, vR a941, vI p942, vI p943] [(.ref a940), (.int (p942 <<< (p943 &&& 31))), (.ref a941), (.int (0 : Int32)), (.ref w952)])) rfl rfl (hb hby d14_18)
 have vc957 := H7
 obtain ⟨cl957, Ar957, q957, S957, N957, Hh957, G957⟩ := vc957
 obtain ⟨T961, h961, L961, X961, e961, N961, K961, B961, st961⟩ := cpB X954 hx hZ hown (tw hw 95 rfl) (tw hw 98 rfl) (tw hw 96 rfl) (tw hw 97 rfl) e954 H7 H8 rfl (by decide) H9 (by decide) (by decide) H10 N949 H11 (g0 := (mkF m 22 #[vR a940, vR a941, vI p942, vI p943] [(.int (10 : Int32)), (.int (p942 <<< (p943 &&& 31))), (.ref a941), (.int (0 : Int32)), (.ref w952)])) rfl (by rw [hml]; rfl) rfl (hb hby d14_22) (by decide) (W := 0) (own_w _) (by decide)
 have KC961 := KSx.trans (KSx.refl h0 [] [a941]) K961 ks0 (allS (Or.inl (List.mem_of_getElem? (i := 0) rfl)) all0)
 obtain ⟨fs, hr, hrun, hended, hW, hsame⟩ := X961.leave (v := none) (fun _ => rfl)
 refine ⟨_, _, pre0 _ ?_, hrun, hended, _, _, rfl, ?_, ⟨_, rfl⟩, hW, hsame.mono (by decide) (by decide)⟩
 · show SG p e below s₁ (mkF m 0 #[vR a940, vR a941, vI p942, vI p943] []) _
   refine XS.aloadN X0.here hx rfl (hb hby d14_0) rfl rfl ?_
   show SG p e below s₁ (mkF m 1 #[vR a940, vR a941, vI p942, vI p943] [(.ref a940)]) _
   refine st949.trans ?_
   show SG p e below T949 (mkF m 4 #[vR a940, vR a941, vI p942, vI p943] [(.int w951)]) _
   refine XS.iloadN X949.here hx rfl (hb hby d14_4) rfl ?_
   show SG p e below T949 (mkF m 5 #[vR a940, vR a941, vI p942, vI p943] [(.int p943), (.int w951)]) _
   refine XS.icmpNo X949.here hx rfl (hb hby d14_5) rfl (teq H5).2 ?_
   show SG p e below T949 (mkF m 8 #[vR a940, vR a941, vI p942, vI p943] []) _
   refine XS.aloadN X949.here hx rfl (hb hby d14_8) rfl rfl ?_
   show SG p e below T949 (mkF m 9 #[vR a940, vR a941, vI p942, vI p943] [(.ref a940)]) _
   refine st953 _ ?_
   show SG p e below T953 (mkF m 12 #[vR a940, vR a941, vI p942, vI p943] [(.ref w952)]) _
   refine XS.iconst X953.here hx rfl (hb hby d14_12) ?_
   show SG p e below T953 (mkF m 13 #[vR a940, vR a941, vI p942, vI p943] [(.int (0 : Int32)), (.ref w952)]) _
   refine XS.aloadN X953.here hx rfl (hb hby d14_13) rfl rfl ?_
   show SG p e below T953 (mkF m 14 #[vR a940, vR a941, vI p942, vI p943] [(.ref a941), (.int (0 : Int32)), (.ref w952)]) _
   refine XS.iloadN X953.here hx rfl (hb hby d14_14) rfl ?_
   show SG p e below T953 (mkF m 15 #[vR a940, vR a941, vI p942, vI p943] [(.int p942), (.ref a941), (.int (0 : Int32)), (.ref w952)]) _
   refine XS.iloadN X953.here hx rfl (hb hby d14_15) rfl ?_
   show SG p e below T953 (mkF m 16 #[vR a940, vR a941, vI p942, vI p943] [(.int p943), (.int p942), (.ref a941), (.int (0 : Int32)), (.ref w952)]) _
   refine XS.ishl X953.here hx rfl (hb hby d14_16) rfl ?_
   show SG p e below T953 (mkF m 17 #[vR a940, vR a941, vI p942, vI p943] [(.int (p942 <<< (p943 &&& 31))), (.ref a941), (.int (0 : Int32)), (.ref w952)]) _
   refine XS.aloadN X953.here hx rfl (hb hby d14_17) rfl rfl ?_
   show SG p e below T953 (mkF m 18 #[vR a940, vR a941, vI p942, vI p943] [(.ref a940), (.int (p942 <<< (p943 &&& 31))), (.ref a941), (.int (0 : Int32)), (.ref w952)]) _
   refine st954 _ ?_
   show SG p e below T954 (mkF m 21 #[vR a940, vR a941, vI p942, vI p943] [(.ref w952), (.int (p942 <<< (p943 &&& 31))), (.ref a941), (.int (0 : Int32)), (.ref w952)]) _
   refine X954.arraylength hx (by rw [e954]; exact Ar957.1) (State.isArrayOf_alike hZ.alike Ar957.2.1) (g := (mkF m 21 #[vR a940, vR a941, vI p942, vI p943] [(.ref w952), (.int (p942 <<< (p943 &&& 31))), (.ref a941), (.int (0 : Int32)), (.ref w952)])) rfl rfl (hb hby d14_21) _ ?_
   rw [len_of S957 N957]
   show SG p e below T954 (mkF m 22 #[vR a940, vR a941, vI p942, vI p943] [(.int (10 : Int32)), (.int (p942 <<< (p943 &&& 31))), (.ref a941), (.int (0 : Int32)), (.ref w952)]) _
   refine st961 _ ?_
   show SG p e below T961 (mkF m 25 #[vR a940, vR a941, vI p942, vI p943] []) _
   refine XS.goto X961.here hx rfl (pc0 := 25) (pc' := 43) rfl (hb hby d14_25) (by decide) (by decide) ?_
   show SG p e below T961 (mkF m 43 #[vR a940, vR a941, vI p942, vI p943] []) _
   exact X961.returnOut hx Bd.returns (hb hby d14_43) hr
 · show Qr14_1 Z a940 a941 p942 p943 w950 w951 w952 k955 u956 k958 u959 p960 h0 n0 _ T961.heap _
   rw [e961]
   exact ⟨N961, rfl, KC961, B961⟩
theorem pd_25 : parseMethodDescriptor "([BIB)V" = some ⟨[(.array .byte), .int, .byte], none⟩ := by decide +kernel
theorem d12_18 : decode jdk_68_method_73_code 18 = .ok (.return_, 1) := by decide +kernel
theorem ef_12_vvv (m : MethodId) (x0 : Addr) (x1 : Int32) (x2 : Addr) : entryFrame m #[(.ref x0), (.int x1), (.ref x2)] 3 = mkF m 0 #[.val (.ref x0), .val (.int x1), .val (.ref x2)] [] := by first | (simp [entryFrame, mkF, argsToLocals, Value.category]; done) | rfl
def Qr12_1 (Z : State) (a917 : Addr) (p918 : Int32) (a919 : Addr) (w934 : Int32) (w935 : Int32) (w936 : Int32) (w937 : Addr) (w963 : Addr) (k964 : ClassId) (u965 : Nat → Int32) (k966 : ClassId) (u967 : Nat → Int32) (p968 : Int32) (h0 : Heap) (n0 : Nat) (v : Option Value) (h : Heap) (L : List Loc) : Prop := Fr n0 L ∧ v = none ∧ KSx h0 h [] [w937] ∧ BA Z h w937 k966 .byte p968 (fun i => if ((p918 <<< (w935 &&& 31))).toNatClampNeg ≤ i ∧ i < ((p918 <<< (w935 &&& 31))).toNatClampNeg + ((10 : Int32)).toNatClampNeg then u965 (((0 : Int32)).toNatClampNeg + (i - ((p918 <<< (w935 &&& 31))).toNatClampNeg)) else u967 i)
theorem r12_1 (l : Launch) (Z : State) (a0 : Array Value) (hw : ∀ d ∈ tables_1, d.before a0 Z = true) (a917 : Addr) (p918 : Int32) (a919 : Addr) (w934 : Int32) (w935 : Int32) (w936 : Int32) (w937 : Addr) (w963 : Addr) (k964 : ClassId) (u965 : Nat → Int32) (k966 : ClassId) (u967 : Nat → Int32) (p968 : Int32) (h0 : Heap) (n0 : Nat) (Z0 : n0 ≤ h0.size) (H0 : Sta Z h0 "java/lang/String" "COMPACT_STRINGS" "Z" (.int w934)) (H1 : ¬ (w934 = (0 : Int32))) (H2 : Fld Z h0 a917 "java/lang/AbstractStringBuilder" "coder" "B" (.int w935)) (H3 : Fld Z h0 a919 "java/lang/String" "coder" "B" (.int w936)) (H4 : nar .byte w936 = w936) (H5 : Exa Z h0 a919 "java/lang/String") (H6 : w935 = w936) (H7 : Exa Z h0 a917 "java/lang/StringBuilder") (H8 : Fld Z h0 a917 "java/lang/AbstractStringBuilder" "value" "[B" (.ref w937)) (H9 : w936 = w935) (H10 : Fld Z h0 a919 "java/lang/String" "value" "[B" (.ref w963)) (H11 : BA Z h0 w963 k964 .byte (10 : Int32) u965) (H12 : BA Z h0 w937 k966 .byte p968 u967) (H13 : ¬ ((p918 <<< (w935 &&& 31)) < (0 : Int32))) (H14 : ((p918 <<< (w935 &&& 31))).toNatClampNeg + ((10 : Int32)).toNatClampNeg ≤ (p968).toNatClampNeg) (H15 : n0 ≤ w937) :
   OMet l Z mN38 jdk_68_method_73_code 3 none [] ({ frames := 2, cells := 0, slots := 0, locals := 33 } : Room) h0 #[(.ref a917), (.int p918), (.ref a919)] (Qr12_1 Z a917 p918 a919 w934 w935 w936 w937 w963 k964 u965 k966 u967 p968 h0 n0) := by
 refine MetFree.of_bodySF (plainFor_of_name pn_java_lang_AbstractStringBuilder) hisR ?_
 intro p e s m args below meth c s₁ Bd hml0 hP hK
 obtain ⟨rfl, hZ, hh⟩ := hP
 have hx := Bd.exec
 have hby := Bd.bytes
 have hml : c.maxLocals = 3 := hml0
 have hown : s.vm.findClass "java/lang/AbstractStringBuilder" = some m.cls := findClass_of_methodNamed Bd.named
 have hnm := (name_of_methodNamed Bd.named Bd.method).1
 have X0 : Stand p l e ({ frames := 2, cells := 0, slots := 0, locals := 33 } : Room) s m #[(.ref a917), (.int p918), (.ref a919)] below meth c s₁ [] 0 0 := Stand.of_body Bd
 have e0 : s₁.heap = h0 := by rw [← hh, Bd.state]; rfl
 have N0 := Fr.nil n0
 have pre0 : ∀ t, Steps p.tables e below (s₁.setTop (mkF m 0 #[vR a917, vI p918, vR a919] [])) t → Steps p.tables e below (s₁.setTop (entryFrame m #[(.ref a917), (.int p918), (.ref a919)] 3)) t := fun t k => castTop (ef_12_vvv m a917 p918 a919) k
 obtain ⟨cq933, kq933, q933a, q933b, q933c⟩ := isOf hZ e0 H7
 obtain ⟨_, _, ⟨T933, L933, k933, n933⟩, -, X933, ⟨Lc933, hQ933, l933, y933, z933⟩, st933⟩ := X0.virtualBack hx (y := mN36) (z := mN36) hown (mvT hZ (tw hw 84 rfl)) (own_decl (mvT hZ (tw hw 85 rfl)) (mvT hZ (tw hw 88 rfl))) (notFace_of_selects (args := #[]) (mvT hZ (tw hw 87 rfl))) (mvT hZ (tw hw 87 rfl)) (mvT hZ (tw hw 85 rfl)) (by decide) (backOf (W := 0) (r13_1 l Z a0 hw a917 a919 w934 w935 w936 h0 n0 Z0 H0 H1 H2 H3 H4 H5 H6) hZ (tw hw 88 rfl) (tw hw 33 rfl) (by decide) (by decide)) q933a q933c (g := (mkF m 2 #[vR a917, vI p918, vR a919] [(.ref a919), (.ref a917)])) rfl (by rw [hml]; rfl) (Steps.refl _) (argsL := [(.ref a919)]) (rest := []) (lenOf pd_24 rfl) rfl (own_w _) (hb hby d12_2) (fun _ _ => ⟨rfl, e0, (by decide : 0 + 0 ≤ _), (by decide : 0 + 0 ≤ _)⟩)
 dsimp only [Pt.U, Pt.locs, Pt.cells, Pt.slots] at X933 l933 y933 z933 st933 hQ933
 replace X933 := own_mvX X933 (a := 0) (b := 0) y933 z933
 obtain ⟨rfl, N933q, e933⟩ := hQ933
 have N933 := own_mvN l933 N0 N933q
 obtain ⟨T938, X938, e938, st938⟩ := getF X933 hx hZ hown (host := "") (Or.inl (tw hw 39 rfl)) Via.refl e933 H8 (g := (mkF m 7 #[vR a917, vI p918, vR a919] [(.ref a917), (.ref a919)])) rfl rfl (hb hby d12_7)
 obtain ⟨T939, X939, e939, st939⟩ := getF X938 hx hZ hown (host := "") (Or.inl (tw hw 41 rfl)) Via.refl e938 H2 (g := (mkF m 12 #[vR a917, vI p918, vR a919] [(.ref a917), (.int p918), (.ref w937), (.ref a919)])) rfl rfl (hb hby d12_12)
 obtain ⟨cq962, kq962, q962a, q962b, q962c⟩ := isOf hZ e939 H5
 obtain ⟨_, _, ⟨T962, L962, k962, n962⟩, -, X962, ⟨Lc962, hQ962, l962, y962, z962⟩, st962⟩ := X939.virtualBack hx (y := mN37) (z := mN37) hown (mvT hZ (tw hw 90 rfl)) (mvT hZ (tw hw 91 rfl)) (notFace_of_selects (args := #[]) (mvT hZ (tw hw 93 rfl))) (mvT hZ (tw hw 93 rfl)) (mvT hZ (tw hw 92 rfl)) (by decide) (backOf (W := 0) (r14_1 l Z a0 hw a919 w937 p918 w935 w934 w936 w963 k964 u965 k966 u967 p968 h0 n0 Z0 H0 H1 H3 H4 H5 H9 H10 H11 H12 H13 H14 H15) hZ (tw hw 94 rfl) (tw hw 37 rfl) (by decide) (by decide)) q962a q962c (g := (mkF m 15 #[vR a917, vI p918, vR a919] [(.int w935), (.int p918), (.ref w937), (.ref a919)])) rfl (by rw [hml]; rfl) (Steps.refl _) (argsL := [(.ref w937), (.int p918), (.int w935)]) (rest := []) (lenOf pd_25 rfl) rfl (own_w _) (hb hby d12_15) (fun _ _ => ⟨rfl, e939, (by decide : 0 + 0 ≤ _), (by decide : 0 + 0 ≤ _)⟩)
 dsimp only [Pt.U, Pt.locs, Pt.cells, Pt.slots] at X962 l962 y962 z962 st962 hQ962
 replace X962 := own_mvX X962 (a := 0) (b := 0) y962 z962
 obtain ⟨N962q, rfl, K962, o962_0⟩ := hQ962
 have N962 := own_mvN l962 N933 N962q
 have KC962 := KSx.trans (KSx.refl h0 [] [w937]) K962 ks0 (allS (Or.inl (List.mem_of_getElem? (i := 0) rfl)) all0)
 obtain ⟨fs, hr, hrun, hended, hW, hsame⟩ := X962.leave (v := none) (fun _ => rfl)
 refine ⟨_, _, pre0 _ ?_, hrun, hended, _, _, rfl, ?_, ⟨_, rfl⟩, hW, hsame.mono (by decide) (by decide)⟩
 · show SG p e below s₁ (mkF m 0 #[vR a917, vI p918, vR a919] []) _
   refine XS.aloadN X0.here hx rfl (hb hby d12_0) rfl rfl ?_
   show SG p e below s₁ (mkF m 1 #[vR a917, vI p918, vR a919] [(.ref a917)]) _
   refine XS.aloadN X0.here hx rfl (hb hby d12_1) rfl rfl ?_
   show SG p e below s₁ (mkF m 2 #[vR a917, vI p918, vR a919] [(.ref a919), (.ref a917)]) _
   refine st933.trans ?_
   show SG p e below T933 (mkF m 5 #[vR a917, vI p918, vR a919] []) _
   refine XS.aloadN X933.here hx rfl (hb hby d12_5) rfl rfl ?_
   show SG p e below T933 (mkF m 6 #[vR a917, vI p918, vR a919] [(.ref a919)]) _
   refine XS.aloadN X933.here hx rfl (hb hby d12_6) rfl rfl ?_
   show SG p e below T933 (mkF m 7 #[vR a917, vI p918, vR a919] [(.ref a917), (.ref a919)]) _
   refine st938 _ ?_
   show SG p e below T938 (mkF m 10 #[vR a917, vI p918, vR a919] [(.ref w937), (.ref a919)]) _
   refine XS.iloadN X938.here hx rfl (hb hby d12_10) rfl ?_
   show SG p e below T938 (mkF m 11 #[vR a917, vI p918, vR a919] [(.int p918), (.ref w937), (.ref a919)]) _
   refine XS.aloadN X938.here hx rfl (hb hby d12_11) rfl rfl ?_
   show SG p e below T938 (mkF m 12 #[vR a917, vI p918, vR a919] [(.ref a917), (.int p918), (.ref w937), (.ref a919)]) _
   refine st939 _ ?_
   show SG p e below T939 (mkF m 15 #[vR a917, vI p918, vR a919] [(.int w935), (.int p918), (.ref w937), (.ref a919)]) _
   refine st962.trans ?_
   show SG p e below T962 (mkF m 18 #[vR a917, vI p918, vR a919] []) _
   exact X962.returnOut hx Bd.returns (hb hby d12_18) hr
 · show Qr12_1 Z a917 p918 a919 w934 w935 w936 w937 w963 k964 u965 k966 u967 p968 h0 n0 _ T962.heap _
   exact ⟨N962, rfl, KC962, o962_0⟩
theorem pd_26 : parseMethodDescriptor "(ILjava/lang/String;)V" = some ⟨[.int, (.object "java/lang/String")], none⟩ := by decide +kernel
theorem d8_33 : decode jdk_68_method_22_code 33 = .ok (.aload_n 0, 1) := by decide +kernel
theorem d8_34 : decode jdk_68_method_22_code 34 = .ok (.dup, 1) := by decide +kernel
theorem d8_35 : decode jdk_68_method_22_code 35 = .ok (.getfield 79, 3) := by decide +kernel
theorem d8_38 : decode jdk_68_method_22_code 38 = .ok (.iload_n 2, 1) := by decide +kernel
theorem d8_39 : decode jdk_68_method_22_code 39 = .ok (.iadd, 1) := by decide +kernel
theorem d8_40 : decode jdk_68_method_22_code 40 = .ok (.putfield 79, 3) := by decide +kernel
theorem d8_43 : decode jdk_68_method_22_code 43 = .ok (.aload_n 0, 1) := by decide +kernel
theorem d8_44 : decode jdk_68_method_22_code 44 = .ok (.areturn, 1) := by decide +kernel
theorem ef_8_vv (m : MethodId) (x0 : Addr) (x1 : Addr) : entryFrame m #[(.ref x0), (.ref x1)] 3 = mkF m 0 #[.val (.ref x0), .val (.ref x1), .unset] [] := by first | (simp [entryFrame, mkF, argsToLocals, Value.category]; done) | rfl
def Qr8_1 (Z : State) (a876 : Addr) (a877 : Addr) (w893 : Addr) (k894 : ClassId) (u895 : Nat → Int32) (w896 : Int32) (w897 : Int32) (w898 : Int32) (w911 : Addr) (k912 : ClassId) (u913 : Nat → Int32) (p914 : Int32) (w915 : Int32) (h0 : Heap) (n0 : Nat) (v : Option Value) (h : Heap) (L : List Loc) : Prop := Fr n0 L ∧ v = some (.ref a876) ∧ KSx h0 h [(a876, Jvm.RoadKit.slotOf Z "java/lang/AbstractStringBuilder" "count" "I")] [w911] ∧ Fld Z h a876 "java/lang/AbstractStringBuilder" "count" "I" (.int (w898 + ((10 : Int32) >>> (w897 &&& 31)))) ∧ BA Z h w911 k912 .byte p914 (fun i => if ((w898 <<< (w915 &&& 31))).toNatClampNeg ≤ i ∧ i < ((w898 <<< (w915 &&& 31))).toNatClampNeg + ((10 : Int32)).toNatClampNeg then u895 (((0 : Int32)).toNatClampNeg + (i - ((w898 <<< (w915 &&& 31))).toNatClampNeg)) else u913 i)
theorem r8_1 (l : Launch) (Z : State) (a0 : Array Value) (hw : ∀ d ∈ tables_1, d.before a0 Z = true) (a876 : Addr) (a877 : Addr) (w893 : Addr) (k894 : ClassId) (u895 : Nat → Int32) (w896 : Int32) (w897 : Int32) (w898 : Int32) (w911 : Addr) (k912 : ClassId) (u913 : Nat → Int32) (p914 : Int32) (w915 : Int32) (h0 : Heap) (n0 : Nat) (Z0 : n0 ≤ h0.size) (H0 : Fld Z h0 a877 "java/lang/String" "value" "[B" (.ref w893)) (H1 : BA Z h0 w893 k894 .byte (10 : Int32) u895) (H2 : Sta Z h0 "java/lang/String" "COMPACT_STRINGS" "Z" (.int w896)) (H3 : ¬ (w896 = (0 : Int32))) (H4 : Fld Z h0 a877 "java/lang/String" "coder" "B" (.int w897)) (H5 : nar .byte w897 = w897) (H6 : Exa Z h0 a877 "java/lang/String") (H7 : Fld Z h0 a876 "java/lang/AbstractStringBuilder" "count" "I" (.int w898)) (H8 : Fld Z h0 a876 "java/lang/AbstractStringBuilder" "value" "[B" (.ref w911)) (H9 : BA Z h0 w911 k912 .byte p914 u913) (H10 : Fld Z h0 a876 "java/lang/AbstractStringBuilder" "coder" "B" (.int w915)) (H11 : ¬ ((0 : Int32) < ((w898 + ((10 : Int32) >>> (w897 &&& 31))) - (p914 >>> (w915 &&& 31))))) (H12 : Exa Z h0 a876 "java/lang/StringBuilder") (H13 : w915 = w897) (H14 : w897 = w915) (H15 : ¬ ((w898 <<< (w915 &&& 31)) < (0 : Int32))) (H16 : ((w898 <<< (w915 &&& 31))).toNatClampNeg + ((10 : Int32)).toNatClampNeg ≤ (p914).toNatClampNeg) (H17 : n0 ≤ w911) (H18 : a876 ≠ w911) (H19 : n0 ≤ a876) (H20 : w911 ≠ a876) :
   OMet l Z mN39 jdk_68_method_22_code 3 (some (.object "java/lang/AbstractStringBuilder")) [] ({ frames := 3, cells := 0, slots := 0, locals := 47 } : Room) h0 #[(.ref a876), (.ref a877)] (Qr8_1 Z a876 a877 w893 k894 u895 w896 w897 w898 w911 k912 u913 p914 w915 h0 n0) := by
 refine MetFree.of_bodySF (plainFor_of_name pn_java_lang_AbstractStringBuilder) hisR ?_
 intro p e s m args below meth c s₁ Bd hml0 hP hK
 obtain ⟨rfl, hZ, hh⟩ := hP
 have hx := Bd.exec
 have hby := Bd.bytes
 have hml : c.maxLocals = 3 := hml0
 have hown : s.vm.findClass "java/lang/AbstractStringBuilder" = some m.cls := findClass_of_methodNamed Bd.named
 have hnm := (name_of_methodNamed Bd.named Bd.method).1
 have X0 : Stand p l e ({ frames := 3, cells := 0, slots := 0, locals := 47 } : Room) s m #[(.ref a876), (.ref a877)] below meth c s₁ [] 0 0 := Stand.of_body Bd
 have e0 : s₁.heap = h0 := by rw [← hh, Bd.state]; rfl
 have N0 := Fr.nil n0
 have pre0 : ∀ t, Steps p.tables e below (s₁.setTop (mkF m 0 #[vR a876, vR a877, .unset] [])) t → Steps p.tables e below (s₁.setTop (entryFrame m #[(.ref a876), (.ref a877)] 3)) t := fun t k => castTop (ef_8_vv m a876 a877) k
 obtain ⟨cq892, kq892, q892a, q892b, q892c⟩ := isOf hZ e0 H6
 obtain ⟨_, _, ⟨T892, L892, k892, n892⟩, -, X892, ⟨Lc892, hQ892, l892, y892, z892⟩, st892⟩ := X0.virtualBack hx (y := mN11) (z := mN11) hown (mvT hZ (tw hw 59 rfl)) (mvT hZ (tw hw 60 rfl)) (notFace_of_selects (args := #[]) (mvT hZ (tw hw 62 rfl))) (mvT hZ (tw hw 62 rfl)) (mvT hZ (tw hw 61 rfl)) (by decide) (backOf (W := 0) (r9_2 l Z a0 hw a877 w893 k894 u895 w896 w897 h0 n0 Z0 H0 H1 H2 H3 H4 H5 H6) hZ (tw hw 63 rfl) (tw hw 37 rfl) (by decide) (by decide)) q892a q892c (g := (mkF m 10 #[vR a876, vR a877, vU] [(.ref a877)])) rfl (by rw [hml]; rfl) (Steps.refl _) (argsL := []) (rest := []) (lenOf pd_7 rfl) rfl (own_w _) (hb hby d8_10) (fun _ _ => ⟨rfl, e0, (by decide : 0 + 0 ≤ _), (by decide : 0 + 0 ≤ _)⟩)
 dsimp only [Pt.U, Pt.locs, Pt.cells, Pt.slots] at X892 l892 y892 z892 st892 hQ892
 replace X892 := own_mvX X892 (a := 0) (b := 0) y892 z892
 obtain ⟨rfl, N892q, e892⟩ := hQ892
 have N892 := own_mvN l892 N0 N892q
 obtain ⟨T899, X899, e899, st899⟩ := getF X892 hx hZ hown (host := "") (Or.inl (tw hw 72 rfl)) Via.refl e892 H7 (g := (mkF m 16 #[vR a876, vR a877, vI ((10 : Int32) >>> (w897 &&& 31))] [(.ref a876), (.ref a876)])) rfl rfl (hb hby d8_16)
 obtain ⟨cq910, kq910, q910a, q910b, q910c⟩ := isOf hZ e899 H12
 obtain ⟨_, _, ⟨T910, L910, k910, n910⟩, -, X910, ⟨Lc910, hQ910, l910, y910, z910⟩, st910⟩ := X899.virtualBack hx (y := mN16) (z := mN16) hown (mvT hZ (tw hw 74 rfl)) (own_decl (mvT hZ (tw hw 75 rfl)) (mvT hZ (tw hw 78 rfl))) (notFace_of_selects (args := #[]) (mvT hZ (tw hw 77 rfl))) (mvT hZ (tw hw 77 rfl)) (mvT hZ (tw hw 75 rfl)) (by decide) (backOf (W := 0) (r11_3 l Z a0 hw a876 (w898 + ((10 : Int32) >>> (w897 &&& 31))) w911 k912 u913 p914 w915 h0 n0 Z0 H8 H9 H10 H11) hZ (tw hw 78 rfl) (tw hw 33 rfl) (by decide) (by decide)) q910a q910c (g := (mkF m 21 #[vR a876, vR a877, vI ((10 : Int32) >>> (w897 &&& 31))] [(.int (w898 + ((10 : Int32) >>> (w897 &&& 31)))), (.ref a876)])) rfl (by rw [hml]; rfl) (Steps.refl _) (argsL := [(.int (w898 + ((10 : Int32) >>> (w897 &&& 31))))]) (rest := []) (lenOf pd_17 rfl) rfl (own_w _) (hb hby d8_21) (fun _ _ => ⟨rfl, e899, (by decide : 0 + 0 ≤ _), (by decide : 0 + 0 ≤ _)⟩)
 dsimp only [Pt.U, Pt.locs, Pt.cells, Pt.slots] at X910 l910 y910 z910 st910 hQ910
 replace X910 := own_mvX X910 (a := 0) (b := 0) y910 z910
 obtain ⟨rfl, N910q, e910⟩ := hQ910
 have N910 := own_mvN l910 N892 N910q
 obtain ⟨T916, X916, e916, st916⟩ := getF X910 hx hZ hown (host := "") (Or.inl (tw hw 72 rfl)) Via.refl e910 H7 (g := (mkF m 26 #[vR a876, vR a877, vI ((10 : Int32) >>> (w897 &&& 31))] [(.ref a876), (.ref a876)])) rfl rfl (hb hby d8_26)
 obtain ⟨cq969, kq969, q969a, q969b, q969c⟩ := isOf hZ e916 H12
 obtain ⟨_, _, ⟨T969, L969, k969, n969⟩, -, X969, ⟨Lc969, hQ969, l969, y969, z969⟩, st969⟩ := X916.virtualBack hx (y := mN38) (z := mN38) hown (mvT hZ (tw hw 79 rfl)) (own_decl (mvT hZ (tw hw 80 rfl)) (mvT hZ (tw hw 83 rfl))) (notFace_of_selects (args := #[]) (mvT hZ (tw hw 82 rfl))) (mvT hZ (tw hw 82 rfl)) (mvT hZ (tw hw 80 rfl)) (by decide) (backOf (W := 0) (r12_1 l Z a0 hw a876 w898 a877 w896 w915 w897 w911 w893 k894 u895 k912 u913 p914 h0 n0 Z0 H2 H3 H10 H4 H5 H6 H13 H12 H8 H14 H0 H1 H9 H15 H16 H17) hZ (tw hw 83 rfl) (tw hw 33 rfl) (by decide) (by decide)) q969a q969c (g := (mkF m 30 #[vR a876, vR a877, vI ((10 : Int32) >>> (w897 &&& 31))] [(.ref a877), (.int w898), (.ref a876)])) rfl (by rw [hml]; rfl) (Steps.refl _) (argsL := [(.int w898), (.ref a877)]) (rest := []) (lenOf pd_26 rfl) rfl (own_w _) (hb hby d8_30) (fun _ _ => ⟨rfl, e916, (by decide : 0 + 0 ≤ _), (by decide : 0 + 0 ≤ _)⟩)
 dsimp only [Pt.U, Pt.locs, Pt.cells, Pt.slots] at X969 l969 y969 z969 st969 hQ969
 replace X969 := own_mvX X969 (a := 0) (b := 0) y969 z969
 obtain ⟨N969q, rfl, K969, o969_0⟩ := hQ969
 have N969 := own_mvN l969 N910 N969q
 have KC969 := KSx.trans (KSx.refl h0 [(a876, Jvm.RoadKit.slotOf Z "java/lang/AbstractStringBuilder" "count" "I")] [w911]) K969 ks0 (allS (Or.inl (List.mem_of_getElem? (i := 0) rfl)) all0)
 have f970 := (H7.ks K969 ks0 (allS H18 all0))
 obtain ⟨T971, X971, e971, st971⟩ := getF X969 hx hZ hown (host := "") (Or.inl (tw hw 72 rfl)) Via.refl rfl f970 (g := (mkF m 35 #[vR a876, vR a877, vI ((10 : Int32) >>> (w897 &&& 31))] [(.ref a876), (.ref a876)])) rfl rfl (hb hby d8_35)
 have f972 := (H12.ks K969)
 obtain ⟨T973, h973, X973, e973, W973, st973⟩ := putF X971 hx hZ hown (host := "") (Or.inl (tw hw 72 rfl)) Via.refl e971 f970 f972 (Or.inl (tw hw 73 rfl)) (tw hw 24 rfl) (ty := .int) (by decide) rfl rfl (g := (mkF m 40 #[vR a876, vR a877, vI ((10 : Int32) >>> (w897 &&& 31))] [(.int (w898 + ((10 : Int32) >>> (w897 &&& 31)))), (.ref a876)])) rfl rfl (hb hby d8_40)
 have Fw973 := Fld.same W973 f970
 have KC973 := KSx.wr KC969 W973 (Or.inl (List.mem_of_getElem? (i := 0) rfl))
 have N973 := Fr.snoc X973 N969 H19
 have f974 := (o969_0.other W973 H20)
 obtain ⟨fs, hr, hrun, hended, hW, hsame⟩ := X973.leave (v := some (.ref a876)) (fun h => by rw [Bd.returns] at h; cases h)
 refine ⟨_, _, pre0 _ ?_, hrun, hended, _, _, rfl, ?_, ⟨_, rfl⟩, hW, hsame.mono (by decide) (by decide)⟩
 · show SG p e below s₁ (mkF m 0 #[vR a876, vR a877, vU] []) _
   refine XS.aloadN X0.here hx rfl (hb hby d8_0) rfl rfl ?_
   show SG p e below s₁ (mkF m 1 #[vR a876, vR a877, vU] [(.ref a877)]) _
   refine XS.ifnonnullYes X0.here hx rfl (pc0 := 1) (pc' := 9) rfl (hb hby d8_1) rfl (by decide) (by decide) ?_
   show SG p e below s₁ (mkF m 9 #[vR a876, vR a877, vU] []) _
   refine XS.aloadN X0.here hx rfl (hb hby d8_9) rfl rfl ?_
   show SG p e below s₁ (mkF m 10 #[vR a876, vR a877, vU] [(.ref a877)]) _
   refine st892.trans ?_
   show SG p e below T892 (mkF m 13 #[vR a876, vR a877, vU] [(.int ((10 : Int32) >>> (w897 &&& 31)))]) _
   refine XS.istoreN X892.here hx rfl (hb hby d8_13) rfl (l' := #[vR a876, vR a877, vI ((10 : Int32) >>> (w897 &&& 31))]) rfl ?_
   show SG p e below T892 (mkF m 14 #[vR a876, vR a877, vI ((10 : Int32) >>> (w897 &&& 31))] []) _
   refine XS.aloadN X892.here hx rfl (hb hby d8_14) rfl rfl ?_
   show SG p e below T892 (mkF m 15 #[vR a876, vR a877, vI ((10 : Int32) >>> (w897 &&& 31))] [(.ref a876)]) _
   refine XS.aloadN X892.here hx rfl (hb hby d8_15) rfl rfl ?_
   show SG p e below T892 (mkF m 16 #[vR a876, vR a877, vI ((10 : Int32) >>> (w897 &&& 31))] [(.ref a876), (.ref a876)]) _
   refine st899 _ ?_
   show SG p e below T899 (mkF m 19 #[vR a876, vR a877, vI ((10 : Int32) >>> (w897 &&& 31))] [(.int w898), (.ref a876)]) _
   refine XS.iloadN X899.here hx rfl (hb hby d8_19) rfl ?_
   show SG p e below T899 (mkF m 20 #[vR a876, vR a877, vI ((10 : Int32) >>> (w897 &&& 31))] [(.int ((10 : Int32) >>> (w897 &&& 31))), (.int w898), (.ref a876)]) _
   refine XS.iadd X899.here hx rfl (hb hby d8_20) rfl ?_
   show SG p e below T899 (mkF m 21 #[vR a876, vR a877, vI ((10 : Int32) >>> (w897 &&& 31))] [(.int (w898 + ((10 : Int32) >>> (w897 &&& 31)))), (.ref a876)]) _
   refine st910.trans ?_
   show SG p e below T910 (mkF m 24 #[vR a876, vR a877, vI ((10 : Int32) >>> (w897 &&& 31))] []) _
   refine XS.aloadN X910.here hx rfl (hb hby d8_24) rfl rfl ?_
   show SG p e below T910 (mkF m 25 #[vR a876, vR a877, vI ((10 : Int32) >>> (w897 &&& 31))] [(.ref a876)]) _
   refine XS.aloadN X910.here hx rfl (hb hby d8_25) rfl rfl ?_
   show SG p e below T910 (mkF m 26 #[vR a876, vR a877, vI ((10 : Int32) >>> (w897 &&& 31))] [(.ref a876), (.ref a876)]) _
   refine st916 _ ?_
   show SG p e below T916 (mkF m 29 #[vR a876, vR a877, vI ((10 : Int32) >>> (w897 &&& 31))] [(.int w898), (.ref a876)]) _
   refine XS.aloadN X916.here hx rfl (hb hby d8_29) rfl rfl ?_
   show SG p e below T916 (mkF m 30 #[vR a876, vR a877, vI ((10 : Int32) >>> (w897 &&& 31))] [(.ref a877), (.int w898), (.ref a876)]) _
   refine st969.trans ?_
   show SG p e below T969 (mkF m 33 #[vR a876, vR a877, vI ((10 : Int32) >>> (w897 &&& 31))] []) _
   refine XS.aloadN X969.here hx rfl (hb hby d8_33) rfl rfl ?_
   show SG p e below T969 (mkF m 34 #[vR a876, vR a877, vI ((10 : Int32) >>> (w897 &&& 31))] [(.ref a876)]) _
   refine XS.dup X969.here hx rfl (hb hby d8_34) rfl rfl ?_
   show SG p e below T969 (mkF m 35 #[vR a876, vR a877, vI ((10 : Int32) >>> (w897 &&& 31))] [(.ref a876), (.ref a876)]) _
   refine st971 _ ?_
   show SG p e below T971 (mkF m 38 #[vR a876, vR a877, vI ((10 : Int32) >>> (w897 &&& 31))] [(.int w898), (.ref a876)]) _
   refine XS.iloadN X971.here hx rfl (hb hby d8_38) rfl ?_
   show SG p e below T971 (mkF m 39 #[vR a876, vR a877, vI ((10 : Int32) >>> (w897 &&& 31))] [(.int ((10 : Int32) >>> (w897 &&& 31))), (.int w898), (.ref a876)]) _
   refine XS.iadd X971.here hx rfl (hb hby d8_39) rfl ?_
   show SG p e below T971 (mkF m 40 #[vR a876, vR a877, vI ((10 : Int32) >>> (w897 &&& 31))] [(.int (w898 + ((10 : Int32) >>> (w897 &&& 31)))), (.ref a876)]) _
   refine st973 _ ?_
   show SG p e below T973 (mkF m 43 #[vR a876, vR a877, vI ((10 : Int32) >>> (w897 &&& 31))] []) _
   refine XS.aloadN X973.here hx rfl (hb hby d8_43) rfl rfl ?_
   show SG p e below T973 (mkF m 44 #[vR a876, vR a877, vI ((10 : Int32) >>> (w897 &&& 31))] [(.ref a876)]) _
   jvm_step X973.here [X973.here.top, hx, (hb hby d8_44), X973.method', Bd.returns, Value.isRef, FieldType.isReference]
   first | (intro acts; rw [hr _ acts rfl rfl rfl]) | rw [hr _ _ rfl rfl rfl]
   exact Steps.refl _
 · show Qr8_1 Z a876 a877 w893 k894 u895 w896 w897 w898 w911 k912 u913 p914 w915 h0 n0 _ T973.heap _
   rw [e973]
   exact ⟨N973, rfl, KC973, Fw973, f974⟩
theorem pd_27 : parseMethodDescriptor "(Ljava/lang/String;)Ljava/lang/AbstractStringBuilder;" = some ⟨[(.object "java/lang/String")], some (.object "java/lang/AbstractStringBuilder")⟩ := by decide +kernel
theorem d7_5 : decode jdk_67_method_7_code 5 = .ok (.pop, 1) := by decide +kernel
theorem d7_6 : decode jdk_67_method_7_code 6 = .ok (.aload_n 0, 1) := by decide +kernel
theorem d7_7 : decode jdk_67_method_7_code 7 = .ok (.areturn, 1) := by decide +kernel
theorem ef_7_vv (m : MethodId) (x0 : Addr) (x1 : Addr) : entryFrame m #[(.ref x0), (.ref x1)] 2 = mkF m 0 #[.val (.ref x0), .val (.ref x1)] [] := by first | (simp [entryFrame, mkF, argsToLocals, Value.category]; done) | rfl
def Qr7_1 (Z : State) (a874 : Addr) (a875 : Addr) (w976 : Addr) (k977 : ClassId) (u978 : Nat → Int32) (w979 : Int32) (w980 : Int32) (w981 : Int32) (w982 : Addr) (k983 : ClassId) (u984 : Nat → Int32) (p985 : Int32) (w986 : Int32) (h0 : Heap) (n0 : Nat) (v : Option Value) (h : Heap) (L : List Loc) : Prop := Fr n0 L ∧ v = some (.ref a874) ∧ KSx h0 h [(a874, Jvm.RoadKit.slotOf Z "java/lang/AbstractStringBuilder" "count" "I")] [w982] ∧ Fld Z h a874 "java/lang/AbstractStringBuilder" "count" "I" (.int (w981 + ((10 : Int32) >>> (w980 &&& 31)))) ∧ BA Z h w982 k983 .byte p985 (fun i => if ((w981 <<< (w986 &&& 31))).toNatClampNeg ≤ i ∧ i < ((w981 <<< (w986 &&& 31))).toNatClampNeg + ((10 : Int32)).toNatClampNeg then u978 (((0 : Int32)).toNatClampNeg + (i - ((w981 <<< (w986 &&& 31))).toNatClampNeg)) else u984 i)
theorem r7_1 (l : Launch) (Z : State) (a0 : Array Value) (hw : ∀ d ∈ tables_1, d.before a0 Z = true) (a874 : Addr) (a875 : Addr) (w976 : Addr) (k977 : ClassId) (u978 : Nat → Int32) (w979 : Int32) (w980 : Int32) (w981 : Int32) (w982 : Addr) (k983 : ClassId) (u984 : Nat → Int32) (p985 : Int32) (w986 : Int32) (h0 : Heap) (n0 : Nat) (Z0 : n0 ≤ h0.size) (H0 : Fld Z h0 a875 "java/lang/String" "value" "[B" (.ref w976)) (H1 : BA Z h0 w976 k977 .byte (10 : Int32) u978) (H2 : Sta Z h0 "java/lang/String" "COMPACT_STRINGS" "Z" (.int w979)) (H3 : ¬ (w979 = (0 : Int32))) (H4 : Fld Z h0 a875 "java/lang/String" "coder" "B" (.int w980)) (H5 : nar .byte w980 = w980) (H6 : Exa Z h0 a875 "java/lang/String") (H7 : Fld Z h0 a874 "java/lang/AbstractStringBuilder" "count" "I" (.int w981)) (H8 : Fld Z h0 a874 "java/lang/AbstractStringBuilder" "value" "[B" (.ref w982)) (H9 : BA Z h0 w982 k983 .byte p985 u984) (H10 : Fld Z h0 a874 "java/lang/AbstractStringBuilder" "coder" "B" (.int w986)) (H11 : ¬ ((0 : Int32) < ((w981 + ((10 : Int32) >>> (w980 &&& 31))) - (p985 >>> (w986 &&& 31))))) (H12 : Exa Z h0 a874 "java/lang/StringBuilder") (H13 : w986 = w980) (H14 : w980 = w986) (H15 : ¬ ((w981 <<< (w986 &&& 31)) < (0 : Int32))) (H16 : ((w981 <<< (w986 &&& 31))).toNatClampNeg + ((10 : Int32)).toNatClampNeg ≤ (p985).toNatClampNeg) (H17 : n0 ≤ w982) (H18 : a874 ≠ w982) (H19 : n0 ≤ a874) (H20 : w982 ≠ a874) :
   OMet l Z mN40 jdk_67_method_7_code 2 (some (.object "java/lang/StringBuilder")) [] ({ frames := 4, cells := 0, slots := 0, locals := 61 } : Room) h0 #[(.ref a874), (.ref a875)] (Qr7_1 Z a874 a875 w976 k977 u978 w979 w980 w981 w982 k983 u984 p985 w986 h0 n0) := by
 refine MetFree.of_bodySF (plainFor_of_name pn_java_lang_StringBuilder) hisR ?_
 intro p e s m args below meth c s₁ Bd hml0 hP hK
 obtain ⟨rfl, hZ, hh⟩ := hP
 have hx := Bd.exec
 have hby := Bd.bytes
 have hml : c.maxLocals = 2 := hml0
 have hown : s.vm.findClass "java/lang/StringBuilder" = some m.cls := findClass_of_methodNamed Bd.named
 have hnm := (name_of_methodNamed Bd.named Bd.method).1
 have X0 : Stand p l e ({ frames := 4, cells := 0, slots := 0, locals := 61 } : Room) s m #[(.ref a874), (.ref a875)] below meth c s₁ [] 0 0 := Stand.of_body Bd
 have e0 : s₁.heap = h0 := by rw [← hh, Bd.state]; rfl
 have N0 := Fr.nil n0
 have pre0 : ∀ t, Steps p.tables e below (s₁.setTop (mkF m 0 #[vR a874, vR a875] [])) t → Steps p.tables e below (s₁.setTop (entryFrame m #[(.ref a874), (.ref a875)] 2)) t := fun t k => castTop (ef_7_vv m a874 a875) k
 obtain ⟨_, _, ⟨T975, L975, k975, n975⟩, -, X975, ⟨Lc975, hQ975, l975, y975, z975⟩, st975⟩ := superBack X0 hx hZ (y := mN39) hown (tw hw 54 rfl) (own_same (y := mN39) (by decide) (tw hw 55 rfl) (own_nf (args := a0) (w := mN16) rfl (tw hw 77 rfl))) (tw hw 55 rfl) (tw hw 56 rfl) (by decide) (backOf (W := 0) (r8_1 l Z a0 hw a874 a875 w976 k977 u978 w979 w980 w981 w982 k983 u984 p985 w986 h0 n0 Z0 H0 H1 H2 H3 H4 H5 H6 H7 H8 H9 H10 H11 H12 H13 H14 H15 H16 H17 H18 H19 H20) hZ (tw hw 58 rfl) (tw hw 33 rfl) (by decide) (by decide)) e0 (Ins.self H12) (g := (mkF m 2 #[vR a874, vR a875] [(.ref a875), (.ref a874)])) rfl (by rw [hml]; rfl) (tw hw 58 rfl) (argsL := [(.ref a875)]) (rest := []) (lenOf pd_27 rfl) rfl (own_w _) (hb hby d7_2) (fun _ _ => ⟨rfl, e0, (by decide : 0 + 0 ≤ _), (by decide : 0 + 0 ≤ _)⟩)
 dsimp only [Pt.U, Pt.locs, Pt.cells, Pt.slots] at X975 l975 y975 z975 st975 hQ975
 replace X975 := own_mvX X975 (a := 0) (b := 0) y975 z975
 obtain ⟨N975q, rfl, K975, o975_0, o975_1⟩ := hQ975
 have N975 := own_mvN l975 N0 N975q
 have KC975 := KSx.trans (KSx.refl h0 [(a874, Jvm.RoadKit.slotOf Z "java/lang/AbstractStringBuilder" "count" "I")] [w982]) K975 (ksS (Or.inl (List.mem_of_getElem? (i := 0) rfl)) ks0) (allS (Or.inl (List.mem_of_getElem? (i := 0) rfl)) all0)
 obtain ⟨fs, hr, hrun, hended, hW, hsame⟩ := X975.leave (v := some (.ref a874)) (fun h => by rw [Bd.returns] at h; cases h)
 refine ⟨_, _, pre0 _ ?_, hrun, hended, _, _, rfl, ?_, ⟨_, rfl⟩, hW, hsame.mono (by decide) (by decide)⟩
 · show SG p e below s₁ (mkF m 0 #[vR a874, vR a875] []) _
   refine XS.aloadN X0.here hx rfl (hb hby d7_0) rfl rfl ?_
   show SG p e below s₁ (mkF m 1 #[vR a874, vR a875] [(.ref a874)]) _
   refine XS.aloadN X0.here hx rfl (hb hby d7_1) rfl rfl ?_
   show SG p e below s₁ (mkF m 2 #[vR a874, vR a875] [(.ref a875), (.ref a874)]) _
   refine st975.trans ?_
   show SG p e below T975 (mkF m 5 #[vR a874, vR a875] [(.ref a874)]) _
   refine XS.pop X975.here hx rfl (hb hby d7_5) rfl rfl ?_
   show SG p e below T975 (mkF m 6 #[vR a874, vR a875] []) _
   refine XS.aloadN X975.here hx rfl (hb hby d7_6) rfl rfl ?_
   show SG p e below T975 (mkF m 7 #[vR a874, vR a875] [(.ref a874)]) _
   jvm_step X975.here [X975.here.top, hx, (hb hby d7_7), X975.method', Bd.returns, Value.isRef, FieldType.isReference]
   first | (intro acts; rw [hr _ acts rfl rfl rfl]) | rw [hr _ _ rfl rfl rfl]
   exact Steps.refl _
 · show Qr7_1 Z a874 a875 w976 k977 u978 w979 w980 w981 w982 k983 u984 p985 w986 h0 n0 _ T975.heap _
   exact ⟨N975, rfl, KC975, o975_0, o975_1⟩
theorem pd_28 : parseMethodDescriptor "(Ljava/lang/String;)Ljava/lang/StringBuilder;" = some ⟨[(.object "java/lang/String")], some (.object "java/lang/StringBuilder")⟩ := by decide +kernel
theorem d4_12 : decode prog_2_method_2_code 12 = .ok (.aload_n 0, 1) := by decide +kernel
theorem d4_13 : decode prog_2_method_2_code 13 = .ok (.getfield 7, 3) := by decide +kernel
theorem d4_16 : decode prog_2_method_2_code 16 = .ok (.invokevirtual 25, 3) := by decide +kernel
theorem pd_29 : parseMethodDescriptor "(J)Ljava/lang/StringBuilder;" = some ⟨[.long], some (.object "java/lang/StringBuilder")⟩ := by decide +kernel
theorem d4_19 : decode prog_2_method_2_code 19 = .ok (.invokevirtual 28, 3) := by decide +kernel
theorem pd_30 : parseMethodDescriptor "()Ljava/lang/String;" = some ⟨[], some (.object "java/lang/String")⟩ := by decide +kernel
theorem d4_22 : decode prog_2_method_2_code 22 = .ok (.new 16, 3) := by decide +kernel
theorem d4_25 : decode prog_2_method_2_code 25 = .ok (.dup, 1) := by decide +kernel
theorem d4_26 : decode prog_2_method_2_code 26 = .ok (.invokespecial 18, 3) := by decide +kernel
theorem d4_29 : decode prog_2_method_2_code 29 = .ok (.ldc 32, 2) := by decide +kernel
theorem d4_31 : decode prog_2_method_2_code 31 = .ok (.invokevirtual 21, 3) := by decide +kernel
theorem r9_3 (l : Launch) (Z : State) (a0 : Array Value) (hw : ∀ d ∈ tables_1, d.before a0 Z = true) (a1080 : Addr) (w1081 : Addr) (k1083 : ClassId) (u1084 : Nat → Int32) (w1092 : Int32) (w1093 : Int32) (h0 : Heap) (n0 : Nat) (Z0 : n0 ≤ h0.size) (H0 : Fld Z h0 a1080 "java/lang/String" "value" "[B" (.ref w1081)) (H1 : BA Z h0 w1081 k1083 .byte (12 : Int32) u1084) (H2 : Sta Z h0 "java/lang/String" "COMPACT_STRINGS" "Z" (.int w1092)) (H3 : ¬ (w1092 = (0 : Int32))) (H4 : Fld Z h0 a1080 "java/lang/String" "coder" "B" (.int w1093)) (H5 : nar .byte w1093 = w1093) (H6 : Exa Z h0 a1080 "java/lang/String") :
   OMet l Z mN11 jdk_42_method_54_code 1 (some .int) [] ({ frames := 1, cells := 0, slots := 0, locals := 13 } : Room) h0 #[(.ref a1080)] (OQp (some (.int ((12 : Int32) >>> (w1093 &&& 31)))) h0 n0) := by
 refine MetFree.of_bodySF (plainFor_of_name pn_java_lang_String) hisR ?_
 intro p e s m args below meth c s₁ Bd hml0 hP hK
 obtain ⟨rfl, hZ, hh⟩ := hP
 have hx := Bd.exec
 have hby := Bd.bytes
 have hml : c.maxLocals = 1 := hml0
 have hown : s.vm.findClass "java/lang/String" = some m.cls := findClass_of_methodNamed Bd.named
 have hnm := (name_of_methodNamed Bd.named Bd.method).1
 have X0 : Stand p l e ({ frames := 1, cells := 0, slots := 0, locals := 13 } : Room) s m #[(.ref a1080)] below meth c s₁ [] 0 0 := Stand.of_body Bd
 have e0 : s₁.heap = h0 := by rw [← hh, Bd.state]; rfl
 have N0 := Fr.nil n0
 have pre0 : ∀ t, Steps p.tables e below (s₁.setTop (mkF m 0 #[vR a1080] [])) t → Steps p.tables e below (s₁.setTop (entryFrame m #[(.ref a1080)] 1)) t := fun t k => castTop (ef_9_v m a1080) k
 obtain ⟨T1082, X1082, e1082, st1082⟩ := getF X0 hx hZ hown (host := "") (Or.inl (tw hw 64 rfl)) Via.refl e0 H0 (g := (mkF m 1 #[vR a1080] [(.ref a1080)])) rfl rfl (hb hby d9_1)
 have vc1085 := H1
 obtain ⟨cl1085, Ar1085, q1085, S1085, N1085, Hh1085, G1085⟩ := vc1085
 obtain ⟨cq1091, kq1091, q1091a, q1091b, q1091c⟩ := isOf hZ e1082 H6
 obtain ⟨_, _, ⟨T1091, L1091, k1091, n1091⟩, -, X1091, ⟨Lc1091, hQ1091, l1091, y1091, z1091⟩, st1091⟩ := X1082.virtualBack hx (y := mN10) (z := mN10) hown (mvT hZ (tw hw 65 rfl)) (mvT hZ (tw hw 66 rfl)) (notFace_of_selects (args := #[]) (mvT hZ (tw hw 68 rfl))) (mvT hZ (tw hw 68 rfl)) (mvT hZ (tw hw 67 rfl)) (by decide) (backOf (W := 1) (r10_1 l Z a0 hw a1080 w1092 w1093 h0 n0 Z0 H2 H3 H4 H5) hZ (tw hw 69 rfl) (tw hw 37 rfl) (by decide) (by decide)) q1091a q1091c (g := (mkF m 6 #[vR a1080] [(.ref a1080), (.int (12 : Int32))])) rfl (by rw [hml]; rfl) (Steps.refl _) (argsL := []) (rest := [(.int (12 : Int32))]) (lenOf pd_6 rfl) rfl (own_w _) (hb hby d9_6) (fun _ _ => ⟨rfl, e1082, (by decide : 0 + 0 ≤ _), (by decide : 0 + 0 ≤ _)⟩)
 dsimp only [Pt.U, Pt.locs, Pt.cells, Pt.slots] at X1091 l1091 y1091 z1091 st1091 hQ1091
 replace X1091 := own_mvX X1091 (a := 0) (b := 0) y1091 z1091
 obtain ⟨rfl, N1091q, e1091⟩ := hQ1091
 have N1091 := own_mvN l1091 N0 N1091q
 obtain ⟨fs, hr, hrun, hended, hW, hsame⟩ := X1091.leave (v := some (.int ((12 : Int32) >>> (w1093 &&& 31)))) (fun h => by rw [Bd.returns] at h; cases h)
 refine ⟨_, _, pre0 _ ?_, hrun, hended, _, _, rfl, ?_, ⟨_, rfl⟩, hW, hsame.mono (by decide) (by decide)⟩
 · show SG p e below s₁ (mkF m 0 #[vR a1080] []) _
   refine XS.aloadN X0.here hx rfl (hb hby d9_0) rfl rfl ?_
   show SG p e below s₁ (mkF m 1 #[vR a1080] [(.ref a1080)]) _
   refine st1082 _ ?_
   show SG p e below T1082 (mkF m 4 #[vR a1080] [(.ref w1081)]) _
   refine X1082.arraylength hx (by rw [e1082]; exact Ar1085.1) (State.isArrayOf_alike hZ.alike Ar1085.2.1) (g := (mkF m 4 #[vR a1080] [(.ref w1081)])) rfl rfl (hb hby d9_4) _ ?_
   rw [len_of S1085 N1085]
   show SG p e below T1082 (mkF m 5 #[vR a1080] [(.int (12 : Int32))]) _
   refine XS.aloadN X1082.here hx rfl (hb hby d9_5) rfl rfl ?_
   show SG p e below T1082 (mkF m 6 #[vR a1080] [(.ref a1080), (.int (12 : Int32))]) _
   refine st1091.trans ?_
   show SG p e below T1091 (mkF m 9 #[vR a1080] [(.int w1093), (.int (12 : Int32))]) _
   refine XS.ishr X1091.here hx rfl (hb hby d9_9) rfl ?_
   show SG p e below T1091 (mkF m 10 #[vR a1080] [(.int ((12 : Int32) >>> (w1093 &&& 31)))]) _
   exact retI X1091 hx Bd.returns (hb hby d9_10) hr
 · show OQp (some (.int ((12 : Int32) >>> (w1093 &&& 31)))) h0 n0 _ T1091.heap _
   rw [e1091]
   exact ⟨rfl, N1091, rfl⟩
def Qr14_2 (Z : State) (a1142 : Addr) (a1143 : Addr) (p1144 : Int32) (p1145 : Int32) (w1152 : Int32) (w1153 : Int32) (w1154 : Addr) (k1157 : ClassId) (u1158 : Nat → Int32) (k1160 : ClassId) (u1161 : Nat → Int32) (p1162 : Int32) (h0 : Heap) (n0 : Nat) (v : Option Value) (h : Heap) (L : List Loc) : Prop := Fr n0 L ∧ v = none ∧ KSx h0 h [] [a1143] ∧ BA Z h a1143 k1160 .byte p1162 (fun i => if ((p1144 <<< (p1145 &&& 31))).toNatClampNeg ≤ i ∧ i < ((p1144 <<< (p1145 &&& 31))).toNatClampNeg + ((12 : Int32)).toNatClampNeg then u1158 (((0 : Int32)).toNatClampNeg + (i - ((p1144 <<< (p1145 &&& 31))).toNatClampNeg)) else u1161 i)
theorem r14_2 (l : Launch) (Z : State) (a0 : Array Value) (hw : ∀ d ∈ tables_1, d.before a0 Z = true) (a1142 : Addr) (a1143 : Addr) (p1144 : Int32) (p1145 : Int32) (w1152 : Int32) (w1153 : Int32) (w1154 : Addr) (k1157 : ClassId) (u1158 : Nat → Int32) (k1160 : ClassId) (u1161 : Nat → Int32) (p1162 : Int32) (h0 : Heap) (n0 : Nat) (Z0 : n0 ≤ h0.size) (H0 : Sta Z h0 "java/lang/String" "COMPACT_STRINGS" "Z" (.int w1152)) (H1 : ¬ (w1152 = (0 : Int32))) (H2 : Fld Z h0 a1142 "java/lang/String" "coder" "B" (.int w1153)) (H3 : nar .byte w1153 = w1153) (H4 : Exa Z h0 a1142 "java/lang/String") (H5 : w1153 = p1145) (H6 : Fld Z h0 a1142 "java/lang/String" "value" "[B" (.ref w1154)) (H7 : BA Z h0 w1154 k1157 .byte (12 : Int32) u1158) (H8 : BA Z h0 a1143 k1160 .byte p1162 u1161) (H9 : ¬ ((p1144 <<< (p1145 &&& 31)) < (0 : Int32))) (H10 : ((p1144 <<< (p1145 &&& 31))).toNatClampNeg + ((12 : Int32)).toNatClampNeg ≤ (p1162).toNatClampNeg) (H11 : n0 ≤ a1143) :
   OMet l Z mN37 jdk_42_method_147_code 4 none [] ({ frames := 1, cells := 0, slots := 0, locals := 18 } : Room) h0 #[(.ref a1142), (.ref a1143), (.int p1144), (.int p1145)] (Qr14_2 Z a1142 a1143 p1144 p1145 w1152 w1153 w1154 k1157 u1158 k1160 u1161 p1162 h0 n0) := by
 refine MetFree.of_bodySF (plainFor_of_name pn_java_lang_String) hisR ?_
 intro p e s m args below meth c s₁ Bd hml0 hP hK
 obtain ⟨rfl, hZ, hh⟩ := hP
 have hx := Bd.exec
 have hby := Bd.bytes
 have hml : c.maxLocals = 4 := hml0
 have hown : s.vm.findClass "java/lang/String" = some m.cls := findClass_of_methodNamed Bd.named
 have hnm := (name_of_methodNamed Bd.named Bd.method).1
 have X0 : Stand p l e ({ frames := 1, cells := 0, slots := 0, locals := 18 } : Room) s m #[(.ref a1142), (.ref a1143), (.int p1144), (.int p1145)] below meth c s₁ [] 0 0 := Stand.of_body Bd
 have e0 : s₁.heap = h0 := by rw [← hh, Bd.state]; rfl
 have N0 := Fr.nil n0
 have pre0 : ∀ t, Steps p.tables e below (s₁.setTop (mkF m 0 #[vR a1142, vR a1143, vI p1144, vI p1145] [])) t → Steps p.tables e below (s₁.setTop (entryFrame m #[(.ref a1142), (.ref a1143), (.int p1144), (.int p1145)] 4)) t := fun t k => castTop (ef_14_vvvv m a1142 a1143 p1144 p1145) k
 obtain ⟨cq1151, kq1151, q1151a, q1151b, q1151c⟩ := isOf hZ e0 H4
 obtain ⟨_, _, ⟨T1151, L1151, k1151, n1151⟩, -, X1151, ⟨Lc1151, hQ1151, l1151, y1151, z1151⟩, st1151⟩ := X0.virtualBack hx (y := mN10) (z := mN10) hown (mvT hZ (tw hw 65 rfl)) (mvT hZ (tw hw 66 rfl)) (notFace_of_selects (args := #[]) (mvT hZ (tw hw 68 rfl))) (mvT hZ (tw hw 68 rfl)) (mvT hZ (tw hw 67 rfl)) (by decide) (backOf (W := 0) (r10_1 l Z a0 hw a1142 w1152 w1153 h0 n0 Z0 H0 H1 H2 H3) hZ (tw hw 69 rfl) (tw hw 37 rfl) (by decide) (by decide)) q1151a q1151c (g := (mkF m 1 #[vR a1142, vR a1143, vI p1144, vI p1145] [(.ref a1142)])) rfl (by rw [hml]; rfl) (Steps.refl _) (argsL := []) (rest := []) (lenOf pd_6 rfl) rfl (own_w _) (hb hby d14_1) (fun _ _ => ⟨rfl, e0, (by decide : 0 + 0 ≤ _), (by decide : 0 + 0 ≤ _)⟩)
 dsimp only [Pt.U, Pt.locs, Pt.cells, Pt.slots] at X1151 l1151 y1151 z1151 st1151 hQ1151
 replace X1151 := own_mvX X1151 (a := 0) (b := 0) y1151 z1151
 obtain ⟨rfl, N1151q, e1151⟩ := hQ1151
 have N1151 := own_mvN l1151 N0 N1151q
 obtain ⟨T1155, X1155, e1155, st1155⟩ := getF X1151 hx hZ hown (host := "") (Or.inl (tw hw 64 rfl)) Via.refl e1151 H6 (g := (mkF m 9 #[vR a1142, vR a1143, vI p1144, vI p1145] [(.ref a1142)])) rfl rfl (hb hby d14_9)
 obtain ⟨T1156, X1156, e1156, st1156⟩ := getF X1155 hx hZ hown (host := "") (Or.inl (tw hw 64 rfl)) Via.refl e1155 H6 (g := (mkF m 18 #[vR a1142, vR a1143, vI p1144, vI p1145] [(.ref a1142), (.int (p1144 <<< (p1145 &&& 31))), (.ref a1143), (.int (0 : Int32)), (.ref w1154)])) rfl rfl (hb hby d14_18)
 have vc1159 := H7
 obtain ⟨cl1159, Ar1159, q1159, S1159, N1159, Hh1159, G1159⟩ := vc1159
 obtain ⟨T1163, h1163, L1163, X1163, e1163, N1163, K1163, B1163, st1163⟩ := cpB X1156 hx hZ hown (tw hw 95 rfl) (tw hw 98 rfl) (tw hw 96 rfl) (tw hw 97 rfl) e1156 H7 H8 rfl (by decide) H9 (by decide) (by decide) H10 N1151 H11 (g0 := (mkF m 22 #[vR a1142, vR a1143, vI p1144, vI p1145] [(.int (12 : Int32)), (.int (p1144 <<< (p1145 &&& 31))), (.ref a1143), (.int (0 : Int32)), (.ref w1154)])) rfl (by rw [hml]; rfl) rfl (hb hby d14_22) (by decide) (W := 0) (own_w _) (by decide)
 have KC1163 := KSx.trans (KSx.refl h0 [] [a1143]) K1163 ks0 (allS (Or.inl (List.mem_of_getElem? (i := 0) rfl)) all0)
 obtain ⟨fs, hr, hrun, hended, hW, hsame⟩ := X1163.leave (v := none) (fun _ => rfl)
 refine ⟨_, _, pre0 _ ?_, hrun, hended, _, _, rfl, ?_, ⟨_, rfl⟩, hW, hsame.mono (by decide) (by decide)⟩
 · show SG p e below s₁ (mkF m 0 #[vR a1142, vR a1143, vI p1144, vI p1145] []) _
   refine XS.aloadN X0.here hx rfl (hb hby d14_0) rfl rfl ?_
   show SG p e below s₁ (mkF m 1 #[vR a1142, vR a1143, vI p1144, vI p1145] [(.ref a1142)]) _
   refine st1151.trans ?_
   show SG p e below T1151 (mkF m 4 #[vR a1142, vR a1143, vI p1144, vI p1145] [(.int w1153)]) _
   refine XS.iloadN X1151.here hx rfl (hb hby d14_4) rfl ?_
   show SG p e below T1151 (mkF m 5 #[vR a1142, vR a1143, vI p1144, vI p1145] [(.int p1145), (.int w1153)]) _
   refine XS.icmpNo X1151.here hx rfl (hb hby d14_5) rfl (teq H5).2 ?_
   show SG p e below T1151 (mkF m 8 #[vR a1142, vR a1143, vI p1144, vI p1145] []) _
   refine XS.aloadN X1151.here hx rfl (hb hby d14_8) rfl rfl ?_
   show SG p e below T1151 (mkF m 9 #[vR a1142, vR a1143, vI p1144, vI p1145] [(.ref a1142)]) _
   refine st1155 _ ?_
   show SG p e below T1155 (mkF m 12 #[vR a1142, vR a1143, vI p1144, vI p1145] [(.ref w1154)]) _
   refine XS.iconst X1155.here hx rfl (hb hby d14_12) ?_
   show SG p e below T1155 (mkF m 13 #[vR a1142, vR a1143, vI p1144, vI p1145] [(.int (0 : Int32)), (.ref w1154)]) _
   refine XS.aloadN X1155.here hx rfl (hb hby d14_13) rfl rfl ?_
   show SG p e below T1155 (mkF m 14 #[vR a1142, vR a1143, vI p1144, vI p1145] [(.ref a1143), (.int (0 : Int32)), (.ref w1154)]) _
   refine XS.iloadN X1155.here hx rfl (hb hby d14_14) rfl ?_
   show SG p e below T1155 (mkF m 15 #[vR a1142, vR a1143, vI p1144, vI p1145] [(.int p1144), (.ref a1143), (.int (0 : Int32)), (.ref w1154)]) _
   refine XS.iloadN X1155.here hx rfl (hb hby d14_15) rfl ?_
   show SG p e below T1155 (mkF m 16 #[vR a1142, vR a1143, vI p1144, vI p1145] [(.int p1145), (.int p1144), (.ref a1143), (.int (0 : Int32)), (.ref w1154)]) _
   refine XS.ishl X1155.here hx rfl (hb hby d14_16) rfl ?_
   show SG p e below T1155 (mkF m 17 #[vR a1142, vR a1143, vI p1144, vI p1145] [(.int (p1144 <<< (p1145 &&& 31))), (.ref a1143), (.int (0 : Int32)), (.ref w1154)]) _
   refine XS.aloadN X1155.here hx rfl (hb hby d14_17) rfl rfl ?_
   show SG p e below T1155 (mkF m 18 #[vR a1142, vR a1143, vI p1144, vI p1145] [(.ref a1142), (.int (p1144 <<< (p1145 &&& 31))), (.ref a1143), (.int (0 : Int32)), (.ref w1154)]) _
   refine st1156 _ ?_
   show SG p e below T1156 (mkF m 21 #[vR a1142, vR a1143, vI p1144, vI p1145] [(.ref w1154), (.int (p1144 <<< (p1145 &&& 31))), (.ref a1143), (.int (0 : Int32)), (.ref w1154)]) _
   refine X1156.arraylength hx (by rw [e1156]; exact Ar1159.1) (State.isArrayOf_alike hZ.alike Ar1159.2.1) (g := (mkF m 21 #[vR a1142, vR a1143, vI p1144, vI p1145] [(.ref w1154), (.int (p1144 <<< (p1145 &&& 31))), (.ref a1143), (.int (0 : Int32)), (.ref w1154)])) rfl rfl (hb hby d14_21) _ ?_
   rw [len_of S1159 N1159]
   show SG p e below T1156 (mkF m 22 #[vR a1142, vR a1143, vI p1144, vI p1145] [(.int (12 : Int32)), (.int (p1144 <<< (p1145 &&& 31))), (.ref a1143), (.int (0 : Int32)), (.ref w1154)]) _
   refine st1163 _ ?_
   show SG p e below T1163 (mkF m 25 #[vR a1142, vR a1143, vI p1144, vI p1145] []) _
   refine XS.goto X1163.here hx rfl (pc0 := 25) (pc' := 43) rfl (hb hby d14_25) (by decide) (by decide) ?_
   show SG p e below T1163 (mkF m 43 #[vR a1142, vR a1143, vI p1144, vI p1145] []) _
   exact X1163.returnOut hx Bd.returns (hb hby d14_43) hr
 · show Qr14_2 Z a1142 a1143 p1144 p1145 w1152 w1153 w1154 k1157 u1158 k1160 u1161 p1162 h0 n0 _ T1163.heap _
   rw [e1163]
   exact ⟨N1163, rfl, KC1163, B1163⟩
def Qr12_2 (Z : State) (a1119 : Addr) (p1120 : Int32) (a1121 : Addr) (w1136 : Int32) (w1137 : Int32) (w1138 : Int32) (w1139 : Addr) (w1165 : Addr) (k1166 : ClassId) (u1167 : Nat → Int32) (k1168 : ClassId) (u1169 : Nat → Int32) (p1170 : Int32) (h0 : Heap) (n0 : Nat) (v : Option Value) (h : Heap) (L : List Loc) : Prop := Fr n0 L ∧ v = none ∧ KSx h0 h [] [w1139] ∧ BA Z h w1139 k1168 .byte p1170 (fun i => if ((p1120 <<< (w1137 &&& 31))).toNatClampNeg ≤ i ∧ i < ((p1120 <<< (w1137 &&& 31))).toNatClampNeg + ((12 : Int32)).toNatClampNeg then u1167 (((0 : Int32)).toNatClampNeg + (i - ((p1120 <<< (w1137 &&& 31))).toNatClampNeg)) else u1169 i)
theorem r12_2 (l : Launch) (Z : State) (a0 : Array Value) (hw : ∀ d ∈ tables_1, d.before a0 Z = true) (a1119 : Addr) (p1120 : Int32) (a1121 : Addr) (w1136 : Int32) (w1137 : Int32) (w1138 : Int32) (w1139 : Addr) (w1165 : Addr) (k1166 : ClassId) (u1167 : Nat → Int32) (k1168 : ClassId) (u1169 : Nat → Int32) (p1170 : Int32) (h0 : Heap) (n0 : Nat) (Z0 : n0 ≤ h0.size) (H0 : Sta Z h0 "java/lang/String" "COMPACT_STRINGS" "Z" (.int w1136)) (H1 : ¬ (w1136 = (0 : Int32))) (H2 : Fld Z h0 a1119 "java/lang/AbstractStringBuilder" "coder" "B" (.int w1137)) (H3 : Fld Z h0 a1121 "java/lang/String" "coder" "B" (.int w1138)) (H4 : nar .byte w1138 = w1138) (H5 : Exa Z h0 a1121 "java/lang/String") (H6 : w1137 = w1138) (H7 : Exa Z h0 a1119 "java/lang/StringBuilder") (H8 : Fld Z h0 a1119 "java/lang/AbstractStringBuilder" "value" "[B" (.ref w1139)) (H9 : w1138 = w1137) (H10 : Fld Z h0 a1121 "java/lang/String" "value" "[B" (.ref w1165)) (H11 : BA Z h0 w1165 k1166 .byte (12 : Int32) u1167) (H12 : BA Z h0 w1139 k1168 .byte p1170 u1169) (H13 : ¬ ((p1120 <<< (w1137 &&& 31)) < (0 : Int32))) (H14 : ((p1120 <<< (w1137 &&& 31))).toNatClampNeg + ((12 : Int32)).toNatClampNeg ≤ (p1170).toNatClampNeg) (H15 : n0 ≤ w1139) :
   OMet l Z mN38 jdk_68_method_73_code 3 none [] ({ frames := 2, cells := 0, slots := 0, locals := 33 } : Room) h0 #[(.ref a1119), (.int p1120), (.ref a1121)] (Qr12_2 Z a1119 p1120 a1121 w1136 w1137 w1138 w1139 w1165 k1166 u1167 k1168 u1169 p1170 h0 n0) := by
 refine MetFree.of_bodySF (plainFor_of_name pn_java_lang_AbstractStringBuilder) hisR ?_
 intro p e s m args below meth c s₁ Bd hml0 hP hK
 obtain ⟨rfl, hZ, hh⟩ := hP
 have hx := Bd.exec
 have hby := Bd.bytes
 have hml : c.maxLocals = 3 := hml0
 have hown : s.vm.findClass "java/lang/AbstractStringBuilder" = some m.cls := findClass_of_methodNamed Bd.named
 have hnm := (name_of_methodNamed Bd.named Bd.method).1
 have X0 : Stand p l e ({ frames := 2, cells := 0, slots := 0, locals := 33 } : Room) s m #[(.ref a1119), (.int p1120), (.ref a1121)] below meth c s₁ [] 0 0 := Stand.of_body Bd
 have e0 : s₁.heap = h0 := by rw [← hh, Bd.state]; rfl
 have N0 := Fr.nil n0
 have pre0 : ∀ t, Steps p.tables e below (s₁.setTop (mkF m 0 #[vR a1119, vI p1120, vR a1121] [])) t → Steps p.tables e below (s₁.setTop (entryFrame m #[(.ref a1119), (.int p1120), (.ref a1121)] 3)) t := fun t k => castTop (ef_12_vvv m a1119 p1120 a1121) k
 obtain ⟨cq1135, kq1135, q1135a, q1135b, q1135c⟩ := isOf hZ e0 H7
 obtain ⟨_, _, ⟨T1135, L1135, k1135, n1135⟩, -, X1135, ⟨Lc1135, hQ1135, l1135, y1135, z1135⟩, st1135⟩ := X0.virtualBack hx (y := mN36) (z := mN36) hown (mvT hZ (tw hw 84 rfl)) (own_decl (mvT hZ (tw hw 85 rfl)) (mvT hZ (tw hw 88 rfl))) (notFace_of_selects (args := #[]) (mvT hZ (tw hw 87 rfl))) (mvT hZ (tw hw 87 rfl)) (mvT hZ (tw hw 85 rfl)) (by decide) (backOf (W := 0) (r13_1 l Z a0 hw a1119 a1121 w1136 w1137 w1138 h0 n0 Z0 H0 H1 H2 H3 H4 H5 H6) hZ (tw hw 88 rfl) (tw hw 33 rfl) (by decide) (by decide)) q1135a q1135c (g := (mkF m 2 #[vR a1119, vI p1120, vR a1121] [(.ref a1121), (.ref a1119)])) rfl (by rw [hml]; rfl) (Steps.refl _) (argsL := [(.ref a1121)]) (rest := []) (lenOf pd_24 rfl) rfl (own_w _) (hb hby d12_2) (fun _ _ => ⟨rfl, e0, (by decide : 0 + 0 ≤ _), (by decide : 0 + 0 ≤ _)⟩)
 dsimp only [Pt.U, Pt.locs, Pt.cells, Pt.slots] at X1135 l1135 y1135 z1135 st1135 hQ1135
 replace X1135 := own_mvX X1135 (a := 0) (b := 0) y1135 z1135
 obtain ⟨rfl, N1135q, e1135⟩ := hQ1135
 have N1135 := own_mvN l1135 N0 N1135q
 obtain ⟨T1140, X1140, e1140, st1140⟩ := getF X1135 hx hZ hown (host := "") (Or.inl (tw hw 39 rfl)) Via.refl e1135 H8 (g := (mkF m 7 #[vR a1119, vI p1120, vR a1121] [(.ref a1119), (.ref a1121)])) rfl rfl (hb hby d12_7)
 obtain ⟨T1141, X1141, e1141, st1141⟩ := getF X1140 hx hZ hown (host := "") (Or.inl (tw hw 41 rfl)) Via.refl e1140 H2 (g := (mkF m 12 #[vR a1119, vI p1120, vR a1121] [(.ref a1119), (.int p1120), (.ref w1139), (.ref a1121)])) rfl rfl (hb hby d12_12)
 obtain ⟨cq1164, kq1164, q1164a, q1164b, q1164c⟩ := isOf hZ e1141 H5
 obtain ⟨_, _, ⟨T1164, L1164, k1164, n1164⟩, -, X1164, ⟨Lc1164, hQ1164, l1164, y1164, z1164⟩, st1164⟩ := X1141.virtualBack hx (y := mN37) (z := mN37) hown (mvT hZ (tw hw 90 rfl)) (mvT hZ (tw hw 91 rfl)) (notFace_of_selects (args := #[]) (mvT hZ (tw hw 93 rfl))) (mvT hZ (tw hw 93 rfl)) (mvT hZ (tw hw 92 rfl)) (by decide) (backOf (W := 0) (r14_2 l Z a0 hw a1121 w1139 p1120 w1137 w1136 w1138 w1165 k1166 u1167 k1168 u1169 p1170 h0 n0 Z0 H0 H1 H3 H4 H5 H9 H10 H11 H12 H13 H14 H15) hZ (tw hw 94 rfl) (tw hw 37 rfl) (by decide) (by decide)) q1164a q1164c (g := (mkF m 15 #[vR a1119, vI p1120, vR a1121] [(.int w1137), (.int p1120), (.ref w1139), (.ref a1121)])) rfl (by rw [hml]; rfl) (Steps.refl _) (argsL := [(.ref w1139), (.int p1120), (.int w1137)]) (rest := []) (lenOf pd_25 rfl) rfl (own_w _) (hb hby d12_15) (fun _ _ => ⟨rfl, e1141, (by decide : 0 + 0 ≤ _), (by decide : 0 + 0 ≤ _)⟩)
 dsimp only [Pt.U, Pt.locs, Pt.cells, Pt.slots] at X1164 l1164 y1164 z1164 st1164 hQ1164
 replace X1164 := own_mvX X1164 (a := 0) (b := 0) y1164 z1164
 obtain ⟨N1164q, rfl, K1164, o1164_0⟩ := hQ1164
 have N1164 := own_mvN l1164 N1135 N1164q
 have KC1164 := KSx.trans (KSx.refl h0 [] [w1139]) K1164 ks0 (allS (Or.inl (List.mem_of_getElem? (i := 0) rfl)) all0)
 obtain ⟨fs, hr, hrun, hended, hW, hsame⟩ := X1164.leave (v := none) (fun _ => rfl)
 refine ⟨_, _, pre0 _ ?_, hrun, hended, _, _, rfl, ?_, ⟨_, rfl⟩, hW, hsame.mono (by decide) (by decide)⟩
 · show SG p e below s₁ (mkF m 0 #[vR a1119, vI p1120, vR a1121] []) _
   refine XS.aloadN X0.here hx rfl (hb hby d12_0) rfl rfl ?_
   show SG p e below s₁ (mkF m 1 #[vR a1119, vI p1120, vR a1121] [(.ref a1119)]) _
   refine XS.aloadN X0.here hx rfl (hb hby d12_1) rfl rfl ?_
   show SG p e below s₁ (mkF m 2 #[vR a1119, vI p1120, vR a1121] [(.ref a1121), (.ref a1119)]) _
   refine st1135.trans ?_
   show SG p e below T1135 (mkF m 5 #[vR a1119, vI p1120, vR a1121] []) _
   refine XS.aloadN X1135.here hx rfl (hb hby d12_5) rfl rfl ?_
   show SG p e below T1135 (mkF m 6 #[vR a1119, vI p1120, vR a1121] [(.ref a1121)]) _
   refine XS.aloadN X1135.here hx rfl (hb hby d12_6) rfl rfl ?_
   show SG p e below T1135 (mkF m 7 #[vR a1119, vI p1120, vR a1121] [(.ref a1119), (.ref a1121)]) _
   refine st1140 _ ?_
   show SG p e below T1140 (mkF m 10 #[vR a1119, vI p1120, vR a1121] [(.ref w1139), (.ref a1121)]) _
   refine XS.iloadN X1140.here hx rfl (hb hby d12_10) rfl ?_
   show SG p e below T1140 (mkF m 11 #[vR a1119, vI p1120, vR a1121] [(.int p1120), (.ref w1139), (.ref a1121)]) _
   refine XS.aloadN X1140.here hx rfl (hb hby d12_11) rfl rfl ?_
   show SG p e below T1140 (mkF m 12 #[vR a1119, vI p1120, vR a1121] [(.ref a1119), (.int p1120), (.ref w1139), (.ref a1121)]) _
   refine st1141 _ ?_
   show SG p e below T1141 (mkF m 15 #[vR a1119, vI p1120, vR a1121] [(.int w1137), (.int p1120), (.ref w1139), (.ref a1121)]) _
   refine st1164.trans ?_
   show SG p e below T1164 (mkF m 18 #[vR a1119, vI p1120, vR a1121] []) _
   exact X1164.returnOut hx Bd.returns (hb hby d12_18) hr
 · show Qr12_2 Z a1119 p1120 a1121 w1136 w1137 w1138 w1139 w1165 k1166 u1167 k1168 u1169 p1170 h0 n0 _ T1164.heap _
   exact ⟨N1164, rfl, KC1164, o1164_0⟩
def Qr8_2 (Z : State) (a1078 : Addr) (a1079 : Addr) (w1095 : Addr) (k1096 : ClassId) (u1097 : Nat → Int32) (w1098 : Int32) (w1099 : Int32) (w1100 : Int32) (w1113 : Addr) (k1114 : ClassId) (u1115 : Nat → Int32) (p1116 : Int32) (w1117 : Int32) (h0 : Heap) (n0 : Nat) (v : Option Value) (h : Heap) (L : List Loc) : Prop := Fr n0 L ∧ v = some (.ref a1078) ∧ KSx h0 h [(a1078, Jvm.RoadKit.slotOf Z "java/lang/AbstractStringBuilder" "count" "I")] [w1113] ∧ Fld Z h a1078 "java/lang/AbstractStringBuilder" "count" "I" (.int (w1100 + ((12 : Int32) >>> (w1099 &&& 31)))) ∧ BA Z h w1113 k1114 .byte p1116 (fun i => if ((w1100 <<< (w1117 &&& 31))).toNatClampNeg ≤ i ∧ i < ((w1100 <<< (w1117 &&& 31))).toNatClampNeg + ((12 : Int32)).toNatClampNeg then u1097 (((0 : Int32)).toNatClampNeg + (i - ((w1100 <<< (w1117 &&& 31))).toNatClampNeg)) else u1115 i)
theorem r8_2 (l : Launch) (Z : State) (a0 : Array Value) (hw : ∀ d ∈ tables_1, d.before a0 Z = true) (a1078 : Addr) (a1079 : Addr) (w1095 : Addr) (k1096 : ClassId) (u1097 : Nat → Int32) (w1098 : Int32) (w1099 : Int32) (w1100 : Int32) (w1113 : Addr) (k1114 : ClassId) (u1115 : Nat → Int32) (p1116 : Int32) (w1117 : Int32) (h0 : Heap) (n0 : Nat) (Z0 : n0 ≤ h0.size) (H0 : Fld Z h0 a1079 "java/lang/String" "value" "[B" (.ref w1095)) (H1 : BA Z h0 w1095 k1096 .byte (12 : Int32) u1097) (H2 : Sta Z h0 "java/lang/String" "COMPACT_STRINGS" "Z" (.int w1098)) (H3 : ¬ (w1098 = (0 : Int32))) (H4 : Fld Z h0 a1079 "java/lang/String" "coder" "B" (.int w1099)) (H5 : nar .byte w1099 = w1099) (H6 : Exa Z h0 a1079 "java/lang/String") (H7 : Fld Z h0 a1078 "java/lang/AbstractStringBuilder" "count" "I" (.int w1100)) (H8 : Fld Z h0 a1078 "java/lang/AbstractStringBuilder" "value" "[B" (.ref w1113)) (H9 : BA Z h0 w1113 k1114 .byte p1116 u1115) (H10 : Fld Z h0 a1078 "java/lang/AbstractStringBuilder" "coder" "B" (.int w1117)) (H11 : ¬ ((0 : Int32) < ((w1100 + ((12 : Int32) >>> (w1099 &&& 31))) - (p1116 >>> (w1117 &&& 31))))) (H12 : Exa Z h0 a1078 "java/lang/StringBuilder") (H13 : w1117 = w1099) (H14 : w1099 = w1117) (H15 : ¬ ((w1100 <<< (w1117 &&& 31)) < (0 : Int32))) (H16 : ((w1100 <<< (w1117 &&& 31))).toNatClampNeg + ((12 : Int32)).toNatClampNeg ≤ (p1116).toNatClampNeg) (H17 : n0 ≤ w1113) (H18 : a1078 ≠ w1113) (H19 : n0 ≤ a1078) (H20 : w1113 ≠ a1078) :
   OMet l Z mN39 jdk_68_method_22_code 3 (some (.object "java/lang/AbstractStringBuilder")) [] ({ frames := 3, cells := 0, slots := 0, locals := 47 } : Room) h0 #[(.ref a1078), (.ref a1079)] (Qr8_2 Z a1078 a1079 w1095 k1096 u1097 w1098 w1099 w1100 w1113 k1114 u1115 p1116 w1117 h0 n0) := by
 refine MetFree.of_bodySF (plainFor_of_name pn_java_lang_AbstractStringBuilder) hisR ?_
 intro p e s m args below meth c s₁ Bd hml0 hP hK
 obtain ⟨rfl, hZ, hh⟩ := hP
 have hx := Bd.exec
 have hby := Bd.bytes
 have hml : c.maxLocals = 3 := hml0
 have hown : s.vm.findClass "java/lang/AbstractStringBuilder" = some m.cls := findClass_of_methodNamed Bd.named
 have hnm := (name_of_methodNamed Bd.named Bd.method).1
 have X0 : Stand p l e ({ frames := 3, cells := 0, slots := 0, locals := 47 } : Room) s m #[(.ref a1078), (.ref a1079)] below meth c s₁ [] 0 0 := Stand.of_body Bd
 have e0 : s₁.heap = h0 := by rw [← hh, Bd.state]; rfl
 have N0 := Fr.nil n0
 have pre0 : ∀ t, Steps p.tables e below (s₁.setTop (mkF m 0 #[vR a1078, vR a1079, .unset] [])) t → Steps p.tables e below (s₁.setTop (entryFrame m #[(.ref a1078), (.ref a1079)] 3)) t := fun t k => castTop (ef_8_vv m a1078 a1079) k
 obtain ⟨cq1094, kq1094, q1094a, q1094b, q1094c⟩ := isOf hZ e0 H6
 obtain ⟨_, _, ⟨T1094, L1094, k1094, n1094⟩, -, X1094, ⟨Lc1094, hQ1094, l1094, y1094, z1094⟩, st1094⟩ := X0.virtualBack hx (y := mN11) (z := mN11) hown (mvT hZ (tw hw 59 rfl)) (mvT hZ (tw hw 60 rfl)) (notFace_of_selects (args := #[]) (mvT hZ (tw hw 62 rfl))) (mvT hZ (tw hw 62 rfl)) (mvT hZ (tw hw 61 rfl)) (by decide) (backOf (W := 0) (r9_3 l Z a0 hw a1079 w1095 k1096 u1097 w1098 w1099 h0 n0 Z0 H0 H1 H2 H3 H4 H5 H6) hZ (tw hw 63 rfl) (tw hw 37 rfl) (by decide) (by decide)) q1094a q1094c (g := (mkF m 10 #[vR a1078, vR a1079, vU] [(.ref a1079)])) rfl (by rw [hml]; rfl) (Steps.refl _) (argsL := []) (rest := []) (lenOf pd_7 rfl) rfl (own_w _) (hb hby d8_10) (fun _ _ => ⟨rfl, e0, (by decide : 0 + 0 ≤ _), (by decide : 0 + 0 ≤ _)⟩)
 dsimp only [Pt.U, Pt.locs, Pt.cells, Pt.slots] at X1094 l1094 y1094 z1094 st1094 hQ1094
 replace X1094 := own_mvX X1094 (a := 0) (b := 0) y1094 z1094
 obtain ⟨rfl, N1094q, e1094⟩ := hQ1094
 have N1094 := own_mvN l1094 N0 N1094q
 obtain ⟨T1101, X1101, e1101, st1101⟩ := getF X1094 hx hZ hown (host := "") (Or.inl (tw hw 72 rfl)) Via.refl e1094 H7 (g := (mkF m 16 #[vR a1078, vR a1079, vI ((12 : Int32) >>> (w1099 &&& 31))] [(.ref a1078), (.ref a1078)])) rfl rfl (hb hby d8_16)
 obtain ⟨cq1112, kq1112, q1112a, q1112b, q1112c⟩ := isOf hZ e1101 H12
 obtain ⟨_, _, ⟨T1112, L1112, k1112, n1112⟩, -, X1112, ⟨Lc1112, hQ1112, l1112, y1112, z1112⟩, st1112⟩ := X1101.virtualBack hx (y := mN16) (z := mN16) hown (mvT hZ (tw hw 74 rfl)) (own_decl (mvT hZ (tw hw 75 rfl)) (mvT hZ (tw hw 78 rfl))) (notFace_of_selects (args := #[]) (mvT hZ (tw hw 77 rfl))) (mvT hZ (tw hw 77 rfl)) (mvT hZ (tw hw 75 rfl)) (by decide) (backOf (W := 0) (r11_3 l Z a0 hw a1078 (w1100 + ((12 : Int32) >>> (w1099 &&& 31))) w1113 k1114 u1115 p1116 w1117 h0 n0 Z0 H8 H9 H10 H11) hZ (tw hw 78 rfl) (tw hw 33 rfl) (by decide) (by decide)) q1112a q1112c (g := (mkF m 21 #[vR a1078, vR a1079, vI ((12 : Int32) >>> (w1099 &&& 31))] [(.int (w1100 + ((12 : Int32) >>> (w1099 &&& 31)))), (.ref a1078)])) rfl (by rw [hml]; rfl) (Steps.refl _) (argsL := [(.int (w1100 + ((12 : Int32) >>> (w1099 &&& 31))))]) (rest := []) (lenOf pd_17 rfl) rfl (own_w _) (hb hby d8_21) (fun _ _ => ⟨rfl, e1101, (by decide : 0 + 0 ≤ _), (by decide : 0 + 0 ≤ _)⟩)
 dsimp only [Pt.U, Pt.locs, Pt.cells, Pt.slots] at X1112 l1112 y1112 z1112 st1112 hQ1112
 replace X1112 := own_mvX X1112 (a := 0) (b := 0) y1112 z1112
 obtain ⟨rfl, N1112q, e1112⟩ := hQ1112
 have N1112 := own_mvN l1112 N1094 N1112q
 obtain ⟨T1118, X1118, e1118, st1118⟩ := getF X1112 hx hZ hown (host := "") (Or.inl (tw hw 72 rfl)) Via.refl e1112 H7 (g := (mkF m 26 #[vR a1078, vR a1079, vI ((12 : Int32) >>> (w1099 &&& 31))] [(.ref a1078), (.ref a1078)])) rfl rfl (hb hby d8_26)
 obtain ⟨cq1171, kq1171, q1171a, q1171b, q1171c⟩ := isOf hZ e1118 H12
 obtain ⟨_, _, ⟨T1171, L1171, k1171, n1171⟩, -, X1171, ⟨Lc1171, hQ1171, l1171, y1171, z1171⟩, st1171⟩ := X1118.virtualBack hx (y := mN38) (z := mN38) hown (mvT hZ (tw hw 79 rfl)) (own_decl (mvT hZ (tw hw 80 rfl)) (mvT hZ (tw hw 83 rfl))) (notFace_of_selects (args := #[]) (mvT hZ (tw hw 82 rfl))) (mvT hZ (tw hw 82 rfl)) (mvT hZ (tw hw 80 rfl)) (by decide) (backOf (W := 0) (r12_2 l Z a0 hw a1078 w1100 a1079 w1098 w1117 w1099 w1113 w1095 k1096 u1097 k1114 u1115 p1116 h0 n0 Z0 H2 H3 H10 H4 H5 H6 H13 H12 H8 H14 H0 H1 H9 H15 H16 H17) hZ (tw hw 83 rfl) (tw hw 33 rfl) (by decide) (by decide)) q1171a q1171c (g := (mkF m 30 #[vR a1078, vR a1079, vI ((12 : Int32) >>> (w1099 &&& 31))] [(.ref a1079), (.int w1100), (.ref a1078)])) rfl (by rw [hml]; rfl) (Steps.refl _) (argsL := [(.int w1100), (.ref a1079)]) (rest := []) (lenOf pd_26 rfl) rfl (own_w _) (hb hby d8_30) (fun _ _ => ⟨rfl, e1118, (by decide : 0 + 0 ≤ _), (by decide : 0 + 0 ≤ _)⟩)
 dsimp only [Pt.U, Pt.locs, Pt.cells, Pt.slots] at X1171 l1171 y1171 z1171 st1171 hQ1171
 replace X1171 := own_mvX X1171 (a := 0) (b := 0) y1171 z1171
 obtain ⟨N1171q, rfl, K1171, o1171_0⟩ := hQ1171
 have N1171 := own_mvN l1171 N1112 N1171q
 have KC1171 := KSx.trans (KSx.refl h0 [(a1078, Jvm.RoadKit.slotOf Z "java/lang/AbstractStringBuilder" "count" "I")] [w1113]) K1171 ks0 (allS (Or.inl (List.mem_of_getElem? (i := 0) rfl)) all0)
 have f1172 := (H7.ks K1171 ks0 (allS H18 all0))
 obtain ⟨T1173, X1173, e1173, st1173⟩ := getF X1171 hx hZ hown (host := "") (Or.inl (tw hw 72 rfl)) Via.refl rfl f1172 (g := (mkF m 35 #[vR a1078, vR a1079, vI ((12 : Int32) >>> (w1099 &&& 31))] [(.ref a1078), (.ref a1078)])) rfl rfl (hb hby d8_35)
 have f1174 := (H12.ks K1171)
 obtain ⟨T1175, h1175, X1175, e1175, W1175, st1175⟩ := putF X1173 hx hZ hown (host := "") (Or.inl (tw hw 72 rfl)) Via.refl e1173 f1172 f1174 (Or.inl (tw hw 73 rfl)) (tw hw 24 rfl) (ty := .int) (by decide) rfl rfl (g := (mkF m 40 #[vR a1078, vR a1079, vI ((12 : Int32) >>> (w1099 &&& 31))] [(.int (w1100 + ((12 : Int32) >>> (w1099 &&& 31)))), (.ref a1078)])) rfl rfl (hb hby d8_40)
 have Fw1175 := Fld.same W1175 f1172
 have KC1175 := KSx.wr KC1171 W1175 (Or.inl (List.mem_of_getElem? (i := 0) rfl))
 have N1175 := Fr.snoc X1175 N1171 H19
 have f1176 := (o1171_0.other W1175 H20)
 obtain ⟨fs, hr, hrun, hended, hW, hsame⟩ := X1175.leave (v := some (.ref a1078)) (fun h => by rw [Bd.returns] at h; cases h)
 refine ⟨_, _, pre0 _ ?_, hrun, hended, _, _, rfl, ?_, ⟨_, rfl⟩, hW, hsame.mono (by decide) (by decide)⟩
 · show SG p e below s₁ (mkF m 0 #[vR a1078, vR a1079, vU] []) _
   refine XS.aloadN X0.here hx rfl (hb hby d8_0) rfl rfl ?_
   show SG p e below s₁ (mkF m 1 #[vR a1078, vR a1079, vU] [(.ref a1079)]) _
   refine XS.ifnonnullYes X0.here hx rfl (pc0 := 1) (pc' := 9) rfl (hb hby d8_1) rfl (by decide) (by decide) ?_
   show SG p e below s₁ (mkF m 9 #[vR a1078, vR a1079, vU] []) _
   refine XS.aloadN X0.here hx rfl (hb hby d8_9) rfl rfl ?_
   show SG p e below s₁ (mkF m 10 #[vR a1078, vR a1079, vU] [(.ref a1079)]) _
   refine st1094.trans ?_
   show SG p e below T1094 (mkF m 13 #[vR a1078, vR a1079, vU] [(.int ((12 : Int32) >>> (w1099 &&& 31)))]) _
   refine XS.istoreN X1094.here hx rfl (hb hby d8_13) rfl (l' := #[vR a1078, vR a1079, vI ((12 : Int32) >>> (w1099 &&& 31))]) rfl ?_
   show SG p e below T1094 (mkF m 14 #[vR a1078, vR a1079, vI ((12 : Int32) >>> (w1099 &&& 31))] []) _
   refine XS.aloadN X1094.here hx rfl (hb hby d8_14) rfl rfl ?_
   show SG p e below T1094 (mkF m 15 #[vR a1078, vR a1079, vI ((12 : Int32) >>> (w1099 &&& 31))] [(.ref a1078)]) _
   refine XS.aloadN X1094.here hx rfl (hb hby d8_15) rfl rfl ?_
   show SG p e below T1094 (mkF m 16 #[vR a1078, vR a1079, vI ((12 : Int32) >>> (w1099 &&& 31))] [(.ref a1078), (.ref a1078)]) _
   refine st1101 _ ?_
   show SG p e below T1101 (mkF m 19 #[vR a1078, vR a1079, vI ((12 : Int32) >>> (w1099 &&& 31))] [(.int w1100), (.ref a1078)]) _
   refine XS.iloadN X1101.here hx rfl (hb hby d8_19) rfl ?_
   show SG p e below T1101 (mkF m 20 #[vR a1078, vR a1079, vI ((12 : Int32) >>> (w1099 &&& 31))] [(.int ((12 : Int32) >>> (w1099 &&& 31))), (.int w1100), (.ref a1078)]) _
   refine XS.iadd X1101.here hx rfl (hb hby d8_20) rfl ?_
   show SG p e below T1101 (mkF m 21 #[vR a1078, vR a1079, vI ((12 : Int32) >>> (w1099 &&& 31))] [(.int (w1100 + ((12 : Int32) >>> (w1099 &&& 31)))), (.ref a1078)]) _
   refine st1112.trans ?_
   show SG p e below T1112 (mkF m 24 #[vR a1078, vR a1079, vI ((12 : Int32) >>> (w1099 &&& 31))] []) _
   refine XS.aloadN X1112.here hx rfl (hb hby d8_24) rfl rfl ?_
   show SG p e below T1112 (mkF m 25 #[vR a1078, vR a1079, vI ((12 : Int32) >>> (w1099 &&& 31))] [(.ref a1078)]) _
   refine XS.aloadN X1112.here hx rfl (hb hby d8_25) rfl rfl ?_
   show SG p e below T1112 (mkF m 26 #[vR a1078, vR a1079, vI ((12 : Int32) >>> (w1099 &&& 31))] [(.ref a1078), (.ref a1078)]) _
   refine st1118 _ ?_
   show SG p e below T1118 (mkF m 29 #[vR a1078, vR a1079, vI ((12 : Int32) >>> (w1099 &&& 31))] [(.int w1100), (.ref a1078)]) _
   refine XS.aloadN X1118.here hx rfl (hb hby d8_29) rfl rfl ?_
   show SG p e below T1118 (mkF m 30 #[vR a1078, vR a1079, vI ((12 : Int32) >>> (w1099 &&& 31))] [(.ref a1079), (.int w1100), (.ref a1078)]) _
   refine st1171.trans ?_
   show SG p e below T1171 (mkF m 33 #[vR a1078, vR a1079, vI ((12 : Int32) >>> (w1099 &&& 31))] []) _
   refine XS.aloadN X1171.here hx rfl (hb hby d8_33) rfl rfl ?_
   show SG p e below T1171 (mkF m 34 #[vR a1078, vR a1079, vI ((12 : Int32) >>> (w1099 &&& 31))] [(.ref a1078)]) _
   refine XS.dup X1171.here hx rfl (hb hby d8_34) rfl rfl ?_
   show SG p e below T1171 (mkF m 35 #[vR a1078, vR a1079, vI ((12 : Int32) >>> (w1099 &&& 31))] [(.ref a1078), (.ref a1078)]) _
   refine st1173 _ ?_
   show SG p e below T1173 (mkF m 38 #[vR a1078, vR a1079, vI ((12 : Int32) >>> (w1099 &&& 31))] [(.int w1100), (.ref a1078)]) _
   refine XS.iloadN X1173.here hx rfl (hb hby d8_38) rfl ?_
   show SG p e below T1173 (mkF m 39 #[vR a1078, vR a1079, vI ((12 : Int32) >>> (w1099 &&& 31))] [(.int ((12 : Int32) >>> (w1099 &&& 31))), (.int w1100), (.ref a1078)]) _
   refine XS.iadd X1173.here hx rfl (hb hby d8_39) rfl ?_
   show SG p e below T1173 (mkF m 40 #[vR a1078, vR a1079, vI ((12 : Int32) >>> (w1099 &&& 31))] [(.int (w1100 + ((12 : Int32) >>> (w1099 &&& 31)))), (.ref a1078)]) _
   refine st1175 _ ?_
   show SG p e below T1175 (mkF m 43 #[vR a1078, vR a1079, vI ((12 : Int32) >>> (w1099 &&& 31))] []) _
   refine XS.aloadN X1175.here hx rfl (hb hby d8_43) rfl rfl ?_
   show SG p e below T1175 (mkF m 44 #[vR a1078, vR a1079, vI ((12 : Int32) >>> (w1099 &&& 31))] [(.ref a1078)]) _
   jvm_step X1175.here [X1175.here.top, hx, (hb hby d8_44), X1175.method', Bd.returns, Value.isRef, FieldType.isReference]
   first | (intro acts; rw [hr _ acts rfl rfl rfl]) | rw [hr _ _ rfl rfl rfl]
   exact Steps.refl _
 · show Qr8_2 Z a1078 a1079 w1095 k1096 u1097 w1098 w1099 w1100 w1113 k1114 u1115 p1116 w1117 h0 n0 _ T1175.heap _
   rw [e1175]
   exact ⟨N1175, rfl, KC1175, Fw1175, f1176⟩
def Qr7_2 (Z : State) (a1076 : Addr) (a1077 : Addr) (w1178 : Addr) (k1179 : ClassId) (u1180 : Nat → Int32) (w1181 : Int32) (w1182 : Int32) (w1183 : Int32) (w1184 : Addr) (k1185 : ClassId) (u1186 : Nat → Int32) (p1187 : Int32) (w1188 : Int32) (h0 : Heap) (n0 : Nat) (v : Option Value) (h : Heap) (L : List Loc) : Prop := Fr n0 L ∧ v = some (.ref a1076) ∧ KSx h0 h [(a1076, Jvm.RoadKit.slotOf Z "java/lang/AbstractStringBuilder" "count" "I")] [w1184] ∧ Fld Z h a1076 "java/lang/AbstractStringBuilder" "count" "I" (.int (w1183 + ((12 : Int32) >>> (w1182 &&& 31)))) ∧ BA Z h w1184 k1185 .byte p1187 (fun i => if ((w1183 <<< (w1188 &&& 31))).toNatClampNeg ≤ i ∧ i < ((w1183 <<< (w1188 &&& 31))).toNatClampNeg + ((12 : Int32)).toNatClampNeg then u1180 (((0 : Int32)).toNatClampNeg + (i - ((w1183 <<< (w1188 &&& 31))).toNatClampNeg)) else u1186 i)
theorem r7_2 (l : Launch) (Z : State) (a0 : Array Value) (hw : ∀ d ∈ tables_1, d.before a0 Z = true) (a1076 : Addr) (a1077 : Addr) (w1178 : Addr) (k1179 : ClassId) (u1180 : Nat → Int32) (w1181 : Int32) (w1182 : Int32) (w1183 : Int32) (w1184 : Addr) (k1185 : ClassId) (u1186 : Nat → Int32) (p1187 : Int32) (w1188 : Int32) (h0 : Heap) (n0 : Nat) (Z0 : n0 ≤ h0.size) (H0 : Fld Z h0 a1077 "java/lang/String" "value" "[B" (.ref w1178)) (H1 : BA Z h0 w1178 k1179 .byte (12 : Int32) u1180) (H2 : Sta Z h0 "java/lang/String" "COMPACT_STRINGS" "Z" (.int w1181)) (H3 : ¬ (w1181 = (0 : Int32))) (H4 : Fld Z h0 a1077 "java/lang/String" "coder" "B" (.int w1182)) (H5 : nar .byte w1182 = w1182) (H6 : Exa Z h0 a1077 "java/lang/String") (H7 : Fld Z h0 a1076 "java/lang/AbstractStringBuilder" "count" "I" (.int w1183)) (H8 : Fld Z h0 a1076 "java/lang/AbstractStringBuilder" "value" "[B" (.ref w1184)) (H9 : BA Z h0 w1184 k1185 .byte p1187 u1186) (H10 : Fld Z h0 a1076 "java/lang/AbstractStringBuilder" "coder" "B" (.int w1188)) (H11 : ¬ ((0 : Int32) < ((w1183 + ((12 : Int32) >>> (w1182 &&& 31))) - (p1187 >>> (w1188 &&& 31))))) (H12 : Exa Z h0 a1076 "java/lang/StringBuilder") (H13 : w1188 = w1182) (H14 : w1182 = w1188) (H15 : ¬ ((w1183 <<< (w1188 &&& 31)) < (0 : Int32))) (H16 : ((w1183 <<< (w1188 &&& 31))).toNatClampNeg + ((12 : Int32)).toNatClampNeg ≤ (p1187).toNatClampNeg) (H17 : n0 ≤ w1184) (H18 : a1076 ≠ w1184) (H19 : n0 ≤ a1076) (H20 : w1184 ≠ a1076) :
   OMet l Z mN40 jdk_67_method_7_code 2 (some (.object "java/lang/StringBuilder")) [] ({ frames := 4, cells := 0, slots := 0, locals := 61 } : Room) h0 #[(.ref a1076), (.ref a1077)] (Qr7_2 Z a1076 a1077 w1178 k1179 u1180 w1181 w1182 w1183 w1184 k1185 u1186 p1187 w1188 h0 n0) := by
 refine MetFree.of_bodySF (plainFor_of_name pn_java_lang_StringBuilder) hisR ?_
 intro p e s m args below meth c s₁ Bd hml0 hP hK
 obtain ⟨rfl, hZ, hh⟩ := hP
 have hx := Bd.exec
 have hby := Bd.bytes
 have hml : c.maxLocals = 2 := hml0
 have hown : s.vm.findClass "java/lang/StringBuilder" = some m.cls := findClass_of_methodNamed Bd.named
 have hnm := (name_of_methodNamed Bd.named Bd.method).1
 have X0 : Stand p l e ({ frames := 4, cells := 0, slots := 0, locals := 61 } : Room) s m #[(.ref a1076), (.ref a1077)] below meth c s₁ [] 0 0 := Stand.of_body Bd
 have e0 : s₁.heap = h0 := by rw [← hh, Bd.state]; rfl
 have N0 := Fr.nil n0
 have pre0 : ∀ t, Steps p.tables e below (s₁.setTop (mkF m 0 #[vR a1076, vR a1077] [])) t → Steps p.tables e below (s₁.setTop (entryFrame m #[(.ref a1076), (.ref a1077)] 2)) t := fun t k => castTop (ef_7_vv m a1076 a1077) k
 obtain ⟨_, _, ⟨T1177, L1177, k1177, n1177⟩, -, X1177, ⟨Lc1177, hQ1177, l1177, y1177, z1177⟩, st1177⟩ := superBack X0 hx hZ (y := mN39) hown (tw hw 54 rfl) (own_same (y := mN39) (by decide) (tw hw 55 rfl) (own_nf (args := a0) (w := mN16) rfl (tw hw 77 rfl))) (tw hw 55 rfl) (tw hw 56 rfl) (by decide) (backOf (W := 0) (r8_2 l Z a0 hw a1076 a1077 w1178 k1179 u1180 w1181 w1182 w1183 w1184 k1185 u1186 p1187 w1188 h0 n0 Z0 H0 H1 H2 H3 H4 H5 H6 H7 H8 H9 H10 H11 H12 H13 H14 H15 H16 H17 H18 H19 H20) hZ (tw hw 58 rfl) (tw hw 33 rfl) (by decide) (by decide)) e0 (Ins.self H12) (g := (mkF m 2 #[vR a1076, vR a1077] [(.ref a1077), (.ref a1076)])) rfl (by rw [hml]; rfl) (tw hw 58 rfl) (argsL := [(.ref a1077)]) (rest := []) (lenOf pd_27 rfl) rfl (own_w _) (hb hby d7_2) (fun _ _ => ⟨rfl, e0, (by decide : 0 + 0 ≤ _), (by decide : 0 + 0 ≤ _)⟩)
 dsimp only [Pt.U, Pt.locs, Pt.cells, Pt.slots] at X1177 l1177 y1177 z1177 st1177 hQ1177
 replace X1177 := own_mvX X1177 (a := 0) (b := 0) y1177 z1177
 obtain ⟨N1177q, rfl, K1177, o1177_0, o1177_1⟩ := hQ1177
 have N1177 := own_mvN l1177 N0 N1177q
 have KC1177 := KSx.trans (KSx.refl h0 [(a1076, Jvm.RoadKit.slotOf Z "java/lang/AbstractStringBuilder" "count" "I")] [w1184]) K1177 (ksS (Or.inl (List.mem_of_getElem? (i := 0) rfl)) ks0) (allS (Or.inl (List.mem_of_getElem? (i := 0) rfl)) all0)
 obtain ⟨fs, hr, hrun, hended, hW, hsame⟩ := X1177.leave (v := some (.ref a1076)) (fun h => by rw [Bd.returns] at h; cases h)
 refine ⟨_, _, pre0 _ ?_, hrun, hended, _, _, rfl, ?_, ⟨_, rfl⟩, hW, hsame.mono (by decide) (by decide)⟩
 · show SG p e below s₁ (mkF m 0 #[vR a1076, vR a1077] []) _
   refine XS.aloadN X0.here hx rfl (hb hby d7_0) rfl rfl ?_
   show SG p e below s₁ (mkF m 1 #[vR a1076, vR a1077] [(.ref a1076)]) _
   refine XS.aloadN X0.here hx rfl (hb hby d7_1) rfl rfl ?_
   show SG p e below s₁ (mkF m 2 #[vR a1076, vR a1077] [(.ref a1077), (.ref a1076)]) _
   refine st1177.trans ?_
   show SG p e below T1177 (mkF m 5 #[vR a1076, vR a1077] [(.ref a1076)]) _
   refine XS.pop X1177.here hx rfl (hb hby d7_5) rfl rfl ?_
   show SG p e below T1177 (mkF m 6 #[vR a1076, vR a1077] []) _
   refine XS.aloadN X1177.here hx rfl (hb hby d7_6) rfl rfl ?_
   show SG p e below T1177 (mkF m 7 #[vR a1076, vR a1077] [(.ref a1076)]) _
   jvm_step X1177.here [X1177.here.top, hx, (hb hby d7_7), X1177.method', Bd.returns, Value.isRef, FieldType.isReference]
   first | (intro acts; rw [hr _ acts rfl rfl rfl]) | rw [hr _ _ rfl rfl rfl]
   exact Steps.refl _
 · show Qr7_2 Z a1076 a1077 w1178 k1179 u1180 w1181 w1182 w1183 w1184 k1185 u1186 p1187 w1188 h0 n0 _ T1177.heap _
   exact ⟨N1177, rfl, KC1177, o1177_0, o1177_1⟩
theorem d4_34 : decode prog_2_method_2_code 34 = .ok (.aload_n 0, 1) := by decide +kernel
theorem d4_35 : decode prog_2_method_2_code 35 = .ok (.getfield 13, 3) := by decide +kernel
theorem d4_38 : decode prog_2_method_2_code 38 = .ok (.invokevirtual 25, 3) := by decide +kernel
theorem d4_41 : decode prog_2_method_2_code 41 = .ok (.invokevirtual 28, 3) := by decide +kernel
theorem d4_44 : decode prog_2_method_2_code 44 = .ok (.invokestatic 34, 3) := by decide +kernel
theorem d30_0 : decode jdk_40_method_38_code 0 = .ok (.new 96, 3) := by decide +kernel
theorem d30_3 : decode jdk_40_method_38_code 3 = .ok (.dup, 1) := by decide +kernel
theorem d30_4 : decode jdk_40_method_38_code 4 = .ok (.aload_n 0, 1) := by decide +kernel
theorem d30_5 : decode jdk_40_method_38_code 5 = .ok (.aload_n 1, 1) := by decide +kernel
theorem d30_6 : decode jdk_40_method_38_code 6 = .ok (.invokespecial 100, 3) := by decide +kernel
theorem d31_0 : decode jdk_44_method_2_code 0 = .ok (.aload_n 0, 1) := by decide +kernel
theorem d31_1 : decode jdk_44_method_2_code 1 = .ok (.invokespecial 1, 3) := by decide +kernel
theorem d32_0 : decode jdk_46_method_1_code 0 = .ok (.aload_n 0, 1) := by decide +kernel
theorem d32_1 : decode jdk_46_method_1_code 1 = .ok (.invokespecial 1, 3) := by decide +kernel
theorem d33_0 : decode jdk_47_method_1_code 0 = .ok (.aload_n 0, 1) := by decide +kernel
theorem d33_1 : decode jdk_47_method_1_code 1 = .ok (.invokespecial 1, 3) := by decide +kernel
theorem d34_0 : decode jdk_22_method_1_code 0 = .ok (.aload_n 0, 1) := by decide +kernel
theorem d34_1 : decode jdk_22_method_1_code 1 = .ok (.invokespecial 1, 3) := by decide +kernel
theorem d34_4 : decode jdk_22_method_1_code 4 = .ok (.return_, 1) := by decide +kernel
theorem pn_java_util_AbstractCollection : plainName "java/util/AbstractCollection" = true := by first | (simp [plainName, overriddenIn]; done) | decide +kernel
theorem ef_34_v (m : MethodId) (x0 : Addr) : entryFrame m #[(.ref x0)] 1 = mkF m 0 #[.val (.ref x0)] [] := by first | (simp [entryFrame, mkF, argsToLocals, Value.category]; done) | rfl
theorem r34_1 (l : Launch) (Z : State) (a0 : Array Value) (hw : ∀ d ∈ tables_1, d.before a0 Z = true) (a1255 : Addr) (h0 : Heap) (n0 : Nat) (Z0 : n0 ≤ h0.size) :
   OMet l Z mN41 jdk_22_method_1_code 1 none [] ({ frames := 1, cells := 0, slots := 0, locals := 12 } : Room) h0 #[(.ref a1255)] (OQp (none) h0 n0) := by
 refine MetFree.of_bodySF (plainFor_of_name pn_java_util_AbstractCollection) hisR ?_
 intro p e s m args below meth c s₁ Bd hml0 hP hK
 obtain ⟨rfl, hZ, hh⟩ := hP
 have hx := Bd.exec
 have hby := Bd.bytes
 have hml : c.maxLocals = 1 := hml0
 have hown : s.vm.findClass "java/util/AbstractCollection" = some m.cls := findClass_of_methodNamed Bd.named
 have hnm := (name_of_methodNamed Bd.named Bd.method).1
 have X0 : Stand p l e ({ frames := 1, cells := 0, slots := 0, locals := 12 } : Room) s m #[(.ref a1255)] below meth c s₁ [] 0 0 := Stand.of_body Bd
 have e0 : s₁.heap = h0 := by rw [← hh, Bd.state]; rfl
 have N0 := Fr.nil n0
 have pre0 : ∀ t, Steps p.tables e below (s₁.setTop (mkF m 0 #[vR a1255] [])) t → Steps p.tables e below (s₁.setTop (entryFrame m #[(.ref a1255)] 1)) t := fun t k => castTop (ef_34_v m a1255) k
 obtain ⟨T1256, X1256, e1256, st1256⟩ := initO X0 hx hZ hown (tw hw 197 rfl) (tw hw 12 rfl) (tw hw 13 rfl) e0 (g := (mkF m 1 #[vR a1255] [(.ref a1255)])) rfl (by rw [hml]; rfl) rfl (hb hby d34_1) (by decide) (W := 0) (own_w _) (by decide)
 obtain ⟨fs, hr, hrun, hended, hW, hsame⟩ := X1256.leave (v := none) (fun _ => rfl)
 refine ⟨_, _, pre0 _ ?_, hrun, hended, _, _, rfl, ?_, ⟨_, rfl⟩, hW, hsame.mono (by decide) (by decide)⟩
 · show SG p e below s₁ (mkF m 0 #[vR a1255] []) _
   refine XS.aloadN X0.here hx rfl (hb hby d34_0) rfl rfl ?_
   show SG p e below s₁ (mkF m 1 #[vR a1255] [(.ref a1255)]) _
   refine st1256 _ ?_
   show SG p e below T1256 (mkF m 4 #[vR a1255] []) _
   exact X1256.returnOut hx Bd.returns (hb hby d34_4) hr
 · show OQp (none) h0 n0 _ T1256.heap _
   rw [e1256]
   exact ⟨rfl, N0, rfl⟩
theorem d33_4 : decode jdk_47_method_1_code 4 = .ok (.return_, 1) := by decide +kernel
theorem pn_java_util_ImmutableCollections_AbstractImmutableCollection : plainName "java/util/ImmutableCollections$AbstractImmutableCollection" = true := by first | (simp [plainName, overriddenIn]; done) | decide +kernel
theorem ef_33_v (m : MethodId) (x0 : Addr) : entryFrame m #[(.ref x0)] 1 = mkF m 0 #[.val (.ref x0)] [] := by first | (simp [entryFrame, mkF, argsToLocals, Value.category]; done) | rfl
theorem r33_1 (l : Launch) (Z : State) (a0 : Array Value) (hw : ∀ d ∈ tables_1, d.before a0 Z = true) (a1254 : Addr) (h0 : Heap) (n0 : Nat) (Z0 : n0 ≤ h0.size) :
   OMet l Z mN42 jdk_47_method_1_code 1 none [] ({ frames := 2, cells := 0, slots := 0, locals := 24 } : Room) h0 #[(.ref a1254)] (OQp (none) h0 n0) := by
 refine MetFree.of_bodySF (plainFor_of_name pn_java_util_ImmutableCollections_AbstractImmutableCollection) hisR ?_
 intro p e s m args below meth c s₁ Bd hml0 hP hK
 obtain ⟨rfl, hZ, hh⟩ := hP
 have hx := Bd.exec
 have hby := Bd.bytes
 have hml : c.maxLocals = 1 := hml0
 have hown : s.vm.findClass "java/util/ImmutableCollections$AbstractImmutableCollection" = some m.cls := findClass_of_methodNamed Bd.named
 have hnm := (name_of_methodNamed Bd.named Bd.method).1
 have X0 : Stand p l e ({ frames := 2, cells := 0, slots := 0, locals := 24 } : Room) s m #[(.ref a1254)] below meth c s₁ [] 0 0 := Stand.of_body Bd
 have e0 : s₁.heap = h0 := by rw [← hh, Bd.state]; rfl
 have N0 := Fr.nil n0
 have pre0 : ∀ t, Steps p.tables e below (s₁.setTop (mkF m 0 #[vR a1254] [])) t → Steps p.tables e below (s₁.setTop (entryFrame m #[(.ref a1254)] 1)) t := fun t k => castTop (ef_33_v m a1254) k
 obtain ⟨_, _, ⟨T1257, L1257, k1257, n1257⟩, -, X1257, ⟨Lc1257, hQ1257, l1257, y1257, z1257⟩, st1257⟩ := X0.specialBack hx (y := mN41) rfl hown (mvT hZ (tw hw 191 rfl)) (mvT hZ (tw hw 192 rfl)) (mvT hZ (tw hw 196 rfl)) (by decide) (backOf (W := 0) (r34_1 l Z a0 hw a1254 h0 n0 Z0 ) hZ (tw hw 196 rfl) (tw hw 195 rfl) (by decide) (by decide)) (g := (mkF m 1 #[vR a1254] [(.ref a1254)])) rfl (by rw [hml]; rfl) (Steps.refl _) (a := a1254) (argsL := []) (rest := []) (lenOf pd_23 rfl) rfl (own_w _) (hb hby d33_1) (fun _ _ => ⟨rfl, e0, (by decide : 0 + 0 ≤ _), (by decide : 0 + 0 ≤ _)⟩)
 dsimp only [Pt.U, Pt.locs, Pt.cells, Pt.slots] at X1257 l1257 y1257 z1257 st1257 hQ1257
 replace X1257 := own_mvX X1257 (a := 0) (b := 0) y1257 z1257
 obtain ⟨rfl, N1257q, e1257⟩ := hQ1257
 have N1257 := own_mvN l1257 N0 N1257q
 obtain ⟨fs, hr, hrun, hended, hW, hsame⟩ := X1257.leave (v := none) (fun _ => rfl)
 refine ⟨_, _, pre0 _ ?_, hrun, hended, _, _, rfl, ?_, ⟨_, rfl⟩, hW, hsame.mono (by decide) (by decide)⟩
 · show SG p e below s₁ (mkF m 0 #[vR a1254] []) _
   refine XS.aloadN X0.here hx rfl (hb hby d33_0) rfl rfl ?_
   show SG p e below s₁ (mkF m 1 #[vR a1254] [(.ref a1254)]) _
   refine st1257.trans ?_
   show SG p e below T1257 (mkF m 4 #[vR a1254] []) _
   exact X1257.returnOut hx Bd.returns (hb hby d33_4) hr
 · show OQp (none) h0 n0 _ T1257.heap _
   rw [e1257]
   exact ⟨rfl, N1257, rfl⟩
theorem d32_4 : decode jdk_46_method_1_code 4 = .ok (.return_, 1) := by decide +kernel
theorem pn_java_util_ImmutableCollections_AbstractImmutableList : plainName "java/util/ImmutableCollections$AbstractImmutableList" = true := by first | (simp [plainName, overriddenIn]; done) | decide +kernel
theorem ef_32_v (m : MethodId) (x0 : Addr) : entryFrame m #[(.ref x0)] 1 = mkF m 0 #[.val (.ref x0)] [] := by first | (simp [entryFrame, mkF, argsToLocals, Value.category]; done) | rfl
theorem r32_1 (l : Launch) (Z : State) (a0 : Array Value) (hw : ∀ d ∈ tables_1, d.before a0 Z = true) (a1253 : Addr) (h0 : Heap) (n0 : Nat) (Z0 : n0 ≤ h0.size) :
   OMet l Z mN43 jdk_46_method_1_code 1 none [] ({ frames := 3, cells := 0, slots := 0, locals := 36 } : Room) h0 #[(.ref a1253)] (OQp (none) h0 n0) := by
 refine MetFree.of_bodySF (plainFor_of_name pn_java_util_ImmutableCollections_AbstractImmutableList) hisR ?_
 intro p e s m args below meth c s₁ Bd hml0 hP hK
 obtain ⟨rfl, hZ, hh⟩ := hP
 have hx := Bd.exec
 have hby := Bd.bytes
 have hml : c.maxLocals = 1 := hml0
 have hown : s.vm.findClass "java/util/ImmutableCollections$AbstractImmutableList" = some m.cls := findClass_of_methodNamed Bd.named
 have hnm := (name_of_methodNamed Bd.named Bd.method).1
 have X0 : Stand p l e ({ frames := 3, cells := 0, slots := 0, locals := 36 } : Room) s m #[(.ref a1253)] below meth c s₁ [] 0 0 := Stand.of_body Bd
 have e0 : s₁.heap = h0 := by rw [← hh, Bd.state]; rfl
 have N0 := Fr.nil n0
 have pre0 : ∀ t, Steps p.tables e below (s₁.setTop (mkF m 0 #[vR a1253] [])) t → Steps p.tables e below (s₁.setTop (entryFrame m #[(.ref a1253)] 1)) t := fun t k => castTop (ef_32_v m a1253) k
 obtain ⟨_, _, ⟨T1258, L1258, k1258, n1258⟩, -, X1258, ⟨Lc1258, hQ1258, l1258, y1258, z1258⟩, st1258⟩ := X0.specialBack hx (y := mN42) rfl hown (mvT hZ (tw hw 185 rfl)) (mvT hZ (tw hw 186 rfl)) (mvT hZ (tw hw 190 rfl)) (by decide) (backOf (W := 0) (r33_1 l Z a0 hw a1253 h0 n0 Z0 ) hZ (tw hw 190 rfl) (tw hw 189 rfl) (by decide) (by decide)) (g := (mkF m 1 #[vR a1253] [(.ref a1253)])) rfl (by rw [hml]; rfl) (Steps.refl _) (a := a1253) (argsL := []) (rest := []) (lenOf pd_23 rfl) rfl (own_w _) (hb hby d32_1) (fun _ _ => ⟨rfl, e0, (by decide : 0 + 0 ≤ _), (by decide : 0 + 0 ≤ _)⟩)
 dsimp only [Pt.U, Pt.locs, Pt.cells, Pt.slots] at X1258 l1258 y1258 z1258 st1258 hQ1258
 replace X1258 := own_mvX X1258 (a := 0) (b := 0) y1258 z1258
 obtain ⟨rfl, N1258q, e1258⟩ := hQ1258
 have N1258 := own_mvN l1258 N0 N1258q
 obtain ⟨fs, hr, hrun, hended, hW, hsame⟩ := X1258.leave (v := none) (fun _ => rfl)
 refine ⟨_, _, pre0 _ ?_, hrun, hended, _, _, rfl, ?_, ⟨_, rfl⟩, hW, hsame.mono (by decide) (by decide)⟩
 · show SG p e below s₁ (mkF m 0 #[vR a1253] []) _
   refine XS.aloadN X0.here hx rfl (hb hby d32_0) rfl rfl ?_
   show SG p e below s₁ (mkF m 1 #[vR a1253] [(.ref a1253)]) _
   refine st1258.trans ?_
   show SG p e below T1258 (mkF m 4 #[vR a1253] []) _
   exact X1258.returnOut hx Bd.returns (hb hby d32_4) hr
 · show OQp (none) h0 n0 _ T1258.heap _
   rw [e1258]
   exact ⟨rfl, N1258, rfl⟩
theorem d31_4 : decode jdk_44_method_2_code 4 = .ok (.aload_n 0, 1) := by decide +kernel
theorem d31_5 : decode jdk_44_method_2_code 5 = .ok (.aload_n 1, 1) := by decide +kernel
theorem d31_6 : decode jdk_44_method_2_code 6 = .ok (.invokestatic 7, 3) := by decide +kernel
theorem d35_0 : decode jdk_31_method_10_code 0 = .ok (.aload_n 0, 1) := by decide +kernel
theorem d35_1 : decode jdk_31_method_10_code 1 = .ok (.ifnonnull 11, 3) := by decide +kernel
theorem d35_12 : decode jdk_31_method_10_code 12 = .ok (.aload_n 0, 1) := by decide +kernel
theorem d35_13 : decode jdk_31_method_10_code 13 = .ok (.areturn, 1) := by decide +kernel
theorem pn_java_util_Objects : plainName "java/util/Objects" = true := by first | (simp [plainName, overriddenIn]; done) | decide +kernel
theorem ef_35_v (m : MethodId) (x0 : Addr) : entryFrame m #[(.ref x0)] 1 = mkF m 0 #[.val (.ref x0)] [] := by first | (simp [entryFrame, mkF, argsToLocals, Value.category]; done) | rfl
theorem r35_1 (l : Launch) (Z : State) (a0 : Array Value) (hw : ∀ d ∈ tables_1, d.before a0 Z = true) (a1260 : Addr) (h0 : Heap) (n0 : Nat) (Z0 : n0 ≤ h0.size) :
   OMet l Z mN44 jdk_31_method_10_code 1 (some (.object "java/lang/Object")) [] ({ frames := 0, cells := 0, slots := 0, locals := 0 } : Room) h0 #[(.ref a1260)] (OQp (some (.ref a1260)) h0 n0) := by
 refine MetFree.of_bodySF (plainFor_of_name pn_java_util_Objects) hisR ?_
 intro p e s m args below meth c s₁ Bd hml0 hP hK
 obtain ⟨rfl, hZ, hh⟩ := hP
 have hx := Bd.exec
 have hby := Bd.bytes
 have hml : c.maxLocals = 1 := hml0
 have hown : s.vm.findClass "java/util/Objects" = some m.cls := findClass_of_methodNamed Bd.named
 have hnm := (name_of_methodNamed Bd.named Bd.method).1
 have X0 : Stand p l e ({ frames := 0, cells := 0, slots := 0, locals := 0 } : Room) s m #[(.ref a1260)] below meth c s₁ [] 0 0 := Stand.of_body Bd
 have e0 : s₁.heap = h0 := by rw [← hh, Bd.state]; rfl
 have N0 := Fr.nil n0
 have pre0 : ∀ t, Steps p.tables e below (s₁.setTop (mkF m 0 #[vR a1260] [])) t → Steps p.tables e below (s₁.setTop (entryFrame m #[(.ref a1260)] 1)) t := fun t k => castTop (ef_35_v m a1260) k

 obtain ⟨fs, hr, hrun, hended, hW, hsame⟩ := X0.leave (v := some (.ref a1260)) (fun h => by rw [Bd.returns] at h; cases h)
 refine ⟨_, _, pre0 _ ?_, hrun, hended, _, _, rfl, ?_, ⟨_, rfl⟩, hW, hsame.mono (by decide) (by decide)⟩
 · show SG p e below s₁ (mkF m 0 #[vR a1260] []) _
   refine XS.aloadN X0.here hx rfl (hb hby d35_0) rfl rfl ?_
   show SG p e below s₁ (mkF m 1 #[vR a1260] [(.ref a1260)]) _
   refine XS.ifnonnullYes X0.here hx rfl (pc0 := 1) (pc' := 12) rfl (hb hby d35_1) rfl (by decide) (by decide) ?_
   show SG p e below s₁ (mkF m 12 #[vR a1260] []) _
   refine XS.aloadN X0.here hx rfl (hb hby d35_12) rfl rfl ?_
   show SG p e below s₁ (mkF m 13 #[vR a1260] [(.ref a1260)]) _
   jvm_step X0.here [X0.here.top, hx, (hb hby d35_13), X0.method', Bd.returns, Value.isRef, FieldType.isReference]
   first | (intro acts; rw [hr _ acts rfl rfl rfl]) | rw [hr _ _ rfl rfl rfl]
   exact Steps.refl _
 · show OQp (some (.ref a1260)) h0 n0 _ s₁.heap _
   rw [e0]
   exact ⟨rfl, N0, rfl⟩
theorem pd_31 : parseMethodDescriptor "(Ljava/lang/Object;)Ljava/lang/Object;" = some ⟨[(.object "java/lang/Object")], some (.object "java/lang/Object")⟩ := by decide +kernel
theorem d31_9 : decode jdk_44_method_2_code 9 = .ok (.putfield 13, 3) := by decide +kernel
theorem d31_12 : decode jdk_44_method_2_code 12 = .ok (.aload_n 0, 1) := by decide +kernel
theorem d31_13 : decode jdk_44_method_2_code 13 = .ok (.aload_n 2, 1) := by decide +kernel
theorem d31_14 : decode jdk_44_method_2_code 14 = .ok (.invokestatic 7, 3) := by decide +kernel
theorem d31_17 : decode jdk_44_method_2_code 17 = .ok (.putfield 24, 3) := by decide +kernel
theorem d31_20 : decode jdk_44_method_2_code 20 = .ok (.return_, 1) := by decide +kernel
theorem pn_java_util_ImmutableCollections_List12 : plainName "java/util/ImmutableCollections$List12" = true := by first | (simp [plainName, overriddenIn]; done) | decide +kernel
theorem ef_31_vvv (m : MethodId) (x0 : Addr) (x1 : Addr) (x2 : Addr) : entryFrame m #[(.ref x0), (.ref x1), (.ref x2)] 3 = mkF m 0 #[.val (.ref x0), .val (.ref x1), .val (.ref x2)] [] := by first | (simp [entryFrame, mkF, argsToLocals, Value.category]; done) | rfl
def Qr31_1 (Z : State) (a1250 : Addr) (a1251 : Addr) (a1252 : Addr) (h0 : Heap) (n0 : Nat) (v : Option Value) (h : Heap) (L : List Loc) : Prop := Fr n0 L ∧ v = none ∧ KSx h0 h [(a1250, Jvm.RoadKit.slotOf Z "java/util/ImmutableCollections$List12" "e0" "Ljava/lang/Object;"), (a1250, Jvm.RoadKit.slotOf Z "java/util/ImmutableCollections$List12" "e1" "Ljava/lang/Object;")] [] ∧ Fld Z h a1250 "java/util/ImmutableCollections$List12" "e0" "Ljava/lang/Object;" (.ref a1251) ∧ Fld Z h a1250 "java/util/ImmutableCollections$List12" "e1" "Ljava/lang/Object;" (.ref a1252)
theorem r31_1 (l : Launch) (Z : State) (a0 : Array Value) (hw : ∀ d ∈ tables_1, d.before a0 Z = true) (a1250 : Addr) (a1251 : Addr) (a1252 : Addr) (h0 : Heap) (n0 : Nat) (Z0 : n0 ≤ h0.size) (H0 : Exa Z h0 a1250 "java/util/ImmutableCollections$List12") (H1 : Fld Z h0 a1250 "java/util/ImmutableCollections$List12" "e0" "Ljava/lang/Object;" .null) (H2 : n0 ≤ a1250) (H3 : Fld Z h0 a1250 "java/util/ImmutableCollections$List12" "e1" "Ljava/lang/Object;" .null) :
   OMet l Z mN45 jdk_44_method_2_code 3 none [] ({ frames := 4, cells := 0, slots := 0, locals := 48 } : Room) h0 #[(.ref a1250), (.ref a1251), (.ref a1252)] (Qr31_1 Z a1250 a1251 a1252 h0 n0) := by
 refine MetFree.of_bodySF (plainFor_of_name pn_java_util_ImmutableCollections_List12) hisR ?_
 intro p e s m args below meth c s₁ Bd hml0 hP hK
 obtain ⟨rfl, hZ, hh⟩ := hP
 have hx := Bd.exec
 have hby := Bd.bytes
 have hml : c.maxLocals = 3 := hml0
 have hown : s.vm.findClass "java/util/ImmutableCollections$List12" = some m.cls := findClass_of_methodNamed Bd.named
 have hnm := (name_of_methodNamed Bd.named Bd.method).1
 have X0 : Stand p l e ({ frames := 4, cells := 0, slots := 0, locals := 48 } : Room) s m #[(.ref a1250), (.ref a1251), (.ref a1252)] below meth c s₁ [] 0 0 := Stand.of_body Bd
 have e0 : s₁.heap = h0 := by rw [← hh, Bd.state]; rfl
 have N0 := Fr.nil n0
 have pre0 : ∀ t, Steps p.tables e below (s₁.setTop (mkF m 0 #[vR a1250, vR a1251, vR a1252] [])) t → Steps p.tables e below (s₁.setTop (entryFrame m #[(.ref a1250), (.ref a1251), (.ref a1252)] 3)) t := fun t k => castTop (ef_31_vvv m a1250 a1251 a1252) k
 obtain ⟨_, _, ⟨T1259, L1259, k1259, n1259⟩, -, X1259, ⟨Lc1259, hQ1259, l1259, y1259, z1259⟩, st1259⟩ := X0.specialBack hx (y := mN43) rfl hown (mvT hZ (tw hw 179 rfl)) (mvT hZ (tw hw 180 rfl)) (mvT hZ (tw hw 184 rfl)) (by decide) (backOf (W := 0) (r32_1 l Z a0 hw a1250 h0 n0 Z0 ) hZ (tw hw 184 rfl) (tw hw 183 rfl) (by decide) (by decide)) (g := (mkF m 1 #[vR a1250, vR a1251, vR a1252] [(.ref a1250)])) rfl (by rw [hml]; rfl) (Steps.refl _) (a := a1250) (argsL := []) (rest := []) (lenOf pd_23 rfl) rfl (own_w _) (hb hby d31_1) (fun _ _ => ⟨rfl, e0, (by decide : 0 + 0 ≤ _), (by decide : 0 + 0 ≤ _)⟩)
 dsimp only [Pt.U, Pt.locs, Pt.cells, Pt.slots] at X1259 l1259 y1259 z1259 st1259 hQ1259
 replace X1259 := own_mvX X1259 (a := 0) (b := 0) y1259 z1259
 obtain ⟨rfl, N1259q, e1259⟩ := hQ1259
 have N1259 := own_mvN l1259 N0 N1259q
 obtain ⟨_, _, ⟨T1261, L1261, k1261, n1261⟩, -, X1261, ⟨Lc1261, hQ1261, l1261, y1261, z1261⟩, st1261⟩ := Jvm.LawKit.callS X1259 hx (y := mN44) hown (mvT hZ (tw hw 198 rfl)) (mvT hZ (tw hw 199 rfl)) (mvT hZ (tw hw 200 rfl)) (mvT hZ (tw hw 201 rfl)) (by decide) (backOf (W := 1) (r35_1 l Z a0 hw a1251 h0 n0 Z0 ) hZ (tw hw 201 rfl) (tw hw 200 rfl) (by decide) (by decide)) (g := (mkF m 6 #[vR a1250, vR a1251, vR a1252] [(.ref a1251), (.ref a1250)])) rfl (by rw [hml]; rfl) (argsL := [(.ref a1251)]) (rest := [(.ref a1250)]) (lenOf pd_31 rfl) rfl (own_w _) (hb hby d31_6) (fun _ _ => ⟨rfl, e1259, (by decide : 0 + 0 ≤ _), (by decide : 0 + 0 ≤ _)⟩)
 dsimp only [Pt.U, Pt.locs, Pt.cells, Pt.slots] at X1261 l1261 y1261 z1261 st1261 hQ1261
 replace X1261 := own_mvX X1261 (a := 0) (b := 0) y1261 z1261
 obtain ⟨rfl, N1261q, e1261⟩ := hQ1261
 have N1261 := own_mvN l1261 N1259 N1261q
 obtain ⟨T1262, h1262, X1262, e1262, W1262, st1262⟩ := putF X1261 hx hZ hown (host := "") (Or.inl (tw hw 202 rfl)) Via.refl e1261 H1 H0 (Or.inr ⟨(tw hw 203 rfl), rfl, hnm⟩) (tw hw 173 rfl) (ty := (.object "java/lang/Object")) (by decide) rfl rfl (g := (mkF m 9 #[vR a1250, vR a1251, vR a1252] [(.ref a1251), (.ref a1250)])) rfl rfl (hb hby d31_9)
 have Fw1262 := Fld.same W1262 H1
 have KC1262 := KSx.wr (KSx.refl h0 [(a1250, Jvm.RoadKit.slotOf Z "java/util/ImmutableCollections$List12" "e0" "Ljava/lang/Object;"), (a1250, Jvm.RoadKit.slotOf Z "java/util/ImmutableCollections$List12" "e1" "Ljava/lang/Object;")] []) W1262 (Or.inl (List.mem_of_getElem? (i := 0) rfl))
 have N1262 := Fr.snoc X1262 N1261 H2
 have Z1262 : n0 ≤ h1262.size := Nat.le_trans Z0 (Nat.le_of_eq W1262.size.symm)
 obtain ⟨_, _, ⟨T1264, L1264, k1264, n1264⟩, -, X1264, ⟨Lc1264, hQ1264, l1264, y1264, z1264⟩, st1264⟩ := Jvm.LawKit.callS X1262 hx (y := mN44) hown (mvT hZ (tw hw 198 rfl)) (mvT hZ (tw hw 199 rfl)) (mvT hZ (tw hw 200 rfl)) (mvT hZ (tw hw 201 rfl)) (by decide) (backOf (W := 1) (r35_1 l Z a0 hw a1252 h1262 n0 Z1262 ) hZ (tw hw 201 rfl) (tw hw 200 rfl) (by decide) (by decide)) (g := (mkF m 14 #[vR a1250, vR a1251, vR a1252] [(.ref a1252), (.ref a1250)])) rfl (by rw [hml]; rfl) (argsL := [(.ref a1252)]) (rest := [(.ref a1250)]) (lenOf pd_31 rfl) rfl (own_w _) (hb hby d31_14) (fun _ _ => ⟨rfl, e1262, (by decide : 0 + 0 ≤ _), (by decide : 0 + 0 ≤ _)⟩)
 dsimp only [Pt.U, Pt.locs, Pt.cells, Pt.slots] at X1264 l1264 y1264 z1264 st1264 hQ1264
 replace X1264 := own_mvX X1264 (a := 0) (b := 0) y1264 z1264
 obtain ⟨rfl, N1264q, e1264⟩ := hQ1264
 have N1264 := own_mvN l1264 N1262 N1264q
 have f1265 := (H0.wr W1262)
 have f1266 := (H3.other W1262 (Or.inr (slot_ne (Or.inr (tw hw 205 rfl)) (Or.inr (tw hw 203 rfl)) (by decide) (t := (.object "java/lang/Object")) (t' := (.object "java/lang/Object")) (by decide) (by decide))))
 obtain ⟨T1267, h1267, X1267, e1267, W1267, st1267⟩ := putF X1264 hx hZ hown (host := "") (Or.inl (tw hw 204 rfl)) Via.refl e1264 f1266 f1265 (Or.inr ⟨(tw hw 205 rfl), rfl, hnm⟩) (tw hw 173 rfl) (ty := (.object "java/lang/Object")) (by decide) rfl rfl (g := (mkF m 17 #[vR a1250, vR a1251, vR a1252] [(.ref a1252), (.ref a1250)])) rfl rfl (hb hby d31_17)
 have Fw1267 := Fld.same W1267 f1266
 have KC1267 := KSx.wr KC1262 W1267 (Or.inl (List.mem_of_getElem? (i := 1) rfl))
 have N1267 := Fr.snoc X1267 N1264 H2
 have f1268 := (Fw1262.other W1267 (Or.inr (slot_ne (Or.inr (tw hw 203 rfl)) (Or.inr (tw hw 205 rfl)) (by decide) (t := (.object "java/lang/Object")) (t' := (.object "java/lang/Object")) (by decide) (by decide))))
 obtain ⟨fs, hr, hrun, hended, hW, hsame⟩ := X1267.leave (v := none) (fun _ => rfl)
 refine ⟨_, _, pre0 _ ?_, hrun, hended, _, _, rfl, ?_, ⟨_, rfl⟩, hW, hsame.mono (by decide) (by decide)⟩
 · show SG p e below s₁ (mkF m 0 #[vR a1250, vR a1251, vR a1252] []) _
   refine XS.aloadN X0.here hx rfl (hb hby d31_0) rfl rfl ?_
   show SG p e below s₁ (mkF m 1 #[vR a1250, vR a1251, vR a1252] [(.ref a1250)]) _
   refine st1259.trans ?_
   show SG p e below T1259 (mkF m 4 #[vR a1250, vR a1251, vR a1252] []) _
   refine XS.aloadN X1259.here hx rfl (hb hby d31_4) rfl rfl ?_
   show SG p e below T1259 (mkF m 5 #[vR a1250, vR a1251, vR a1252] [(.ref a1250)]) _
   refine XS.aloadN X1259.here hx rfl (hb hby d31_5) rfl rfl ?_
   show SG p e below T1259 (mkF m 6 #[vR a1250, vR a1251, vR a1252] [(.ref a1251), (.ref a1250)]) _
   refine st1261 _ ?_
   show SG p e below T1261 (mkF m 9 #[vR a1250, vR a1251, vR a1252] [(.ref a1251), (.ref a1250)]) _
   refine st1262 _ ?_
   show SG p e below T1262 (mkF m 12 #[vR a1250, vR a1251, vR a1252] []) _
   refine XS.aloadN X1262.here hx rfl (hb hby d31_12) rfl rfl ?_
   show SG p e below T1262 (mkF m 13 #[vR a1250, vR a1251, vR a1252] [(.ref a1250)]) _
   refine XS.aloadN X1262.here hx rfl (hb hby d31_13) rfl rfl ?_
   show SG p e below T1262 (mkF m 14 #[vR a1250, vR a1251, vR a1252] [(.ref a1252), (.ref a1250)]) _
   refine st1264 _ ?_
   show SG p e below T1264 (mkF m 17 #[vR a1250, vR a1251, vR a1252] [(.ref a1252), (.ref a1250)]) _
   refine st1267 _ ?_
   show SG p e below T1267 (mkF m 20 #[vR a1250, vR a1251, vR a1252] []) _
   exact X1267.returnOut hx Bd.returns (hb hby d31_20) hr
 · show Qr31_1 Z a1250 a1251 a1252 h0 n0 _ T1267.heap _
   rw [e1267]
   exact ⟨N1267, rfl, KC1267, f1268, Fw1267⟩
theorem pd_32 : parseMethodDescriptor "(Ljava/lang/Object;Ljava/lang/Object;)V" = some ⟨[(.object "java/lang/Object"), (.object "java/lang/Object")], none⟩ := by decide +kernel
theorem d30_9 : decode jdk_40_method_38_code 9 = .ok (.areturn, 1) := by decide +kernel
theorem pn_java_util_List : plainName "java/util/List" = true := by first | (simp [plainName, overriddenIn]; done) | decide +kernel
theorem ef_30_vv (m : MethodId) (x0 : Addr) (x1 : Addr) : entryFrame m #[(.ref x0), (.ref x1)] 2 = mkF m 0 #[.val (.ref x0), .val (.ref x1)] [] := by first | (simp [entryFrame, mkF, argsToLocals, Value.category]; done) | rfl
def Qr30_1 (Z : State) (a1247 : Addr) (a1248 : Addr) (h0 : Heap) (n0 : Nat) (v : Option Value) (h : Heap) (L : List Loc) : Prop := Fr n0 L ∧ ∃ b1249 : Addr, v = some (.ref b1249) ∧ h0.size ≤ b1249 ∧ KSx h0 h [] [] ∧ Exa Z h b1249 "java/util/ImmutableCollections$List12" ∧ Fld Z h b1249 "java/util/ImmutableCollections$List12" "e0" "Ljava/lang/Object;" (.ref a1247) ∧ Fld Z h b1249 "java/util/ImmutableCollections$List12" "e1" "Ljava/lang/Object;" (.ref a1248)
theorem r30_1 (l : Launch) (Z : State) (a0 : Array Value) (hw : ∀ d ∈ tables_1, d.before a0 Z = true) (a1247 : Addr) (a1248 : Addr) (h0 : Heap) (n0 : Nat) (Z0 : n0 ≤ h0.size) :
   OMet l Z mN46 jdk_40_method_38_code 2 (some (.object "java/util/List")) [] ({ frames := 5, cells := 1, slots := 2, locals := 63 } : Room) h0 #[(.ref a1247), (.ref a1248)] (Qr30_1 Z a1247 a1248 h0 n0) := by
 refine MetFree.of_bodySF (plainFor_of_name pn_java_util_List) hisR ?_
 intro p e s m args below meth c s₁ Bd hml0 hP hK
 obtain ⟨rfl, hZ, hh⟩ := hP
 have hx := Bd.exec
 have hby := Bd.bytes
 have hml : c.maxLocals = 2 := hml0
 have hown : s.vm.findClass "java/util/List" = some m.cls := findClass_of_methodNamed Bd.named
 have hnm := (name_of_methodNamed Bd.named Bd.method).1
 have X0 : Stand p l e ({ frames := 5, cells := 1, slots := 2, locals := 63 } : Room) s m #[(.ref a1247), (.ref a1248)] below meth c s₁ [] 0 0 := Stand.of_body Bd
 have e0 : s₁.heap = h0 := by rw [← hh, Bd.state]; rfl
 have N0 := Fr.nil n0
 have pre0 : ∀ t, Steps p.tables e below (s₁.setTop (mkF m 0 #[vR a1247, vR a1248] [])) t → Steps p.tables e below (s₁.setTop (entryFrame m #[(.ref a1247), (.ref a1248)] 2)) t := fun t k => castTop (ef_30_vv m a1247 a1248) k
 obtain ⟨T1249, h1249, X1249, e1249, E1249, A1249, D1249, -, st1249⟩ := newO X0 hx hZ hown (tw hw 172 rfl) (tw hw 173 rfl) (tw hw 174 rfl) e0 (g := (mkF m 0 #[vR a1247, vR a1248] [])) rfl (hb hby d30_0) (by decide) (by decide)
 obtain ⟨b1249, g1249⟩ : ∃ z, z = h0.size := ⟨_, rfl⟩
 rw [← g1249] at A1249 D1249 st1249
 have KC1249 := KSx.ext (KSx.refl h0 [] []) E1249
 have g1270 : n0 ≤ b1249 := Nat.le_trans Z0 (Nat.le_of_eq g1249.symm)
 have Z1249 : n0 ≤ h1249.size := Nat.le_trans Z0 E1249.1
 obtain ⟨_, _, ⟨T1269, L1269, k1269, n1269⟩, -, X1269, ⟨Lc1269, hQ1269, l1269, y1269, z1269⟩, st1269⟩ := X1249.specialBack hx (y := mN45) rfl hown (mvT hZ (tw hw 175 rfl)) (mvT hZ (tw hw 176 rfl)) (mvT hZ (tw hw 178 rfl)) (by decide) (backOf (W := 1) (r31_1 l Z a0 hw b1249 a1247 a1248 h1249 n0 Z1249 A1249 (D1249 (Or.inr (tw hw 203 rfl)) (ty := (.object "java/lang/Object")) (by decide)) g1270 (D1249 (Or.inr (tw hw 205 rfl)) (ty := (.object "java/lang/Object")) (by decide))) hZ (tw hw 178 rfl) (tw hw 174 rfl) (by decide) (by decide)) (g := (mkF m 6 #[vR a1247, vR a1248] [(.ref a1248), (.ref a1247), (.ref b1249), (.ref b1249)])) rfl (by rw [hml]; rfl) (Steps.refl _) (a := b1249) (argsL := [(.ref a1247), (.ref a1248)]) (rest := [(.ref b1249)]) (lenOf pd_32 rfl) rfl (own_w _) (hb hby d30_6) (fun _ _ => ⟨rfl, e1249, (by decide : 1 + 0 ≤ _), (by decide : 2 + 0 ≤ _)⟩)
 dsimp only [Pt.U, Pt.locs, Pt.cells, Pt.slots] at X1269 l1269 y1269 z1269 st1269 hQ1269
 replace X1269 := own_mvX X1269 (a := 1) (b := 2) y1269 z1269
 obtain ⟨N1269q, rfl, K1269, o1269_0, o1269_1⟩ := hQ1269
 have N1269 := own_mvN l1269 N0 N1269q
 have z1271 : h0.size ≤ b1249 := Nat.le_trans (KSx.refl h0 [] []).1 (Nat.le_of_eq g1249.symm)
 have KC1269 := KSx.trans KC1249 K1269 (ksS (Or.inr z1271) (ksS (Or.inr z1271) ks0)) all0
 have f1272 := (A1249.ks K1269)
 obtain ⟨fs, hr, hrun, hended, hW, hsame⟩ := X1269.leave (v := some (.ref b1249)) (fun h => by rw [Bd.returns] at h; cases h)
 refine ⟨_, _, pre0 _ ?_, hrun, hended, _, _, rfl, ?_, ⟨_, rfl⟩, hW, hsame.mono (by decide) (by decide)⟩
 · show SG p e below s₁ (mkF m 0 #[vR a1247, vR a1248] []) _
   refine st1249 _ ?_
   show SG p e below T1249 (mkF m 3 #[vR a1247, vR a1248] [(.ref b1249)]) _
   refine XS.dup X1249.here hx rfl (hb hby d30_3) rfl rfl ?_
   show SG p e below T1249 (mkF m 4 #[vR a1247, vR a1248] [(.ref b1249), (.ref b1249)]) _
   refine XS.aloadN X1249.here hx rfl (hb hby d30_4) rfl rfl ?_
   show SG p e below T1249 (mkF m 5 #[vR a1247, vR a1248] [(.ref a1247), (.ref b1249), (.ref b1249)]) _
   refine XS.aloadN X1249.here hx rfl (hb hby d30_5) rfl rfl ?_
   show SG p e below T1249 (mkF m 6 #[vR a1247, vR a1248] [(.ref a1248), (.ref a1247), (.ref b1249), (.ref b1249)]) _
   refine st1269.trans ?_
   show SG p e below T1269 (mkF m 9 #[vR a1247, vR a1248] [(.ref b1249)]) _
   jvm_step X1269.here [X1269.here.top, hx, (hb hby d30_9), X1269.method', Bd.returns, Value.isRef, FieldType.isReference]
   first | (intro acts; rw [hr _ acts rfl rfl rfl]) | rw [hr _ _ rfl rfl rfl]
   exact Steps.refl _
 · show Qr30_1 Z a1247 a1248 h0 n0 _ T1269.heap _
   exact ⟨N1269, b1249, rfl, z1271, KC1269, f1272, o1269_0, o1269_1⟩
theorem pd_33 : parseMethodDescriptor "(Ljava/lang/Object;Ljava/lang/Object;)Ljava/util/List;" = some ⟨[(.object "java/lang/Object"), (.object "java/lang/Object")], some (.object "java/util/List")⟩ := by decide +kernel
theorem d4_47 : decode prog_2_method_2_code 47 = .ok (.areturn, 1) := by decide +kernel
theorem pn_com_example_eta4_eta4_bench_FillFigures : plainName "com/example/eta4/eta4/bench/FillFigures" = true := by first | (simp [plainName, overriddenIn]; done) | decide +kernel
theorem ef_4_v (m : MethodId) (x0 : Addr) : entryFrame m #[(.ref x0)] 1 = mkF m 0 #[.val (.ref x0)] [] := by first | (simp [entryFrame, mkF, argsToLocals, Value.category]; done) | rfl
def Qr4_1 (Z : State) (a843 : Addr) (w867 : Int32) (w999 : Int64) (w1010 : Addr) (w1012 : Addr) (k1014 : ClassId) (u1015 : Nat → Int32) (k1020 : ClassId) (u1021 : Nat → Int32) (w1205 : Int64) (h0 : Heap) (n0 : Nat) (v : Option Value) (h : Heap) (L : List Loc) : Prop := Fr n0 L ∧ ∃ b844 b866_0 b1005_0 b1029_0 b1029_1 b1036 b1061_0 b1212_0 b1236_0 b1236_1 b1273_0 : Addr, ∃ k1005_0 k1029_0 k1212_0 k1236_0 : ClassId, v = some (.ref b1273_0) ∧ h0.size ≤ b844 ∧ h0.size ≤ b866_0 ∧ h0.size ≤ b1005_0 ∧ h0.size ≤ b1029_0 ∧ h0.size ≤ b1029_1 ∧ h0.size ≤ b1036 ∧ h0.size ≤ b1061_0 ∧ h0.size ≤ b1212_0 ∧ h0.size ≤ b1236_0 ∧ h0.size ≤ b1236_1 ∧ h0.size ≤ b1273_0 ∧ KSx h0 h [] [] ∧ Exa Z h b844 "java/lang/StringBuilder" ∧ Exa Z h b866_0 "[B" ∧ Exa Z h b1005_0 "[B" ∧ Exa Z h b1029_0 "java/lang/String" ∧ Exa Z h b1029_1 "[B" ∧ Exa Z h b1036 "java/lang/StringBuilder" ∧ Exa Z h b1061_0 "[B" ∧ Exa Z h b1212_0 "[B" ∧ Exa Z h b1236_0 "java/lang/String" ∧ Exa Z h b1236_1 "[B" ∧ Exa Z h b1273_0 "java/util/ImmutableCollections$List12" ∧ Fld Z h b844 "java/lang/AbstractStringBuilder" "value" "[B" (.ref b1005_0) ∧ Fld Z h b844 "java/lang/AbstractStringBuilder" "coder" "B" (.int (0 : Int32)) ∧ Fld Z h b844 "java/lang/AbstractStringBuilder" "count" "I" (.int (((0 : Int32) + ((10 : Int32) >>> ((0 : Int32) &&& 31))) + (SBG.strSizeOfL w999))) ∧ Fld Z h b1029_0 "java/lang/String" "value" "[B" (.ref b1029_1) ∧ Fld Z h b1029_0 "java/lang/String" "coder" "B" (.int (0 : Int32)) ∧ Fld Z h b1036 "java/lang/AbstractStringBuilder" "value" "[B" (.ref b1212_0) ∧ Fld Z h b1036 "java/lang/AbstractStringBuilder" "coder" "B" (.int (0 : Int32)) ∧ Fld Z h b1036 "java/lang/AbstractStringBuilder" "count" "I" (.int (((0 : Int32) + ((12 : Int32) >>> ((0 : Int32) &&& 31))) + (SBG.strSizeOfL w1205))) ∧ Fld Z h b1236_0 "java/lang/String" "value" "[B" (.ref b1236_1) ∧ Fld Z h b1236_0 "java/lang/String" "coder" "B" (.int (0 : Int32)) ∧ Fld Z h b1273_0 "java/util/ImmutableCollections$List12" "e0" "Ljava/lang/Object;" (.ref b1029_0) ∧ Fld Z h b1273_0 "java/util/ImmutableCollections$List12" "e1" "Ljava/lang/Object;" (.ref b1236_0) ∧ BA Z h b1005_0 k1005_0 .byte (oz16 ((0 : Int32) + ((10 : Int32) >>> ((0 : Int32) &&& 31))) w999) (SBG.ogc (decide (w999 < 0)) (w999).toInt.natAbs (SBG.digitsL (w999).toInt.natAbs) ((((0 : Int32) + ((10 : Int32) >>> ((0 : Int32) &&& 31))) + (SBG.strSizeOfL w999))).toNatClampNeg (fun i => if i < 16 then (fun i => if (((0 : Int32) <<< ((0 : Int32) &&& 31))).toNatClampNeg ≤ i ∧ i < (((0 : Int32) <<< ((0 : Int32) &&& 31))).toNatClampNeg + ((10 : Int32)).toNatClampNeg then (fun i => ([112, 117, 115, 104, 101, 100, 95, 111, 107, 32] : List Int32).getD i 0) (((0 : Int32)).toNatClampNeg + (i - (((0 : Int32) <<< ((0 : Int32) &&& 31))).toNatClampNeg)) else (fun _ => (0 : Int32)) i) i else 0)) ∧ BA Z h b1029_1 k1029_0 .byte (((0 : Int32) + ((10 : Int32) >>> ((0 : Int32) &&& 31))) + (SBG.strSizeOfL w999)) ((SBG.ogc (decide (w999 < 0)) (w999).toInt.natAbs (SBG.digitsL (w999).toInt.natAbs) ((((0 : Int32) + ((10 : Int32) >>> ((0 : Int32) &&& 31))) + (SBG.strSizeOfL w999))).toNatClampNeg (fun i => if i < 16 then (fun i => if (((0 : Int32) <<< ((0 : Int32) &&& 31))).toNatClampNeg ≤ i ∧ i < (((0 : Int32) <<< ((0 : Int32) &&& 31))).toNatClampNeg + ((10 : Int32)).toNatClampNeg then (fun i => ([112, 117, 115, 104, 101, 100, 95, 111, 107, 32] : List Int32).getD i 0) (((0 : Int32)).toNatClampNeg + (i - (((0 : Int32) <<< ((0 : Int32) &&& 31))).toNatClampNeg)) else (fun _ => (0 : Int32)) i) i else 0))) ∧ BA Z h b1212_0 k1212_0 .byte (oz16 ((0 : Int32) + ((12 : Int32) >>> ((0 : Int32) &&& 31))) w1205) (SBG.ogc (decide (w1205 < 0)) (w1205).toInt.natAbs (SBG.digitsL (w1205).toInt.natAbs) ((((0 : Int32) + ((12 : Int32) >>> ((0 : Int32) &&& 31))) + (SBG.strSizeOfL w1205))).toNatClampNeg (fun i => if i < 16 then (fun i => if (((0 : Int32) <<< ((0 : Int32) &&& 31))).toNatClampNeg ≤ i ∧ i < (((0 : Int32) <<< ((0 : Int32) &&& 31))).toNatClampNeg + ((12 : Int32)).toNatClampNeg then (fun i => ([112, 117, 115, 104, 95, 101, 114, 114, 111, 114, 115, 32] : List Int32).getD i 0) (((0 : Int32)).toNatClampNeg + (i - (((0 : Int32) <<< ((0 : Int32) &&& 31))).toNatClampNeg)) else (fun _ => (0 : Int32)) i) i else 0)) ∧ BA Z h b1236_1 k1236_0 .byte (((0 : Int32) + ((12 : Int32) >>> ((0 : Int32) &&& 31))) + (SBG.strSizeOfL w1205)) ((SBG.ogc (decide (w1205 < 0)) (w1205).toInt.natAbs (SBG.digitsL (w1205).toInt.natAbs) ((((0 : Int32) + ((12 : Int32) >>> ((0 : Int32) &&& 31))) + (SBG.strSizeOfL w1205))).toNatClampNeg (fun i => if i < 16 then (fun i => if (((0 : Int32) <<< ((0 : Int32) &&& 31))).toNatClampNeg ≤ i ∧ i < (((0 : Int32) <<< ((0 : Int32) &&& 31))).toNatClampNeg + ((12 : Int32)).toNatClampNeg then (fun i => ([112, 117, 115, 104, 95, 101, 114, 114, 111, 114, 115, 32] : List Int32).getD i 0) (((0 : Int32)).toNatClampNeg + (i - (((0 : Int32) <<< ((0 : Int32) &&& 31))).toNatClampNeg)) else (fun _ => (0 : Int32)) i) i else 0)))
theorem r4_1 (l : Launch) (Z : State) (a0 : Array Value) (hw : ∀ d ∈ tables_1, d.before a0 Z = true) (a843 : Addr) (w867 : Int32) (w999 : Int64) (w1010 : Addr) (w1012 : Addr) (k1014 : ClassId) (u1015 : Nat → Int32) (k1020 : ClassId) (u1021 : Nat → Int32) (w1205 : Int64) (h0 : Heap) (n0 : Nat) (Z0 : n0 ≤ h0.size) (H0 : Sta Z h0 "java/lang/String" "COMPACT_STRINGS" "Z" (.int w867)) (H1 : ¬ (w867 = (0 : Int32))) (H2 : Fld Z h0 a843 "com/example/eta4/eta4/bench/FillFigures" "pushedOk" "J" (.long w999)) (H3 : Sta Z h0 "java/lang/Integer" "DigitOnes" "[B" (.ref w1010)) (H4 : Sta Z h0 "java/lang/Integer" "DigitTens" "[B" (.ref w1012)) (H5 : BA Z h0 w1010 k1014 .byte (100 : Int32) u1015) (H6 : BA Z h0 w1012 k1020 .byte (100 : Int32) u1021) (H7 : u1015 = (fun r => Int32.ofNat (48 + r % 10))) (H8 : u1021 = (fun r => Int32.ofNat (48 + r / 10))) (H9 : (Jvm.Cond.laysStatic "java/lang/Integer" "DigitOnes" "[B").before a0 Z = true) (H10 : (Jvm.Cond.laysStatic "java/lang/Integer" "DigitTens" "[B").before a0 Z = true) (H11 : ¬ ((((0 : Int32) + ((10 : Int32) >>> ((0 : Int32) &&& 31))) + (SBG.strSizeOfL w999)) < (0 : Int32))) (H12 : ((((0 : Int32) + ((10 : Int32) >>> ((0 : Int32) &&& 31))) + (SBG.strSizeOfL w999))).toNatClampNeg ≤ ((oz16 ((0 : Int32) + ((10 : Int32) >>> ((0 : Int32) &&& 31))) w999)).toNatClampNeg) (H13 : ¬ ((34 : Int32) < (oz16 ((0 : Int32) + ((10 : Int32) >>> ((0 : Int32) &&& 31))) w999))) (H14 : Fld Z h0 a843 "com/example/eta4/eta4/bench/FillFigures" "pushErrors" "J" (.long w1205)) (H15 : ¬ ((((0 : Int32) + ((12 : Int32) >>> ((0 : Int32) &&& 31))) + (SBG.strSizeOfL w1205)) < (0 : Int32))) (H16 : ((((0 : Int32) + ((12 : Int32) >>> ((0 : Int32) &&& 31))) + (SBG.strSizeOfL w1205))).toNatClampNeg ≤ ((oz16 ((0 : Int32) + ((12 : Int32) >>> ((0 : Int32) &&& 31))) w1205)).toNatClampNeg) (H17 : ¬ ((34 : Int32) < (oz16 ((0 : Int32) + ((12 : Int32) >>> ((0 : Int32) &&& 31))) w1205))) :
   OMetH EL l Z mN47 prog_2_method_2_code 1 (some (.object "java/util/List")) [] ({ frames := 6, cells := 15, slots := 318, locals := 133 } : Room) h0 #[(.ref a843)] (Qr4_1 Z a843 w867 w999 w1010 w1012 k1014 u1015 k1020 u1021 w1205 h0 n0) := by
 refine MetFree.of_bodySF (plainFor_of_name pn_com_example_eta4_eta4_bench_FillFigures) hisR ?_
 intro p e s m args below meth c s₁ Bd hml0 hP hK
 obtain ⟨rfl, hZ, hh, hCH⟩ := hP
 have hx := Bd.exec
 have hby := Bd.bytes
 have hml : c.maxLocals = 1 := hml0
 have hown : s.vm.findClass "com/example/eta4/eta4/bench/FillFigures" = some m.cls := findClass_of_methodNamed Bd.named
 have hnm := (name_of_methodNamed Bd.named Bd.method).1
 have X0 : Stand p l e ({ frames := 6, cells := 15, slots := 318, locals := 133 } : Room) s m #[(.ref a843)] below meth c s₁ [] 0 0 := Stand.of_body Bd
 have e0 : s₁.heap = h0 := by rw [← hh, Bd.state]; rfl
 have N0 := Fr.nil n0
 have R0 : CHr Z EL s.vm h0 s.vm h0 := CHr.refl hCH
 have pre0 : ∀ t, Steps p.tables e below (s₁.setTop (mkF m 0 #[vR a843] [])) t → Steps p.tables e below (s₁.setTop (entryFrame m #[(.ref a843)] 1)) t := fun t k => castTop (ef_4_v m a843) k
 obtain ⟨T844, h844, X844, e844, E844, A844, D844, -, st844⟩ := newO X0 hx hZ hown (tw hw 23 rfl) (tw hw 24 rfl) (tw hw 25 rfl) e0 (g := (mkF m 0 #[vR a843] [])) rfl (hb hby d4_0) (by decide) (by decide)
 obtain ⟨b844, g844⟩ : ∃ z, z = h0.size := ⟨_, rfl⟩
 rw [← g844] at A844 D844 st844
 have KC844 := KSx.ext (KSx.refl h0 [] []) E844
 have R844 := CHr.trans R0 (CHr.ext E844 R0.1)
 have f868 := (H0.ext E844)
 have g869 : n0 ≤ b844 := Nat.le_trans Z0 (Nat.le_of_eq g844.symm)
 have Z844 : n0 ≤ h844.size := Nat.le_trans Z0 E844.1
 obtain ⟨_, _, ⟨T866, L866, k866, n866⟩, -, X866, ⟨Lc866, hQ866, l866, y866, z866⟩, st866⟩ := X844.specialBack hx (y := mN35) rfl hown (mvT hZ (tw hw 26 rfl)) (mvT hZ (tw hw 27 rfl)) (mvT hZ (tw hw 28 rfl)) (by decide) (backOf (W := 1) (r5_1 l Z a0 hw b844 w867 (0 : Int32) h844 n0 Z844 f868 H1 A844 (D844 (Or.inl (tw hw 40 rfl)) (ty := (.array .byte)) (by decide)) g869 (D844 (Or.inl (tw hw 42 rfl)) (ty := .byte) (by decide))) hZ (tw hw 28 rfl) (tw hw 25 rfl) (by decide) (by decide)) (g := (mkF m 4 #[vR a843] [(.ref b844), (.ref b844)])) rfl (by rw [hml]; rfl) (Steps.refl _) (a := b844) (argsL := []) (rest := [(.ref b844)]) (lenOf pd_23 rfl) rfl (own_w _) (hb hby d4_4) (fun _ _ => ⟨rfl, e844, (by decide : 1 + 1 ≤ _), (by decide : 4 + 34 ≤ _)⟩)
 dsimp only [Pt.U, Pt.locs, Pt.cells, Pt.slots] at X866 l866 y866 z866 st866 hQ866
 replace X866 := own_mvX X866 (a := 2) (b := 38) y866 z866
 obtain ⟨N866q, b866_0, k866_0, rfl, ge_b866_0, K866, o866_0, o866_1, o866_2, o866_3⟩ := hQ866
 have N866 := own_mvN l866 N0 N866q
 have z870 : h0.size ≤ b844 := Nat.le_trans (KSx.refl h0 [] []).1 (Nat.le_of_eq g844.symm)
 have KC866 := KSx.trans KC844 K866 (ksS (Or.inr z870) (ksS (Or.inr z870) ks0)) all0
 have R866 := CHr.trans R844 (CHr.ks K866 (ksS (Safe.exa hZ.alike A844 (by decide) (by decide)) (ksS (Safe.exa hZ.alike A844 (by decide) (by decide)) ks0)) all0 R844.1)
 have sf871 := Safe.ks K866 (ksS (Safe.exa hZ.alike A844 (by decide) (by decide)) (ksS (Safe.exa hZ.alike A844 (by decide) (by decide)) ks0)) all0 R844.1 (Safe.new ge_b866_0)
 obtain ⟨b872, T872, h872, j872, b872_1, k872, X872, e872, E872, hS872, hk872, hZ872, ho872, A872, Fc872, Fv872, V872, lt872, lu872, ch872, -, sx872, st872⟩ := ldcCH (s := s) (vm0 := s.vm) X866 hx hZ hown (tw hw 43 rfl) (fun d hd => hw d (str_in d hd)) rfl ((State.WarmedH.refl s).since 0) (Nat.zero_le _) (el_ok hw) (List.mem_of_getElem? (i := 0) rfl) R866.1 (vs := [(.int (112 : Int32)), (.int (117 : Int32)), (.int (115 : Int32)), (.int (104 : Int32)), (.int (101 : Int32)), (.int (100 : Int32)), (.int (95 : Int32)), (.int (111 : Int32)), (.int (107 : Int32)), (.int (32 : Int32))]) (z := (10 : Int32)) ⟨by decide, by decide +kernel⟩ (by decide) rfl (g := (mkF m 7 #[vR a843] [(.ref b844)])) rfl (hb hby d4_7) (n := 40) (by decide) (by decide) (by decide) (by decide)
 have KC872 := KSx.ext KC866 E872
 have R872 := CHr.trans R866 ch872
 have sf873 := CHr.safe ch872 (o866_0).lt sf871
 have Bl872 : BA Z h872 b872_1 k872 .byte (10 : Int32) (fun i => ([112, 117, 115, 104, 101, 100, 95, 111, 107, 32] : List Int32).getD i 0) := BA.of_arv V872 (fun i hi => by match i, hi with | 0, _ => rfl | 1, _ => rfl | 2, _ => rfl | 3, _ => rfl | 4, _ => rfl | 5, _ => rfl | 6, _ => rfl | 7, _ => rfl | 8, _ => rfl | 9, _ => rfl | _ + 10, hi => exact absurd hi (by simp only [show (10 : Int32).toNatClampNeg = 10 from rfl]; omega))
 have f988 := ((f868.ks K866).ext E872)
 have f989 := (((D844 (Or.inl (tw hw 73 rfl)) (ty := .int) (by decide)).ks K866 (ksS (Or.inr (slot_ne (Or.inl (tw hw 73 rfl)) (Or.inl (tw hw 42 rfl)) (by decide) (t := .int) (t' := .byte) (by decide) (by decide))) (ksS (Or.inr (slot_ne (Or.inl (tw hw 73 rfl)) (Or.inl (tw hw 40 rfl)) (by decide) (t := .int) (t' := (.array .byte)) (by decide) (by decide))) ks0)) all0).ext E872)
 have f990 := (o866_1.ext E872)
 have f991 := (o866_3.ext E872)
 have f992 := (o866_2.ext E872)
 have f993 := ((A844.ks K866).ext E872)
 have g994 : n0 ≤ b866_0 := Nat.le_trans Z844 ge_b866_0
 have ne995 : b844 ≠ b866_0 := (Nat.ne_of_lt (Nat.lt_of_lt_of_le (A844).lt ge_b866_0))
 have Z866 : n0 ≤ T866.heap.size := Nat.le_trans Z844 K866.1
 have Z872 : n0 ≤ h872.size := Nat.le_trans Z866 E872.1
 obtain ⟨cq987, kq987, q987a, q987b, q987c⟩ := isOf hZ872 e872 f993
 obtain ⟨_, _, ⟨T987, L987, k987, n987⟩, -, X987, ⟨Lc987, hQ987, l987, y987, z987⟩, st987⟩ := X872.virtualBack hx (y := mN40) (z := mN40) ho872 (mvT hZ872 (tw hw 49 rfl)) (mvT hZ872 (tw hw 50 rfl)) (notFace_of_selects (args := #[]) (mvT hZ872 (tw hw 52 rfl))) (mvT hZ872 (tw hw 52 rfl)) (mvT hZ872 (tw hw 51 rfl)) (by decide) (backOf (W := 0) (r7_1 l Z a0 hw b844 b872 b872_1 k872 (fun i => ([112, 117, 115, 104, 101, 100, 95, 111, 107, 32] : List Int32).getD i 0) w867 (0 : Int32) (0 : Int32) b866_0 k866_0 (fun _ => (0 : Int32)) (16 : Int32) (0 : Int32) h872 n0 Z872 Fv872 Bl872 f988 H1 Fc872 (by first | decide | rfl) A872 f989 f990 f991 f992 (by first | decide | rfl) f993 rfl rfl (by first | decide | rfl) (by first | decide | rfl) g994 ne995 g869 (Ne.symm ne995)) hZ872 (tw hw 53 rfl) (tw hw 25 rfl) (by decide) (by decide)) q987a q987c (g := (mkF m 9 #[vR a843] [(.ref b872), (.ref b844)])) rfl (by rw [hml]; rfl) (Steps.refl _) (argsL := [(.ref b872)]) (rest := []) (lenOf pd_28 rfl) rfl (own_w _) (hb hby d4_9) (fun _ _ => ⟨rfl, e872, (by decide : 4 + 0 ≤ _), (by decide : 82 + 0 ≤ _)⟩)
 dsimp only [Pt.U, Pt.locs, Pt.cells, Pt.slots] at X987 l987 y987 z987 st987 hQ987
 replace X987 := own_mvX X987 (a := 4) (b := 82) y987 z987
 obtain ⟨N987q, rfl, K987, o987_0, o987_1⟩ := hQ987
 have N987 := own_mvN l987 N866 N987q
 have z996 : h0.size ≤ b866_0 := Nat.le_trans KC844.1 ge_b866_0
 have KC987 := KSx.trans KC872 K987 (ksS (Or.inr z870) ks0) (allS (Or.inr z996) all0)
 have R987 := CHr.trans R872 (CHr.ks K987 (ksS (Safe.exa hZ872.alike f993 (by decide) (by decide)) ks0) (allS sf873 all0) R872.1)
 have f997 := (o866_0.ext E872)
 have sf998 := Safe.ks K987 (ksS (Safe.exa hZ872.alike f993 (by decide) (by decide)) ks0) (allS sf873 all0) R872.1 sf873
 have ne1000 : a843 ≠ b844 := (Nat.ne_of_lt (Nat.lt_of_lt_of_le (H2).lt (Nat.le_of_eq g844.symm)))
 have f1001 := (H2.ext E844)
 have ne1002 : a843 ≠ b866_0 := (Nat.ne_of_lt (Nat.lt_of_lt_of_le (f1001).lt ge_b866_0))
 have f1003 := ((((H2.ext E844).ks K866 (ksS (Or.inl ne1000) (ksS (Or.inl ne1000) ks0)) all0).ext E872).ks K987 (ksS (Or.inl ne1000) ks0) (allS ne1002 all0))
 obtain ⟨T1004, X1004, e1004, st1004⟩ := getF X987 hx hZ872 ho872 (host := "") (Or.inl (tw hw 14 rfl)) Via.refl rfl f1003 (g := (mkF m 13 #[vR a843] [(.ref a843), (.ref b844)])) rfl rfl (hb hby d4_13)
 have f1006 := (f990.ks K987 (ksS (Or.inr (slot_ne (Or.inl (tw hw 40 rfl)) (Or.inl (tw hw 73 rfl)) (by decide) (t := (.array .byte)) (t' := .int) (by decide) (by decide))) ks0) (allS ne995 all0))
 have f1007 := (f992.ks K987 (ksS (Or.inr (slot_ne (Or.inl (tw hw 42 rfl)) (Or.inl (tw hw 73 rfl)) (by decide) (t := .byte) (t' := .int) (by decide) (by decide))) ks0) (allS ne995 all0))
 have f1008 := (f993.ks K987)
 have f1009 := (f988.ks K987)
 have f1011 := ((((H3.ext E844).ks K866).ext E872).ks K987)
 have f1013 := ((((H4.ext E844).ks K866).ext E872).ks K987)
 have ne1016 : w1010 ≠ b844 := (Nat.ne_of_lt (Nat.lt_of_lt_of_le (H5).lt (Nat.le_of_eq g844.symm)))
 have f1017 := (H5.ext E844)
 have ne1018 : w1010 ≠ b866_0 := (Nat.ne_of_lt (Nat.lt_of_lt_of_le (f1017).lt ge_b866_0))
 have f1019 := ((((H5.ext E844).ks K866 (ksS ne1016 (ksS ne1016 ks0)) all0).ext E872).ks K987 (ksS ne1016 ks0) (allS ne1018 all0))
 have ne1022 : w1012 ≠ b844 := (Nat.ne_of_lt (Nat.lt_of_lt_of_le (H6).lt (Nat.le_of_eq g844.symm)))
 have f1023 := (H6.ext E844)
 have ne1024 : w1012 ≠ b866_0 := (Nat.ne_of_lt (Nat.lt_of_lt_of_le (f1023).lt ge_b866_0))
 have f1025 := ((((H6.ext E844).ks K866 (ksS ne1022 (ksS ne1022 ks0)) all0).ext E872).ks K987 (ksS ne1022 ks0) (allS ne1024 all0))
 have f1026 := (f997.ks K987)
 have Z987 : n0 ≤ T987.heap.size := Nat.le_trans Z872 K987.1
 obtain ⟨cq1005, kq1005, q1005a, q1005b, q1005c⟩ := isOf hZ872 e1004 f1008
 obtain ⟨_, _, ⟨T1005, L1005, k1005, n1005⟩, -, X1005, ⟨Lc1005, hQ1005, l1005, y1005, z1005⟩, st1005⟩ := X1004.virtualBack hx (y := mN29) (z := mN29) ho872 (mvT hZ872 (tw hw 99 rfl)) (mvT hZ872 (tw hw 100 rfl)) (notFace_of_selects (args := #[]) (mvT hZ872 (tw hw 102 rfl))) (mvT hZ872 (tw hw 102 rfl)) (mvT hZ872 (tw hw 101 rfl)) (by decide) (backOf (W := 0) (own_apJ l Z a0 hw b844 w999 ((0 : Int32) + ((10 : Int32) >>> ((0 : Int32) &&& 31))) b866_0 k866_0 (fun i => if (((0 : Int32) <<< ((0 : Int32) &&& 31))).toNatClampNeg ≤ i ∧ i < (((0 : Int32) <<< ((0 : Int32) &&& 31))).toNatClampNeg + ((10 : Int32)).toNatClampNeg then (fun i => ([112, 117, 115, 104, 101, 100, 95, 111, 107, 32] : List Int32).getD i 0) (((0 : Int32)).toNatClampNeg + (i - (((0 : Int32) <<< ((0 : Int32) &&& 31))).toNatClampNeg)) else (fun _ => (0 : Int32)) i) (0 : Int32) w867 w1010 w1012 k1014 u1015 k1020 u1021 T987.heap n0 Z987 o987_0 f1006 o987_1 f1007 f1008 f1009 H1 rfl f1011 f1013 f1019 f1025 (Ne.symm ne1018) (Ne.symm ne1024) g994 H7 H8 H9 H10 ne995 g869 ne1016 ne1022 f1026 (by first | decide | rfl) (by first | decide | rfl)) hZ872 (tw hw 103 rfl) (tw hw 25 rfl) (by decide) (by decide)) q1005a q1005c (g := (mkF m 16 #[vR a843] [(.long w999), (.ref b844)])) rfl (by rw [hml]; rfl) (Steps.refl _) (argsL := [(.long w999)]) (rest := []) (lenOf pd_29 rfl) rfl (own_w _) (hb hby d4_16) (fun _ _ => ⟨rfl, e1004, (by decide : 4 + 1 ≤ _), (by decide : 82 + 34 ≤ _)⟩)
 dsimp only [Pt.U, Pt.locs, Pt.cells, Pt.slots] at X1005 l1005 y1005 z1005 st1005 hQ1005
 replace X1005 := own_mvX X1005 (a := 5) (b := 116) y1005 z1005
 obtain ⟨N1005q, b1005_0, k1005_0, rfl, ge_b1005_0, K1005, o1005_0, o1005_1, o1005_2, o1005_3⟩ := hQ1005
 have N1005 := own_mvN l1005 N987 N1005q
 have ga1027 := own_alt ge_b1005_0 ge_b866_0 (Nat.le_trans (Nat.le_trans K866.1 E872.1) K987.1)
 have KC1005 := KSx.trans KC987 K1005 (ksS (Or.inr z870) (ksS (Or.inr z870) ks0)) (allS (Or.inr z996) all0)
 have R1005 := CHr.trans R987 (CHr.ks K1005 (ksS (Safe.exa hZ872.alike f1008 (by decide) (by decide)) (ksS (Safe.exa hZ872.alike f1008 (by decide) (by decide)) ks0)) (allS sf998 all0) R987.1)
 have sf1028 := Safe.ks K1005 (ksS (Safe.exa hZ872.alike f1008 (by decide) (by decide)) (ksS (Safe.exa hZ872.alike f1008 (by decide) (by decide)) ks0)) (allS sf998 all0) R987.1 sf998
 have f1030 := (f1008.ks K1005)
 have f1031 := (f1009.ks K1005)
 have f1032 := (f1007.ks K1005 (ksS (Or.inr (slot_ne (Or.inl (tw hw 42 rfl)) (Or.inl (tw hw 73 rfl)) (by decide) (t := .byte) (t' := .int) (by decide) (by decide))) (ksS (Or.inr (slot_ne (Or.inl (tw hw 42 rfl)) (Or.inl (tw hw 40 rfl)) (by decide) (t := .byte) (t' := (.array .byte)) (by decide) (by decide))) ks0)) (allS ne995 all0))
 have Z1005 : n0 ≤ T1005.heap.size := Nat.le_trans Z987 K1005.1
 obtain ⟨cq1029, kq1029, q1029a, q1029b, q1029c⟩ := isOf hZ872 rfl f1030
 obtain ⟨_, _, ⟨T1029, L1029, k1029, n1029⟩, -, X1029, ⟨Lc1029, hQ1029, l1029, y1029, z1029⟩, st1029⟩ := X1005.virtualBack hx (y := mN25) (z := mN25) ho872 (mvT hZ872 (tw hw 124 rfl)) (mvT hZ872 (tw hw 125 rfl)) (notFace_of_selects (args := #[]) (mvT hZ872 (tw hw 127 rfl))) (mvT hZ872 (tw hw 127 rfl)) (mvT hZ872 (tw hw 126 rfl)) (by decide) (backOf (W := 0) (own_tos l Z a0 hw b844 b1005_0 (((0 : Int32) + ((10 : Int32) >>> ((0 : Int32) &&& 31))) + (SBG.strSizeOfL w999)) w867 (0 : Int32) k1005_0 (oz16 ((0 : Int32) + ((10 : Int32) >>> ((0 : Int32) &&& 31))) w999) (SBG.ogc (decide (w999 < 0)) (w999).toInt.natAbs (SBG.digitsL (w999).toInt.natAbs) ((((0 : Int32) + ((10 : Int32) >>> ((0 : Int32) &&& 31))) + (SBG.strSizeOfL w999))).toNatClampNeg (fun i => if i < 16 then (fun i => if (((0 : Int32) <<< ((0 : Int32) &&& 31))).toNatClampNeg ≤ i ∧ i < (((0 : Int32) <<< ((0 : Int32) &&& 31))).toNatClampNeg + ((10 : Int32)).toNatClampNeg then (fun i => ([112, 117, 115, 104, 101, 100, 95, 111, 107, 32] : List Int32).getD i 0) (((0 : Int32)).toNatClampNeg + (i - (((0 : Int32) <<< ((0 : Int32) &&& 31))).toNatClampNeg)) else (fun _ => (0 : Int32)) i) i else 0)) T1005.heap n0 Z1005 o1005_2 f1030 o1005_1 f1031 H1 f1032 rfl o1005_3 o1005_0 H11 H12 H13) hZ872 (tw hw 128 rfl) (tw hw 25 rfl) (by decide) (by decide)) q1029a q1029c (g := (mkF m 19 #[vR a843] [(.ref b844)])) rfl (by rw [hml]; rfl) (Steps.refl _) (argsL := []) (rest := []) (lenOf pd_30 rfl) rfl (own_w _) (hb hby d4_19) (fun _ _ => ⟨rfl, rfl, (by decide : 5 + 2 ≤ _), (by decide : 116 + 38 ≤ _)⟩)
 dsimp only [Pt.U, Pt.locs, Pt.cells, Pt.slots] at X1029 l1029 y1029 z1029 st1029 hQ1029
 replace X1029 := own_mvX X1029 (a := 7) (b := 154) y1029 z1029
 obtain ⟨N1029q, b1029_0, b1029_1, k1029_0, rfl, ge_b1029_0, ge_b1029_1, K1029, o1029_0, o1029_1, o1029_2, o1029_3, o1029_4⟩ := hQ1029
 have N1029 := own_mvN l1029 N1005 N1029q
 have KC1029 := KSx.trans KC1005 K1029 ks0 all0
 have R1029 := CHr.trans R1005 (CHr.ks K1029 ks0 all0 R1005.1)
 have f1033 := (f1026.ks K1005)
 have sf1034 := Safe.ks K1029 ks0 all0 R1005.1 sf1028
 have sf1035 := Safe.ks K1029 ks0 all0 R1005.1 (Safe.new ge_b1029_1)
 obtain ⟨T1036, h1036, X1036, e1036, E1036, A1036, D1036, -, st1036⟩ := newO X1029 hx hZ872 ho872 (tw hw 23 rfl) (tw hw 24 rfl) (tw hw 25 rfl) rfl (g := (mkF m 22 #[vR a843] [(.ref b1029_0)])) rfl (hb hby d4_22) (by decide) (by decide)
 obtain ⟨b1036, g1036⟩ : ∃ z, z = T1029.heap.size := ⟨_, rfl⟩
 rw [← g1036] at A1036 D1036 st1036
 have KC1036 := KSx.ext KC1029 E1036
 have R1036 := CHr.trans R1029 (CHr.ext E1036 R1029.1)
 have f1037 := (f1033.ks K1029)
 have sf1038 := Safe.ext E1036 R1029.1 sf1034
 have sf1039 := Safe.ext E1036 R1029.1 sf1035
 have f1062 := ((f1031.ks K1029).ext E1036)
 have Z1029 : n0 ≤ T1029.heap.size := Nat.le_trans Z1005 K1029.1
 have g1063 : n0 ≤ b1036 := Nat.le_trans Z1029 (Nat.le_of_eq g1036.symm)
 have Z1036 : n0 ≤ h1036.size := Nat.le_trans Z1029 E1036.1
 obtain ⟨_, _, ⟨T1061, L1061, k1061, n1061⟩, -, X1061, ⟨Lc1061, hQ1061, l1061, y1061, z1061⟩, st1061⟩ := X1036.specialBack hx (y := mN35) rfl ho872 (mvT hZ872 (tw hw 26 rfl)) (mvT hZ872 (tw hw 27 rfl)) (mvT hZ872 (tw hw 28 rfl)) (by decide) (backOf (W := 2) (r5_1 l Z a0 hw b1036 w867 (0 : Int32) h1036 n0 Z1036 f1062 H1 A1036 (D1036 (Or.inl (tw hw 40 rfl)) (ty := (.array .byte)) (by decide)) g1063 (D1036 (Or.inl (tw hw 42 rfl)) (ty := .byte) (by decide))) hZ872 (tw hw 28 rfl) (tw hw 25 rfl) (by decide) (by decide)) (g := (mkF m 26 #[vR a843] [(.ref b1036), (.ref b1036), (.ref b1029_0)])) rfl (by rw [hml]; rfl) (Steps.refl _) (a := b1036) (argsL := []) (rest := [(.ref b1036), (.ref b1029_0)]) (lenOf pd_23 rfl) rfl (own_w _) (hb hby d4_26) (fun _ _ => ⟨rfl, e1036, (by decide : 8 + 1 ≤ _), (by decide : 158 + 34 ≤ _)⟩)
 dsimp only [Pt.U, Pt.locs, Pt.cells, Pt.slots] at X1061 l1061 y1061 z1061 st1061 hQ1061
 replace X1061 := own_mvX X1061 (a := 9) (b := 192) y1061 z1061
 obtain ⟨N1061q, b1061_0, k1061_0, rfl, ge_b1061_0, K1061, o1061_0, o1061_1, o1061_2, o1061_3⟩ := hQ1061
 have N1061 := own_mvN l1061 N1029 N1061q
 have z1064 : h0.size ≤ b1036 := Nat.le_trans KC1029.1 (Nat.le_of_eq g1036.symm)
 have KC1061 := KSx.trans KC1036 K1061 (ksS (Or.inr z1064) (ksS (Or.inr z1064) ks0)) all0
 have R1061 := CHr.trans R1036 (CHr.ks K1061 (ksS (Safe.exa hZ872.alike A1036 (by decide) (by decide)) (ksS (Safe.exa hZ872.alike A1036 (by decide) (by decide)) ks0)) all0 R1036.1)
 have f1065 := (f1037.ext E1036)
 have sf1066 := Safe.ks K1061 (ksS (Safe.exa hZ872.alike A1036 (by decide) (by decide)) (ksS (Safe.exa hZ872.alike A1036 (by decide) (by decide)) ks0)) all0 R1036.1 sf1038
 have f1067 := (o1029_1.ext E1036)
 have sf1068 := Safe.ks K1061 (ksS (Safe.exa hZ872.alike A1036 (by decide) (by decide)) (ksS (Safe.exa hZ872.alike A1036 (by decide) (by decide)) ks0)) all0 R1036.1 sf1039
 have sf1069 := Safe.ks K1061 (ksS (Safe.exa hZ872.alike A1036 (by decide) (by decide)) (ksS (Safe.exa hZ872.alike A1036 (by decide) (by decide)) ks0)) all0 R1036.1 (Safe.new ge_b1061_0)
 obtain ⟨b1070, T1070, h1070, j1070, b1070_1, k1070, X1070, e1070, E1070, hS1070, hk1070, hZ1070, ho1070, A1070, Fc1070, Fv1070, V1070, lt1070, lu1070, ch1070, -, sx1070, st1070⟩ := ldcCH (s := s) X1061 hx hZ872 ho872 (tw hw 167 rfl) (fun d hd => hw d (str_in d hd)) rfl hS872 (Nat.le_trans hk872 (Nat.le_trans (Nat.le_trans (Nat.le_trans (Nat.le_trans K987.1 K1005.1) K1029.1) E1036.1) K1061.1)) (el_ok hw) (List.mem_of_getElem? (i := 1) rfl) R1061.1 (vs := [(.int (112 : Int32)), (.int (117 : Int32)), (.int (115 : Int32)), (.int (104 : Int32)), (.int (95 : Int32)), (.int (101 : Int32)), (.int (114 : Int32)), (.int (114 : Int32)), (.int (111 : Int32)), (.int (114 : Int32)), (.int (115 : Int32)), (.int (32 : Int32))]) (z := (12 : Int32)) ⟨by decide, by decide +kernel⟩ (by decide) rfl (g := (mkF m 29 #[vR a843] [(.ref b1036), (.ref b1029_0)])) rfl (hb hby d4_29) (n := 48) (by decide) (by decide) (by decide) (by decide)
 have KC1070 := KSx.ext KC1061 E1070
 have R1070 := CHr.trans R1061 ch1070
 have f1071 := (f1065.ks K1061)
 have sf1072 := CHr.safe ch1070 (f1071).lt sf1066
 have f1073 := (f1067.ks K1061)
 have sf1074 := CHr.safe ch1070 (f1073).lt sf1068
 have sf1075 := CHr.safe ch1070 (o1061_0).lt sf1069
 have Bl1070 : BA Z h1070 b1070_1 k1070 .byte (12 : Int32) (fun i => ([112, 117, 115, 104, 95, 101, 114, 114, 111, 114, 115, 32] : List Int32).getD i 0) := BA.of_arv V1070 (fun i hi => by match i, hi with | 0, _ => rfl | 1, _ => rfl | 2, _ => rfl | 3, _ => rfl | 4, _ => rfl | 5, _ => rfl | 6, _ => rfl | 7, _ => rfl | 8, _ => rfl | 9, _ => rfl | 10, _ => rfl | 11, _ => rfl | _ + 12, hi => exact absurd hi (by simp only [show (12 : Int32).toNatClampNeg = 12 from rfl]; omega))
 have f1190 := ((f1062.ks K1061).ext E1070)
 have f1191 := (((D1036 (Or.inl (tw hw 73 rfl)) (ty := .int) (by decide)).ks K1061 (ksS (Or.inr (slot_ne (Or.inl (tw hw 73 rfl)) (Or.inl (tw hw 42 rfl)) (by decide) (t := .int) (t' := .byte) (by decide) (by decide))) (ksS (Or.inr (slot_ne (Or.inl (tw hw 73 rfl)) (Or.inl (tw hw 40 rfl)) (by decide) (t := .int) (t' := (.array .byte)) (by decide) (by decide))) ks0)) all0).ext E1070)
 have f1192 := (o1061_1.ext E1070)
 have f1193 := (o1061_3.ext E1070)
 have f1194 := (o1061_2.ext E1070)
 have f1195 := ((A1036.ks K1061).ext E1070)
 have g1196 : n0 ≤ b1061_0 := Nat.le_trans Z1036 ge_b1061_0
 have ne1197 : b1036 ≠ b1061_0 := (Nat.ne_of_lt (Nat.lt_of_lt_of_le (A1036).lt ge_b1061_0))
 have Z1061 : n0 ≤ T1061.heap.size := Nat.le_trans Z1036 K1061.1
 have Z1070 : n0 ≤ h1070.size := Nat.le_trans Z1061 E1070.1
 obtain ⟨cq1189, kq1189, q1189a, q1189b, q1189c⟩ := isOf hZ1070 e1070 f1195
 obtain ⟨_, _, ⟨T1189, L1189, k1189, n1189⟩, -, X1189, ⟨Lc1189, hQ1189, l1189, y1189, z1189⟩, st1189⟩ := X1070.virtualBack hx (y := mN40) (z := mN40) ho1070 (mvT hZ1070 (tw hw 49 rfl)) (mvT hZ1070 (tw hw 50 rfl)) (notFace_of_selects (args := #[]) (mvT hZ1070 (tw hw 52 rfl))) (mvT hZ1070 (tw hw 52 rfl)) (mvT hZ1070 (tw hw 51 rfl)) (by decide) (backOf (W := 1) (r7_2 l Z a0 hw b1036 b1070 b1070_1 k1070 (fun i => ([112, 117, 115, 104, 95, 101, 114, 114, 111, 114, 115, 32] : List Int32).getD i 0) w867 (0 : Int32) (0 : Int32) b1061_0 k1061_0 (fun _ => (0 : Int32)) (16 : Int32) (0 : Int32) h1070 n0 Z1070 Fv1070 Bl1070 f1190 H1 Fc1070 (by first | decide | rfl) A1070 f1191 f1192 f1193 f1194 (by first | decide | rfl) f1195 rfl rfl (by first | decide | rfl) (by first | decide | rfl) g1196 ne1197 g1063 (Ne.symm ne1197)) hZ1070 (tw hw 53 rfl) (tw hw 25 rfl) (by decide) (by decide)) q1189a q1189c (g := (mkF m 31 #[vR a843] [(.ref b1070), (.ref b1036), (.ref b1029_0)])) rfl (by rw [hml]; rfl) (Steps.refl _) (argsL := [(.ref b1070)]) (rest := [(.ref b1029_0)]) (lenOf pd_28 rfl) rfl (own_w _) (hb hby d4_31) (fun _ _ => ⟨rfl, e1070, (by decide : 11 + 0 ≤ _), (by decide : 244 + 0 ≤ _)⟩)
 dsimp only [Pt.U, Pt.locs, Pt.cells, Pt.slots] at X1189 l1189 y1189 z1189 st1189 hQ1189
 replace X1189 := own_mvX X1189 (a := 11) (b := 244) y1189 z1189
 obtain ⟨N1189q, rfl, K1189, o1189_0, o1189_1⟩ := hQ1189
 have N1189 := own_mvN l1189 N1061 N1189q
 have z1198 : h0.size ≤ b1061_0 := Nat.le_trans KC1036.1 ge_b1061_0
 have KC1189 := KSx.trans KC1070 K1189 (ksS (Or.inr z1064) ks0) (allS (Or.inr z1198) all0)
 have R1189 := CHr.trans R1070 (CHr.ks K1189 (ksS (Safe.exa hZ1070.alike f1195 (by decide) (by decide)) ks0) (allS sf1075 all0) R1070.1)
 have f1199 := (f1071.ext E1070)
 have sf1200 := Safe.ks K1189 (ksS (Safe.exa hZ1070.alike f1195 (by decide) (by decide)) ks0) (allS sf1075 all0) R1070.1 sf1072
 have f1201 := (f1073.ext E1070)
 have sf1202 := Safe.ks K1189 (ksS (Safe.exa hZ1070.alike f1195 (by decide) (by decide)) ks0) (allS sf1075 all0) R1070.1 sf1074
 have f1203 := (o1061_0.ext E1070)
 have sf1204 := Safe.ks K1189 (ksS (Safe.exa hZ1070.alike f1195 (by decide) (by decide)) ks0) (allS sf1075 all0) R1070.1 sf1075
 have f1206 := ((f1003.ks K1005 (ksS (Or.inl ne1000) (ksS (Or.inl ne1000) ks0)) (allS ne1002 all0)).ks K1029 ks0 all0)
 have ne1207 : a843 ≠ b1036 := (Nat.ne_of_lt (Nat.lt_of_lt_of_le (f1206).lt (Nat.le_of_eq g1036.symm)))
 have f1208 := (f1206.ext E1036)
 have ne1209 : a843 ≠ b1061_0 := (Nat.ne_of_lt (Nat.lt_of_lt_of_le (f1208).lt ge_b1061_0))
 have f1210 := ((((((((((H14.ext E844).ks K866 (ksS (Or.inl ne1000) (ksS (Or.inl ne1000) ks0)) all0).ext E872).ks K987 (ksS (Or.inl ne1000) ks0) (allS ne1002 all0)).ks K1005 (ksS (Or.inl ne1000) (ksS (Or.inl ne1000) ks0)) (allS ne1002 all0)).ks K1029 ks0 all0).ext E1036).ks K1061 (ksS (Or.inl ne1207) (ksS (Or.inl ne1207) ks0)) all0).ext E1070).ks K1189 (ksS (Or.inl ne1207) ks0) (allS ne1209 all0))
 obtain ⟨T1211, X1211, e1211, st1211⟩ := getF X1189 hx hZ1070 ho1070 (host := "") (Or.inl (tw hw 16 rfl)) Via.refl rfl f1210 (g := (mkF m 35 #[vR a843] [(.ref a843), (.ref b1036), (.ref b1029_0)])) rfl rfl (hb hby d4_35)
 have f1213 := (f1192.ks K1189 (ksS (Or.inr (slot_ne (Or.inl (tw hw 40 rfl)) (Or.inl (tw hw 73 rfl)) (by decide) (t := (.array .byte)) (t' := .int) (by decide) (by decide))) ks0) (allS ne1197 all0))
 have f1214 := (f1194.ks K1189 (ksS (Or.inr (slot_ne (Or.inl (tw hw 42 rfl)) (Or.inl (tw hw 73 rfl)) (by decide) (t := .byte) (t' := .int) (by decide) (by decide))) ks0) (allS ne1197 all0))
 have f1215 := (f1195.ks K1189)
 have f1216 := (f1190.ks K1189)
 have f1217 := ((((((f1011.ks K1005).ks K1029).ext E1036).ks K1061).ext E1070).ks K1189)
 have f1218 := ((((((f1013.ks K1005).ks K1029).ext E1036).ks K1061).ext E1070).ks K1189)
 have f1219 := ((f1019.ks K1005 (ksS ne1016 (ksS ne1016 ks0)) (allS ne1018 all0)).ks K1029 ks0 all0)
 have ne1220 : w1010 ≠ b1036 := (Nat.ne_of_lt (Nat.lt_of_lt_of_le (f1219).lt (Nat.le_of_eq g1036.symm)))
 have f1221 := (f1219.ext E1036)
 have ne1222 : w1010 ≠ b1061_0 := (Nat.ne_of_lt (Nat.lt_of_lt_of_le (f1221).lt ge_b1061_0))
 have f1223 := ((((((f1019.ks K1005 (ksS ne1016 (ksS ne1016 ks0)) (allS ne1018 all0)).ks K1029 ks0 all0).ext E1036).ks K1061 (ksS ne1220 (ksS ne1220 ks0)) all0).ext E1070).ks K1189 (ksS ne1220 ks0) (allS ne1222 all0))
 have f1224 := ((f1025.ks K1005 (ksS ne1022 (ksS ne1022 ks0)) (allS ne1024 all0)).ks K1029 ks0 all0)
 have ne1225 : w1012 ≠ b1036 := (Nat.ne_of_lt (Nat.lt_of_lt_of_le (f1224).lt (Nat.le_of_eq g1036.symm)))
 have f1226 := (f1224.ext E1036)
 have ne1227 : w1012 ≠ b1061_0 := (Nat.ne_of_lt (Nat.lt_of_lt_of_le (f1226).lt ge_b1061_0))
 have f1228 := ((((((f1025.ks K1005 (ksS ne1022 (ksS ne1022 ks0)) (allS ne1024 all0)).ks K1029 ks0 all0).ext E1036).ks K1061 (ksS ne1225 (ksS ne1225 ks0)) all0).ext E1070).ks K1189 (ksS ne1225 ks0) (allS ne1227 all0))
 have f1229 := (f1203.ks K1189)
 have Z1189 : n0 ≤ T1189.heap.size := Nat.le_trans Z1070 K1189.1
 obtain ⟨cq1212, kq1212, q1212a, q1212b, q1212c⟩ := isOf hZ1070 e1211 f1215
 obtain ⟨_, _, ⟨T1212, L1212, k1212, n1212⟩, -, X1212, ⟨Lc1212, hQ1212, l1212, y1212, z1212⟩, st1212⟩ := X1211.virtualBack hx (y := mN29) (z := mN29) ho1070 (mvT hZ1070 (tw hw 99 rfl)) (mvT hZ1070 (tw hw 100 rfl)) (notFace_of_selects (args := #[]) (mvT hZ1070 (tw hw 102 rfl))) (mvT hZ1070 (tw hw 102 rfl)) (mvT hZ1070 (tw hw 101 rfl)) (by decide) (backOf (W := 1) (own_apJ l Z a0 hw b1036 w1205 ((0 : Int32) + ((12 : Int32) >>> ((0 : Int32) &&& 31))) b1061_0 k1061_0 (fun i => if (((0 : Int32) <<< ((0 : Int32) &&& 31))).toNatClampNeg ≤ i ∧ i < (((0 : Int32) <<< ((0 : Int32) &&& 31))).toNatClampNeg + ((12 : Int32)).toNatClampNeg then (fun i => ([112, 117, 115, 104, 95, 101, 114, 114, 111, 114, 115, 32] : List Int32).getD i 0) (((0 : Int32)).toNatClampNeg + (i - (((0 : Int32) <<< ((0 : Int32) &&& 31))).toNatClampNeg)) else (fun _ => (0 : Int32)) i) (0 : Int32) w867 w1010 w1012 k1014 u1015 k1020 u1021 T1189.heap n0 Z1189 o1189_0 f1213 o1189_1 f1214 f1215 f1216 H1 rfl f1217 f1218 f1223 f1228 (Ne.symm ne1222) (Ne.symm ne1227) g1196 H7 H8 H9 H10 ne1197 g1063 ne1220 ne1225 f1229 (by first | decide | rfl) (by first | decide | rfl)) hZ1070 (tw hw 103 rfl) (tw hw 25 rfl) (by decide) (by decide)) q1212a q1212c (g := (mkF m 38 #[vR a843] [(.long w1205), (.ref b1036), (.ref b1029_0)])) rfl (by rw [hml]; rfl) (Steps.refl _) (argsL := [(.long w1205)]) (rest := [(.ref b1029_0)]) (lenOf pd_29 rfl) rfl (own_w _) (hb hby d4_38) (fun _ _ => ⟨rfl, e1211, (by decide : 11 + 1 ≤ _), (by decide : 244 + 34 ≤ _)⟩)
 dsimp only [Pt.U, Pt.locs, Pt.cells, Pt.slots] at X1212 l1212 y1212 z1212 st1212 hQ1212
 replace X1212 := own_mvX X1212 (a := 12) (b := 278) y1212 z1212
 obtain ⟨N1212q, b1212_0, k1212_0, rfl, ge_b1212_0, K1212, o1212_0, o1212_1, o1212_2, o1212_3⟩ := hQ1212
 have N1212 := own_mvN l1212 N1189 N1212q
 have ga1230 := own_alt ge_b1212_0 ge_b1061_0 (Nat.le_trans (Nat.le_trans K1061.1 E1070.1) K1189.1)
 have KC1212 := KSx.trans KC1189 K1212 (ksS (Or.inr z1064) (ksS (Or.inr z1064) ks0)) (allS (Or.inr z1198) all0)
 have R1212 := CHr.trans R1189 (CHr.ks K1212 (ksS (Safe.exa hZ1070.alike f1215 (by decide) (by decide)) (ksS (Safe.exa hZ1070.alike f1215 (by decide) (by decide)) ks0)) (allS sf1204 all0) R1189.1)
 have f1231 := (f1199.ks K1189)
 have sf1232 := Safe.ks K1212 (ksS (Safe.exa hZ1070.alike f1215 (by decide) (by decide)) (ksS (Safe.exa hZ1070.alike f1215 (by decide) (by decide)) ks0)) (allS sf1204 all0) R1189.1 sf1200
 have f1233 := (f1201.ks K1189)
 have sf1234 := Safe.ks K1212 (ksS (Safe.exa hZ1070.alike f1215 (by decide) (by decide)) (ksS (Safe.exa hZ1070.alike f1215 (by decide) (by decide)) ks0)) (allS sf1204 all0) R1189.1 sf1202
 have sf1235 := Safe.ks K1212 (ksS (Safe.exa hZ1070.alike f1215 (by decide) (by decide)) (ksS (Safe.exa hZ1070.alike f1215 (by decide) (by decide)) ks0)) (allS sf1204 all0) R1189.1 sf1204
 have f1237 := (f1215.ks K1212)
 have f1238 := (f1216.ks K1212)
 have f1239 := (f1214.ks K1212 (ksS (Or.inr (slot_ne (Or.inl (tw hw 42 rfl)) (Or.inl (tw hw 73 rfl)) (by decide) (t := .byte) (t' := .int) (by decide) (by decide))) (ksS (Or.inr (slot_ne (Or.inl (tw hw 42 rfl)) (Or.inl (tw hw 40 rfl)) (by decide) (t := .byte) (t' := (.array .byte)) (by decide) (by decide))) ks0)) (allS ne1197 all0))
 have Z1212 : n0 ≤ T1212.heap.size := Nat.le_trans Z1189 K1212.1
 obtain ⟨cq1236, kq1236, q1236a, q1236b, q1236c⟩ := isOf hZ1070 rfl f1237
 obtain ⟨_, _, ⟨T1236, L1236, k1236, n1236⟩, -, X1236, ⟨Lc1236, hQ1236, l1236, y1236, z1236⟩, st1236⟩ := X1212.virtualBack hx (y := mN25) (z := mN25) ho1070 (mvT hZ1070 (tw hw 124 rfl)) (mvT hZ1070 (tw hw 125 rfl)) (notFace_of_selects (args := #[]) (mvT hZ1070 (tw hw 127 rfl))) (mvT hZ1070 (tw hw 127 rfl)) (mvT hZ1070 (tw hw 126 rfl)) (by decide) (backOf (W := 1) (own_tos l Z a0 hw b1036 b1212_0 (((0 : Int32) + ((12 : Int32) >>> ((0 : Int32) &&& 31))) + (SBG.strSizeOfL w1205)) w867 (0 : Int32) k1212_0 (oz16 ((0 : Int32) + ((12 : Int32) >>> ((0 : Int32) &&& 31))) w1205) (SBG.ogc (decide (w1205 < 0)) (w1205).toInt.natAbs (SBG.digitsL (w1205).toInt.natAbs) ((((0 : Int32) + ((12 : Int32) >>> ((0 : Int32) &&& 31))) + (SBG.strSizeOfL w1205))).toNatClampNeg (fun i => if i < 16 then (fun i => if (((0 : Int32) <<< ((0 : Int32) &&& 31))).toNatClampNeg ≤ i ∧ i < (((0 : Int32) <<< ((0 : Int32) &&& 31))).toNatClampNeg + ((12 : Int32)).toNatClampNeg then (fun i => ([112, 117, 115, 104, 95, 101, 114, 114, 111, 114, 115, 32] : List Int32).getD i 0) (((0 : Int32)).toNatClampNeg + (i - (((0 : Int32) <<< ((0 : Int32) &&& 31))).toNatClampNeg)) else (fun _ => (0 : Int32)) i) i else 0)) T1212.heap n0 Z1212 o1212_2 f1237 o1212_1 f1238 H1 f1239 rfl o1212_3 o1212_0 H15 H16 H17) hZ1070 (tw hw 128 rfl) (tw hw 25 rfl) (by decide) (by decide)) q1236a q1236c (g := (mkF m 41 #[vR a843] [(.ref b1036), (.ref b1029_0)])) rfl (by rw [hml]; rfl) (Steps.refl _) (argsL := []) (rest := [(.ref b1029_0)]) (lenOf pd_30 rfl) rfl (own_w _) (hb hby d4_41) (fun _ _ => ⟨rfl, rfl, (by decide : 12 + 2 ≤ _), (by decide : 278 + 38 ≤ _)⟩)
 dsimp only [Pt.U, Pt.locs, Pt.cells, Pt.slots] at X1236 l1236 y1236 z1236 st1236 hQ1236
 replace X1236 := own_mvX X1236 (a := 14) (b := 316) y1236 z1236
 obtain ⟨N1236q, b1236_0, b1236_1, k1236_0, rfl, ge_b1236_0, ge_b1236_1, K1236, o1236_0, o1236_1, o1236_2, o1236_3, o1236_4⟩ := hQ1236
 have N1236 := own_mvN l1236 N1212 N1236q
 have KC1236 := KSx.trans KC1212 K1236 ks0 all0
 have R1236 := CHr.trans R1212 (CHr.ks K1236 ks0 all0 R1212.1)
 have f1240 := (f1231.ks K1212)
 have sf1241 := Safe.ks K1236 ks0 all0 R1212.1 sf1232
 have f1242 := (f1233.ks K1212)
 have sf1243 := Safe.ks K1236 ks0 all0 R1212.1 sf1234
 have f1244 := (f1229.ks K1212)
 have sf1245 := Safe.ks K1236 ks0 all0 R1212.1 sf1235
 have sf1246 := Safe.ks K1236 ks0 all0 R1212.1 (Safe.new ge_b1236_1)
 have Z1236 : n0 ≤ T1236.heap.size := Nat.le_trans Z1212 K1236.1
 obtain ⟨_, _, ⟨T1273, L1273, k1273, n1273⟩, -, X1273, ⟨Lc1273, hQ1273, l1273, y1273, z1273⟩, st1273⟩ := Jvm.LawKit.callS X1236 hx (y := mN46) ho1070 (mvT hZ1070 (tw hw 168 rfl)) (mvT hZ1070 (tw hw 169 rfl)) (mvT hZ1070 (tw hw 170 rfl)) (mvT hZ1070 (tw hw 171 rfl)) (by decide) (backOf (W := 0) (r30_1 l Z a0 hw b1029_0 b1236_0 T1236.heap n0 Z1236 ) hZ1070 (tw hw 171 rfl) (tw hw 170 rfl) (by decide) (by decide)) (g := (mkF m 44 #[vR a843] [(.ref b1236_0), (.ref b1029_0)])) rfl (by rw [hml]; rfl) (argsL := [(.ref b1029_0), (.ref b1236_0)]) (rest := []) (lenOf pd_33 rfl) rfl (own_w _) (hb hby d4_44) (fun _ _ => ⟨rfl, rfl, (by decide : 14 + 1 ≤ _), (by decide : 316 + 2 ≤ _)⟩)
 dsimp only [Pt.U, Pt.locs, Pt.cells, Pt.slots] at X1273 l1273 y1273 z1273 st1273 hQ1273
 replace X1273 := own_mvX X1273 (a := 15) (b := 318) y1273 z1273
 obtain ⟨N1273q, b1273_0, rfl, ge_b1273_0, K1273, o1273_0, o1273_1, o1273_2⟩ := hQ1273
 have N1273 := own_mvN l1273 N1236 N1273q
 have KC1273 := KSx.trans KC1236 K1273 ks0 all0
 have R1273 := CHr.trans R1236 (CHr.ks K1273 ks0 all0 R1236.1)
 have f1274 := (f1240.ks K1236)
 have sf1275 := Safe.ks K1273 ks0 all0 R1236.1 sf1241
 have f1276 := (f1242.ks K1236)
 have sf1277 := Safe.ks K1273 ks0 all0 R1236.1 sf1243
 have f1278 := (f1244.ks K1236)
 have sf1279 := Safe.ks K1273 ks0 all0 R1236.1 sf1245
 have sf1280 := Safe.ks K1273 ks0 all0 R1236.1 sf1246
 have f1281 := ((((((((f1030.ks K1029).ext E1036).ks K1061).ext E1070).ks K1189).ks K1212).ks K1236).ks K1273)
 have f1282 := (f1274.ks K1273)
 have f1283 := ((((((((o1005_0.ks K1029).ext E1036).ks K1061).ext E1070).ks K1189).ks K1212).ks K1236).ks K1273)
 have f1284 := (((((((o1029_0.ext E1036).ks K1061).ext E1070).ks K1189).ks K1212).ks K1236).ks K1273)
 have f1285 := (f1276.ks K1273)
 have f1286 := ((f1237.ks K1236).ks K1273)
 have f1287 := (f1278.ks K1273)
 have f1288 := ((o1212_0.ks K1236).ks K1273)
 have f1289 := (o1236_0.ks K1273)
 have f1290 := (o1236_1.ks K1273)
 have f1291 := (f1030.ks K1029)
 have ne1292 : b844 ≠ b1036 := (Nat.ne_of_lt (Nat.lt_of_lt_of_le (f1291).lt (Nat.le_of_eq g1036.symm)))
 have f1293 := (f1291.ext E1036)
 have ne1294 : b844 ≠ b1061_0 := (Nat.ne_of_lt (Nat.lt_of_lt_of_le (f1293).lt ge_b1061_0))
 have f1295 := ((((((((o1005_2.ks K1029 ks0 all0).ext E1036).ks K1061 (ksS (Or.inl ne1292) (ksS (Or.inl ne1292) ks0)) all0).ext E1070).ks K1189 (ksS (Or.inl ne1292) ks0) (allS ne1294 all0)).ks K1212 (ksS (Or.inl ne1292) (ksS (Or.inl ne1292) ks0)) (allS ne1294 all0)).ks K1236 ks0 all0).ks K1273 ks0 all0)
 have f1296 := ((((((((f1032.ks K1029 ks0 all0).ext E1036).ks K1061 (ksS (Or.inl ne1292) (ksS (Or.inl ne1292) ks0)) all0).ext E1070).ks K1189 (ksS (Or.inl ne1292) ks0) (allS ne1294 all0)).ks K1212 (ksS (Or.inl ne1292) (ksS (Or.inl ne1292) ks0)) (allS ne1294 all0)).ks K1236 ks0 all0).ks K1273 ks0 all0)
 have f1297 := ((((((((o1005_1.ks K1029 ks0 all0).ext E1036).ks K1061 (ksS (Or.inl ne1292) (ksS (Or.inl ne1292) ks0)) all0).ext E1070).ks K1189 (ksS (Or.inl ne1292) ks0) (allS ne1294 all0)).ks K1212 (ksS (Or.inl ne1292) (ksS (Or.inl ne1292) ks0)) (allS ne1294 all0)).ks K1236 ks0 all0).ks K1273 ks0 all0)
 have ne1298 : b1029_0 ≠ b1036 := (Nat.ne_of_lt (Nat.lt_of_lt_of_le (o1029_0).lt (Nat.le_of_eq g1036.symm)))
 have f1299 := (o1029_0.ext E1036)
 have ne1300 : b1029_0 ≠ b1061_0 := (Nat.ne_of_lt (Nat.lt_of_lt_of_le (f1299).lt ge_b1061_0))
 have f1301 := (((((((o1029_2.ext E1036).ks K1061 (ksS (Or.inl ne1298) (ksS (Or.inl ne1298) ks0)) all0).ext E1070).ks K1189 (ksS (Or.inl ne1298) ks0) (allS ne1300 all0)).ks K1212 (ksS (Or.inl ne1298) (ksS (Or.inl ne1298) ks0)) (allS ne1300 all0)).ks K1236 ks0 all0).ks K1273 ks0 all0)
 have f1302 := (((((((o1029_3.ext E1036).ks K1061 (ksS (Or.inl ne1298) (ksS (Or.inl ne1298) ks0)) all0).ext E1070).ks K1189 (ksS (Or.inl ne1298) ks0) (allS ne1300 all0)).ks K1212 (ksS (Or.inl ne1298) (ksS (Or.inl ne1298) ks0)) (allS ne1300 all0)).ks K1236 ks0 all0).ks K1273 ks0 all0)
 have f1303 := ((o1212_2.ks K1236 ks0 all0).ks K1273 ks0 all0)
 have f1304 := ((f1239.ks K1236 ks0 all0).ks K1273 ks0 all0)
 have f1305 := ((o1212_1.ks K1236 ks0 all0).ks K1273 ks0 all0)
 have f1306 := (o1236_2.ks K1273 ks0 all0)
 have f1307 := (o1236_3.ks K1273 ks0 all0)
 have f1308 := (o1005_0.ks K1029)
 have ne1309 : b1005_0 ≠ b1036 := (Nat.ne_of_lt (Nat.lt_of_lt_of_le (f1308).lt (Nat.le_of_eq g1036.symm)))
 have f1310 := (f1308.ext E1036)
 have ne1311 : b1005_0 ≠ b1061_0 := (Nat.ne_of_lt (Nat.lt_of_lt_of_le (f1310).lt ge_b1061_0))
 have f1312 := ((((((((o1005_3.ks K1029 ks0 all0).ext E1036).ks K1061 (ksS ne1309 (ksS ne1309 ks0)) all0).ext E1070).ks K1189 (ksS ne1309 ks0) (allS ne1311 all0)).ks K1212 (ksS ne1309 (ksS ne1309 ks0)) (allS ne1311 all0)).ks K1236 ks0 all0).ks K1273 ks0 all0)
 have ne1313 : b1029_1 ≠ b1036 := (Nat.ne_of_lt (Nat.lt_of_lt_of_le (o1029_1).lt (Nat.le_of_eq g1036.symm)))
 have ne1314 : b1029_1 ≠ b1061_0 := (Nat.ne_of_lt (Nat.lt_of_lt_of_le (f1067).lt ge_b1061_0))
 have f1315 := (((((((o1029_4.ext E1036).ks K1061 (ksS ne1313 (ksS ne1313 ks0)) all0).ext E1070).ks K1189 (ksS ne1313 ks0) (allS ne1314 all0)).ks K1212 (ksS ne1313 (ksS ne1313 ks0)) (allS ne1314 all0)).ks K1236 ks0 all0).ks K1273 ks0 all0)
 have f1316 := ((o1212_3.ks K1236 ks0 all0).ks K1273 ks0 all0)
 have f1317 := (o1236_4.ks K1273 ks0 all0)
 obtain ⟨fs, hr, hrun, hended, hR1, hR2, hR3, hR4⟩ := X1273.leaveW (s := s) hS1070 ((Nat.le_trans hk1070 (Nat.le_trans (Nat.le_trans (Nat.le_trans K1189.1 K1212.1) K1236.1) K1273.1))) (v := some (.ref b1273_0)) (fun h => by rw [Bd.returns] at h; cases h)
 refine ⟨_, _, pre0 _ ?_, hrun, hended, _, _, rfl, ?_, ?_, hR1, hR2, hR3, hR4.mono (by decide) (by decide)⟩
 · show SG p e below s₁ (mkF m 0 #[vR a843] []) _
   refine st844 _ ?_
   show SG p e below T844 (mkF m 3 #[vR a843] [(.ref b844)]) _
   refine XS.dup X844.here hx rfl (hb hby d4_3) rfl rfl ?_
   show SG p e below T844 (mkF m 4 #[vR a843] [(.ref b844), (.ref b844)]) _
   refine st866.trans ?_
   show SG p e below T866 (mkF m 7 #[vR a843] [(.ref b844)]) _
   refine st872 _ ?_
   show SG p e below T872 (mkF m 9 #[vR a843] [(.ref b872), (.ref b844)]) _
   refine st987.trans ?_
   show SG p e below T987 (mkF m 12 #[vR a843] [(.ref b844)]) _
   refine XS.aloadN X987.here hx rfl (hb hby d4_12) rfl rfl ?_
   show SG p e below T987 (mkF m 13 #[vR a843] [(.ref a843), (.ref b844)]) _
   refine st1004 _ ?_
   show SG p e below T1004 (mkF m 16 #[vR a843] [(.long w999), (.ref b844)]) _
   refine st1005.trans ?_
   show SG p e below T1005 (mkF m 19 #[vR a843] [(.ref b844)]) _
   refine st1029.trans ?_
   show SG p e below T1029 (mkF m 22 #[vR a843] [(.ref b1029_0)]) _
   refine st1036 _ ?_
   show SG p e below T1036 (mkF m 25 #[vR a843] [(.ref b1036), (.ref b1029_0)]) _
   refine XS.dup X1036.here hx rfl (hb hby d4_25) rfl rfl ?_
   show SG p e below T1036 (mkF m 26 #[vR a843] [(.ref b1036), (.ref b1036), (.ref b1029_0)]) _
   refine st1061.trans ?_
   show SG p e below T1061 (mkF m 29 #[vR a843] [(.ref b1036), (.ref b1029_0)]) _
   refine st1070 _ ?_
   show SG p e below T1070 (mkF m 31 #[vR a843] [(.ref b1070), (.ref b1036), (.ref b1029_0)]) _
   refine st1189.trans ?_
   show SG p e below T1189 (mkF m 34 #[vR a843] [(.ref b1036), (.ref b1029_0)]) _
   refine XS.aloadN X1189.here hx rfl (hb hby d4_34) rfl rfl ?_
   show SG p e below T1189 (mkF m 35 #[vR a843] [(.ref a843), (.ref b1036), (.ref b1029_0)]) _
   refine st1211 _ ?_
   show SG p e below T1211 (mkF m 38 #[vR a843] [(.long w1205), (.ref b1036), (.ref b1029_0)]) _
   refine st1212.trans ?_
   show SG p e below T1212 (mkF m 41 #[vR a843] [(.ref b1036), (.ref b1029_0)]) _
   refine st1236.trans ?_
   show SG p e below T1236 (mkF m 44 #[vR a843] [(.ref b1236_0), (.ref b1029_0)]) _
   refine st1273 _ ?_
   show SG p e below T1273 (mkF m 47 #[vR a843] [(.ref b1273_0)]) _
   jvm_step X1273.here [X1273.here.top, hx, (hb hby d4_47), X1273.method', Bd.returns, Value.isRef, FieldType.isReference]
   first | (intro acts; rw [hr _ acts rfl rfl rfl]) | rw [hr _ _ rfl rfl rfl]
   exact Steps.refl _
 · show Qr4_1 Z a843 w867 w999 w1010 w1012 k1014 u1015 k1020 u1021 w1205 h0 n0 _ T1273.heap _
   exact ⟨N1273, b844, b866_0, b1005_0, b1029_0, b1029_1, b1036, b1061_0, b1212_0, b1236_0, b1236_1, b1273_0, k1005_0, k1029_0, k1212_0, k1236_0, rfl, z870, z996, (Nat.le_trans KC844.1 ga1027), (Nat.le_trans KC1005.1 ge_b1029_0), (Nat.le_trans KC1005.1 ge_b1029_1), z1064, z1198, (Nat.le_trans KC1036.1 ga1230), (Nat.le_trans KC1212.1 ge_b1236_0), (Nat.le_trans KC1212.1 ge_b1236_1), (Nat.le_trans KC1236.1 ge_b1273_0), KC1273, f1281, f1282, f1283, f1284, f1285, f1286, f1287, f1288, f1289, f1290, o1273_0, f1295, f1296, f1297, f1301, f1302, f1303, f1304, f1305, f1306, f1307, o1273_1, o1273_2, f1312, f1315, f1316, f1317⟩
 · rw [hh]
   show CHr Z EL s.vm h0 T1273.vm T1273.heap
   exact CHr.trans R1273 (CHv.at X1273 hZ1070 (el_ok hw) R1273.1)
theorem own_lp1 (x0 : Int64) : ¬ ((((0 : Int32) + ((10 : Int32) >>> ((0 : Int32) &&& 31))) + (SBG.strSizeOfL x0)) < (0 : Int32)) := by
 have h := oszL_le x0
 have z := own_ozl (N := 10) (by decide) x0
 simp only [own_ishr0, own_10, own_ssxL, own_add]
 exact own_n0 (by omega)
theorem own_lp2 (x0 : Int64) : ((((0 : Int32) + ((10 : Int32) >>> ((0 : Int32) &&& 31))) + (SBG.strSizeOfL x0))).toNatClampNeg ≤ ((oz16 ((0 : Int32) + ((10 : Int32) >>> ((0 : Int32) &&& 31))) x0)).toNatClampNeg := by
 have h := oszL_le x0
 have z := own_ozl (N := 10) (by decide) x0
 simp only [own_ishr0, own_10, own_ssxL, own_add]
 rw [own_cl (by omega)]; exact z.1
theorem own_lp3 (x0 : Int64) : ¬ ((34 : Int32) < (oz16 ((0 : Int32) + ((10 : Int32) >>> ((0 : Int32) &&& 31))) x0)) := by
 have h := oszL_le x0
 have z := own_ozl (N := 10) (by decide) x0
 simp only [own_ishr0, own_10, own_ssxL, own_add]
 exact z.2
theorem own_lp4 (x1 : Int64) : ¬ ((((0 : Int32) + ((12 : Int32) >>> ((0 : Int32) &&& 31))) + (SBG.strSizeOfL x1)) < (0 : Int32)) := by
 have h := oszL_le x1
 have z := own_ozl (N := 12) (by decide) x1
 simp only [own_ishr0, own_12, own_ssxL, own_add]
 exact own_n0 (by omega)
theorem own_lp5 (x1 : Int64) : ((((0 : Int32) + ((12 : Int32) >>> ((0 : Int32) &&& 31))) + (SBG.strSizeOfL x1))).toNatClampNeg ≤ ((oz16 ((0 : Int32) + ((12 : Int32) >>> ((0 : Int32) &&& 31))) x1)).toNatClampNeg := by
 have h := oszL_le x1
 have z := own_ozl (N := 12) (by decide) x1
 simp only [own_ishr0, own_12, own_ssxL, own_add]
 rw [own_cl (by omega)]; exact z.1
theorem own_lp6 (x1 : Int64) : ¬ ((34 : Int32) < (oz16 ((0 : Int32) + ((12 : Int32) >>> ((0 : Int32) &&& 31))) x1)) := by
 have h := oszL_le x1
 have z := own_ozl (N := 12) (by decide) x1
 simp only [own_ishr0, own_12, own_ssxL, own_add]
 exact z.2
theorem own_lz0 (x0 : Int64) : (((0 : Int32) + ((10 : Int32) >>> ((0 : Int32) &&& 31))) + (SBG.strSizeOfL x0)) = Int32.ofNat (10 + oszL x0) := by simp only [own_ishr0, own_10, own_ssxL, own_add]
theorem own_lt0 (x0 : Int64) (i : Nat) (hi : i < (Int32.ofNat (10 + oszL x0)).toNatClampNeg) : ((SBG.ogc (decide (x0 < 0)) (x0).toInt.natAbs (SBG.digitsL (x0).toInt.natAbs) ((((0 : Int32) + ((10 : Int32) >>> ((0 : Int32) &&& 31))) + (SBG.strSizeOfL x0))).toNatClampNeg (fun i => if i < 16 then (fun i => if (((0 : Int32) <<< ((0 : Int32) &&& 31))).toNatClampNeg ≤ i ∧ i < (((0 : Int32) <<< ((0 : Int32) &&& 31))).toNatClampNeg + ((10 : Int32)).toNatClampNeg then (fun i => ([112, 117, 115, 104, 101, 100, 95, 111, 107, 32] : List Int32).getD i 0) (((0 : Int32)).toNatClampNeg + (i - (((0 : Int32) <<< ((0 : Int32) &&& 31))).toNatClampNeg)) else (fun _ => (0 : Int32)) i) i else 0))) i = otxL (fun i => ([112, 117, 115, 104, 101, 100, 95, 111, 107, 32] : List Int32).getD i 0) 10 x0 i := by
 have h := oszL_le x0
 rw [own_cl (by omega)] at hi
 simp only [own_ishr0, own_ishl0, own_10, own_ssxL, own_add, own_k0, own_k10]
 rw [own_cl (by omega)]
 exact own_txt (pf := (fun i => ([112, 117, 115, 104, 101, 100, 95, 111, 107, 32] : List Int32).getD i 0)) (by decide) hi
theorem own_lz1 (x1 : Int64) : (((0 : Int32) + ((12 : Int32) >>> ((0 : Int32) &&& 31))) + (SBG.strSizeOfL x1)) = Int32.ofNat (12 + oszL x1) := by simp only [own_ishr0, own_12, own_ssxL, own_add]
theorem own_lt1 (x1 : Int64) (i : Nat) (hi : i < (Int32.ofNat (12 + oszL x1)).toNatClampNeg) : ((SBG.ogc (decide (x1 < 0)) (x1).toInt.natAbs (SBG.digitsL (x1).toInt.natAbs) ((((0 : Int32) + ((12 : Int32) >>> ((0 : Int32) &&& 31))) + (SBG.strSizeOfL x1))).toNatClampNeg (fun i => if i < 16 then (fun i => if (((0 : Int32) <<< ((0 : Int32) &&& 31))).toNatClampNeg ≤ i ∧ i < (((0 : Int32) <<< ((0 : Int32) &&& 31))).toNatClampNeg + ((12 : Int32)).toNatClampNeg then (fun i => ([112, 117, 115, 104, 95, 101, 114, 114, 111, 114, 115, 32] : List Int32).getD i 0) (((0 : Int32)).toNatClampNeg + (i - (((0 : Int32) <<< ((0 : Int32) &&& 31))).toNatClampNeg)) else (fun _ => (0 : Int32)) i) i else 0))) i = otxL (fun i => ([112, 117, 115, 104, 95, 101, 114, 114, 111, 114, 115, 32] : List Int32).getD i 0) 12 x1 i := by
 have h := oszL_le x1
 rw [own_cl (by omega)] at hi
 simp only [own_ishr0, own_ishl0, own_12, own_ssxL, own_add, own_k0, own_k12]
 rw [own_cl (by omega)]
 exact own_txt (pf := (fun i => ([112, 117, 115, 104, 95, 101, 114, 114, 111, 114, 115, 32] : List Int32).getD i 0)) (by decide) hi
def OQL (Z : State) (x0 x1 : Int64) (h0 : Heap) (n0 : Nat) (v : Option Value) (h : Heap) (L : List Loc) : Prop := Fr n0 L ∧ ∃ la s0 d0 s1 d1 : Addr, ∃ k0 k1 : ClassId, v = some (.ref la) ∧ h0.size ≤ la ∧ h0.size ≤ s0 ∧ h0.size ≤ d0 ∧ h0.size ≤ s1 ∧ h0.size ≤ d1 ∧ KSx h0 h [] [] ∧ Exa Z h la "java/util/ImmutableCollections$List12" ∧ Exa Z h s0 "java/lang/String" ∧ Exa Z h s1 "java/lang/String" ∧ Fld Z h la "java/util/ImmutableCollections$List12" "e0" "Ljava/lang/Object;" (.ref s0) ∧ Fld Z h la "java/util/ImmutableCollections$List12" "e1" "Ljava/lang/Object;" (.ref s1) ∧ Fld Z h s0 "java/lang/String" "value" "[B" (.ref d0) ∧ Fld Z h s0 "java/lang/String" "coder" "B" (.int (0 : Int32)) ∧ BA Z h d0 k0 .byte (Int32.ofNat (10 + oszL x0)) (otxL (fun i => ([112, 117, 115, 104, 101, 100, 95, 111, 107, 32] : List Int32).getD i 0) 10 x0) ∧ Fld Z h s1 "java/lang/String" "value" "[B" (.ref d1) ∧ Fld Z h s1 "java/lang/String" "coder" "B" (.int (0 : Int32)) ∧ BA Z h d1 k1 .byte (Int32.ofNat (12 + oszL x1)) (otxL (fun i => ([112, 117, 115, 104, 95, 101, 114, 114, 111, 114, 115, 32] : List Int32).getD i 0) 12 x1)
theorem own_lns (l : Launch) (Z : State) (a0 : Array Value) (hw : ∀ d ∈ tables_1, d.before a0 Z = true) (a : Addr) (wS : Int32) (x0 : Int64) (d1 : Addr) (d2 : Addr) (kd1 : ClassId) (ud1 : Nat → Int32) (kd2 : ClassId) (ud2 : Nat → Int32) (x1 : Int64) (h0 : Heap) (n0 : Nat) (Z0 : n0 ≤ h0.size) (G0 : Sta Z h0 "java/lang/String" "COMPACT_STRINGS" "Z" (.int wS)) (G1 : ¬ (wS = (0 : Int32))) (G2 : Fld Z h0 a "com/example/eta4/eta4/bench/FillFigures" "pushedOk" "J" (.long x0)) (G3 : Sta Z h0 "java/lang/Integer" "DigitOnes" "[B" (.ref d1)) (G4 : Sta Z h0 "java/lang/Integer" "DigitTens" "[B" (.ref d2)) (G5 : BA Z h0 d1 kd1 .byte (100 : Int32) ud1) (G6 : BA Z h0 d2 kd2 .byte (100 : Int32) ud2) (G7 : ud1 = (fun r => Int32.ofNat (48 + r % 10))) (G8 : ud2 = (fun r => Int32.ofNat (48 + r / 10))) (G9 : (Jvm.Cond.laysStatic "java/lang/Integer" "DigitOnes" "[B").before a0 Z = true) (G10 : (Jvm.Cond.laysStatic "java/lang/Integer" "DigitTens" "[B").before a0 Z = true) (G11 : Fld Z h0 a "com/example/eta4/eta4/bench/FillFigures" "pushErrors" "J" (.long x1)) :
   OMetH EL l Z mN47 prog_2_method_2_code 1 (some (.object "java/util/List")) [] ({ frames := 6, cells := 15, slots := 318, locals := 133 } : Room) h0 #[(.ref a)] (OQL Z x0 x1 h0 n0) := by
 refine own_impH (r4_1 l Z a0 hw a wS x0 d1 d2 kd1 ud1 kd2 ud2 x1 h0 n0 Z0 G0 G1 G2 G3 G4 G5 G6 G7 G8 G9 G10 (own_lp1 x0) (own_lp2 x0) (own_lp3 x0) G11 (own_lp4 x1) (own_lp5 x1) (own_lp6 x1)) fun v h L q => ?_
 obtain ⟨N, _, _, _, s0, d0', _, _, _, s1, d1', la, _, k0', _, k1', e, _, _, _, g_s0, g_d0, _, _, _, g_s1, g_d1, g_la, K, _, _, _, E0, _, _, _, _, E1, _, El, _, _, _, V0, C0, _, _, _, V1, C1, F0, F1, _, B0, _, B1⟩ := q
 exact ⟨N, la, s0, d0', s1, d1', _, _, e, g_la, g_s0, g_d0, g_s1, g_d1, K, El, E0, E1, F0, F1, V0, C0, (own_bz (own_lz0 x0) B0).congr fun i hi => own_lt0 x0 i hi, V1, C1, (own_bz (own_lz1 x1) B1).congr fun i hi => own_lt1 x1 i hi⟩
theorem d1_0 : decode prog_2_method_1_code 0 = .ok (.aload_n 0, 1) := by decide +kernel
theorem d1_1 : decode prog_2_method_1_code 1 = .ok (.invokespecial 1, 3) := by decide +kernel
theorem d2_0 : decode jdk_30_method_1_code 0 = .ok (.aload_n 0, 1) := by decide +kernel
theorem d2_1 : decode jdk_30_method_1_code 1 = .ok (.invokespecial 1, 3) := by decide +kernel
theorem d2_4 : decode jdk_30_method_1_code 4 = .ok (.return_, 1) := by decide +kernel
theorem pn_java_lang_Record : plainName "java/lang/Record" = true := by first | (simp [plainName, overriddenIn]; done) | decide +kernel
theorem ef_2_v (m : MethodId) (x0 : Addr) : entryFrame m #[(.ref x0)] 1 = mkF m 0 #[.val (.ref x0)] [] := by first | (simp [entryFrame, mkF, argsToLocals, Value.category]; done) | rfl
theorem r2_1 (l : Launch) (Z : State) (a0 : Array Value) (hw : ∀ d ∈ tables_1, d.before a0 Z = true) (a1326 : Addr) (h0 : Heap) (n0 : Nat) (Z0 : n0 ≤ h0.size) :
   OMet l Z mN48 jdk_30_method_1_code 1 none [] ({ frames := 1, cells := 0, slots := 0, locals := 12 } : Room) h0 #[(.ref a1326)] (OQp (none) h0 n0) := by
 refine MetFree.of_bodySF (plainFor_of_name pn_java_lang_Record) hisR ?_
 intro p e s m args below meth c s₁ Bd hml0 hP hK
 obtain ⟨rfl, hZ, hh⟩ := hP
 have hx := Bd.exec
 have hby := Bd.bytes
 have hml : c.maxLocals = 1 := hml0
 have hown : s.vm.findClass "java/lang/Record" = some m.cls := findClass_of_methodNamed Bd.named
 have hnm := (name_of_methodNamed Bd.named Bd.method).1
 have X0 : Stand p l e ({ frames := 1, cells := 0, slots := 0, locals := 12 } : Room) s m #[(.ref a1326)] below meth c s₁ [] 0 0 := Stand.of_body Bd
 have e0 : s₁.heap = h0 := by rw [← hh, Bd.state]; rfl
 have N0 := Fr.nil n0
 have pre0 : ∀ t, Steps p.tables e below (s₁.setTop (mkF m 0 #[vR a1326] [])) t → Steps p.tables e below (s₁.setTop (entryFrame m #[(.ref a1326)] 1)) t := fun t k => castTop (ef_2_v m a1326) k
 obtain ⟨T1327, X1327, e1327, st1327⟩ := initO X0 hx hZ hown (tw hw 11 rfl) (tw hw 12 rfl) (tw hw 13 rfl) e0 (g := (mkF m 1 #[vR a1326] [(.ref a1326)])) rfl (by rw [hml]; rfl) rfl (hb hby d2_1) (by decide) (W := 0) (own_w _) (by decide)
 obtain ⟨fs, hr, hrun, hended, hW, hsame⟩ := X1327.leave (v := none) (fun _ => rfl)
 refine ⟨_, _, pre0 _ ?_, hrun, hended, _, _, rfl, ?_, ⟨_, rfl⟩, hW, hsame.mono (by decide) (by decide)⟩
 · show SG p e below s₁ (mkF m 0 #[vR a1326] []) _
   refine XS.aloadN X0.here hx rfl (hb hby d2_0) rfl rfl ?_
   show SG p e below s₁ (mkF m 1 #[vR a1326] [(.ref a1326)]) _
   refine st1327 _ ?_
   show SG p e below T1327 (mkF m 4 #[vR a1326] []) _
   exact X1327.returnOut hx Bd.returns (hb hby d2_4) hr
 · show OQp (none) h0 n0 _ T1327.heap _
   rw [e1327]
   exact ⟨rfl, N0, rfl⟩
theorem d1_4 : decode prog_2_method_1_code 4 = .ok (.aload_n 0, 1) := by decide +kernel
theorem d1_5 : decode prog_2_method_1_code 5 = .ok (.lload_n 1, 1) := by decide +kernel
theorem d1_6 : decode prog_2_method_1_code 6 = .ok (.putfield 7, 3) := by decide +kernel
theorem d1_9 : decode prog_2_method_1_code 9 = .ok (.aload_n 0, 1) := by decide +kernel
theorem d1_10 : decode prog_2_method_1_code 10 = .ok (.lload_n 3, 1) := by decide +kernel
theorem d1_11 : decode prog_2_method_1_code 11 = .ok (.putfield 13, 3) := by decide +kernel
theorem d1_14 : decode prog_2_method_1_code 14 = .ok (.return_, 1) := by decide +kernel
theorem ef_1_vvv (m : MethodId) (x0 : Addr) (x1 : Int64) (x2 : Int64) : entryFrame m #[(.ref x0), (.long x1), (.long x2)] 5 = mkF m 0 #[.val (.ref x0), .val (.long x1), .second, .val (.long x2), .second] [] := by first | (simp [entryFrame, mkF, argsToLocals, Value.category]; done) | rfl
def Qr1_1 (Z : State) (a1323 : Addr) (q1324 : Int64) (q1325 : Int64) (w1329 : Int64) (w1332 : Int64) (h0 : Heap) (n0 : Nat) (v : Option Value) (h : Heap) (L : List Loc) : Prop := Fr n0 L ∧ v = none ∧ KSx h0 h [(a1323, Jvm.RoadKit.slotOf Z "com/example/eta4/eta4/bench/FillFigures" "pushedOk" "J"), (a1323, Jvm.RoadKit.slotOf Z "com/example/eta4/eta4/bench/FillFigures" "pushErrors" "J")] [] ∧ Fld Z h a1323 "com/example/eta4/eta4/bench/FillFigures" "pushedOk" "J" (.long q1324) ∧ Fld Z h a1323 "com/example/eta4/eta4/bench/FillFigures" "pushErrors" "J" (.long q1325)
theorem r1_1 (l : Launch) (Z : State) (a0 : Array Value) (hw : ∀ d ∈ tables_1, d.before a0 Z = true) (a1323 : Addr) (q1324 : Int64) (q1325 : Int64) (w1329 : Int64) (w1332 : Int64) (h0 : Heap) (n0 : Nat) (Z0 : n0 ≤ h0.size) (H0 : Exa Z h0 a1323 "com/example/eta4/eta4/bench/FillFigures") (H1 : Fld Z h0 a1323 "com/example/eta4/eta4/bench/FillFigures" "pushedOk" "J" (.long w1329)) (H2 : n0 ≤ a1323) (H3 : Fld Z h0 a1323 "com/example/eta4/eta4/bench/FillFigures" "pushErrors" "J" (.long w1332)) :
   OMet l Z mN49 prog_2_method_1_code 5 none [] ({ frames := 2, cells := 0, slots := 0, locals := 24 } : Room) h0 #[(.ref a1323), (.long q1324), (.long q1325)] (Qr1_1 Z a1323 q1324 q1325 w1329 w1332 h0 n0) := by
 refine MetFree.of_bodySF (plainFor_of_name pn_com_example_eta4_eta4_bench_FillFigures) hisR ?_
 intro p e s m args below meth c s₁ Bd hml0 hP hK
 obtain ⟨rfl, hZ, hh⟩ := hP
 have hx := Bd.exec
 have hby := Bd.bytes
 have hml : c.maxLocals = 5 := hml0
 have hown : s.vm.findClass "com/example/eta4/eta4/bench/FillFigures" = some m.cls := findClass_of_methodNamed Bd.named
 have hnm := (name_of_methodNamed Bd.named Bd.method).1
 have X0 : Stand p l e ({ frames := 2, cells := 0, slots := 0, locals := 24 } : Room) s m #[(.ref a1323), (.long q1324), (.long q1325)] below meth c s₁ [] 0 0 := Stand.of_body Bd
 have e0 : s₁.heap = h0 := by rw [← hh, Bd.state]; rfl
 have N0 := Fr.nil n0
 have pre0 : ∀ t, Steps p.tables e below (s₁.setTop (mkF m 0 #[vR a1323, vJ q1324, vS, vJ q1325, vS] [])) t → Steps p.tables e below (s₁.setTop (entryFrame m #[(.ref a1323), (.long q1324), (.long q1325)] 5)) t := fun t k => castTop (ef_1_vvv m a1323 q1324 q1325) k
 obtain ⟨_, _, ⟨T1328, L1328, k1328, n1328⟩, -, X1328, ⟨Lc1328, hQ1328, l1328, y1328, z1328⟩, st1328⟩ := X0.specialBack hx (y := mN48) rfl hown (mvT hZ (tw hw 6 rfl)) (mvT hZ (tw hw 7 rfl)) (mvT hZ (tw hw 10 rfl)) (by decide) (backOf (W := 0) (r2_1 l Z a0 hw a1323 h0 n0 Z0 ) hZ (tw hw 10 rfl) (tw hw 9 rfl) (by decide) (by decide)) (g := (mkF m 1 #[vR a1323, vJ q1324, vS, vJ q1325, vS] [(.ref a1323)])) rfl (by rw [hml]; rfl) (Steps.refl _) (a := a1323) (argsL := []) (rest := []) (lenOf pd_23 rfl) rfl (own_w _) (hb hby d1_1) (fun _ _ => ⟨rfl, e0, (by decide : 0 + 0 ≤ _), (by decide : 0 + 0 ≤ _)⟩)
 dsimp only [Pt.U, Pt.locs, Pt.cells, Pt.slots] at X1328 l1328 y1328 z1328 st1328 hQ1328
 replace X1328 := own_mvX X1328 (a := 0) (b := 0) y1328 z1328
 obtain ⟨rfl, N1328q, e1328⟩ := hQ1328
 have N1328 := own_mvN l1328 N0 N1328q
 obtain ⟨T1330, h1330, X1330, e1330, W1330, st1330⟩ := putF X1328 hx hZ hown (host := "") (Or.inl (tw hw 14 rfl)) Via.refl e1328 H1 H0 (Or.inr ⟨(tw hw 15 rfl), rfl, hnm⟩) (tw hw 1 rfl) (ty := .long) (by decide) rfl rfl (g := (mkF m 6 #[vR a1323, vJ q1324, vS, vJ q1325, vS] [(.long q1324), (.ref a1323)])) rfl rfl (hb hby d1_6)
 have Fw1330 := Fld.same W1330 H1
 have KC1330 := KSx.wr (KSx.refl h0 [(a1323, Jvm.RoadKit.slotOf Z "com/example/eta4/eta4/bench/FillFigures" "pushedOk" "J"), (a1323, Jvm.RoadKit.slotOf Z "com/example/eta4/eta4/bench/FillFigures" "pushErrors" "J")] []) W1330 (Or.inl (List.mem_of_getElem? (i := 0) rfl))
 have N1330 := Fr.snoc X1330 N1328 H2
 have f1331 := (H0.wr W1330)
 have f1333 := (H3.other W1330 (Or.inr (slot_ne (Or.inr (tw hw 17 rfl)) (Or.inr (tw hw 15 rfl)) (by decide) (t := .long) (t' := .long) (by decide) (by decide))))
 obtain ⟨T1334, h1334, X1334, e1334, W1334, st1334⟩ := putF X1330 hx hZ hown (host := "") (Or.inl (tw hw 16 rfl)) Via.refl e1330 f1333 f1331 (Or.inr ⟨(tw hw 17 rfl), rfl, hnm⟩) (tw hw 1 rfl) (ty := .long) (by decide) rfl rfl (g := (mkF m 11 #[vR a1323, vJ q1324, vS, vJ q1325, vS] [(.long q1325), (.ref a1323)])) rfl rfl (hb hby d1_11)
 have Fw1334 := Fld.same W1334 f1333
 have KC1334 := KSx.wr KC1330 W1334 (Or.inl (List.mem_of_getElem? (i := 1) rfl))
 have N1334 := Fr.snoc X1334 N1330 H2
 have f1335 := (Fw1330.other W1334 (Or.inr (slot_ne (Or.inr (tw hw 15 rfl)) (Or.inr (tw hw 17 rfl)) (by decide) (t := .long) (t' := .long) (by decide) (by decide))))
 obtain ⟨fs, hr, hrun, hended, hW, hsame⟩ := X1334.leave (v := none) (fun _ => rfl)
 refine ⟨_, _, pre0 _ ?_, hrun, hended, _, _, rfl, ?_, ⟨_, rfl⟩, hW, hsame.mono (by decide) (by decide)⟩
 · show SG p e below s₁ (mkF m 0 #[vR a1323, vJ q1324, vS, vJ q1325, vS] []) _
   refine XS.aloadN X0.here hx rfl (hb hby d1_0) rfl rfl ?_
   show SG p e below s₁ (mkF m 1 #[vR a1323, vJ q1324, vS, vJ q1325, vS] [(.ref a1323)]) _
   refine st1328.trans ?_
   show SG p e below T1328 (mkF m 4 #[vR a1323, vJ q1324, vS, vJ q1325, vS] []) _
   refine XS.aloadN X1328.here hx rfl (hb hby d1_4) rfl rfl ?_
   show SG p e below T1328 (mkF m 5 #[vR a1323, vJ q1324, vS, vJ q1325, vS] [(.ref a1323)]) _
   refine XS.lloadN X1328.here hx rfl (hb hby d1_5) rfl ?_
   show SG p e below T1328 (mkF m 6 #[vR a1323, vJ q1324, vS, vJ q1325, vS] [(.long q1324), (.ref a1323)]) _
   refine st1330 _ ?_
   show SG p e below T1330 (mkF m 9 #[vR a1323, vJ q1324, vS, vJ q1325, vS] []) _
   refine XS.aloadN X1330.here hx rfl (hb hby d1_9) rfl rfl ?_
   show SG p e below T1330 (mkF m 10 #[vR a1323, vJ q1324, vS, vJ q1325, vS] [(.ref a1323)]) _
   refine XS.lloadN X1330.here hx rfl (hb hby d1_10) rfl ?_
   show SG p e below T1330 (mkF m 11 #[vR a1323, vJ q1324, vS, vJ q1325, vS] [(.long q1325), (.ref a1323)]) _
   refine st1334 _ ?_
   show SG p e below T1334 (mkF m 14 #[vR a1323, vJ q1324, vS, vJ q1325, vS] []) _
   exact X1334.returnOut hx Bd.returns (hb hby d1_14) hr
 · show Qr1_1 Z a1323 q1324 q1325 w1329 w1332 h0 n0 _ T1334.heap _
   rw [e1334]
   exact ⟨N1334, rfl, KC1334, f1335, Fw1334⟩
theorem pd_34 : parseMethodDescriptor "(JJ)V" = some ⟨[.long, .long], none⟩ := by decide +kernel
abbrev la21 (q1318 : Int64) (q1319 : Int64) (p1320 : Int32) (p1321 : Int32) (b1322 : Addr) : Array Slot := #[vJ q1318, vS, vJ q1319, vS, vI p1320, vI p1321, vR b1322, vU]
theorem pd_35 : parseMethodDescriptor "()Ljava/util/List;" = some ⟨[], some (.object "java/util/List")⟩ := by decide +kernel
abbrev la22 (q1318 : Int64) (q1319 : Int64) (p1320 : Int32) (p1321 : Int32) (b1322 : Addr) (b1339_0 : Addr) : Array Slot := #[vJ q1318, vS, vJ q1319, vS, vI p1320, vI p1321, vR b1322, vR b1339_0]
theorem d36_0 : decode jdk_44_method_3_code 0 = .ok (.aload_n 0, 1) := by decide +kernel
theorem d36_1 : decode jdk_44_method_3_code 1 = .ok (.getfield 24, 3) := by decide +kernel
theorem d36_4 : decode jdk_44_method_3_code 4 = .ok (.getstatic 19, 3) := by decide +kernel
theorem d36_7 : decode jdk_44_method_3_code 7 = .ok (.if_acmp .eq 7, 3) := by decide +kernel
theorem d36_10 : decode jdk_44_method_3_code 10 = .ok (.iconst 2, 1) := by decide +kernel
theorem d36_11 : decode jdk_44_method_3_code 11 = .ok (.goto 4, 3) := by decide +kernel
theorem d36_15 : decode jdk_44_method_3_code 15 = .ok (.ireturn, 1) := by decide +kernel
theorem ef_36_v (m : MethodId) (x0 : Addr) : entryFrame m #[(.ref x0)] 1 = mkF m 0 #[.val (.ref x0)] [] := by first | (simp [entryFrame, mkF, argsToLocals, Value.category]; done) | rfl
theorem r36_1 (l : Launch) (Z : State) (a0 : Array Value) (hw : ∀ d ∈ tables_1, d.before a0 Z = true) (a1355 : Addr) (w1356 : Addr) (w1358 : Addr) (h0 : Heap) (n0 : Nat) (Z0 : n0 ≤ h0.size) (H0 : Fld Z h0 a1355 "java/util/ImmutableCollections$List12" "e1" "Ljava/lang/Object;" (.ref w1356)) (H1 : Sta Z h0 "java/util/ImmutableCollections" "EMPTY" "Ljava/lang/Object;" (.ref w1358)) (H2 : Exa Z h0 w1356 "java/lang/String") (H3 : Exa Z h0 w1358 "java/lang/Object") :
   OMet l Z mN50 jdk_44_method_3_code 1 (some .int) [] ({ frames := 0, cells := 0, slots := 0, locals := 0 } : Room) h0 #[(.ref a1355)] (OQp (some (.int (2 : Int32))) h0 n0) := by
 refine MetFree.of_bodySF (plainFor_of_name pn_java_util_ImmutableCollections_List12) hisR ?_
 intro p e s m args below meth c s₁ Bd hml0 hP hK
 obtain ⟨rfl, hZ, hh⟩ := hP
 have hx := Bd.exec
 have hby := Bd.bytes
 have hml : c.maxLocals = 1 := hml0
 have hown : s.vm.findClass "java/util/ImmutableCollections$List12" = some m.cls := findClass_of_methodNamed Bd.named
 have hnm := (name_of_methodNamed Bd.named Bd.method).1
 have X0 : Stand p l e ({ frames := 0, cells := 0, slots := 0, locals := 0 } : Room) s m #[(.ref a1355)] below meth c s₁ [] 0 0 := Stand.of_body Bd
 have e0 : s₁.heap = h0 := by rw [← hh, Bd.state]; rfl
 have N0 := Fr.nil n0
 have pre0 : ∀ t, Steps p.tables e below (s₁.setTop (mkF m 0 #[vR a1355] [])) t → Steps p.tables e below (s₁.setTop (entryFrame m #[(.ref a1355)] 1)) t := fun t k => castTop (ef_36_v m a1355) k
 obtain ⟨T1357, X1357, e1357, st1357⟩ := getF X0 hx hZ hown (host := "") (Or.inl (tw hw 204 rfl)) Via.refl e0 H0 (g := (mkF m 1 #[vR a1355] [(.ref a1355)])) rfl rfl (hb hby d36_1)
 obtain ⟨T1359, X1359, e1359, st1359⟩ := getS2 X1357 hx hZ hown (Or.inr (tw hw 215 rfl)) Via.refl e1357 H1 (g := (mkF m 4 #[vR a1355] [(.ref w1356)])) rfl (hb hby d36_4)
 have ne1360 : w1356 ≠ w1358 := (ne_exa H2 H3 (by decide))
 obtain ⟨fs, hr, hrun, hended, hW, hsame⟩ := X1359.leave (v := some (.int (2 : Int32))) (fun h => by rw [Bd.returns] at h; cases h)
 refine ⟨_, _, pre0 _ ?_, hrun, hended, _, _, rfl, ?_, ⟨_, rfl⟩, hW, hsame.mono (by decide) (by decide)⟩
 · show SG p e below s₁ (mkF m 0 #[vR a1355] []) _
   refine XS.aloadN X0.here hx rfl (hb hby d36_0) rfl rfl ?_
   show SG p e below s₁ (mkF m 1 #[vR a1355] [(.ref a1355)]) _
   refine st1357 _ ?_
   show SG p e below T1357 (mkF m 4 #[vR a1355] [(.ref w1356)]) _
   refine st1359 _ ?_
   show SG p e below T1359 (mkF m 7 #[vR a1355] [(.ref w1358), (.ref w1356)]) _
   refine Jvm.RoadKit.acmp (g := (mkF m 7 #[vR a1355] [(.ref w1358), (.ref w1356)])) X1359 hx rfl rfl rfl (pc0 := 7) (pc' := 10) (same := false) rfl (hb hby d36_7) rfl (decide_eq_false fun q => ne1360 (Value.ref.inj q)) (by decide) (by decide) ?_
   show SG p e below T1359 (mkF m 10 #[vR a1355] []) _
   refine XS.iconst X1359.here hx rfl (hb hby d36_10) ?_
   show SG p e below T1359 (mkF m 11 #[vR a1355] [(.int (2 : Int32))]) _
   refine XS.goto X1359.here hx rfl (pc0 := 11) (pc' := 15) rfl (hb hby d36_11) (by decide) (by decide) ?_
   show SG p e below T1359 (mkF m 15 #[vR a1355] [(.int (2 : Int32))]) _
   exact retI X1359 hx Bd.returns (hb hby d36_15) hr
 · show OQp (some (.int (2 : Int32))) h0 n0 _ T1359.heap _
   rw [e1359]
   exact ⟨rfl, N0, rfl⟩
theorem d37_0 : decode jdk_44_method_5_code 0 = .ok (.iload_n 1, 1) := by decide +kernel
theorem d37_1 : decode jdk_44_method_5_code 1 = .ok (.ifCond .ne 8, 3) := by decide +kernel
theorem d37_4 : decode jdk_44_method_5_code 4 = .ok (.aload_n 0, 1) := by decide +kernel
theorem d37_5 : decode jdk_44_method_5_code 5 = .ok (.getfield 13, 3) := by decide +kernel
theorem d37_8 : decode jdk_44_method_5_code 8 = .ok (.areturn, 1) := by decide +kernel
theorem ef_37_vv (m : MethodId) (x0 : Addr) (x1 : Int32) : entryFrame m #[(.ref x0), (.int x1)] 2 = mkF m 0 #[.val (.ref x0), .val (.int x1)] [] := by first | (simp [entryFrame, mkF, argsToLocals, Value.category]; done) | rfl
theorem r37_1 (l : Launch) (Z : State) (a0 : Array Value) (hw : ∀ d ∈ tables_1, d.before a0 Z = true) (a1365 : Addr) (p1366 : Int32) (w1367 : Addr) (h0 : Heap) (n0 : Nat) (Z0 : n0 ≤ h0.size) (H0 : p1366 = (0 : Int32)) (H1 : Fld Z h0 a1365 "java/util/ImmutableCollections$List12" "e0" "Ljava/lang/Object;" (.ref w1367)) :
   OMet l Z mN52 jdk_44_method_5_code 2 (some (.object "java/lang/Object")) [] ({ frames := 0, cells := 0, slots := 0, locals := 0 } : Room) h0 #[(.ref a1365), (.int p1366)] (OQp (some (.ref w1367)) h0 n0) := by
 refine MetFree.of_bodySF (plainFor_of_name pn_java_util_ImmutableCollections_List12) hisR ?_
 intro p e s m args below meth c s₁ Bd hml0 hP hK
 obtain ⟨rfl, hZ, hh⟩ := hP
 have hx := Bd.exec
 have hby := Bd.bytes
 have hml : c.maxLocals = 2 := hml0
 have hown : s.vm.findClass "java/util/ImmutableCollections$List12" = some m.cls := findClass_of_methodNamed Bd.named
 have hnm := (name_of_methodNamed Bd.named Bd.method).1
 have X0 : Stand p l e ({ frames := 0, cells := 0, slots := 0, locals := 0 } : Room) s m #[(.ref a1365), (.int p1366)] below meth c s₁ [] 0 0 := Stand.of_body Bd
 have e0 : s₁.heap = h0 := by rw [← hh, Bd.state]; rfl
 have N0 := Fr.nil n0
 have pre0 : ∀ t, Steps p.tables e below (s₁.setTop (mkF m 0 #[vR a1365, vI p1366] [])) t → Steps p.tables e below (s₁.setTop (entryFrame m #[(.ref a1365), (.int p1366)] 2)) t := fun t k => castTop (ef_37_vv m a1365 p1366) k
 obtain ⟨T1368, X1368, e1368, st1368⟩ := getF X0 hx hZ hown (host := "") (Or.inl (tw hw 202 rfl)) Via.refl e0 H1 (g := (mkF m 5 #[vR a1365, vI p1366] [(.ref a1365)])) rfl rfl (hb hby d37_5)
 obtain ⟨fs, hr, hrun, hended, hW, hsame⟩ := X1368.leave (v := some (.ref w1367)) (fun h => by rw [Bd.returns] at h; cases h)
 refine ⟨_, _, pre0 _ ?_, hrun, hended, _, _, rfl, ?_, ⟨_, rfl⟩, hW, hsame.mono (by decide) (by decide)⟩
 · show SG p e below s₁ (mkF m 0 #[vR a1365, vI p1366] []) _
   refine XS.iloadN X0.here hx rfl (hb hby d37_0) rfl ?_
   show SG p e below s₁ (mkF m 1 #[vR a1365, vI p1366] [(.int p1366)]) _
   refine XS.ifNo X0.here hx rfl (hb hby d37_1) rfl ((if0 _ _).trans (teq H0).2) ?_
   show SG p e below s₁ (mkF m 4 #[vR a1365, vI p1366] []) _
   refine XS.aloadN X0.here hx rfl (hb hby d37_4) rfl rfl ?_
   show SG p e below s₁ (mkF m 5 #[vR a1365, vI p1366] [(.ref a1365)]) _
   refine st1368 _ ?_
   show SG p e below T1368 (mkF m 8 #[vR a1365, vI p1366] [(.ref w1367)]) _
   jvm_step X1368.here [X1368.here.top, hx, (hb hby d37_8), X1368.method', Bd.returns, Value.isRef, FieldType.isReference]
   first | (intro acts; rw [hr _ acts rfl rfl rfl]) | rw [hr _ _ rfl rfl rfl]
   exact Steps.refl _
 · show OQp (some (.ref w1367)) h0 n0 _ T1368.heap _
   rw [e1368]
   exact ⟨rfl, N0, rfl⟩
theorem pd_36 : parseMethodDescriptor "(I)Ljava/lang/Object;" = some ⟨[.int], some (.object "java/lang/Object")⟩ := by decide +kernel
theorem pd_37 : parseMethodDescriptor "(Ljava/lang/String;Ljava/lang/String;JI)Z" = some ⟨[(.object "java/lang/String"), (.object "java/lang/String"), .long, .int], some .boolean⟩ := by decide +kernel
theorem d37_9 : decode jdk_44_method_5_code 9 = .ok (.iload_n 1, 1) := by decide +kernel
theorem d37_10 : decode jdk_44_method_5_code 10 = .ok (.iconst 1, 1) := by decide +kernel
theorem d37_11 : decode jdk_44_method_5_code 11 = .ok (.if_icmp .ne 18, 3) := by decide +kernel
theorem d37_14 : decode jdk_44_method_5_code 14 = .ok (.aload_n 0, 1) := by decide +kernel
theorem d37_15 : decode jdk_44_method_5_code 15 = .ok (.getfield 24, 3) := by decide +kernel
theorem d37_18 : decode jdk_44_method_5_code 18 = .ok (.getstatic 19, 3) := by decide +kernel
theorem d37_21 : decode jdk_44_method_5_code 21 = .ok (.if_acmp .eq 8, 3) := by decide +kernel
theorem d37_24 : decode jdk_44_method_5_code 24 = .ok (.aload_n 0, 1) := by decide +kernel
theorem d37_25 : decode jdk_44_method_5_code 25 = .ok (.getfield 24, 3) := by decide +kernel
theorem d37_28 : decode jdk_44_method_5_code 28 = .ok (.areturn, 1) := by decide +kernel
theorem r37_2 (l : Launch) (Z : State) (a0 : Array Value) (hw : ∀ d ∈ tables_1, d.before a0 Z = true) (a1380 : Addr) (p1381 : Int32) (w1382 : Addr) (w1384 : Addr) (h0 : Heap) (n0 : Nat) (Z0 : n0 ≤ h0.size) (H0 : ¬ (p1381 = (0 : Int32))) (H1 : p1381 = (1 : Int32)) (H2 : Fld Z h0 a1380 "java/util/ImmutableCollections$List12" "e1" "Ljava/lang/Object;" (.ref w1382)) (H3 : Sta Z h0 "java/util/ImmutableCollections" "EMPTY" "Ljava/lang/Object;" (.ref w1384)) (H4 : Exa Z h0 w1382 "java/lang/String") (H5 : Exa Z h0 w1384 "java/lang/Object") :
   OMet l Z mN52 jdk_44_method_5_code 2 (some (.object "java/lang/Object")) [] ({ frames := 0, cells := 0, slots := 0, locals := 0 } : Room) h0 #[(.ref a1380), (.int p1381)] (OQp (some (.ref w1382)) h0 n0) := by
 refine MetFree.of_bodySF (plainFor_of_name pn_java_util_ImmutableCollections_List12) hisR ?_
 intro p e s m args below meth c s₁ Bd hml0 hP hK
 obtain ⟨rfl, hZ, hh⟩ := hP
 have hx := Bd.exec
 have hby := Bd.bytes
 have hml : c.maxLocals = 2 := hml0
 have hown : s.vm.findClass "java/util/ImmutableCollections$List12" = some m.cls := findClass_of_methodNamed Bd.named
 have hnm := (name_of_methodNamed Bd.named Bd.method).1
 have X0 : Stand p l e ({ frames := 0, cells := 0, slots := 0, locals := 0 } : Room) s m #[(.ref a1380), (.int p1381)] below meth c s₁ [] 0 0 := Stand.of_body Bd
 have e0 : s₁.heap = h0 := by rw [← hh, Bd.state]; rfl
 have N0 := Fr.nil n0
 have pre0 : ∀ t, Steps p.tables e below (s₁.setTop (mkF m 0 #[vR a1380, vI p1381] [])) t → Steps p.tables e below (s₁.setTop (entryFrame m #[(.ref a1380), (.int p1381)] 2)) t := fun t k => castTop (ef_37_vv m a1380 p1381) k
 obtain ⟨T1383, X1383, e1383, st1383⟩ := getF X0 hx hZ hown (host := "") (Or.inl (tw hw 204 rfl)) Via.refl e0 H2 (g := (mkF m 15 #[vR a1380, vI p1381] [(.ref a1380)])) rfl rfl (hb hby d37_15)
 obtain ⟨T1385, X1385, e1385, st1385⟩ := getS2 X1383 hx hZ hown (Or.inr (tw hw 215 rfl)) Via.refl e1383 H3 (g := (mkF m 18 #[vR a1380, vI p1381] [(.ref w1382)])) rfl (hb hby d37_18)
 have ne1386 : w1382 ≠ w1384 := (ne_exa H4 H5 (by decide))
 obtain ⟨T1387, X1387, e1387, st1387⟩ := getF X1385 hx hZ hown (host := "") (Or.inl (tw hw 204 rfl)) Via.refl e1385 H2 (g := (mkF m 25 #[vR a1380, vI p1381] [(.ref a1380)])) rfl rfl (hb hby d37_25)
 obtain ⟨fs, hr, hrun, hended, hW, hsame⟩ := X1387.leave (v := some (.ref w1382)) (fun h => by rw [Bd.returns] at h; cases h)
 refine ⟨_, _, pre0 _ ?_, hrun, hended, _, _, rfl, ?_, ⟨_, rfl⟩, hW, hsame.mono (by decide) (by decide)⟩
 · show SG p e below s₁ (mkF m 0 #[vR a1380, vI p1381] []) _
   refine XS.iloadN X0.here hx rfl (hb hby d37_0) rfl ?_
   show SG p e below s₁ (mkF m 1 #[vR a1380, vI p1381] [(.int p1381)]) _
   refine XS.ifYes X0.here hx rfl (pc0 := 1) (pc' := 9) rfl (hb hby d37_1) rfl ((if0 _ _).trans (feq H0).2) (by decide) (by decide) ?_
   show SG p e below s₁ (mkF m 9 #[vR a1380, vI p1381] []) _
   refine XS.iloadN X0.here hx rfl (hb hby d37_9) rfl ?_
   show SG p e below s₁ (mkF m 10 #[vR a1380, vI p1381] [(.int p1381)]) _
   refine XS.iconst X0.here hx rfl (hb hby d37_10) ?_
   show SG p e below s₁ (mkF m 11 #[vR a1380, vI p1381] [(.int (1 : Int32)), (.int p1381)]) _
   refine XS.icmpNo X0.here hx rfl (hb hby d37_11) rfl (teq H1).2 ?_
   show SG p e below s₁ (mkF m 14 #[vR a1380, vI p1381] []) _
   refine XS.aloadN X0.here hx rfl (hb hby d37_14) rfl rfl ?_
   show SG p e below s₁ (mkF m 15 #[vR a1380, vI p1381] [(.ref a1380)]) _
   refine st1383 _ ?_
   show SG p e below T1383 (mkF m 18 #[vR a1380, vI p1381] [(.ref w1382)]) _
   refine st1385 _ ?_
   show SG p e below T1385 (mkF m 21 #[vR a1380, vI p1381] [(.ref w1384), (.ref w1382)]) _
   refine Jvm.RoadKit.acmp (g := (mkF m 21 #[vR a1380, vI p1381] [(.ref w1384), (.ref w1382)])) X1385 hx rfl rfl rfl (pc0 := 21) (pc' := 24) (same := false) rfl (hb hby d37_21) rfl (decide_eq_false fun q => ne1386 (Value.ref.inj q)) (by decide) (by decide) ?_
   show SG p e below T1385 (mkF m 24 #[vR a1380, vI p1381] []) _
   refine XS.aloadN X1385.here hx rfl (hb hby d37_24) rfl rfl ?_
   show SG p e below T1385 (mkF m 25 #[vR a1380, vI p1381] [(.ref a1380)]) _
   refine st1387 _ ?_
   show SG p e below T1387 (mkF m 28 #[vR a1380, vI p1381] [(.ref w1382)]) _
   jvm_step X1387.here [X1387.here.top, hx, (hb hby d37_28), X1387.method', Bd.returns, Value.isRef, FieldType.isReference]
   first | (intro acts; rw [hr _ acts rfl rfl rfl]) | rw [hr _ _ rfl rfl rfl]
   exact Steps.refl _
 · show OQp (some (.ref w1382)) h0 n0 _ T1387.heap _
   rw [e1387]
   exact ⟨rfl, N0, rfl⟩
theorem ef_0_vvvv (m : MethodId) (x0 : Int64) (x1 : Int64) (x2 : Int32) (x3 : Int32) : entryFrame m #[(.long x0), (.long x1), (.int x2), (.int x3)] maxLocals = mkF m 0 #[.val (.long x0), .second, .val (.long x1), .second, .val (.int x2), .val (.int x3), .unset, .unset] [] := by first | (simp [entryFrame, mkF, argsToLocals, Value.category, maxLocals]; done) | rfl
theorem r0_1 (l : Launch) (Z : State) (a0 : Array Value) (hw : ∀ d ∈ tables_1, d.before a0 Z = true) (q1318 : Int64) (q1319 : Int64) (p1320 : Int32) (p1321 : Int32) (w1340 : Int32) (w1342 : Addr) (w1344 : Addr) (k1346 : ClassId) (u1347 : Nat → Int32) (k1350 : ClassId) (u1351 : Nat → Int32) (w1362 : Addr) (x1378 : Value) (h0 : Heap) (n0 : Nat) (Z0 : n0 ≤ h0.size) (H0 : Sta Z h0 "java/lang/String" "COMPACT_STRINGS" "Z" (.int w1340)) (H1 : ¬ (w1340 = (0 : Int32))) (H2 : Sta Z h0 "java/lang/Integer" "DigitOnes" "[B" (.ref w1342)) (H3 : Sta Z h0 "java/lang/Integer" "DigitTens" "[B" (.ref w1344)) (H4 : BA Z h0 w1342 k1346 .byte (100 : Int32) u1347) (H5 : BA Z h0 w1344 k1350 .byte (100 : Int32) u1351) (H6 : u1347 = (fun r => Int32.ofNat (48 + r % 10))) (H7 : u1351 = (fun r => Int32.ofNat (48 + r / 10))) (H8 : (Jvm.Cond.laysStatic "java/lang/Integer" "DigitOnes" "[B").before a0 Z = true) (H9 : (Jvm.Cond.laysStatic "java/lang/Integer" "DigitTens" "[B").before a0 Z = true) (H10 : Sta Z h0 "java/util/ImmutableCollections" "EMPTY" "Ljava/lang/Object;" (.ref w1362)) (H11 : Exa Z h0 w1362 "java/lang/Object") (H12 : Sta Z h0 "jdk/internal/util/Preconditions" "SIOOBE_FORMATTER" "Ljava/util/function/BiFunction;" x1378) (H13 : (x1378).isRef = true) (H14 : (Int32.ofNat (10 + oszL q1318)) = Int32.ofNat (((10 : Int32)).toNatClampNeg + oszL q1318)) (H15 : ∀ i, i < ((10 : Int32)).toNatClampNeg + oszL q1318 → ((otxL (fun i => ([112, 117, 115, 104, 101, 100, 95, 111, 107, 32] : List Int32).getD i 0) 10 q1318)) i = otxL (fun i => ([112, 117, 115, 104, 101, 100, 95, 111, 107, 32] : List Int32).getD i 0) ((10 : Int32)).toNatClampNeg q1318 i) (H16 : (Int32.ofNat (12 + oszL q1319)) = Int32.ofNat (((12 : Int32)).toNatClampNeg + oszL q1319)) (H17 : ∀ i, i < ((12 : Int32)).toNatClampNeg + oszL q1319 → ((otxL (fun i => ([112, 117, 115, 104, 95, 101, 114, 114, 111, 114, 115, 32] : List Int32).getD i 0) 12 q1319)) i = otxL (fun i => ([112, 117, 115, 104, 95, 101, 114, 114, 111, 114, 115, 32] : List Int32).getD i 0) ((12 : Int32)).toNatClampNeg q1319 i) :
   OMetH EL l Z x code maxLocals ret tables_1 room_1 h0 #[(.long q1318), (.long q1319), (.int p1320), (.int p1321)] (OQl (some (.int (1 : Int32))) n0) := by
 refine MetFree.of_bodySF (plainFor_of_name pn_com_example_eta4_eta4_bench_FillFiguresLinesPinLaw) hisR ?_
 intro p e s m args below meth c s₁ Bd hml0 hP hK
 obtain ⟨rfl, hZ, hh, hCH⟩ := hP
 have hx := Bd.exec
 have hby := Bd.bytes
 have hml : c.maxLocals = 8 := hml0
 have hown : s.vm.findClass "com/example/eta4/eta4/bench/FillFiguresLinesPinLaw" = some m.cls := findClass_of_methodNamed Bd.named
 have hnm := (name_of_methodNamed Bd.named Bd.method).1
 have X0 : Stand p l e room_1 s m #[(.long q1318), (.long q1319), (.int p1320), (.int p1321)] below meth c s₁ [] 0 0 := Stand.of_body Bd
 have e0 : s₁.heap = h0 := by rw [← hh, Bd.state]; rfl
 have N0 := Fr.nil n0
 have R0 : CHr Z EL s.vm h0 s.vm h0 := CHr.refl hCH
 have pre0 : ∀ t, Steps p.tables e below (s₁.setTop (mkF m 0 #[vJ q1318, vS, vJ q1319, vS, vI p1320, vI p1321, .unset, .unset] [])) t → Steps p.tables e below (s₁.setTop (entryFrame m #[(.long q1318), (.long q1319), (.int p1320), (.int p1321)] maxLocals)) t := fun t k => castTop (ef_0_vvvv m q1318 q1319 p1320 p1321) k
 obtain ⟨T1322, h1322, X1322, e1322, E1322, A1322, D1322, -, st1322⟩ := newO X0 hx hZ hown (tw hw 0 rfl) (tw hw 1 rfl) (tw hw 2 rfl) e0 (g := (mkF m 0 #[vJ q1318, vS, vJ q1319, vS, vI p1320, vI p1321, vU, vU] [])) rfl (hb hby at_0) (by decide) (by decide)
 obtain ⟨b1322, g1322⟩ : ∃ z, z = h0.size := ⟨_, rfl⟩
 rw [← g1322] at A1322 D1322 st1322
 have KC1322 := KSx.ext (KSx.refl h0 [] []) E1322
 have R1322 := CHr.trans R0 (CHr.ext E1322 R0.1)
 have g1337 : n0 ≤ b1322 := Nat.le_trans Z0 (Nat.le_of_eq g1322.symm)
 have Z1322 : n0 ≤ h1322.size := Nat.le_trans Z0 E1322.1
 obtain ⟨_, _, ⟨T1336, L1336, k1336, n1336⟩, -, X1336, ⟨Lc1336, hQ1336, l1336, y1336, z1336⟩, st1336⟩ := X1322.specialBack hx (y := mN49) rfl hown (mvT hZ (tw hw 3 rfl)) (mvT hZ (tw hw 4 rfl)) (mvT hZ (tw hw 5 rfl)) (by decide) (backOf (W := 1) (r1_1 l Z a0 hw b1322 q1318 q1319 (0 : Int64) (0 : Int64) h1322 n0 Z1322 A1322 (D1322 (Or.inr (tw hw 15 rfl)) (ty := .long) (by decide)) g1337 (D1322 (Or.inr (tw hw 17 rfl)) (ty := .long) (by decide))) hZ (tw hw 5 rfl) (tw hw 2 rfl) (by decide) (by decide)) (g := (mkF m 6 #[vJ q1318, vS, vJ q1319, vS, vI p1320, vI p1321, vU, vU] [(.long q1319), (.long q1318), (.ref b1322), (.ref b1322)])) rfl (by rw [hml]; rfl) (Steps.refl _) (a := b1322) (argsL := [(.long q1318), (.long q1319)]) (rest := [(.ref b1322)]) (lenOf pd_34 rfl) rfl (own_w _) (hb hby at_6) (fun _ _ => ⟨rfl, e1322, (by decide : 1 + 0 ≤ _), (by decide : 2 + 0 ≤ _)⟩)
 dsimp only [Pt.U, Pt.locs, Pt.cells, Pt.slots] at X1336 l1336 y1336 z1336 st1336 hQ1336
 replace X1336 := own_mvX X1336 (a := 1) (b := 2) y1336 z1336
 obtain ⟨N1336q, rfl, K1336, o1336_0, o1336_1⟩ := hQ1336
 have N1336 := own_mvN l1336 N0 N1336q
 have z1338 : h0.size ≤ b1322 := Nat.le_trans (KSx.refl h0 [] []).1 (Nat.le_of_eq g1322.symm)
 have KC1336 := KSx.trans KC1322 K1336 (ksS (Or.inr z1338) (ksS (Or.inr z1338) ks0)) all0
 have R1336 := CHr.trans R1322 (CHr.ks K1336 (ksS (Safe.exa hZ.alike A1322 (by decide) (by decide)) (ksS (Safe.exa hZ.alike A1322 (by decide) (by decide)) ks0)) all0 R1322.1)
 have f1341 := ((H0.ext E1322).ks K1336)
 have f1343 := ((H2.ext E1322).ks K1336)
 have f1345 := ((H3.ext E1322).ks K1336)
 have ne1348 : w1342 ≠ b1322 := (Nat.ne_of_lt (Nat.lt_of_lt_of_le (H4).lt (Nat.le_of_eq g1322.symm)))
 have f1349 := ((H4.ext E1322).ks K1336 (ksS ne1348 (ksS ne1348 ks0)) all0)
 have ne1352 : w1344 ≠ b1322 := (Nat.ne_of_lt (Nat.lt_of_lt_of_le (H5).lt (Nat.le_of_eq g1322.symm)))
 have f1353 := ((H5.ext E1322).ks K1336 (ksS ne1352 (ksS ne1352 ks0)) all0)
 have Z1336 : n0 ≤ T1336.heap.size := Nat.le_trans Z1322 K1336.1
 have f1354 := (A1322.ks K1336)
 obtain ⟨cq1339, kq1339, q1339a, q1339b, q1339c⟩ := isOf hZ rfl f1354
 obtain ⟨_, _, ⟨T1339, L1339, k1339, n1339⟩, -, X1339, hs1339, hg1339, ⟨Lc1339, hQ1339, l1339, y1339, z1339, ch1339⟩, st1339⟩ := X1336.virtualBackS hx (y := mN47) (z := mN47) hown (mvT hZ (tw hw 18 rfl)) (mvT hZ (tw hw 19 rfl)) (notFace_of_selects (args := #[]) (mvT hZ (tw hw 21 rfl))) (mvT hZ (tw hw 21 rfl)) (mvT hZ (tw hw 20 rfl)) (by decide) (backOfSH (s := s) (vm0 := s.vm) (W := 0) (own_lns l Z a0 hw b1322 w1340 q1318 w1342 w1344 k1346 u1347 k1350 u1351 q1319 T1336.heap n0 Z1336 f1341 H1 o1336_0 f1343 f1345 f1349 f1353 H6 H7 H8 H9 o1336_1) hZ (tw hw 22 rfl) (tw hw 2 rfl) (by decide) (by decide) (el_ok hw) R1336.1) q1339a q1339c (g := (mkF m 13 (la21 q1318 q1319 p1320 p1321 b1322) [(.ref b1322)])) rfl (by rw [hml]; rfl) (Steps.refl _) (argsL := []) (rest := []) (lenOf pd_35 rfl) rfl (own_w _) (hb hby at_13) (fun _ _ => ⟨rfl, rfl, (by decide : 1 + 15 ≤ _), (by decide : 2 + 318 ≤ _)⟩)
 dsimp only [Pt.U, Pt.locs, Pt.cells, Pt.slots] at X1339 l1339 y1339 z1339 st1339 hQ1339 hs1339 hg1339
 replace X1339 := own_mvX X1339 (a := 16) (b := 320) y1339 z1339
 obtain ⟨N1339q, b1339_0, b1339_1, b1339_2, b1339_3, b1339_4, k1339_0, k1339_1, rfl, ge_b1339_0, ge_b1339_1, ge_b1339_2, ge_b1339_3, ge_b1339_4, K1339, o1339_0, o1339_1, o1339_2, o1339_3, o1339_4, o1339_5, o1339_6, o1339_7, o1339_8, o1339_9, o1339_10⟩ := hQ1339
 have N1339 := own_mvN l1339 N1336 N1339q
 have KC1339 := KSx.trans KC1336 K1339 ks0 all0
 have R1339 := CHr.trans R1336 ch1339
 have hS1339 : s.Since T1339.vm T1339.heap.size := hs1339
 have hZ1339 : Z.Warmed39 (s.setVm T1339.vm).vm := State.Warmed39.trans (t := s) hZ hs1339.1
 have ho1339 : (s.setVm T1339.vm).vm.findClass "com/example/eta4/eta4/bench/FillFiguresLinesPinLaw" = some m.cls := by rw [show (s.setVm T1339.vm).vm = T1339.vm from rfl, hs1339.1.alike.findClass]; exact hown
 replace X1339 : Stand p l e room_1 (s.setVm T1339.vm) m #[(.long q1318), (.long q1319), (.int p1320), (.int p1321)] below meth c T1339 _ _ _ := X1339
 have f1363 := (((H10.ext E1322).ks K1336).ks K1339)
 have f1364 := (((H11.ext E1322).ks K1336).ks K1339)
 have Z1339 : n0 ≤ T1339.heap.size := Nat.le_trans Z1336 K1339.1
 obtain ⟨cq1361, kq1361, q1361a, q1361b, q1361c⟩ := isOf hZ1339 rfl o1339_0
 obtain ⟨_, _, ⟨T1361, L1361, k1361, n1361⟩, -, X1361, ⟨Lc1361, hQ1361, l1361, y1361, z1361⟩, st1361⟩ := X1339.interfaceBack hx (xi := mN51) (y := mN50) ho1339 (mvT hZ1339 (tw hw 206 rfl)) (mvT hZ1339 (tw hw 207 rfl)) (mvT hZ1339 (tw hw 208 rfl)) (mvT hZ1339 (tw hw 209 rfl)) (mvT hZ1339 (tw hw 210 rfl)) (mvT hZ1339 (tw hw 211 rfl)) (mvT hZ1339 (tw hw 212 rfl)) (mvT hZ1339 (tw hw 213 rfl)) (by decide) (backOf (W := 0) (r36_1 l Z a0 hw b1339_0 b1339_3 w1362 T1339.heap n0 Z1339 o1339_4 f1363 o1339_2 f1364) hZ1339 (tw hw 214 rfl) (tw hw 174 rfl) (by decide) (by decide)) q1361a q1361b q1361c (g := (mkF m 20 (la22 q1318 q1319 p1320 p1321 b1322 b1339_0) [(.ref b1339_0)])) rfl (by rw [hml]; rfl) (Steps.refl _) (argsL := []) (rest := []) (lenOf pd_7 rfl) rfl (own_w _) (hb hby at_20) (fun _ _ => ⟨rfl, rfl, (by decide : 16 + 0 ≤ _), (by decide : 320 + 0 ≤ _)⟩)
 dsimp only [Pt.U, Pt.locs, Pt.cells, Pt.slots] at X1361 l1361 y1361 z1361 st1361 hQ1361
 replace X1361 := own_mvX X1361 (a := 16) (b := 320) y1361 z1361
 obtain ⟨rfl, N1361q, e1361⟩ := hQ1361
 have N1361 := own_mvN l1361 N1339 N1361q
 obtain ⟨cq1369, kq1369, q1369a, q1369b, q1369c⟩ := isOf hZ1339 e1361 o1339_0
 obtain ⟨_, _, ⟨T1369, L1369, k1369, n1369⟩, -, X1369, ⟨Lc1369, hQ1369, l1369, y1369, z1369⟩, st1369⟩ := X1361.interfaceBack hx (xi := mN53) (y := mN52) ho1339 (mvT hZ1339 (tw hw 217 rfl)) (mvT hZ1339 (tw hw 218 rfl)) (mvT hZ1339 (tw hw 219 rfl)) (mvT hZ1339 (tw hw 220 rfl)) (mvT hZ1339 (tw hw 221 rfl)) (mvT hZ1339 (tw hw 222 rfl)) (mvT hZ1339 (tw hw 223 rfl)) (mvT hZ1339 (tw hw 213 rfl)) (by decide) (backOf (W := 0) (r37_1 l Z a0 hw b1339_0 (0 : Int32) b1339_1 T1339.heap n0 Z1339 rfl o1339_3) hZ1339 (tw hw 224 rfl) (tw hw 174 rfl) (by decide) (by decide)) q1369a q1369b q1369c (g := (mkF m 34 (la22 q1318 q1319 p1320 p1321 b1322 b1339_0) [(.int (0 : Int32)), (.ref b1339_0)])) rfl (by rw [hml]; rfl) (Steps.refl _) (argsL := [(.int (0 : Int32))]) (rest := []) (lenOf pd_36 rfl) rfl (own_w _) (hb hby at_34) (fun _ _ => ⟨rfl, e1361, (by decide : 16 + 0 ≤ _), (by decide : 320 + 0 ≤ _)⟩)
 dsimp only [Pt.U, Pt.locs, Pt.cells, Pt.slots] at X1369 l1369 y1369 z1369 st1369 hQ1369
 replace X1369 := own_mvX X1369 (a := 16) (b := 320) y1369 z1369
 obtain ⟨rfl, N1369q, e1369⟩ := hQ1369
 have N1369 := own_mvN l1369 N1361 N1369q
 obtain ⟨T1370, X1370, e1370, st1370⟩ := castY X1369 hx hZ1339 ho1339 (tw hw 225 rfl) e1369 (Ins.self o1339_1) (g := (mkF m 39 (la22 q1318 q1319 p1320 p1321 b1322 b1339_0) [(.ref b1339_1)])) rfl rfl (hb hby at_39)
 obtain ⟨b1371, T1371, h1371, j1371, b1371_1, k1371, X1371, e1371, E1371, hS1371, hk1371, hZ1371, ho1371, A1371, Fc1371, Fv1371, V1371, lt1371, lu1371, ch1371, -, sx1371, st1371⟩ := ldcCH (s := s) X1370 hx hZ1339 ho1339 (tw hw 226 rfl) (fun d hd => hw d (str_in d hd)) e1370 hS1339 (Nat.le_refl _) (el_ok hw) (List.mem_of_getElem? (i := 2) rfl) R1339.1 (vs := [(.int (112 : Int32)), (.int (117 : Int32)), (.int (115 : Int32)), (.int (104 : Int32)), (.int (101 : Int32)), (.int (100 : Int32)), (.int (95 : Int32)), (.int (111 : Int32)), (.int (107 : Int32)), (.int (32 : Int32))]) (z := (10 : Int32)) ⟨by decide, by decide +kernel⟩ (by decide) rfl (g := (mkF m 42 (la22 q1318 q1319 p1320 p1321 b1322 b1339_0) [(.ref b1339_1)])) rfl (hb hby at_42) (n := 40) (by decide) (by decide) (by decide) (by decide)
 have KC1371 := KSx.ext KC1339 E1371
 have R1371 := CHr.trans R1339 ch1371
 have Bl1371 : BA Z h1371 b1371_1 k1371 .byte (10 : Int32) (fun i => ([112, 117, 115, 104, 101, 100, 95, 111, 107, 32] : List Int32).getD i 0) := BA.of_arv V1371 (fun i hi => by match i, hi with | 0, _ => rfl | 1, _ => rfl | 2, _ => rfl | 3, _ => rfl | 4, _ => rfl | 5, _ => rfl | 6, _ => rfl | 7, _ => rfl | 8, _ => rfl | 9, _ => rfl | _ + 10, hi => exact absurd hi (by simp only [show (10 : Int32).toNatClampNeg = 10 from rfl]; omega))
 have f1373 := ((f1341.ks K1339).ext E1371)
 have f1374 := (o1339_6.ext E1371)
 have f1375 := (o1339_1.ext E1371)
 have f1376 := (o1339_5.ext E1371)
 have f1377 := (o1339_7.ext E1371)
 have f1379 := ((((H12.ext E1322).ks K1336).ks K1339).ext E1371)
 have Z1371 : n0 ≤ h1371.size := Nat.le_trans Z1339 E1371.1
 obtain ⟨_, _, ⟨T1372, L1372, k1372, n1372⟩, -, X1372, ⟨Lc1372, hQ1372, l1372, y1372, z1372⟩, st1372⟩ := Jvm.LawKit.callS X1371 hx (y := mN13) ho1371 (mvT hZ1371 (tw hw 227 rfl)) (mvT hZ1371 (tw hw 228 rfl)) (mvT hZ1371 (tw hw 229 rfl)) (mvT hZ1371 (tw hw 230 rfl)) (by decide) (backOf (W := 0) (own_lok l Z a0 hw b1339_1 w1340 (0 : Int32) b1339_2 k1339_0 (Int32.ofNat (10 + oszL q1318)) (otxL (fun i => ([112, 117, 115, 104, 101, 100, 95, 111, 107, 32] : List Int32).getD i 0) 10 q1318) x1378 b1371 (0 : Int32) b1371_1 k1371 (10 : Int32) (fun i => ([112, 117, 115, 104, 101, 100, 95, 111, 107, 32] : List Int32).getD i 0) q1318 p1320 h1371 n0 Z1371 f1373 H1 f1374 rfl f1375 f1376 f1377 f1379 H13 Fc1371 rfl A1371 Fv1371 Bl1371 (by first | decide | rfl) H14 H15) hZ1371 (tw hw 230 rfl) (tw hw 229 rfl) (by decide) (by decide)) (g := (mkF m 47 (la22 q1318 q1319 p1320 p1321 b1322 b1339_0) [(.int p1320), (.long q1318), (.ref b1371), (.ref b1339_1)])) rfl (by rw [hml]; rfl) (argsL := [(.ref b1339_1), (.ref b1371), (.long q1318), (.int p1320)]) (rest := []) (lenOf pd_37 rfl) rfl (own_w _) (hb hby at_47) (fun _ _ => ⟨rfl, e1371, (by decide : 18 + 37 ≤ _), (by decide : 364 + 703 ≤ _)⟩)
 dsimp only [Pt.U, Pt.locs, Pt.cells, Pt.slots] at X1372 l1372 y1372 z1372 st1372 hQ1372
 replace X1372 := own_mvX X1372 (a := 55) (b := 1067) y1372 z1372
 obtain ⟨N1372q, rfl, K1372⟩ := hQ1372
 have N1372 := own_mvN l1372 N1369 N1372q
 have KC1372 := KSx.trans KC1371 K1372 ks0 all0
 have R1372 := CHr.trans R1371 (CHr.ks K1372 ks0 all0 R1371.1)
 have f1389 := ((o1339_4.ext E1371).ks K1372 ks0 all0)
 have f1390 := ((f1363.ext E1371).ks K1372)
 have f1391 := ((o1339_2.ext E1371).ks K1372)
 have f1392 := ((f1364.ext E1371).ks K1372)
 have Z1372 : n0 ≤ T1372.heap.size := Nat.le_trans Z1371 K1372.1
 have f1393 := ((o1339_0.ext E1371).ks K1372)
 obtain ⟨cq1388, kq1388, q1388a, q1388b, q1388c⟩ := isOf hZ1371 rfl f1393
 obtain ⟨_, _, ⟨T1388, L1388, k1388, n1388⟩, -, X1388, ⟨Lc1388, hQ1388, l1388, y1388, z1388⟩, st1388⟩ := X1372.interfaceBack hx (xi := mN53) (y := mN52) ho1371 (mvT hZ1371 (tw hw 217 rfl)) (mvT hZ1371 (tw hw 218 rfl)) (mvT hZ1371 (tw hw 219 rfl)) (mvT hZ1371 (tw hw 220 rfl)) (mvT hZ1371 (tw hw 221 rfl)) (mvT hZ1371 (tw hw 222 rfl)) (mvT hZ1371 (tw hw 223 rfl)) (mvT hZ1371 (tw hw 213 rfl)) (by decide) (backOf (W := 0) (r37_2 l Z a0 hw b1339_0 (1 : Int32) b1339_3 w1362 T1372.heap n0 Z1372 (by first | decide | rfl) rfl f1389 f1390 f1391 f1392) hZ1371 (tw hw 224 rfl) (tw hw 174 rfl) (by decide) (by decide)) q1388a q1388b q1388c (g := (mkF m 56 (la22 q1318 q1319 p1320 p1321 b1322 b1339_0) [(.int (1 : Int32)), (.ref b1339_0)])) rfl (by rw [hml]; rfl) (Steps.refl _) (argsL := [(.int (1 : Int32))]) (rest := []) (lenOf pd_36 rfl) rfl (own_w _) (hb hby at_56) (fun _ _ => ⟨rfl, rfl, (by decide : 55 + 0 ≤ _), (by decide : 1067 + 0 ≤ _)⟩)
 dsimp only [Pt.U, Pt.locs, Pt.cells, Pt.slots] at X1388 l1388 y1388 z1388 st1388 hQ1388
 replace X1388 := own_mvX X1388 (a := 55) (b := 1067) y1388 z1388
 obtain ⟨rfl, N1388q, e1388⟩ := hQ1388
 have N1388 := own_mvN l1388 N1372 N1388q
 obtain ⟨T1394, X1394, e1394, st1394⟩ := castY X1388 hx hZ1371 ho1371 (tw hw 225 rfl) e1388 (Ins.self f1391) (g := (mkF m 61 (la22 q1318 q1319 p1320 p1321 b1322 b1339_0) [(.ref b1339_3)])) rfl rfl (hb hby at_61)
 obtain ⟨b1395, T1395, h1395, j1395, b1395_1, k1395, X1395, e1395, E1395, hS1395, hk1395, hZ1395, ho1395, A1395, Fc1395, Fv1395, V1395, lt1395, lu1395, ch1395, -, sx1395, st1395⟩ := ldcCH (s := s) X1394 hx hZ1371 ho1371 (tw hw 286 rfl) (fun d hd => hw d (str_in d hd)) e1394 hS1371 (Nat.le_trans hk1371 K1372.1) (el_ok hw) (List.mem_of_getElem? (i := 3) rfl) R1372.1 (vs := [(.int (112 : Int32)), (.int (117 : Int32)), (.int (115 : Int32)), (.int (104 : Int32)), (.int (95 : Int32)), (.int (101 : Int32)), (.int (114 : Int32)), (.int (114 : Int32)), (.int (111 : Int32)), (.int (114 : Int32)), (.int (115 : Int32)), (.int (32 : Int32))]) (z := (12 : Int32)) ⟨by decide, by decide +kernel⟩ (by decide) rfl (g := (mkF m 64 (la22 q1318 q1319 p1320 p1321 b1322 b1339_0) [(.ref b1339_3)])) rfl (hb hby at_64) (n := 48) (by decide) (by decide) (by decide) (by decide)
 have KC1395 := KSx.ext KC1372 E1395
 have R1395 := CHr.trans R1372 ch1395
 have Bl1395 : BA Z h1395 b1395_1 k1395 .byte (12 : Int32) (fun i => ([112, 117, 115, 104, 95, 101, 114, 114, 111, 114, 115, 32] : List Int32).getD i 0) := BA.of_arv V1395 (fun i hi => by match i, hi with | 0, _ => rfl | 1, _ => rfl | 2, _ => rfl | 3, _ => rfl | 4, _ => rfl | 5, _ => rfl | 6, _ => rfl | 7, _ => rfl | 8, _ => rfl | 9, _ => rfl | 10, _ => rfl | 11, _ => rfl | _ + 12, hi => exact absurd hi (by simp only [show (12 : Int32).toNatClampNeg = 12 from rfl]; omega))
 have f1397 := ((f1373.ks K1372).ext E1395)
 have f1398 := (((o1339_9.ext E1371).ks K1372 ks0 all0).ext E1395)
 have f1399 := (f1391.ext E1395)
 have f1400 := (((o1339_8.ext E1371).ks K1372 ks0 all0).ext E1395)
 have f1401 := (((o1339_10.ext E1371).ks K1372 ks0 all0).ext E1395)
 have f1402 := ((f1379.ks K1372).ext E1395)
 have Z1395 : n0 ≤ h1395.size := Nat.le_trans Z1372 E1395.1
 obtain ⟨_, _, ⟨T1396, L1396, k1396, n1396⟩, -, X1396, ⟨Lc1396, hQ1396, l1396, y1396, z1396⟩, st1396⟩ := Jvm.LawKit.callS X1395 hx (y := mN13) ho1395 (mvT hZ1395 (tw hw 227 rfl)) (mvT hZ1395 (tw hw 228 rfl)) (mvT hZ1395 (tw hw 229 rfl)) (mvT hZ1395 (tw hw 230 rfl)) (by decide) (backOf (W := 0) (own_lok l Z a0 hw b1339_3 w1340 (0 : Int32) b1339_4 k1339_1 (Int32.ofNat (12 + oszL q1319)) (otxL (fun i => ([112, 117, 115, 104, 95, 101, 114, 114, 111, 114, 115, 32] : List Int32).getD i 0) 12 q1319) x1378 b1395 (0 : Int32) b1395_1 k1395 (12 : Int32) (fun i => ([112, 117, 115, 104, 95, 101, 114, 114, 111, 114, 115, 32] : List Int32).getD i 0) q1319 p1321 h1395 n0 Z1395 f1397 H1 f1398 rfl f1399 f1400 f1401 f1402 H13 Fc1395 rfl A1395 Fv1395 Bl1395 (by first | decide | rfl) H16 H17) hZ1395 (tw hw 230 rfl) (tw hw 229 rfl) (by decide) (by decide)) (g := (mkF m 69 (la22 q1318 q1319 p1320 p1321 b1322 b1339_0) [(.int p1321), (.long q1319), (.ref b1395), (.ref b1339_3)])) rfl (by rw [hml]; rfl) (argsL := [(.ref b1339_3), (.ref b1395), (.long q1319), (.int p1321)]) (rest := []) (lenOf pd_37 rfl) rfl (own_w _) (hb hby at_69) (fun _ _ => ⟨rfl, e1395, (by decide : 57 + 37 ≤ _), (by decide : 1119 + 703 ≤ _)⟩)
 dsimp only [Pt.U, Pt.locs, Pt.cells, Pt.slots] at X1396 l1396 y1396 z1396 st1396 hQ1396
 replace X1396 := own_mvX X1396 (a := 94) (b := 1822) y1396 z1396
 obtain ⟨N1396q, rfl, K1396⟩ := hQ1396
 have N1396 := own_mvN l1396 N1388 N1396q
 have KC1396 := KSx.trans KC1395 K1396 ks0 all0
 have R1396 := CHr.trans R1395 (CHr.ks K1396 ks0 all0 R1395.1)
 obtain ⟨fs, hr, hrun, hended, hR1, hR2, hR3, hR4⟩ := X1396.leaveW (s := s) hS1395 ((Nat.le_trans hk1395 K1396.1)) (v := some (.int (1 : Int32))) (fun h => by rw [Bd.returns] at h; cases h)
 refine ⟨_, _, pre0 _ ?_, hrun, hended, _, _, rfl, ?_, ?_, hR1, hR2, hR3, hR4.mono (by decide) (by decide)⟩
 · show SG p e below s₁ (mkF m 0 #[vJ q1318, vS, vJ q1319, vS, vI p1320, vI p1321, vU, vU] []) _
   refine st1322 _ ?_
   show SG p e below T1322 (mkF m 3 #[vJ q1318, vS, vJ q1319, vS, vI p1320, vI p1321, vU, vU] [(.ref b1322)]) _
   refine XS.dup X1322.here hx rfl (hb hby at_3) rfl rfl ?_
   show SG p e below T1322 (mkF m 4 #[vJ q1318, vS, vJ q1319, vS, vI p1320, vI p1321, vU, vU] [(.ref b1322), (.ref b1322)]) _
   refine XS.lloadN X1322.here hx rfl (hb hby at_4) rfl ?_
   show SG p e below T1322 (mkF m 5 #[vJ q1318, vS, vJ q1319, vS, vI p1320, vI p1321, vU, vU] [(.long q1318), (.ref b1322), (.ref b1322)]) _
   refine XS.lloadN X1322.here hx rfl (hb hby at_5) rfl ?_
   show SG p e below T1322 (mkF m 6 #[vJ q1318, vS, vJ q1319, vS, vI p1320, vI p1321, vU, vU] [(.long q1319), (.long q1318), (.ref b1322), (.ref b1322)]) _
   refine st1336.trans ?_
   show SG p e below T1336 (mkF m 9 #[vJ q1318, vS, vJ q1319, vS, vI p1320, vI p1321, vU, vU] [(.ref b1322)]) _
   refine XS.astore X1336.here hx rfl (hb hby at_9) rfl rfl (l' := #[vJ q1318, vS, vJ q1319, vS, vI p1320, vI p1321, vR b1322, vU]) rfl ?_
   show SG p e below T1336 (mkF m 11 (la21 q1318 q1319 p1320 p1321 b1322) []) _
   refine XS.aload X1336.here hx rfl (hb hby at_11) rfl rfl ?_
   show SG p e below T1336 (mkF m 13 (la21 q1318 q1319 p1320 p1321 b1322) [(.ref b1322)]) _
   refine st1339.trans ?_
   show SG p e below T1339 (mkF m 16 (la21 q1318 q1319 p1320 p1321 b1322) [(.ref b1339_0)]) _
   refine XS.astore X1339.here hx rfl (hb hby at_16) rfl rfl (l' := #[vJ q1318, vS, vJ q1319, vS, vI p1320, vI p1321, vR b1322, vR b1339_0]) rfl ?_
   show SG p e below T1339 (mkF m 18 (la22 q1318 q1319 p1320 p1321 b1322 b1339_0) []) _
   refine XS.aload X1339.here hx rfl (hb hby at_18) rfl rfl ?_
   show SG p e below T1339 (mkF m 20 (la22 q1318 q1319 p1320 p1321 b1322 b1339_0) [(.ref b1339_0)]) _
   refine st1361.trans ?_
   show SG p e below T1361 (mkF m 25 (la22 q1318 q1319 p1320 p1321 b1322 b1339_0) [(.int (2 : Int32))]) _
   refine XS.iconst X1361.here hx rfl (hb hby at_25) ?_
   show SG p e below T1361 (mkF m 26 (la22 q1318 q1319 p1320 p1321 b1322 b1339_0) [(.int (2 : Int32)), (.int (2 : Int32))]) _
   refine XS.icmpYes X1361.here hx rfl (pc0 := 26) (pc' := 31) rfl (hb hby at_26) rfl (teq (rfl : (2 : Int32) = (2 : Int32))).1 (by decide) (by decide) ?_
   show SG p e below T1361 (mkF m 31 (la22 q1318 q1319 p1320 p1321 b1322 b1339_0) []) _
   refine XS.aload X1361.here hx rfl (hb hby at_31) rfl rfl ?_
   show SG p e below T1361 (mkF m 33 (la22 q1318 q1319 p1320 p1321 b1322 b1339_0) [(.ref b1339_0)]) _
   refine XS.iconst X1361.here hx rfl (hb hby at_33) ?_
   show SG p e below T1361 (mkF m 34 (la22 q1318 q1319 p1320 p1321 b1322 b1339_0) [(.int (0 : Int32)), (.ref b1339_0)]) _
   refine st1369.trans ?_
   show SG p e below T1369 (mkF m 39 (la22 q1318 q1319 p1320 p1321 b1322 b1339_0) [(.ref b1339_1)]) _
   refine st1370 _ ?_
   show SG p e below T1370 (mkF m 42 (la22 q1318 q1319 p1320 p1321 b1322 b1339_0) [(.ref b1339_1)]) _
   refine st1371 _ ?_
   show SG p e below T1371 (mkF m 44 (la22 q1318 q1319 p1320 p1321 b1322 b1339_0) [(.ref b1371), (.ref b1339_1)]) _
   refine XS.lloadN X1371.here hx rfl (hb hby at_44) rfl ?_
   show SG p e below T1371 (mkF m 45 (la22 q1318 q1319 p1320 p1321 b1322 b1339_0) [(.long q1318), (.ref b1371), (.ref b1339_1)]) _
   refine XS.iload X1371.here hx rfl (hb hby at_45) rfl ?_
   show SG p e below T1371 (mkF m 47 (la22 q1318 q1319 p1320 p1321 b1322 b1339_0) [(.int p1320), (.long q1318), (.ref b1371), (.ref b1339_1)]) _
   refine st1372 _ ?_
   show SG p e below T1372 (mkF m 50 (la22 q1318 q1319 p1320 p1321 b1322 b1339_0) [(.int (1 : Int32))]) _
   refine XS.ifNo X1372.here hx rfl (hb hby at_50) rfl ((if0 _ _).trans (feq (by decide : ¬ ((1 : Int32) = (0 : Int32)))).1) ?_
   show SG p e below T1372 (mkF m 53 (la22 q1318 q1319 p1320 p1321 b1322 b1339_0) []) _
   refine XS.aload X1372.here hx rfl (hb hby at_53) rfl rfl ?_
   show SG p e below T1372 (mkF m 55 (la22 q1318 q1319 p1320 p1321 b1322 b1339_0) [(.ref b1339_0)]) _
   refine XS.iconst X1372.here hx rfl (hb hby at_55) ?_
   show SG p e below T1372 (mkF m 56 (la22 q1318 q1319 p1320 p1321 b1322 b1339_0) [(.int (1 : Int32)), (.ref b1339_0)]) _
   refine st1388.trans ?_
   show SG p e below T1388 (mkF m 61 (la22 q1318 q1319 p1320 p1321 b1322 b1339_0) [(.ref b1339_3)]) _
   refine st1394 _ ?_
   show SG p e below T1394 (mkF m 64 (la22 q1318 q1319 p1320 p1321 b1322 b1339_0) [(.ref b1339_3)]) _
   refine st1395 _ ?_
   show SG p e below T1395 (mkF m 66 (la22 q1318 q1319 p1320 p1321 b1322 b1339_0) [(.ref b1395), (.ref b1339_3)]) _
   refine XS.lloadN X1395.here hx rfl (hb hby at_66) rfl ?_
   show SG p e below T1395 (mkF m 67 (la22 q1318 q1319 p1320 p1321 b1322 b1339_0) [(.long q1319), (.ref b1395), (.ref b1339_3)]) _
   refine XS.iload X1395.here hx rfl (hb hby at_67) rfl ?_
   show SG p e below T1395 (mkF m 69 (la22 q1318 q1319 p1320 p1321 b1322 b1339_0) [(.int p1321), (.long q1319), (.ref b1395), (.ref b1339_3)]) _
   refine st1396 _ ?_
   show SG p e below T1396 (mkF m 72 (la22 q1318 q1319 p1320 p1321 b1322 b1339_0) [(.int (1 : Int32))]) _
   refine XS.ifNo X1396.here hx rfl (hb hby at_72) rfl ((if0 _ _).trans (feq (by decide : ¬ ((1 : Int32) = (0 : Int32)))).1) ?_
   show SG p e below T1396 (mkF m 75 (la22 q1318 q1319 p1320 p1321 b1322 b1339_0) []) _
   refine XS.iconst X1396.here hx rfl (hb hby at_75) ?_
   show SG p e below T1396 (mkF m 76 (la22 q1318 q1319 p1320 p1321 b1322 b1339_0) [(.int (1 : Int32))]) _
   refine XS.goto X1396.here hx rfl (pc0 := 76) (pc' := 80) rfl (hb hby at_76) (by decide) (by decide) ?_
   show SG p e below T1396 (mkF m 80 (la22 q1318 q1319 p1320 p1321 b1322 b1339_0) [(.int (1 : Int32))]) _
   exact retN X1396 hx (t := .boolean) Bd.returns (by simp) (hb hby at_80) hr
 · show OQl (some (.int (1 : Int32))) n0 _ T1396.heap _
   exact ⟨rfl, N1396⟩
 · rw [hh]
   show CHr Z EL s.vm h0 T1396.vm T1396.heap
   exact CHr.trans R1396 (CHv.at X1396 hZ1395 (el_ok hw) R1396.1)
theorem comes_1 {Post : Tables → Env → Array Value → State → Outcome → State → Prop} (hpost : ∀ tb e args s v u, (limb_1_1.after args s (.returned v) u = true ∧ limb_1_2.after args s (.returned v) u = true ∧ True) → ReturnedEndW s (.returned v) u (Jvm.fieldLocs frame_1_writes args s ++ Jvm.arrayLocs frame_1_arrays args s ++ Jvm.staticLocs frame_1_statics s) 192 7360 → Post tb e args s (.returned v) u) :
   ArmFor flags0 classFile x code maxLocals ret World_1 tables_1 room_1 Calls_1 rest_1 Pre_1 Post := by
 intro l hfl _ _ p e ha hc hk s m args below hf hA hF happ hP
 obtain ⟨hcalls, hrest, hpre⟩ := hP
 obtain ⟨-, -, -, hnamed, -, -, -, hat⟩ := (Spec.applies_iff hf).mp happ
 obtain ⟨hg, hn⟩ := and_e (Cond.before_iff.mp (show (Jvm.Cond.and given_1 narrow_1).before args s = true from hpre))
 obtain ⟨gg0, gr0⟩ := and_e hg
 obtain ⟨gg1, gr1⟩ := and_e gr0
 obtain ⟨gg2, gr2⟩ := and_e gr1
 obtain ⟨gg3, gr3⟩ := and_e gr2
 obtain ⟨w0, w1, w2, w3, rfl⟩ : ∃ w0 w1 w2 w3 : Value, args = #[w0, w1, w2, w3] := by
   have hs : args.size = 4 := by simpa [Cond.value, given_1] using gg0
   obtain ⟨L⟩ := args
   match L, hs with
   | [w0, w1, w2, w3], _ => exact ⟨w0, w1, w2, w3, rfl⟩
 have hw := fun d (hd : d ∈ tables_1) => atoms_spec (ws := Jvm.Cond.code x code maxLocals ret :: tables_1) hat d (List.mem_cons_of_mem _ hd)
 have hfit : Fit s := fun {y c} hc i hi => by
   obtain ⟨ha, rfl⟩ := Array.getElem?_eq_some_iff.mp hc
   have q := List.all_eq_true.mp ((Array.all_eq_true_iff_forall_mem.mp hF) _ (Array.getElem_mem ha)) i (List.mem_range.mpr hi)
   simpa [Array.getElem?_eq_getElem hi] using q
 obtain ⟨i0, ei0⟩ := isL_v gg1
 obtain rfl : w0 = (.long i0) := Option.some.inj ei0
 obtain ⟨i1, ei1⟩ := isL_v gg2
 obtain rfl : w1 = (.long i1) := Option.some.inj ei1
 obtain ⟨i2, ei2⟩ := is_v gg3
 obtain rfl : w2 = (.int i2) := Option.some.inj ei2
 obtain ⟨i3, ei3⟩ := is_v gr3
 obtain rfl : w3 = (.int i3) := Option.some.inj ei3
 obtain ⟨hsets, hown0⟩ := atoms_of _ (rest_1_c_eq ▸ (show rest_1_c.before _ s = true from hrest))
 obtain ⟨w_c1, ev_c1⟩ := exa_v (Cond.before_iff.mp (hsets _ (List.mem_of_getElem? (i := 22) rfl)))
 have E_c1 := Exa.start ev_c1 (Cond.before_iff.mp (hsets _ (List.mem_of_getElem? (i := 22) rfl)))
 have S_c1 := Sta.start ev_c1 (Or.inl (hsets _ (List.mem_of_getElem? (i := 21) rfl)))
 obtain ⟨w_c2, ev_c2⟩ := exa_v (Cond.before_iff.mp (hsets _ (List.mem_of_getElem? (i := 28) rfl)))
 have E_c2 := Exa.start ev_c2 (Cond.before_iff.mp (hsets _ (List.mem_of_getElem? (i := 28) rfl)))
 have S_c2 := Sta.start ev_c2 (Or.inl (hsets _ (List.mem_of_getElem? (i := 27) rfl)))
 obtain ⟨wS, evS, hwS⟩ := own_cs (Cond.before_iff.mp (hsets _ (List.mem_of_getElem? (i := 1) rfl))) (Cond.before_iff.mp (hsets _ (List.mem_of_getElem? (i := 2) rfl)))
 have SS := Sta.start evS (Or.inl (hsets _ (List.mem_of_getElem? (i := 0) rfl)))
 obtain ⟨oF, evF, hoF⟩ := own_rf (Cond.before_iff.mp (hsets _ (List.mem_of_getElem? (i := 8) rfl)))
 have SF := Sta.start evF (Or.inl (hsets _ (List.mem_of_getElem? (i := 7) rfl)))
 obtain ⟨d1, kd1, evd1, Bd1⟩ := own_tab (n := 100) (F := fun r => Int32.ofNat (48 + r % 10)) (tw hw 38 rfl) (hsets _ (List.mem_of_getElem? (i := 12) rfl)) (hsets _ (List.mem_of_getElem? (i := 13) rfl)) (hsets _ (List.mem_of_getElem? (i := 14) rfl)) rfl (by decide) (fun r hr => by rw [← SBG.ones_num r hr]; rfl) (by decide)
 have Sd1 := Sta.start evd1 (Or.inl (hsets _ (List.mem_of_getElem? (i := 11) rfl)))
 obtain ⟨d2, kd2, evd2, Bd2⟩ := own_tab (n := 100) (F := fun r => Int32.ofNat (48 + r / 10)) (tw hw 38 rfl) (hsets _ (List.mem_of_getElem? (i := 17) rfl)) (hsets _ (List.mem_of_getElem? (i := 18) rfl)) (hsets _ (List.mem_of_getElem? (i := 19) rfl)) rfl (by decide) (fun r hr => by rw [← SBG.tens_num r hr]; rfl) (by decide)
 have Sd2 := Sta.start evd2 (Or.inl (hsets _ (List.mem_of_getElem? (i := 16) rfl)))
 have hCH : CHv s EL s.vm s.heap := CHv.start (el_ok hw) (fun q hq => hcalls.1 q hq) (hsets _ (List.mem_of_getElem? (i := 2) rfl)) (tw hw 38 rfl) (tw hw 44 rfl)
 suffices M : OMetH EL l s x code maxLocals ret tables_1 room_1 s.heap #[(.long i0), (.long i1), (.int i2), (.int i3)] (OQl (some (.int (1 : Int32))) s.heap.size) by
   obtain ⟨n, o, h1, h2, h3, _, L, rfl, ⟨rfl, N⟩, -, hq1, hq2, hq3, hq4⟩ := M p e ha hc hk s m _ below hf ((Spec.applies_iff_loose hf).mp happ).1 ⟨rfl, State.Warmed39.refl s, rfl, hCH⟩ trivial
   exact ⟨n, _, h1, h2, h3, hpost _ _ _ _ _ _ ⟨Cond.after_iff.mpr rfl, Cond.after_iff.mpr (eq_i res_at (Term.int_eval (1)) rfl), trivial⟩ ⟨hq1, hq2, hq3, (hq4.sift fun y hy => Or.inr (N y hy)).mono (by decide) (by decide)⟩⟩
 exact r0_1 l s _ hw i0 i1 i2 i3 wS d1 d2 kd1 (fun r => Int32.ofNat (48 + r % 10)) kd2 (fun r => Int32.ofNat (48 + r / 10)) w_c1 oF s.heap s.heap.size (Nat.le_refl _) SS hwS Sd1 Sd2 Bd1 Bd2 rfl rfl (hsets _ (List.mem_of_getElem? (i := 10) rfl)) (hsets _ (List.mem_of_getElem? (i := 15) rfl)) S_c1 E_c1 SF hoF rfl (fun _ _ => rfl) rfl (fun _ _ => rfl)
theorem main_1_1 : Claimed_1_1 := comes_1 fun _ _ _ _ _ _ h hF => ⟨h.1, hF⟩
theorem main_1_2 : Claimed_1_2 := comes_1 fun _ _ _ _ _ _ h hF => ⟨h.2.1, hF⟩
end Jvm.Pilot.@@N@@
namespace Jvm.Pilot.@@N@@
open Jvm Jvm.ClassFile Sem Op Lib Jvm.Free Jvm.Stand Jvm.Pilot.@@N@@.Jvm.D
/-! MADE BY PROGRAM (witnessworld.py) out of the Statement's table words and the real class files: 39 classes; the members and pool entries that the words name. The judged class is class 1, her method 1. -/
namespace start1
open Jvm.ClassFile
def u (s : String) : CpInfo := .utf8 (stringToUtf16 s)
/-- a pool by its gaps: so many unusable entries, then the entry; so many at the end -/
def gap : Nat → List CpInfo → List CpInfo
  | 0, r => r
  | n + 1, r => .unusable :: gap n r
def poolList (es : List (Nat × CpInfo)) (last : Nat) : List CpInfo := es.foldr (fun e r => gap e.1 (e.2 :: r)) (gap last [])
def pool (es : List (Nat × CpInfo)) (last : Nat) : Array CpInfo := ⟨poolList es last⟩
def fileOf (pool : Array CpInfo) (this : Nat) (attrs : Array Attribute := #[]) (ms : Array MethodInfo := #[]) (fl : Nat := 33) (sup : Nat := 0) (ifs : Array Nat := #[]) (fds : Array FieldInfo := #[]) : ClassFile where
  minorVersion := 0
  majorVersion := 65
  constantPool := pool
  accessFlags := fl
  thisClass := this
  superClass := sup
  interfaces := ifs
  fields := fds
  methods := ms
  attributes := attrs
def plain (name : String) (sup : Option ClassId) : Class where
  name := name
  kind := .ordinary
  loader := none
  accessFlags := 33
  super := sup
  interfaces := #[]
  cf := none
  fields := #[]
  methods := #[]
  instanceTypes := #[]
  staticTypes := #[]
  resolved := #[]
  callSites := []
  init := .initialized
  statics := none
  mirror := none

def pool0 : Array CpInfo := pool [(5, u "<init>"), (0, u "()V"), (1, .class_ 10), (1, u "java/lang/Object"), (85, u "clone"), (0, u "()Ljava/lang/Object;")] 26

def k0c0 : Code := { maxStack := 0, maxLocals := 1, code := object_method_1_code, exceptionTable := #[], attributes := #[] }
def k0m0 : Method := { name := "<init>", desc := "()V", sig := { parameters := [], returnType := none }, accessFlags := 1, code := some k0c0 }
def k0m1 : Method := { name := "clone", desc := "()Ljava/lang/Object;", sig := { parameters := [], returnType := some (.object "java/lang/Object") }, accessFlags := 260, code := none }
/-- java/lang/Object -/
def k0 : Class := { plain "java/lang/Object" none with
  accessFlags := 33
  interfaces := #[]
  cf := some (fileOf pool0 8 #[] #[{ accessFlags := 1, nameIndex := 5, descriptorIndex := 6, attributes := #[] }, { accessFlags := 260, nameIndex := 96, descriptorIndex := 97, attributes := #[] }] 33 0 #[] #[])
  fields := #[]
  methods := #[k0m0, k0m1]
  instanceTypes := #[]
  staticTypes := #[]
  resolved := Array.replicate 124 none
  statics := none }

def pool1 : Array CpInfo := pool [(2, .class_ 4), (1, u "java/lang/Object"), (0, u "<init>"), (0, u "()V"), (0, .class_ 8), (0, u "com/example/eta4/eta4/bench/FillFigures"), (0, .methodref 7 10), (0, .nameAndType 5 11), (0, u "(JJ)V"), (0, .methodref 7 13), (0, .nameAndType 14 15), (0, u "lines"), (0, u "()Ljava/util/List;"), (0, .interfaceMethodref 17 18), (0, .class_ 19), (0, .nameAndType 20 21), (0, u "java/util/List"), (0, u "size"), (0, u "()I"), (0, .interfaceMethodref 17 23), (0, .nameAndType 24 25), (0, u "get"), (0, u "(I)Ljava/lang/Object;"), (0, .class_ 27), (0, u "java/lang/String"), (0, .string 29), (0, u "pushed_ok "), (0, .methodref 31 32), (0, .class_ 33), (0, .nameAndType 34 35), (0, u "com/example/eta4/eta4/bench/FillFiguresLinesPinLaw"), (0, u "lineOk"), (0, u "(Ljava/lang/String;Ljava/lang/String;JI)Z"), (0, .string 37), (0, u "push_errors "), (0, .methodref 26 39), (0, .nameAndType 40 21), (0, u "length"), (0, .methodref 31 42), (0, .nameAndType 43 44), (0, u "digits"), (0, u "(J)I"), (0, .integer 2147483647), (0, .methodref 26 47), (0, .nameAndType 48 49), (0, u "charAt"), (0, u "(I)C"), (0, .methodref 31 51), (0, .nameAndType 52 53), (0, u "expected"), (0, u "(Ljava/lang/String;JI)C"), (0, .long 10), (1, .long 100), (1, .long 1000), (1, .long 10000), (1, .long 100000), (1, .long 1000000), (1, .long 10000000), (1, .long 100000000), (1, .long 1000000000), (1, .long 10000000000), (1, .long 100000000000), (1, .long 1000000000000), (1, .long 10000000000000), (1, .long 100000000000000), (1, .long 1000000000000000), (1, .long 10000000000000000), (1, .long 100000000000000000), (1, .long 1000000000000000000), (1, .methodref 31 91), (0, .nameAndType 92 93), (0, u "pow10"), (0, u "(I)J"), (0, .methodref 31 95), (0, .nameAndType 96 97), (0, u "more"), (0, u "(JI)I"), (0, .methodref 99 100), (0, .class_ 101), (0, .nameAndType 102 103), (0, u "java/lang/Math"), (0, u "abs"), (0, u "(J)J"), (2, u "law"), (0, u "(JJII)Z")] 3

def k1m0 : Method := { name := "<init>", desc := "()V", sig := { parameters := [], returnType := none }, accessFlags := 1, code := none }
def k1c1 : Code := { maxStack := 6, maxLocals := 8, code := code, exceptionTable := #[], attributes := #[] }
def k1m1 : Method := { name := "law", desc := "(JJII)Z", sig := { parameters := [.long, .long, .int, .int], returnType := some .boolean }, accessFlags := 9, code := some k1c1 }
def k1c2 : Code := { maxStack := 5, maxLocals := 7, code := method_3_code, exceptionTable := #[], attributes := #[] }
def k1m2 : Method := { name := "lineOk", desc := "(Ljava/lang/String;Ljava/lang/String;JI)Z", sig := { parameters := [(.object "java/lang/String"), (.object "java/lang/String"), .long, .int], returnType := some .boolean }, accessFlags := 10, code := some k1c2 }
def k1c3 : Code := { maxStack := 5, maxLocals := 2, code := method_4_code, exceptionTable := #[], attributes := #[] }
def k1m3 : Method := { name := "pow10", desc := "(I)J", sig := { parameters := [.int], returnType := some .long }, accessFlags := 10, code := some k1c3 }
def k1c4 : Code := { maxStack := 4, maxLocals := 3, code := method_5_code, exceptionTable := #[], attributes := #[] }
def k1m4 : Method := { name := "more", desc := "(JI)I", sig := { parameters := [.long, .int], returnType := some .int }, accessFlags := 10, code := some k1c4 }
def k1c5 : Code := { maxStack := 4, maxLocals := 2, code := method_6_code, exceptionTable := #[], attributes := #[] }
def k1m5 : Method := { name := "digits", desc := "(J)I", sig := { parameters := [.long], returnType := some .int }, accessFlags := 10, code := some k1c5 }
def k1c6 : Code := { maxStack := 4, maxLocals := 9, code := method_7_code, exceptionTable := #[], attributes := #[] }
def k1m6 : Method := { name := "expected", desc := "(Ljava/lang/String;JI)C", sig := { parameters := [(.object "java/lang/String"), .long, .int], returnType := some .char }, accessFlags := 10, code := some k1c6 }
/-- com/example/eta4/eta4/bench/FillFiguresLinesPinLaw -/
def k1 : Class := { plain "com/example/eta4/eta4/bench/FillFiguresLinesPinLaw" (some 0) with
  accessFlags := 49
  interfaces := #[]
  cf := some (fileOf pool1 31 #[] #[{ accessFlags := 1, nameIndex := 5, descriptorIndex := 6, attributes := #[] }, { accessFlags := 9, nameIndex := 106, descriptorIndex := 107, attributes := #[] }, { accessFlags := 10, nameIndex := 34, descriptorIndex := 35, attributes := #[] }, { accessFlags := 10, nameIndex := 92, descriptorIndex := 93, attributes := #[] }, { accessFlags := 10, nameIndex := 96, descriptorIndex := 97, attributes := #[] }, { accessFlags := 10, nameIndex := 43, descriptorIndex := 44, attributes := #[] }, { accessFlags := 10, nameIndex := 52, descriptorIndex := 53, attributes := #[] }] 49 2 #[] #[])
  fields := #[]
  methods := #[k1m0, k1m1, k1m2, k1m3, k1m4, k1m5, k1m6]
  instanceTypes := #[]
  staticTypes := #[]
  resolved := Array.replicate 111 none
  statics := none }

def pool2 : Array CpInfo := pool [(1, .methodref 2 3), (0, .class_ 4), (0, .nameAndType 5 6), (0, u "java/lang/Object"), (0, u "<init>"), (0, u "()V"), (0, .class_ 8), (0, u "java/lang/Record")] 13

def k2c0 : Code := { maxStack := 1, maxLocals := 1, code := jdk_30_method_1_code, exceptionTable := #[], attributes := #[] }
def k2m0 : Method := { name := "<init>", desc := "()V", sig := { parameters := [], returnType := none }, accessFlags := 4, code := some k2c0 }
/-- java/lang/Record -/
def k2 : Class := { plain "java/lang/Record" (some 0) with
  accessFlags := 1057
  interfaces := #[]
  cf := some (fileOf pool2 7 #[] #[{ accessFlags := 4, nameIndex := 5, descriptorIndex := 6, attributes := #[] }] 1057 2 #[] #[])
  fields := #[]
  methods := #[k2m0]
  instanceTypes := #[]
  staticTypes := #[]
  resolved := Array.replicate 22 none
  statics := none }

def pool3 : Array CpInfo := pool [(1, .methodref 2 3), (0, .class_ 4), (0, .nameAndType 5 6), (0, u "java/lang/Record"), (0, u "<init>"), (0, u "()V"), (0, .fieldref 8 9), (0, .class_ 10), (0, .nameAndType 11 12), (0, u "com/example/eta4/eta4/bench/FillFigures"), (0, u "pushedOk"), (0, u "J"), (0, .fieldref 8 14), (0, .nameAndType 15 12), (0, u "pushErrors"), (0, .class_ 17), (0, u "java/lang/StringBuilder"), (0, .methodref 16 3), (0, .string 20), (0, u "pushed_ok "), (0, .methodref 16 22), (0, .nameAndType 23 24), (0, u "append"), (0, u "(Ljava/lang/String;)Ljava/lang/StringBuilder;"), (0, .methodref 16 26), (0, .nameAndType 23 27), (0, u "(J)Ljava/lang/StringBuilder;"), (0, .methodref 16 29), (0, .nameAndType 30 31), (0, u "toString"), (0, u "()Ljava/lang/String;"), (0, .string 33), (0, u "push_errors "), (0, .interfaceMethodref 35 36), (0, .class_ 37), (0, .nameAndType 38 39), (0, u "java/util/List"), (0, u "of"), (0, u "(Ljava/lang/Object;Ljava/lang/Object;)Ljava/util/List;"), (11, u "(JJ)V"), (3, u "lines"), (0, u "()Ljava/util/List;")] 26

def k3c0 : Code := { maxStack := 3, maxLocals := 5, code := prog_2_method_1_code, exceptionTable := #[], attributes := #[] }
def k3m0 : Method := { name := "<init>", desc := "(JJ)V", sig := { parameters := [.long, .long], returnType := none }, accessFlags := 1, code := some k3c0 }
def k3c1 : Code := { maxStack := 4, maxLocals := 1, code := prog_2_method_2_code, exceptionTable := #[], attributes := #[] }
def k3m1 : Method := { name := "lines", desc := "()Ljava/util/List;", sig := { parameters := [], returnType := some (.object "java/util/List") }, accessFlags := 1, code := some k3c1 }
/-- com/example/eta4/eta4/bench/FillFigures -/
def k3 : Class := { plain "com/example/eta4/eta4/bench/FillFigures" (some 2) with
  accessFlags := 49
  interfaces := #[]
  cf := some (fileOf pool3 8 #[] #[{ accessFlags := 1, nameIndex := 5, descriptorIndex := 51, attributes := #[] }, { accessFlags := 1, nameIndex := 55, descriptorIndex := 56, attributes := #[] }] 49 2 #[] #[{ accessFlags := 18, nameIndex := 11, descriptorIndex := 12, attributes := #[] }, { accessFlags := 18, nameIndex := 15, descriptorIndex := 12, attributes := #[] }])
  fields := #[{ name := "pushedOk", type := .long, accessFlags := 18, slot := 0, constantValue := 0 }, { name := "pushErrors", type := .long, accessFlags := 18, slot := 1, constantValue := 0 }]
  methods := #[k3m0, k3m1]
  instanceTypes := #[.long, .long]
  staticTypes := #[]
  resolved := Array.replicate 83 none
  statics := none }

def pool4 : Array CpInfo := pool [(1, .class_ 2), (0, u "java/lang/Appendable"), (0, .class_ 4), (0, u "java/lang/Object")] 9

/-- java/lang/Appendable -/
def k4 : Class := { plain "java/lang/Appendable" (some 0) with
  accessFlags := 1537
  interfaces := #[]
  cf := some (fileOf pool4 1 #[] #[] 1537 3 #[] #[])
  fields := #[]
  methods := #[]
  instanceTypes := #[]
  staticTypes := #[]
  resolved := Array.replicate 14 none
  statics := none }

def pool5 : Array CpInfo := pool [(2, .class_ 4), (1, u "java/lang/CharSequence"), (42, .class_ 48), (0, u "java/lang/CharSequence$1CodePointIterator"), (10, .class_ 60), (0, u "java/lang/CharSequence$1CharIterator"), (5, .class_ 67), (0, u "java/lang/Object")] 63

/-- java/lang/CharSequence -/
def k5 : Class := { plain "java/lang/CharSequence" (some 0) with
  accessFlags := 1537
  interfaces := #[]
  cf := some (fileOf pool5 2 #[.nestMembers #[47, 59]] #[] 1537 66 #[] #[])
  fields := #[]
  methods := #[]
  instanceTypes := #[]
  staticTypes := #[]
  resolved := Array.replicate 131 none
  statics := none }

def pool6 : Array CpInfo := pool [(1, .class_ 2), (0, u "java/lang/String"), (0, .methodref 4 5), (0, .class_ 6), (0, .nameAndType 7 8), (0, u "java/lang/Object"), (0, u "<init>"), (0, u "()V"), (1, .class_ 12), (1, u "java/lang/AbstractStringBuilder"), (0, u "EMPTYVALUE"), (0, u "[B"), (0, .fieldref 10 16), (0, .nameAndType 17 14), (0, u "value"), (0, .fieldref 1 19), (0, .nameAndType 20 21), (0, u "COMPACT_STRINGS"), (0, u "Z"), (0, .fieldref 10 23), (0, .nameAndType 24 25), (0, u "coder"), (0, u "B"), (6, .methodref 1 33), (0, .nameAndType 34 35), (0, u "length"), (0, u "()I"), (3, .integer 2147483647), (0, .methodref 1 41), (0, .nameAndType 24 42), (0, u "()B"), (2, u "append"), (0, u "(Ljava/lang/String;)Ljava/lang/AbstractStringBuilder;"), (1, .class_ 49), (0, u "java/lang/CharSequence"), (19, u "(Ljava/lang/String;)V"), (5, u "maybeLatin1"), (3, .fieldref 10 80), (0, .nameAndType 81 82), (0, u "count"), (0, u "I"), (0, .methodref 10 84), (0, .nameAndType 85 86), (0, u "isLatin1"), (0, u "()Z"), (13, .methodref 10 101), (0, .nameAndType 102 103), (0, u "ensureCapacityInternal"), (0, u "(I)V"), (0, .methodref 10 105), (0, .nameAndType 106 107), (0, u "newCapacity"), (0, u "(I)I"), (0, .methodref 109 110), (0, .class_ 111), (0, .nameAndType 112 113), (0, u "java/util/Arrays"), (0, u "copyOf"), (0, u "([BI)[B"), (0, .methodref 115 116), (0, .class_ 117), (0, .nameAndType 118 119), (0, u "jdk/internal/util/ArraysSupport"), (0, u "newLength"), (0, u "(III)I"), (68, u "getChars"), (19, .methodref 10 209), (0, .nameAndType 210 211), (0, u "putStringAt"), (0, u "(ILjava/lang/String;)V"), (5, u "inflateIfNeededFor"), (2, .nameAndType 221 222), (0, u "getBytes"), (0, u "([BIB)V"), (24, u "stringSize"), (6, .methodref 255 256), (0, .class_ 257), (0, .nameAndType 247 258), (0, u "java/lang/Long"), (0, u "(J)I"), (0, .methodref 255 260), (0, .nameAndType 188 261), (0, u "(JI[B)I"), (135, .methodref 10 398), (0, .nameAndType 217 69), (0, .methodref 1 220), (3, u "()[B"), (40, .class_ 445), (0, u "java/lang/Appendable"), (67, u "(J)Ljava/lang/AbstractStringBuilder;"), (38, u "getValue")] 56

def k6m0 : Method := { name := "<init>", desc := "()V", sig := { parameters := [], returnType := none }, accessFlags := 0, code := none }
def k6c1 : Code := { maxStack := 2, maxLocals := 2, code := jdk_68_method_2_code, exceptionTable := #[], attributes := #[] }
def k6m1 : Method := { name := "<init>", desc := "(I)V", sig := { parameters := [.int], returnType := none }, accessFlags := 0, code := some k6c1 }
def k6c2 : Code := { maxStack := 1, maxLocals := 1, code := jdk_68_method_6_code, exceptionTable := #[], attributes := #[] }
def k6m2 : Method := { name := "length", desc := "()I", sig := { parameters := [], returnType := some .int }, accessFlags := 1, code := some k6c2 }
def k6c3 : Code := { maxStack := 4, maxLocals := 3, code := jdk_68_method_9_code, exceptionTable := #[], attributes := #[] }
def k6m3 : Method := { name := "ensureCapacityInternal", desc := "(I)V", sig := { parameters := [.int], returnType := none }, accessFlags := 2, code := some k6c3 }
def k6c4 : Code := { maxStack := 5, maxLocals := 6, code := jdk_68_method_10_code, exceptionTable := #[], attributes := #[] }
def k6m4 : Method := { name := "newCapacity", desc := "(I)I", sig := { parameters := [.int], returnType := some .int }, accessFlags := 2, code := some k6c4 }
def k6c5 : Code := { maxStack := 3, maxLocals := 3, code := jdk_68_method_22_code, exceptionTable := #[], attributes := #[] }
def k6m5 : Method := { name := "append", desc := "(Ljava/lang/String;)Ljava/lang/AbstractStringBuilder;", sig := { parameters := [(.object "java/lang/String")], returnType := some (.object "java/lang/AbstractStringBuilder") }, accessFlags := 1, code := some k6c5 }
def k6c6 : Code := { maxStack := 5, maxLocals := 5, code := jdk_68_method_33_code, exceptionTable := #[], attributes := #[] }
def k6m6 : Method := { name := "append", desc := "(J)Ljava/lang/AbstractStringBuilder;", sig := { parameters := [.long], returnType := some (.object "java/lang/AbstractStringBuilder") }, accessFlags := 1, code := some k6c6 }
def k6c7 : Code := { maxStack := 1, maxLocals := 1, code := jdk_68_method_64_code, exceptionTable := #[], attributes := #[] }
def k6m7 : Method := { name := "getValue", desc := "()[B", sig := { parameters := [], returnType := some (.array .byte) }, accessFlags := 16, code := some k6c7 }
def k6c8 : Code := { maxStack := 1, maxLocals := 1, code := jdk_68_method_68_code, exceptionTable := #[], attributes := #[] }
def k6m8 : Method := { name := "isLatin1", desc := "()Z", sig := { parameters := [], returnType := some .boolean }, accessFlags := 16, code := some k6c8 }
def k6c9 : Code := { maxStack := 2, maxLocals := 2, code := jdk_68_method_71_code, exceptionTable := #[], attributes := #[] }
def k6m9 : Method := { name := "inflateIfNeededFor", desc := "(Ljava/lang/String;)V", sig := { parameters := [(.object "java/lang/String")], returnType := none }, accessFlags := 2, code := some k6c9 }
def k6c10 : Code := { maxStack := 4, maxLocals := 3, code := jdk_68_method_73_code, exceptionTable := #[], attributes := #[] }
def k6m10 : Method := { name := "putStringAt", desc := "(ILjava/lang/String;)V", sig := { parameters := [.int, (.object "java/lang/String")], returnType := none }, accessFlags := 2, code := some k6c10 }
/-- java/lang/AbstractStringBuilder -/
def k6 : Class := { plain "java/lang/AbstractStringBuilder" (some 0) with
  accessFlags := 1056
  interfaces := #[4, 5]
  cf := some (fileOf pool6 10 #[] #[{ accessFlags := 0, nameIndex := 7, descriptorIndex := 8, attributes := #[] }, { accessFlags := 0, nameIndex := 7, descriptorIndex := 103, attributes := #[] }, { accessFlags := 1, nameIndex := 34, descriptorIndex := 35, attributes := #[] }, { accessFlags := 2, nameIndex := 102, descriptorIndex := 103, attributes := #[] }, { accessFlags := 2, nameIndex := 106, descriptorIndex := 107, attributes := #[] }, { accessFlags := 1, nameIndex := 45, descriptorIndex := 46, attributes := #[] }, { accessFlags := 1, nameIndex := 45, descriptorIndex := 513, attributes := #[] }, { accessFlags := 16, nameIndex := 552, descriptorIndex := 403, attributes := #[] }, { accessFlags := 16, nameIndex := 85, descriptorIndex := 86, attributes := #[] }, { accessFlags := 2, nameIndex := 217, descriptorIndex := 69, attributes := #[] }, { accessFlags := 2, nameIndex := 210, descriptorIndex := 211, attributes := #[] }] 1056 4 #[444, 48] #[{ accessFlags := 0, nameIndex := 17, descriptorIndex := 14, attributes := #[] }, { accessFlags := 0, nameIndex := 24, descriptorIndex := 25, attributes := #[] }, { accessFlags := 0, nameIndex := 75, descriptorIndex := 21, attributes := #[] }, { accessFlags := 0, nameIndex := 81, descriptorIndex := 82, attributes := #[] }, { accessFlags := 26, nameIndex := 13, descriptorIndex := 14, attributes := #[] }])
  fields := #[{ name := "value", type := (.array .byte), accessFlags := 0, slot := 0, constantValue := 0 }, { name := "coder", type := .byte, accessFlags := 0, slot := 1, constantValue := 0 }, { name := "maybeLatin1", type := .boolean, accessFlags := 0, slot := 2, constantValue := 0 }, { name := "count", type := .int, accessFlags := 0, slot := 3, constantValue := 0 }, { name := "EMPTYVALUE", type := (.array .byte), accessFlags := 26, slot := 0, constantValue := 0 }]
  methods := #[k6m0, k6m1, k6m2, k6m3, k6m4, k6m5, k6m6, k6m7, k6m8, k6m9, k6m10]
  instanceTypes := #[(.array .byte), .byte, .boolean, .int]
  staticTypes := #[(.array .byte)]
  resolved := Array.replicate 609 none
  statics := none }

def pool7 : Array CpInfo := pool [(1, .class_ 2), (0, u "java/io/Serializable"), (0, .class_ 4), (0, u "java/lang/Object")] 2

/-- java/io/Serializable -/
def k7 : Class := { plain "java/io/Serializable" (some 0) with
  accessFlags := 1537
  interfaces := #[]
  cf := some (fileOf pool7 1 #[] #[] 1537 3 #[] #[])
  fields := #[]
  methods := #[]
  instanceTypes := #[]
  staticTypes := #[]
  resolved := Array.replicate 7 none
  statics := none }

def pool8 : Array CpInfo := pool [(1, .class_ 2), (0, u "java/lang/Comparable"), (0, .class_ 4), (0, u "java/lang/Object")] 7

/-- java/lang/Comparable -/
def k8 : Class := { plain "java/lang/Comparable" (some 0) with
  accessFlags := 1537
  interfaces := #[]
  cf := some (fileOf pool8 1 #[] #[] 1537 3 #[] #[])
  fields := #[]
  methods := #[]
  instanceTypes := #[]
  staticTypes := #[]
  resolved := Array.replicate 12 none
  statics := none }

def pool9 : Array CpInfo := pool [(1, .methodref 2 3), (0, .class_ 4), (0, .nameAndType 5 6), (0, u "java/lang/AbstractStringBuilder"), (0, u "<init>"), (0, u "(I)V"), (11, .class_ 20), (1, u "java/lang/String"), (3, .class_ 26), (1, u "java/lang/StringBuilder"), (0, u "append"), (0, u "(Ljava/lang/String;)Ljava/lang/StringBuilder;"), (0, .methodref 2 30), (0, .nameAndType 27 31), (0, u "(Ljava/lang/String;)Ljava/lang/AbstractStringBuilder;"), (24, .methodref 2 57), (0, .nameAndType 27 58), (0, u "(J)Ljava/lang/AbstractStringBuilder;"), (78, .methodref 18 138), (0, .nameAndType 5 139), (0, u "(Ljava/lang/StringBuilder;)V"), (5, u "()V"), (10, u "()I"), (124, u "(J)Ljava/lang/StringBuilder;"), (61, .methodref 2 344), (0, .nameAndType 345 156), (0, u "length"), (3, .class_ 350), (0, u "java/lang/Appendable"), (0, .class_ 352), (0, u "java/io/Serializable"), (0, .class_ 354), (0, u "java/lang/Comparable"), (0, .class_ 356), (0, u "java/lang/CharSequence"), (0, u "serialVersionUID"), (0, u "J"), (40, u "toString"), (0, u "()Ljava/lang/String;")] 21

def k9c0 : Code := { maxStack := 2, maxLocals := 1, code := jdk_67_method_1_code, exceptionTable := #[], attributes := #[] }
def k9m0 : Method := { name := "<init>", desc := "()V", sig := { parameters := [], returnType := none }, accessFlags := 1, code := some k9c0 }
def k9c1 : Code := { maxStack := 2, maxLocals := 2, code := jdk_67_method_7_code, exceptionTable := #[], attributes := #[] }
def k9m1 : Method := { name := "append", desc := "(Ljava/lang/String;)Ljava/lang/StringBuilder;", sig := { parameters := [(.object "java/lang/String")], returnType := some (.object "java/lang/StringBuilder") }, accessFlags := 1, code := some k9c1 }
def k9c2 : Code := { maxStack := 3, maxLocals := 3, code := jdk_67_method_16_code, exceptionTable := #[], attributes := #[] }
def k9m2 : Method := { name := "append", desc := "(J)Ljava/lang/StringBuilder;", sig := { parameters := [.long], returnType := some (.object "java/lang/StringBuilder") }, accessFlags := 1, code := some k9c2 }
def k9c3 : Code := { maxStack := 3, maxLocals := 1, code := jdk_67_method_42_code, exceptionTable := #[], attributes := #[] }
def k9m3 : Method := { name := "toString", desc := "()Ljava/lang/String;", sig := { parameters := [], returnType := some (.object "java/lang/String") }, accessFlags := 1, code := some k9c3 }
def k9c4 : Code := { maxStack := 1, maxLocals := 1, code := jdk_67_method_93_code, exceptionTable := #[], attributes := #[] }
def k9m4 : Method := { name := "length", desc := "()I", sig := { parameters := [], returnType := some .int }, accessFlags := 4161, code := some k9c4 }
/-- java/lang/StringBuilder -/
def k9 : Class := { plain "java/lang/StringBuilder" (some 6) with
  accessFlags := 49
  interfaces := #[4, 7, 8, 5]
  cf := some (fileOf pool9 24 #[] #[{ accessFlags := 1, nameIndex := 5, descriptorIndex := 145, attributes := #[] }, { accessFlags := 1, nameIndex := 27, descriptorIndex := 28, attributes := #[] }, { accessFlags := 1, nameIndex := 27, descriptorIndex := 281, attributes := #[] }, { accessFlags := 1, nameIndex := 399, descriptorIndex := 400, attributes := #[] }, { accessFlags := 4161, nameIndex := 345, descriptorIndex := 156, attributes := #[] }] 49 2 #[349, 351, 353, 355] #[{ accessFlags := 24, nameIndex := 357, descriptorIndex := 358, attributes := #[] }])
  fields := #[{ name := "serialVersionUID", type := .long, accessFlags := 24, slot := 0, constantValue := 0 }]
  methods := #[k9m0, k9m1, k9m2, k9m3, k9m4]
  instanceTypes := #[(.array .byte), .byte, .boolean, .int]
  staticTypes := #[.long]
  resolved := Array.replicate 422 none
  statics := none }

def pool10 : Array CpInfo := pool [(1, .class_ 2), (0, u "java/lang/constant/Constable"), (0, .class_ 4), (0, u "java/lang/Object")] 6

/-- java/lang/constant/Constable -/
def k10 : Class := { plain "java/lang/constant/Constable" (some 0) with
  accessFlags := 1537
  interfaces := #[]
  cf := some (fileOf pool10 1 #[] #[] 1537 3 #[] #[])
  fields := #[]
  methods := #[]
  instanceTypes := #[]
  staticTypes := #[]
  resolved := Array.replicate 11 none
  statics := none }

def pool11 : Array CpInfo := pool [(1, .class_ 2), (0, u "java/lang/constant/ConstantDesc"), (0, .class_ 4), (0, u "java/lang/Object")] 32

/-- java/lang/constant/ConstantDesc -/
def k11 : Class := { plain "java/lang/constant/ConstantDesc" (some 0) with
  accessFlags := 1537
  interfaces := #[]
  cf := some (fileOf pool11 1 #[] #[] 1537 3 #[] #[])
  fields := #[]
  methods := #[]
  instanceTypes := #[]
  staticTypes := #[]
  resolved := Array.replicate 37 none
  statics := none }

def pool12 : Array CpInfo := pool [(1, .methodref 2 3), (0, .class_ 4), (0, .nameAndType 5 6), (0, u "java/lang/Object"), (0, u "<init>"), (0, u "()V"), (2, .fieldref 10 11), (0, .class_ 12), (0, .nameAndType 13 14), (0, u "java/lang/String"), (0, u "value"), (0, u "[B"), (0, .fieldref 10 16), (0, .nameAndType 17 18), (0, u "coder"), (0, u "B"), (2, u "hash"), (0, u "I"), (2, u "hashIsZero"), (0, u "Z"), (11, .fieldref 10 39), (0, .nameAndType 40 26), (0, u "COMPACT_STRINGS"), (13, .methodref 55 56), (0, .class_ 57), (0, .nameAndType 58 59), (0, u "java/util/Arrays"), (0, u "copyOfRange"), (0, u "([BII)[B"), (47, .class_ 109), (1, u "java/lang/StringLatin1"), (32, u "()Z"), (50, .class_ 195), (1, u "java/lang/System"), (16, .methodref 193 213), (0, .nameAndType 214 215), (0, u "arraycopy"), (0, u "(Ljava/lang/Object;ILjava/lang/Object;II)V"), (118, u "()I"), (0, .methodref 10 336), (0, .nameAndType 17 337), (0, u "()B"), (2, u "()[B"), (22, u "([BI)C"), (27, u "(II)V"), (35, u "(I)C"), (61, .methodref 10 490), (0, .nameAndType 5 491), (0, u "(Ljava/lang/AbstractStringBuilder;Ljava/lang/Void;)V"), (0, .methodref 10 493), (0, .nameAndType 494 142), (0, u "isLatin1"), (0, .methodref 107 496), (0, .nameAndType 497 363), (0, u "charAt"), (3, u "checkIndex"), (4, .nameAndType 507 334), (0, u "length"), (24, u "getBytes"), (16, .methodref 550 506), (0, .class_ 551), (0, u "java/lang/AbstractStringBuilder"), (0, .methodref 550 553), (0, .nameAndType 554 340), (0, u "getValue"), (20, .class_ 576), (0, u "java/lang/CharSequence"), (22, u "CASE_INSENSITIVE_ORDER"), (0, u "Ljava/util/Comparator;"), (220, u "([BIB)V"), (225, .methodref 550 493), (5, .fieldref 1054 1055), (0, .class_ 1056), (0, .nameAndType 1057 1058), (0, u "jdk/internal/util/Preconditions"), (0, u "SIOOBE_FORMATTER"), (0, u "Ljava/util/function/BiFunction;"), (0, .methodref 1054 1060), (0, .nameAndType 501 1061), (0, u "(IILjava/util/function/BiFunction;)I"), (39, u "serialPersistentFields"), (0, u "[Ljava/io/ObjectStreamField;"), (0, .class_ 1104), (0, u "java/lang/String$CaseInsensitiveComparator"), (1, .class_ 1107), (0, u "java/io/Serializable"), (0, .class_ 1109), (0, u "java/lang/Comparable"), (0, .class_ 1111), (0, u "java/lang/constant/Constable"), (0, .class_ 1113), (0, u "java/lang/constant/ConstantDesc"), (2, u "serialVersionUID"), (0, u "J"), (3, u "REPL"), (0, u "C"), (2, u "LATIN1"), (1, u "UTF16"), (105, u "(Ljava/lang/StringBuilder;)V")] 217

def k12m0 : Method := { name := "<init>", desc := "()V", sig := { parameters := [], returnType := none }, accessFlags := 1, code := none }
def k12c1 : Code := { maxStack := 3, maxLocals := 2, code := jdk_42_method_53_code, exceptionTable := #[], attributes := #[] }
def k12m1 : Method := { name := "<init>", desc := "(Ljava/lang/StringBuilder;)V", sig := { parameters := [(.object "java/lang/StringBuilder")], returnType := none }, accessFlags := 1, code := some k12c1 }
def k12c2 : Code := { maxStack := 2, maxLocals := 1, code := jdk_42_method_54_code, exceptionTable := #[], attributes := #[] }
def k12m2 : Method := { name := "length", desc := "()I", sig := { parameters := [], returnType := some .int }, accessFlags := 1, code := some k12c2 }
def k12c3 : Code := { maxStack := 2, maxLocals := 2, code := jdk_42_method_56_code, exceptionTable := #[], attributes := #[] }
def k12m3 : Method := { name := "charAt", desc := "(I)C", sig := { parameters := [.int], returnType := some .char }, accessFlags := 1, code := some k12c3 }
def k12c4 : Code := { maxStack := 5, maxLocals := 4, code := jdk_42_method_147_code, exceptionTable := #[], attributes := #[] }
def k12m4 : Method := { name := "getBytes", desc := "([BIB)V", sig := { parameters := [(.array .byte), .int, .byte], returnType := none }, accessFlags := 0, code := some k12c4 }
def k12c5 : Code := { maxStack := 5, maxLocals := 5, code := jdk_42_method_150_code, exceptionTable := #[], attributes := #[] }
def k12m5 : Method := { name := "<init>", desc := "(Ljava/lang/AbstractStringBuilder;Ljava/lang/Void;)V", sig := { parameters := [(.object "java/lang/AbstractStringBuilder"), (.object "java/lang/Void")], returnType := none }, accessFlags := 0, code := some k12c5 }
def k12c6 : Code := { maxStack := 1, maxLocals := 1, code := jdk_42_method_152_code, exceptionTable := #[], attributes := #[] }
def k12m6 : Method := { name := "coder", desc := "()B", sig := { parameters := [], returnType := some .byte }, accessFlags := 0, code := some k12c6 }
def k12c7 : Code := { maxStack := 1, maxLocals := 1, code := jdk_42_method_154_code, exceptionTable := #[], attributes := #[] }
def k12m7 : Method := { name := "isLatin1", desc := "()Z", sig := { parameters := [], returnType := some .boolean }, accessFlags := 0, code := some k12c7 }
def k12c8 : Code := { maxStack := 3, maxLocals := 2, code := jdk_42_method_155_code, exceptionTable := #[], attributes := #[] }
def k12m8 : Method := { name := "checkIndex", desc := "(II)V", sig := { parameters := [.int, .int], returnType := none }, accessFlags := 8, code := some k12c8 }
/-- java/lang/String -/
def k12 : Class := { plain "java/lang/String" (some 0) with
  accessFlags := 49
  interfaces := #[7, 8, 5, 10, 11]
  cf := some (fileOf pool12 10 #[.nestMembers #[1103]] #[{ accessFlags := 1, nameIndex := 5, descriptorIndex := 6, attributes := #[] }, { accessFlags := 1, nameIndex := 5, descriptorIndex := 1233, attributes := #[] }, { accessFlags := 1, nameIndex := 507, descriptorIndex := 334, attributes := #[] }, { accessFlags := 1, nameIndex := 497, descriptorIndex := 427, attributes := #[] }, { accessFlags := 0, nameIndex := 532, descriptorIndex := 821, attributes := #[] }, { accessFlags := 0, nameIndex := 5, descriptorIndex := 491, attributes := #[] }, { accessFlags := 0, nameIndex := 17, descriptorIndex := 337, attributes := #[] }, { accessFlags := 0, nameIndex := 494, descriptorIndex := 142, attributes := #[] }, { accessFlags := 8, nameIndex := 501, descriptorIndex := 391, attributes := #[] }] 49 2 #[1106, 1108, 575, 1110, 1112] #[{ accessFlags := 18, nameIndex := 13, descriptorIndex := 14, attributes := #[] }, { accessFlags := 18, nameIndex := 17, descriptorIndex := 18, attributes := #[] }, { accessFlags := 2, nameIndex := 21, descriptorIndex := 22, attributes := #[] }, { accessFlags := 2, nameIndex := 25, descriptorIndex := 26, attributes := #[] }, { accessFlags := 26, nameIndex := 1116, descriptorIndex := 1117, attributes := #[] }, { accessFlags := 24, nameIndex := 40, descriptorIndex := 26, attributes := #[] }, { accessFlags := 26, nameIndex := 1101, descriptorIndex := 1102, attributes := #[] }, { accessFlags := 26, nameIndex := 1121, descriptorIndex := 1122, attributes := #[] }, { accessFlags := 25, nameIndex := 599, descriptorIndex := 600, attributes := #[] }, { accessFlags := 24, nameIndex := 1125, descriptorIndex := 18, attributes := #[] }, { accessFlags := 24, nameIndex := 1127, descriptorIndex := 18, attributes := #[] }])
  fields := #[{ name := "value", type := (.array .byte), accessFlags := 18, slot := 0, constantValue := 0 }, { name := "coder", type := .byte, accessFlags := 18, slot := 1, constantValue := 0 }, { name := "hash", type := .int, accessFlags := 2, slot := 2, constantValue := 0 }, { name := "hashIsZero", type := .boolean, accessFlags := 2, slot := 3, constantValue := 0 }, { name := "serialVersionUID", type := .long, accessFlags := 26, slot := 0, constantValue := 0 }, { name := "COMPACT_STRINGS", type := .boolean, accessFlags := 24, slot := 1, constantValue := 0 }, { name := "serialPersistentFields", type := (.array (.object "java/io/ObjectStreamField")), accessFlags := 26, slot := 2, constantValue := 0 }, { name := "REPL", type := .char, accessFlags := 26, slot := 3, constantValue := 0 }, { name := "CASE_INSENSITIVE_ORDER", type := (.object "java/util/Comparator"), accessFlags := 25, slot := 4, constantValue := 0 }, { name := "LATIN1", type := .byte, accessFlags := 24, slot := 5, constantValue := 0 }, { name := "UTF16", type := .byte, accessFlags := 24, slot := 6, constantValue := 0 }]
  methods := #[k12m0, k12m1, k12m2, k12m3, k12m4, k12m5, k12m6, k12m7, k12m8]
  instanceTypes := #[(.array .byte), .byte, .int, .boolean]
  staticTypes := #[.long, .boolean, (.array (.object "java/io/ObjectStreamField")), .char, (.object "java/util/Comparator"), .byte, .byte]
  resolved := Array.replicate 1451 none
  statics := some 0 }

def pool13 : Array CpInfo := pool [(2, .class_ 4), (1, u "java/lang/Object"), (0, u "<init>"), (0, u "()V"), (1, .class_ 10), (1, u "java/lang/System"), (0, u "allowSecurityManager"), (0, u "I"), (16, u "cons"), (0, u "Ljava/io/Console;"), (77, .class_ 110), (1, u "java/lang/System$CallersHolder"), (43, u "initialErrStream"), (0, u "Ljava/io/PrintStream;"), (19, u "security"), (0, u "Ljava/lang/SecurityManager;"), (31, .class_ 209), (0, u "java/lang/System$1"), (7, u "props"), (0, u "Ljava/util/Properties;"), (2, u "lineSeparator"), (0, u "Ljava/lang/String;"), (96, .class_ 321), (1, u "java/lang/System$LoggerFinder"), (5, .class_ 328), (0, u "java/lang/System$Logger"), (67, u "err"), (2, u "out"), (91, u "notSupportedJnuEncoding"), (15, u "in"), (17, u "initialIn"), (0, u "Ljava/io/InputStream;"), (35, u "bootLayer"), (0, u "Ljava/lang/ModuleLayer;"), (99, .class_ 664), (0, u "java/lang/System$2"), (9, u "NEVER"), (2, u "MAYBE"), (49, u "arraycopy"), (0, u "(Ljava/lang/Object;ILjava/lang/Object;II)V"), (72, .class_ 802), (0, u "java/lang/System$Logger$Level")] 31

def k13m0 : Method := { name := "<init>", desc := "()V", sig := { parameters := [], returnType := none }, accessFlags := 2, code := none }
def k13m1 : Method := { name := "arraycopy", desc := "(Ljava/lang/Object;ILjava/lang/Object;II)V", sig := { parameters := [(.object "java/lang/Object"), .int, (.object "java/lang/Object"), .int, .int], returnType := none }, accessFlags := 265, code := none }
/-- java/lang/System -/
def k13 : Class := { plain "java/lang/System" (some 0) with
  accessFlags := 49
  interfaces := #[]
  cf := some (fileOf pool13 8 #[.nestMembers #[319, 327, 801, 108, 663, 208]] #[{ accessFlags := 2, nameIndex := 5, descriptorIndex := 6, attributes := #[] }, { accessFlags := 265, nameIndex := 727, descriptorIndex := 728, attributes := #[] }] 49 2 #[] #[{ accessFlags := 25, nameIndex := 507, descriptorIndex := 526, attributes := #[] }, { accessFlags := 25, nameIndex := 399, descriptorIndex := 155, attributes := #[] }, { accessFlags := 25, nameIndex := 396, descriptorIndex := 155, attributes := #[] }, { accessFlags := 10, nameIndex := 525, descriptorIndex := 526, attributes := #[] }, { accessFlags := 26, nameIndex := 674, descriptorIndex := 12, attributes := #[] }, { accessFlags := 26, nameIndex := 677, descriptorIndex := 12, attributes := #[] }, { accessFlags := 10, nameIndex := 11, descriptorIndex := 12, attributes := #[] }, { accessFlags := 74, nameIndex := 175, descriptorIndex := 176, attributes := #[] }, { accessFlags := 10, nameIndex := 491, descriptorIndex := 222, attributes := #[] }, { accessFlags := 74, nameIndex := 29, descriptorIndex := 30, attributes := #[] }, { accessFlags := 74, nameIndex := 154, descriptorIndex := 155, attributes := #[] }, { accessFlags := 10, nameIndex := 217, descriptorIndex := 218, attributes := #[] }, { accessFlags := 10, nameIndex := 221, descriptorIndex := 222, attributes := #[] }, { accessFlags := 8, nameIndex := 562, descriptorIndex := 563, attributes := #[] }])
  fields := #[{ name := "in", type := (.object "java/io/InputStream"), accessFlags := 25, slot := 0, constantValue := 0 }, { name := "out", type := (.object "java/io/PrintStream"), accessFlags := 25, slot := 1, constantValue := 0 }, { name := "err", type := (.object "java/io/PrintStream"), accessFlags := 25, slot := 2, constantValue := 0 }, { name := "initialIn", type := (.object "java/io/InputStream"), accessFlags := 10, slot := 3, constantValue := 0 }, { name := "NEVER", type := .int, accessFlags := 26, slot := 4, constantValue := 0 }, { name := "MAYBE", type := .int, accessFlags := 26, slot := 5, constantValue := 0 }, { name := "allowSecurityManager", type := .int, accessFlags := 10, slot := 6, constantValue := 0 }, { name := "security", type := (.object "java/lang/SecurityManager"), accessFlags := 74, slot := 7, constantValue := 0 }, { name := "notSupportedJnuEncoding", type := (.object "java/lang/String"), accessFlags := 10, slot := 8, constantValue := 0 }, { name := "cons", type := (.object "java/io/Console"), accessFlags := 74, slot := 9, constantValue := 0 }, { name := "initialErrStream", type := (.object "java/io/PrintStream"), accessFlags := 74, slot := 10, constantValue := 0 }, { name := "props", type := (.object "java/util/Properties"), accessFlags := 10, slot := 11, constantValue := 0 }, { name := "lineSeparator", type := (.object "java/lang/String"), accessFlags := 10, slot := 12, constantValue := 0 }, { name := "bootLayer", type := (.object "java/lang/ModuleLayer"), accessFlags := 8, slot := 13, constantValue := 0 }]
  methods := #[k13m0, k13m1]
  instanceTypes := #[]
  staticTypes := #[(.object "java/io/InputStream"), (.object "java/io/PrintStream"), (.object "java/io/PrintStream"), (.object "java/io/InputStream"), .int, .int, .int, (.object "java/lang/SecurityManager"), (.object "java/lang/String"), (.object "java/io/Console"), (.object "java/io/PrintStream"), (.object "java/util/Properties"), (.object "java/lang/String"), (.object "java/lang/ModuleLayer")]
  resolved := Array.replicate 834 none
  statics := none }

def pool14 : Array CpInfo := pool [(2, .class_ 4), (1, u "java/lang/Object"), (0, u "<init>"), (0, u "()V"), (1, .class_ 10), (1, u "java/lang/Number"), (2, .class_ 14), (0, u "java/io/Serializable"), (0, u "serialVersionUID"), (0, u "J")] 20

def k14m0 : Method := { name := "<init>", desc := "()V", sig := { parameters := [], returnType := none }, accessFlags := 1, code := none }
/-- java/lang/Number -/
def k14 : Class := { plain "java/lang/Number" (some 0) with
  accessFlags := 1057
  interfaces := #[7]
  cf := some (fileOf pool14 8 #[] #[{ accessFlags := 1, nameIndex := 5, descriptorIndex := 6, attributes := #[] }] 1057 2 #[13] #[{ accessFlags := 26, nameIndex := 15, descriptorIndex := 16, attributes := #[] }])
  fields := #[{ name := "serialVersionUID", type := .long, accessFlags := 26, slot := 0, constantValue := 0 }]
  methods := #[k14m0]
  instanceTypes := #[]
  staticTypes := #[.long]
  resolved := Array.replicate 37 none
  statics := none }

def pool15 : Array CpInfo := pool [(1, .class_ 2), (0, u "java/lang/Long"), (15, .class_ 20), (1, u "java/lang/Integer"), (32, .long 10), (47, u "(J)I"), (18, u "stringSize"), (2, u "getChars"), (0, u "(JI[B)I"), (4, .long 18446744071562067968), (1, .long 100), (1, .fieldref 18 134), (0, .nameAndType 135 136), (0, u "DigitOnes"), (0, u "[B"), (0, .fieldref 18 138), (0, .nameAndType 139 136), (0, u "DigitTens"), (0, .long 18446744073709551606), (94, .class_ 237), (1, u "java/lang/Long$LongCache"), (33, .class_ 272), (0, u "java/lang/Number"), (2, u "value"), (0, u "J"), (84, u "TYPE"), (0, u "Ljava/lang/Class;"), (0, .class_ 364), (0, u "java/lang/Comparable"), (0, .class_ 366), (0, u "java/lang/constant/Constable"), (0, .class_ 368), (0, u "java/lang/constant/ConstantDesc"), (0, u "MIN_VALUE"), (1, u "MAX_VALUE"), (4, u "SIZE"), (0, u "I"), (1, u "BYTES"), (1, u "serialVersionUID")] 142

def k15c0 : Code := { maxStack := 4, maxLocals := 11, code := jdk_35_method_14_code, exceptionTable := #[], attributes := #[] }
def k15m0 : Method := { name := "getChars", desc := "(JI[B)I", sig := { parameters := [.long, .int, (.array .byte)], returnType := some .int }, accessFlags := 8, code := some k15c0 }
def k15c1 : Code := { maxStack := 4, maxLocals := 6, code := jdk_35_method_15_code, exceptionTable := #[], attributes := #[] }
def k15m1 : Method := { name := "stringSize", desc := "(J)I", sig := { parameters := [.long], returnType := some .int }, accessFlags := 8, code := some k15c1 }
/-- java/lang/Long -/
def k15 : Class := { plain "java/lang/Long" (some 14) with
  accessFlags := 49
  interfaces := #[8, 10, 11]
  cf := some (fileOf pool15 1 #[.nestMembers #[235]] #[{ accessFlags := 8, nameIndex := 123, descriptorIndex := 124, attributes := #[] }, { accessFlags := 8, nameIndex := 120, descriptorIndex := 101, attributes := #[] }] 49 271 #[363, 365, 367] #[{ accessFlags := 25, nameIndex := 369, descriptorIndex := 276, attributes := #[] }, { accessFlags := 25, nameIndex := 371, descriptorIndex := 276, attributes := #[] }, { accessFlags := 25, nameIndex := 361, descriptorIndex := 362, attributes := #[] }, { accessFlags := 18, nameIndex := 275, descriptorIndex := 276, attributes := #[] }, { accessFlags := 25, nameIndex := 376, descriptorIndex := 377, attributes := #[] }, { accessFlags := 25, nameIndex := 379, descriptorIndex := 377, attributes := #[] }, { accessFlags := 26, nameIndex := 381, descriptorIndex := 276, attributes := #[] }])
  fields := #[{ name := "MIN_VALUE", type := .long, accessFlags := 25, slot := 0, constantValue := 0 }, { name := "MAX_VALUE", type := .long, accessFlags := 25, slot := 1, constantValue := 0 }, { name := "TYPE", type := (.object "java/lang/Class"), accessFlags := 25, slot := 2, constantValue := 0 }, { name := "value", type := .long, accessFlags := 18, slot := 0, constantValue := 0 }, { name := "SIZE", type := .int, accessFlags := 25, slot := 3, constantValue := 0 }, { name := "BYTES", type := .int, accessFlags := 25, slot := 4, constantValue := 0 }, { name := "serialVersionUID", type := .long, accessFlags := 26, slot := 5, constantValue := 0 }]
  methods := #[k15m0, k15m1]
  instanceTypes := #[.long]
  staticTypes := #[.long, .long, (.object "java/lang/Class"), .int, .int, .long]
  resolved := Array.replicate 524 none
  statics := none }

def pool16 : Array CpInfo := pool [(1, .class_ 2), (0, u "java/lang/Integer"), (16, u "digits"), (0, u "[C"), (64, u "DigitOnes"), (0, u "[B"), (2, u "DigitTens"), (99, .class_ 190), (0, u "java/lang/Integer$IntegerCache"), (3, u "I"), (8, .class_ 204), (0, u "java/lang/Number"), (2, u "value"), (94, u "TYPE"), (0, u "Ljava/lang/Class;"), (0, .class_ 305), (0, u "java/lang/Comparable"), (0, .class_ 307), (0, u "java/lang/constant/Constable"), (0, .class_ 309), (0, u "java/lang/constant/ConstantDesc"), (0, u "MIN_VALUE"), (1, u "MAX_VALUE"), (3, u "SIZE"), (1, u "BYTES"), (1, u "serialVersionUID"), (0, u "J")] 131

/-- java/lang/Integer -/
def k16 : Class := { plain "java/lang/Integer" (some 14) with
  accessFlags := 49
  interfaces := #[8, 10, 11]
  cf := some (fileOf pool16 1 #[.nestMembers #[189]] #[] 49 203 #[304, 306, 308] #[{ accessFlags := 25, nameIndex := 310, descriptorIndex := 194, attributes := #[] }, { accessFlags := 25, nameIndex := 312, descriptorIndex := 194, attributes := #[] }, { accessFlags := 25, nameIndex := 302, descriptorIndex := 303, attributes := #[] }, { accessFlags := 24, nameIndex := 19, descriptorIndex := 20, attributes := #[] }, { accessFlags := 24, nameIndex := 89, descriptorIndex := 86, attributes := #[] }, { accessFlags := 24, nameIndex := 85, descriptorIndex := 86, attributes := #[] }, { accessFlags := 18, nameIndex := 207, descriptorIndex := 194, attributes := #[] }, { accessFlags := 25, nameIndex := 316, descriptorIndex := 194, attributes := #[] }, { accessFlags := 25, nameIndex := 318, descriptorIndex := 194, attributes := #[] }, { accessFlags := 26, nameIndex := 320, descriptorIndex := 321, attributes := #[] }])
  fields := #[{ name := "MIN_VALUE", type := .int, accessFlags := 25, slot := 0, constantValue := 0 }, { name := "MAX_VALUE", type := .int, accessFlags := 25, slot := 1, constantValue := 0 }, { name := "TYPE", type := (.object "java/lang/Class"), accessFlags := 25, slot := 2, constantValue := 0 }, { name := "digits", type := (.array .char), accessFlags := 24, slot := 3, constantValue := 0 }, { name := "DigitTens", type := (.array .byte), accessFlags := 24, slot := 4, constantValue := 0 }, { name := "DigitOnes", type := (.array .byte), accessFlags := 24, slot := 5, constantValue := 0 }, { name := "value", type := .int, accessFlags := 18, slot := 0, constantValue := 0 }, { name := "SIZE", type := .int, accessFlags := 25, slot := 6, constantValue := 0 }, { name := "BYTES", type := .int, accessFlags := 25, slot := 7, constantValue := 0 }, { name := "serialVersionUID", type := .long, accessFlags := 26, slot := 8, constantValue := 0 }]
  methods := #[]
  instanceTypes := #[.int]
  staticTypes := #[.int, .int, (.object "java/lang/Class"), (.array .char), (.array .byte), (.array .byte), .int, .int, .long]
  resolved := Array.replicate 453 none
  statics := some 1 }

def pool17 : Array CpInfo := pool [(2, .class_ 4), (1, u "java/lang/Object"), (0, u "<init>"), (0, u "()V"), (7, .class_ 16), (1, u "java/util/Arrays"), (57, .class_ 76), (1, u "java/util/Arrays$NaturalOrder"), (32, u "()Ljava/lang/Object;"), (3, .class_ 115), (1, u "java/util/Arrays$LegacyMergeSort"), (1, u "Z"), (10, .nameAndType 129 109), (0, u "clone"), (9, u "copyOfRange"), (10, .methodref 151 152), (0, .class_ 153), (0, .nameAndType 154 155), (0, u "java/lang/System"), (0, u "arraycopy"), (0, u "(Ljava/lang/Object;ILjava/lang/Object;II)V"), (146, u "copyOf"), (1, .methodref 305 306), (0, .class_ 307), (0, .nameAndType 308 309), (0, u "java/lang/Math"), (0, u "min"), (0, u "(II)I"), (0, .methodref 311 128), (0, .class_ 312), (0, u "[B"), (26, .methodref 14 340), (0, .nameAndType 341 342), (0, u "copyOfRangeByte"), (0, u "([BII)[B"), (0, .methodref 14 344), (0, .nameAndType 345 346), (0, u "checkLength"), (0, u "(II)V"), (28, .class_ 376), (0, u "java/util/Arrays$ArrayList"), (68, u "$assertionsDisabled"), (269, u "MIN_ARRAY_SORT_GRAN"), (0, u "I"), (2, u "INSERTIONSORT_THRESHOLD"), (149, u "([BI)[B"), (105, .class_ 976), (0, u "java/util/Arrays$ArrayItr")] 52

def k17m0 : Method := { name := "<init>", desc := "()V", sig := { parameters := [], returnType := none }, accessFlags := 2, code := none }
def k17c1 : Code := { maxStack := 6, maxLocals := 3, code := jdk_65_method_121_code, exceptionTable := #[], attributes := #[] }
def k17m1 : Method := { name := "copyOf", desc := "([BI)[B", sig := { parameters := [(.array .byte), .int], returnType := some (.array .byte) }, accessFlags := 9, code := some k17c1 }
def k17c2 : Code := { maxStack := 4, maxLocals := 2, code := jdk_65_method_131_code, exceptionTable := #[], attributes := #[] }
def k17m2 : Method := { name := "checkLength", desc := "(II)V", sig := { parameters := [.int, .int], returnType := none }, accessFlags := 10, code := some k17c2 }
def k17c3 : Code := { maxStack := 3, maxLocals := 3, code := jdk_65_method_132_code, exceptionTable := #[], attributes := #[] }
def k17m3 : Method := { name := "copyOfRange", desc := "([BII)[B", sig := { parameters := [(.array .byte), .int, .int], returnType := some (.array .byte) }, accessFlags := 9, code := some k17c3 }
def k17c4 : Code := { maxStack := 6, maxLocals := 5, code := jdk_65_method_133_code, exceptionTable := #[], attributes := #[] }
def k17m4 : Method := { name := "copyOfRangeByte", desc := "([BII)[B", sig := { parameters := [(.array .byte), .int, .int], returnType := some (.array .byte) }, accessFlags := 10, code := some k17c4 }
/-- java/util/Arrays -/
def k17 : Class := { plain "java/util/Arrays" (some 0) with
  accessFlags := 49
  interfaces := #[]
  cf := some (fileOf pool17 14 #[.nestMembers #[975, 375, 113, 74]] #[{ accessFlags := 2, nameIndex := 5, descriptorIndex := 6, attributes := #[] }, { accessFlags := 9, nameIndex := 302, descriptorIndex := 869, attributes := #[] }, { accessFlags := 10, nameIndex := 345, descriptorIndex := 346, attributes := #[] }, { accessFlags := 9, nameIndex := 139, descriptorIndex := 342, attributes := #[] }, { accessFlags := 10, nameIndex := 341, descriptorIndex := 342, attributes := #[] }] 49 2 #[] #[{ accessFlags := 26, nameIndex := 715, descriptorIndex := 716, attributes := #[] }, { accessFlags := 26, nameIndex := 719, descriptorIndex := 716, attributes := #[] }, { accessFlags := 4120, nameIndex := 445, descriptorIndex := 117, attributes := #[] }])
  fields := #[{ name := "MIN_ARRAY_SORT_GRAN", type := .int, accessFlags := 26, slot := 0, constantValue := 0 }, { name := "INSERTIONSORT_THRESHOLD", type := .int, accessFlags := 26, slot := 1, constantValue := 0 }, { name := "$assertionsDisabled", type := .boolean, accessFlags := 4120, slot := 2, constantValue := 0 }]
  methods := #[k17m0, k17m1, k17m2, k17m3, k17m4]
  instanceTypes := #[]
  staticTypes := #[.int, .int, .boolean]
  resolved := Array.replicate 1029 none
  statics := none }

def pool18 : Array CpInfo := pool [(1, .class_ 2), (0, u "java/lang/Math"), (1, .class_ 6), (1, u "java/lang/Object"), (0, u "<init>"), (0, u "()V"), (89, .class_ 100), (1, u "java/lang/Math$RandomNumberGeneratorHolder"), (23, u "abs"), (0, u "(J)J"), (46, u "negativeZeroFloatBits"), (0, u "J"), (2, u "negativeZeroDoubleBits"), (21, u "max"), (2, u "min"), (43, u "$assertionsDisabled"), (0, u "Z"), (88, u "(II)I"), (2, u "twoToTheDoubleScaleDown"), (0, u "D"), (4, u "twoToTheDoubleScaleUp"), (9, u "E"), (3, u "PI"), (2, u "TAU"), (2, u "DEGREES_TO_RADIANS"), (0, u "RADIANS_TO_DEGREES")] 94

def k18m0 : Method := { name := "<init>", desc := "()V", sig := { parameters := [], returnType := none }, accessFlags := 2, code := none }
def k18c1 : Code := { maxStack := 4, maxLocals := 2, code := jdk_29_method_61_code, exceptionTable := #[], attributes := #[] }
def k18m1 : Method := { name := "abs", desc := "(J)J", sig := { parameters := [.long], returnType := some .long }, accessFlags := 9, code := some k18c1 }
def k18c2 : Code := { maxStack := 2, maxLocals := 2, code := jdk_29_method_65_code, exceptionTable := #[], attributes := #[] }
def k18m2 : Method := { name := "max", desc := "(II)I", sig := { parameters := [.int, .int], returnType := some .int }, accessFlags := 9, code := some k18c2 }
def k18c3 : Code := { maxStack := 2, maxLocals := 2, code := jdk_29_method_69_code, exceptionTable := #[], attributes := #[] }
def k18m3 : Method := { name := "min", desc := "(II)I", sig := { parameters := [.int, .int], returnType := some .int }, accessFlags := 9, code := some k18c3 }
/-- java/lang/Math -/
def k18 : Class := { plain "java/lang/Math" (some 0) with
  accessFlags := 49
  interfaces := #[]
  cf := some (fileOf pool18 1 #[.nestMembers #[98]] #[{ accessFlags := 2, nameIndex := 7, descriptorIndex := 8, attributes := #[] }, { accessFlags := 9, nameIndex := 124, descriptorIndex := 125, attributes := #[] }, { accessFlags := 9, nameIndex := 198, descriptorIndex := 335, attributes := #[] }, { accessFlags := 9, nameIndex := 201, descriptorIndex := 335, attributes := #[] }] 49 4 #[] #[{ accessFlags := 25, nameIndex := 354, descriptorIndex := 339, attributes := #[] }, { accessFlags := 25, nameIndex := 358, descriptorIndex := 339, attributes := #[] }, { accessFlags := 25, nameIndex := 361, descriptorIndex := 339, attributes := #[] }, { accessFlags := 26, nameIndex := 364, descriptorIndex := 339, attributes := #[] }, { accessFlags := 26, nameIndex := 365, descriptorIndex := 339, attributes := #[] }, { accessFlags := 26, nameIndex := 172, descriptorIndex := 173, attributes := #[] }, { accessFlags := 26, nameIndex := 176, descriptorIndex := 173, attributes := #[] }, { accessFlags := 8, nameIndex := 344, descriptorIndex := 339, attributes := #[] }, { accessFlags := 8, nameIndex := 338, descriptorIndex := 339, attributes := #[] }, { accessFlags := 4120, nameIndex := 245, descriptorIndex := 246, attributes := #[] }])
  fields := #[{ name := "E", type := .double, accessFlags := 25, slot := 0, constantValue := 0 }, { name := "PI", type := .double, accessFlags := 25, slot := 1, constantValue := 0 }, { name := "TAU", type := .double, accessFlags := 25, slot := 2, constantValue := 0 }, { name := "DEGREES_TO_RADIANS", type := .double, accessFlags := 26, slot := 3, constantValue := 0 }, { name := "RADIANS_TO_DEGREES", type := .double, accessFlags := 26, slot := 4, constantValue := 0 }, { name := "negativeZeroFloatBits", type := .long, accessFlags := 26, slot := 5, constantValue := 0 }, { name := "negativeZeroDoubleBits", type := .long, accessFlags := 26, slot := 6, constantValue := 0 }, { name := "twoToTheDoubleScaleUp", type := .double, accessFlags := 8, slot := 7, constantValue := 0 }, { name := "twoToTheDoubleScaleDown", type := .double, accessFlags := 8, slot := 8, constantValue := 0 }, { name := "$assertionsDisabled", type := .boolean, accessFlags := 4120, slot := 9, constantValue := 0 }]
  methods := #[k18m0, k18m1, k18m2, k18m3]
  instanceTypes := #[]
  staticTypes := #[.double, .double, .double, .double, .double, .long, .long, .double, .double, .boolean]
  resolved := Array.replicate 460 none
  statics := none }

def pool19 : Array CpInfo := pool [(8, .class_ 10), (1, u "java/lang/Iterable"), (24, .class_ 36), (0, u "java/lang/Object")] 25

/-- java/lang/Iterable -/
def k19 : Class := { plain "java/lang/Iterable" (some 0) with
  accessFlags := 1537
  interfaces := #[]
  cf := some (fileOf pool19 8 #[] #[] 1537 35 #[] #[])
  fields := #[]
  methods := #[]
  instanceTypes := #[]
  staticTypes := #[]
  resolved := Array.replicate 62 none
  statics := none }

def pool20 : Array CpInfo := pool [(10, .class_ 12), (1, u "java/util/Collection"), (47, .class_ 61), (0, u "java/lang/Object"), (0, .class_ 63), (0, u "java/lang/Iterable")] 51

/-- java/util/Collection -/
def k20 : Class := { plain "java/util/Collection" (some 0) with
  accessFlags := 1537
  interfaces := #[19]
  cf := some (fileOf pool20 10 #[] #[] 1537 60 #[62] #[])
  fields := #[]
  methods := #[]
  instanceTypes := #[]
  staticTypes := #[]
  resolved := Array.replicate 115 none
  statics := none }

def pool21 : Array CpInfo := pool [(8, .class_ 10), (1, u "java/util/SequencedCollection"), (15, .class_ 27), (0, u "java/lang/Object"), (0, .class_ 29), (0, u "java/util/Collection")] 27

/-- java/util/SequencedCollection -/
def k21 : Class := { plain "java/util/SequencedCollection" (some 0) with
  accessFlags := 1537
  interfaces := #[20]
  cf := some (fileOf pool21 8 #[] #[] 1537 26 #[28] #[])
  fields := #[]
  methods := #[]
  instanceTypes := #[]
  staticTypes := #[]
  resolved := Array.replicate 57 none
  statics := none }

def pool22 : Array CpInfo := pool [(8, .class_ 10), (1, u "java/util/List"), (37, u "<init>"), (26, u "get"), (0, u "(I)Ljava/lang/Object;"), (2, u "size"), (0, u "()I"), (7, u "of"), (7, .class_ 97), (0, u "java/util/ImmutableCollections$List12"), (2, .methodref 96 101), (0, .nameAndType 48 102), (0, u "(Ljava/lang/Object;Ljava/lang/Object;)V"), (0, .class_ 104), (0, u "java/lang/Object"), (15, .class_ 121), (0, u "java/util/SequencedCollection"), (79, u "(Ljava/lang/Object;Ljava/lang/Object;)Ljava/util/List;")] 49

def k22m0 : Method := { name := "size", desc := "()I", sig := { parameters := [], returnType := some .int }, accessFlags := 1025, code := none }
def k22m1 : Method := { name := "get", desc := "(I)Ljava/lang/Object;", sig := { parameters := [.int], returnType := some (.object "java/lang/Object") }, accessFlags := 1025, code := none }
def k22c2 : Code := { maxStack := 4, maxLocals := 2, code := jdk_40_method_38_code, exceptionTable := #[], attributes := #[] }
def k22m2 : Method := { name := "of", desc := "(Ljava/lang/Object;Ljava/lang/Object;)Ljava/util/List;", sig := { parameters := [(.object "java/lang/Object"), (.object "java/lang/Object")], returnType := some (.object "java/util/List") }, accessFlags := 9, code := some k22c2 }
/-- java/util/List -/
def k22 : Class := { plain "java/util/List" (some 0) with
  accessFlags := 1537
  interfaces := #[21]
  cf := some (fileOf pool22 8 #[] #[{ accessFlags := 1025, nameIndex := 79, descriptorIndex := 80, attributes := #[] }, { accessFlags := 1025, nameIndex := 75, descriptorIndex := 76, attributes := #[] }, { accessFlags := 9, nameIndex := 88, descriptorIndex := 201, attributes := #[] }] 1537 103 #[120] #[])
  fields := #[]
  methods := #[k22m0, k22m1, k22m2]
  instanceTypes := #[]
  staticTypes := #[]
  resolved := Array.replicate 251 none
  statics := none }

def pool23 : Array CpInfo := pool [(1, .methodref 2 3), (0, .class_ 4), (0, .nameAndType 5 6), (0, u "java/lang/Object"), (0, u "<init>"), (0, u "()V"), (1, .class_ 10), (1, u "java/util/AbstractCollection"), (66, .class_ 78), (0, u "java/util/Collection")] 81

def k23c0 : Code := { maxStack := 1, maxLocals := 1, code := jdk_22_method_1_code, exceptionTable := #[], attributes := #[] }
def k23m0 : Method := { name := "<init>", desc := "()V", sig := { parameters := [], returnType := none }, accessFlags := 4, code := some k23c0 }
/-- java/util/AbstractCollection -/
def k23 : Class := { plain "java/util/AbstractCollection" (some 0) with
  accessFlags := 1057
  interfaces := #[20]
  cf := some (fileOf pool23 8 #[] #[{ accessFlags := 4, nameIndex := 5, descriptorIndex := 6, attributes := #[] }] 1057 2 #[77] #[])
  fields := #[]
  methods := #[k23m0]
  instanceTypes := #[]
  staticTypes := #[]
  resolved := Array.replicate 160 none
  statics := none }

def pool24 : Array CpInfo := pool [(1, .methodref 2 3), (0, .class_ 4), (0, .nameAndType 5 6), (0, u "java/util/AbstractCollection"), (0, u "<init>"), (0, u "()V"), (1, .class_ 10), (1, u "java/util/ImmutableCollections"), (2, .class_ 14), (0, u "java/util/ImmutableCollections$AbstractImmutableCollection")] 41

def k24c0 : Code := { maxStack := 1, maxLocals := 1, code := jdk_47_method_1_code, exceptionTable := #[], attributes := #[] }
def k24m0 : Method := { name := "<init>", desc := "()V", sig := { parameters := [], returnType := none }, accessFlags := 0, code := some k24c0 }
/-- java/util/ImmutableCollections$AbstractImmutableCollection -/
def k24 : Class := { plain "java/util/ImmutableCollections$AbstractImmutableCollection" (some 23) with
  accessFlags := 1056
  interfaces := #[]
  cf := some (fileOf pool24 13 #[.nestHost 8] #[{ accessFlags := 0, nameIndex := 5, descriptorIndex := 6, attributes := #[] }] 1056 2 #[] #[])
  fields := #[]
  methods := #[k24m0]
  instanceTypes := #[]
  staticTypes := #[]
  resolved := Array.replicate 56 none
  statics := none }

def pool25 : Array CpInfo := pool [(1, .class_ 2), (0, u "java/util/RandomAccess"), (0, .class_ 4), (0, u "java/lang/Object")] 2

/-- java/util/RandomAccess -/
def k25 : Class := { plain "java/util/RandomAccess" (some 0) with
  accessFlags := 1537
  interfaces := #[]
  cf := some (fileOf pool25 1 #[] #[] 1537 3 #[] #[])
  fields := #[]
  methods := #[]
  instanceTypes := #[]
  staticTypes := #[]
  resolved := Array.replicate 7 none
  statics := none }

def pool26 : Array CpInfo := pool [(1, .methodref 2 3), (0, .class_ 4), (0, .nameAndType 5 6), (0, u "java/util/ImmutableCollections$AbstractImmutableCollection"), (0, u "<init>"), (0, u "()V"), (1, .class_ 10), (1, u "java/util/ImmutableCollections"), (3, .class_ 16), (1, u "java/util/ImmutableCollections$AbstractImmutableList"), (60, .class_ 78), (0, u "java/util/List"), (45, .class_ 125), (0, u "java/util/RandomAccess")] 70

def k26c0 : Code := { maxStack := 1, maxLocals := 1, code := jdk_46_method_1_code, exceptionTable := #[], attributes := #[] }
def k26m0 : Method := { name := "<init>", desc := "()V", sig := { parameters := [], returnType := none }, accessFlags := 0, code := some k26c0 }
/-- java/util/ImmutableCollections$AbstractImmutableList -/
def k26 : Class := { plain "java/util/ImmutableCollections$AbstractImmutableList" (some 24) with
  accessFlags := 1056
  interfaces := #[22, 25]
  cf := some (fileOf pool26 14 #[.nestHost 8] #[{ accessFlags := 0, nameIndex := 5, descriptorIndex := 6, attributes := #[] }] 1056 2 #[77, 124] #[])
  fields := #[]
  methods := #[k26m0]
  instanceTypes := #[]
  staticTypes := #[]
  resolved := Array.replicate 196 none
  statics := none }

def pool27 : Array CpInfo := pool [(1, .methodref 2 3), (0, .class_ 4), (0, .nameAndType 5 6), (0, u "java/util/ImmutableCollections$AbstractImmutableList"), (0, u "<init>"), (0, u "()V"), (0, .methodref 8 9), (0, .class_ 10), (0, .nameAndType 11 12), (0, u "java/util/Objects"), (0, u "requireNonNull"), (0, u "(Ljava/lang/Object;)Ljava/lang/Object;"), (0, .fieldref 14 15), (0, .class_ 16), (0, .nameAndType 17 18), (0, u "java/util/ImmutableCollections$List12"), (0, u "e0"), (0, u "Ljava/lang/Object;"), (0, .fieldref 20 21), (0, .class_ 22), (0, .nameAndType 23 18), (0, u "java/util/ImmutableCollections"), (0, u "EMPTY"), (0, .fieldref 14 25), (0, .nameAndType 26 18), (0, u "e1"), (24, u "size"), (0, u "()I"), (17, .class_ 71), (0, u "java/io/Serializable"), (13, u "(Ljava/lang/Object;Ljava/lang/Object;)V"), (4, u "get"), (0, u "(I)Ljava/lang/Object;")] 33

def k27c0 : Code := { maxStack := 2, maxLocals := 3, code := jdk_44_method_2_code, exceptionTable := #[], attributes := #[] }
def k27m0 : Method := { name := "<init>", desc := "(Ljava/lang/Object;Ljava/lang/Object;)V", sig := { parameters := [(.object "java/lang/Object"), (.object "java/lang/Object")], returnType := none }, accessFlags := 0, code := some k27c0 }
def k27c1 : Code := { maxStack := 2, maxLocals := 1, code := jdk_44_method_3_code, exceptionTable := #[], attributes := #[] }
def k27m1 : Method := { name := "size", desc := "()I", sig := { parameters := [], returnType := some .int }, accessFlags := 1, code := some k27c1 }
def k27c2 : Code := { maxStack := 2, maxLocals := 2, code := jdk_44_method_5_code, exceptionTable := #[], attributes := #[] }
def k27m2 : Method := { name := "get", desc := "(I)Ljava/lang/Object;", sig := { parameters := [.int], returnType := some (.object "java/lang/Object") }, accessFlags := 1, code := some k27c2 }
/-- java/util/ImmutableCollections$List12 -/
def k27 : Class := { plain "java/util/ImmutableCollections$List12" (some 26) with
  accessFlags := 48
  interfaces := #[7]
  cf := some (fileOf pool27 14 #[.nestHost 20] #[{ accessFlags := 0, nameIndex := 5, descriptorIndex := 85, attributes := #[] }, { accessFlags := 1, nameIndex := 51, descriptorIndex := 52, attributes := #[] }, { accessFlags := 1, nameIndex := 90, descriptorIndex := 91, attributes := #[] }] 48 2 #[70] #[{ accessFlags := 18, nameIndex := 17, descriptorIndex := 18, attributes := #[] }, { accessFlags := 18, nameIndex := 26, descriptorIndex := 18, attributes := #[] }])
  fields := #[{ name := "e0", type := (.object "java/lang/Object"), accessFlags := 18, slot := 0, constantValue := 0 }, { name := "e1", type := (.object "java/lang/Object"), accessFlags := 18, slot := 1, constantValue := 0 }]
  methods := #[k27m0, k27m1, k27m2]
  instanceTypes := #[(.object "java/lang/Object"), (.object "java/lang/Object")]
  staticTypes := #[]
  resolved := Array.replicate 125 none
  statics := none }

def pool28 : Array CpInfo := pool [(2, .class_ 4), (1, u "java/lang/Object"), (0, u "<init>"), (0, u "()V"), (35, .class_ 44), (1, u "java/util/Objects"), (0, u "requireNonNull"), (0, u "(Ljava/lang/Object;)Ljava/lang/Object;")] 137

def k28m0 : Method := { name := "<init>", desc := "()V", sig := { parameters := [], returnType := none }, accessFlags := 2, code := none }
def k28c1 : Code := { maxStack := 2, maxLocals := 1, code := jdk_31_method_10_code, exceptionTable := #[], attributes := #[] }
def k28m1 : Method := { name := "requireNonNull", desc := "(Ljava/lang/Object;)Ljava/lang/Object;", sig := { parameters := [(.object "java/lang/Object")], returnType := some (.object "java/lang/Object") }, accessFlags := 9, code := some k28c1 }
/-- java/util/Objects -/
def k28 : Class := { plain "java/util/Objects" (some 0) with
  accessFlags := 49
  interfaces := #[]
  cf := some (fileOf pool28 42 #[] #[{ accessFlags := 2, nameIndex := 5, descriptorIndex := 6, attributes := #[] }, { accessFlags := 9, nameIndex := 45, descriptorIndex := 46, attributes := #[] }] 49 2 #[] #[])
  fields := #[]
  methods := #[k28m0, k28m1]
  instanceTypes := #[]
  staticTypes := #[]
  resolved := Array.replicate 184 none
  statics := none }

def pool29 : Array CpInfo := pool [(2, .class_ 4), (1, u "java/lang/Object"), (0, u "<init>"), (0, u "()V"), (3, .class_ 11), (0, u "java/util/ImmutableCollections$List12"), (0, .class_ 13), (0, u "java/util/ImmutableCollections$ListN"), (3, u "Z"), (29, .class_ 49), (1, u "java/util/ImmutableCollections"), (0, u "$assertionsDisabled"), (5, u "[Ljava/lang/Object;"), (5, u "EMPTY_LIST"), (0, u "Ljava/util/ImmutableCollections$ListN;"), (8, u "EMPTY_LIST_NULLS"), (22, u "SALT32L"), (0, u "J"), (2, u "REVERSE"), (6, u "archivedObjects"), (2, u "EMPTY"), (0, u "Ljava/lang/Object;"), (0, .class_ 112), (0, u "java/util/ImmutableCollections$SetN"), (5, u "EMPTY_SET"), (0, u "Ljava/util/ImmutableCollections$SetN;"), (0, .class_ 121), (0, u "java/util/ImmutableCollections$MapN"), (3, u "EMPTY_MAP"), (0, u "Ljava/util/ImmutableCollections$MapN;"), (4, u "EXPAND_FACTOR"), (0, u "I"), (36, .class_ 170), (0, u "java/util/ImmutableCollections$MapN$MapNIterator"), (0, .class_ 172), (0, u "java/util/ImmutableCollections$MapN$1"), (0, .class_ 174), (0, u "java/util/ImmutableCollections$Map1"), (0, .class_ 176), (0, u "java/util/ImmutableCollections$AbstractImmutableMap"), (0, .class_ 178), (0, u "java/util/ImmutableCollections$SetN$SetNIterator"), (0, .class_ 180), (0, u "java/util/ImmutableCollections$Set12"), (0, .class_ 182), (0, u "java/util/ImmutableCollections$Set12$1"), (0, .class_ 184), (0, u "java/util/ImmutableCollections$AbstractImmutableSet"), (0, .class_ 186), (0, u "java/util/ImmutableCollections$SubList"), (0, .class_ 188), (0, u "java/util/ImmutableCollections$ListItr"), (0, .class_ 190), (0, u "java/util/ImmutableCollections$AbstractImmutableList"), (0, .class_ 192), (0, u "java/util/ImmutableCollections$AbstractImmutableCollection"), (0, .class_ 194), (0, u "java/util/ImmutableCollections$Access"), (0, .class_ 196), (0, u "java/util/ImmutableCollections$Access$1")] 16

def k29m0 : Method := { name := "<init>", desc := "()V", sig := { parameters := [], returnType := none }, accessFlags := 2, code := none }
/-- java/util/ImmutableCollections -/
def k29 : Class := { plain "java/util/ImmutableCollections" (some 0) with
  accessFlags := 32
  interfaces := #[]
  cf := some (fileOf pool29 47 #[.nestMembers #[120, 169, 171, 173, 175, 111, 177, 179, 181, 183, 12, 10, 185, 187, 189, 191, 193, 195]] #[{ accessFlags := 2, nameIndex := 5, descriptorIndex := 6, attributes := #[] }] 32 2 #[] #[{ accessFlags := 26, nameIndex := 95, descriptorIndex := 96, attributes := #[] }, { accessFlags := 26, nameIndex := 99, descriptorIndex := 17, attributes := #[] }, { accessFlags := 10, nameIndex := 106, descriptorIndex := 56, attributes := #[] }, { accessFlags := 26, nameIndex := 109, descriptorIndex := 110, attributes := #[] }, { accessFlags := 24, nameIndex := 62, descriptorIndex := 63, attributes := #[] }, { accessFlags := 24, nameIndex := 72, descriptorIndex := 63, attributes := #[] }, { accessFlags := 24, nameIndex := 118, descriptorIndex := 119, attributes := #[] }, { accessFlags := 24, nameIndex := 125, descriptorIndex := 126, attributes := #[] }, { accessFlags := 24, nameIndex := 131, descriptorIndex := 132, attributes := #[] }, { accessFlags := 4120, nameIndex := 50, descriptorIndex := 17, attributes := #[] }])
  fields := #[{ name := "SALT32L", type := .long, accessFlags := 26, slot := 0, constantValue := 0 }, { name := "REVERSE", type := .boolean, accessFlags := 26, slot := 1, constantValue := 0 }, { name := "archivedObjects", type := (.array (.object "java/lang/Object")), accessFlags := 10, slot := 2, constantValue := 0 }, { name := "EMPTY", type := (.object "java/lang/Object"), accessFlags := 26, slot := 3, constantValue := 0 }, { name := "EMPTY_LIST", type := (.object "java/util/ImmutableCollections$ListN"), accessFlags := 24, slot := 4, constantValue := 0 }, { name := "EMPTY_LIST_NULLS", type := (.object "java/util/ImmutableCollections$ListN"), accessFlags := 24, slot := 5, constantValue := 0 }, { name := "EMPTY_SET", type := (.object "java/util/ImmutableCollections$SetN"), accessFlags := 24, slot := 6, constantValue := 0 }, { name := "EMPTY_MAP", type := (.object "java/util/ImmutableCollections$MapN"), accessFlags := 24, slot := 7, constantValue := 0 }, { name := "EXPAND_FACTOR", type := .int, accessFlags := 24, slot := 8, constantValue := 0 }, { name := "$assertionsDisabled", type := .boolean, accessFlags := 4120, slot := 9, constantValue := 0 }]
  methods := #[k29m0]
  instanceTypes := #[]
  staticTypes := #[.long, .boolean, (.array (.object "java/lang/Object")), (.object "java/lang/Object"), (.object "java/util/ImmutableCollections$ListN"), (.object "java/util/ImmutableCollections$ListN"), (.object "java/util/ImmutableCollections$SetN"), (.object "java/util/ImmutableCollections$MapN"), .int, .boolean]
  resolved := Array.replicate 213 none
  statics := some 2 }

def pool30 : Array CpInfo := pool [(1, .class_ 2), (0, u "java/lang/String"), (1, .class_ 6), (1, u "java/lang/Object"), (0, u "<init>"), (0, u "()V"), (0, .methodref 1 10), (0, .nameAndType 11 12), (0, u "checkIndex"), (0, u "(II)V"), (1, .class_ 16), (1, u "java/lang/StringLatin1"), (36, u "([BI)C"), (67, u "$assertionsDisabled"), (0, u "Z"), (98, .class_ 223), (1, u "java/lang/StringLatin1$LinesSpliterator"), (28, u "charAt"), (137, .class_ 391), (0, u "java/lang/StringLatin1$CharsSpliterator")] 3

def k30m0 : Method := { name := "<init>", desc := "()V", sig := { parameters := [], returnType := none }, accessFlags := 0, code := none }
def k30c1 : Code := { maxStack := 2, maxLocals := 2, code := jdk_43_method_2_code, exceptionTable := #[], attributes := #[] }
def k30m1 : Method := { name := "charAt", desc := "([BI)C", sig := { parameters := [(.array .byte), .int], returnType := some .char }, accessFlags := 9, code := some k30c1 }
/-- java/lang/StringLatin1 -/
def k30 : Class := { plain "java/lang/StringLatin1" (some 0) with
  accessFlags := 48
  interfaces := #[]
  cf := some (fileOf pool30 14 #[.nestMembers #[390, 221]] #[{ accessFlags := 0, nameIndex := 7, descriptorIndex := 8, attributes := #[] }, { accessFlags := 9, nameIndex := 252, descriptorIndex := 53, attributes := #[] }] 48 4 #[] #[{ accessFlags := 4120, nameIndex := 121, descriptorIndex := 122, attributes := #[] }])
  fields := #[{ name := "$assertionsDisabled", type := .boolean, accessFlags := 4120, slot := 0, constantValue := 0 }]
  methods := #[k30m0, k30m1]
  instanceTypes := #[]
  staticTypes := #[.boolean]
  resolved := Array.replicate 395 none
  statics := none }

def pool31 : Array CpInfo := pool [(2, .class_ 4), (1, u "java/lang/Object"), (0, u "<init>"), (0, u "()V"), (17, .class_ 26), (1, u "jdk/internal/util/Preconditions"), (6, u "checkIndex"), (21, .class_ 56), (0, u "jdk/internal/util/Preconditions$4"), (57, .class_ 115), (0, u "jdk/internal/util/Preconditions$1"), (7, u "SIOOBE_FORMATTER"), (0, u "Ljava/util/function/BiFunction;"), (0, .class_ 126), (0, u "jdk/internal/util/Preconditions$2"), (3, u "AIOOBE_FORMATTER"), (0, .class_ 132), (0, u "jdk/internal/util/Preconditions$3"), (3, u "IOOBE_FORMATTER"), (41, u "(IILjava/util/function/BiFunction;)I")] 15

def k31m0 : Method := { name := "<init>", desc := "()V", sig := { parameters := [], returnType := none }, accessFlags := 1, code := none }
def k31c1 : Code := { maxStack := 3, maxLocals := 3, code := jdk_41_method_11_code, exceptionTable := #[], attributes := #[] }
def k31m1 : Method := { name := "checkIndex", desc := "(IILjava/util/function/BiFunction;)I", sig := { parameters := [.int, .int, (.object "java/util/function/BiFunction")], returnType := some .int }, accessFlags := 9, code := some k31c1 }
/-- jdk/internal/util/Preconditions -/
def k31 : Class := { plain "jdk/internal/util/Preconditions" (some 0) with
  accessFlags := 33
  interfaces := #[]
  cf := some (fileOf pool31 24 #[.nestMembers #[55, 131, 125, 114]] #[{ accessFlags := 1, nameIndex := 5, descriptorIndex := 6, attributes := #[] }, { accessFlags := 9, nameIndex := 33, descriptorIndex := 178, attributes := #[] }] 33 2 #[] #[{ accessFlags := 25, nameIndex := 123, descriptorIndex := 124, attributes := #[] }, { accessFlags := 25, nameIndex := 130, descriptorIndex := 124, attributes := #[] }, { accessFlags := 25, nameIndex := 136, descriptorIndex := 124, attributes := #[] }])
  fields := #[{ name := "SIOOBE_FORMATTER", type := (.object "java/util/function/BiFunction"), accessFlags := 25, slot := 0, constantValue := 0 }, { name := "AIOOBE_FORMATTER", type := (.object "java/util/function/BiFunction"), accessFlags := 25, slot := 1, constantValue := 0 }, { name := "IOOBE_FORMATTER", type := (.object "java/util/function/BiFunction"), accessFlags := 25, slot := 2, constantValue := 0 }]
  methods := #[k31m0, k31m1]
  instanceTypes := #[]
  staticTypes := #[(.object "java/util/function/BiFunction"), (.object "java/util/function/BiFunction"), (.object "java/util/function/BiFunction")]
  resolved := Array.replicate 194 none
  statics := some 3 }

def pool32 : Array CpInfo := pool [(9, u "<init>"), (6, .class_ 18), (1, u "java/lang/Object"), (0, u "()V"), (1, .class_ 23), (1, u "jdk/internal/util/ArraysSupport"), (0, u "LOG2_ARRAY_LONG_INDEX_SCALE"), (0, u "I"), (2, u "U"), (0, u "Ljdk/internal/misc/Unsafe;"), (8, u "BIG_ENDIAN"), (0, u "Z"), (8, u "LOG2_BYTE_BIT_SIZE"), (4, u "LOG2_ARRAY_INT_INDEX_SCALE"), (54, u "JLA"), (0, u "Ljdk/internal/access/JavaLangAccess;"), (11, u "LOG2_ARRAY_BOOLEAN_INDEX_SCALE"), (9, u "LOG2_ARRAY_BYTE_INDEX_SCALE"), (5, u "LOG2_ARRAY_CHAR_INDEX_SCALE"), (5, u "LOG2_ARRAY_SHORT_INDEX_SCALE"), (18, u "LOG2_ARRAY_FLOAT_INDEX_SCALE"), (24, u "LOG2_ARRAY_DOUBLE_INDEX_SCALE"), (6, .methodref 195 196), (0, .class_ 197), (0, .nameAndType 198 199), (0, u "java/lang/Math"), (0, u "max"), (0, u "(II)I"), (0, .integer 2147483639), (76, u "T_BOOLEAN"), (2, u "T_CHAR"), (1, u "T_FLOAT"), (1, u "T_DOUBLE"), (1, u "T_BYTE"), (1, u "T_SHORT"), (1, u "T_INT"), (1, u "T_LONG"), (1, u "SOFT_MAX_ARRAY_LENGTH"), (56, u "newLength"), (0, u "(III)I")] 25

def k32m0 : Method := { name := "<init>", desc := "()V", sig := { parameters := [], returnType := none }, accessFlags := 2, code := none }
def k32c1 : Code := { maxStack := 3, maxLocals := 4, code := jdk_48_method_27_code, exceptionTable := #[], attributes := #[] }
def k32m1 : Method := { name := "newLength", desc := "(III)I", sig := { parameters := [.int, .int, .int], returnType := some .int }, accessFlags := 9, code := some k32c1 }
/-- jdk/internal/util/ArraysSupport -/
def k32 : Class := { plain "jdk/internal/util/ArraysSupport" (some 0) with
  accessFlags := 33
  interfaces := #[]
  cf := some (fileOf pool32 21 #[] #[{ accessFlags := 2, nameIndex := 9, descriptorIndex := 19, attributes := #[] }, { accessFlags := 9, nameIndex := 351, descriptorIndex := 352, attributes := #[] }] 33 16 #[] #[{ accessFlags := 24, nameIndex := 28, descriptorIndex := 29, attributes := #[] }, { accessFlags := 26, nameIndex := 38, descriptorIndex := 39, attributes := #[] }, { accessFlags := 25, nameIndex := 121, descriptorIndex := 25, attributes := #[] }, { accessFlags := 25, nameIndex := 131, descriptorIndex := 25, attributes := #[] }, { accessFlags := 25, nameIndex := 137, descriptorIndex := 25, attributes := #[] }, { accessFlags := 25, nameIndex := 143, descriptorIndex := 25, attributes := #[] }, { accessFlags := 25, nameIndex := 53, descriptorIndex := 25, attributes := #[] }, { accessFlags := 25, nameIndex := 24, descriptorIndex := 25, attributes := #[] }, { accessFlags := 25, nameIndex := 162, descriptorIndex := 25, attributes := #[] }, { accessFlags := 25, nameIndex := 187, descriptorIndex := 25, attributes := #[] }, { accessFlags := 26, nameIndex := 48, descriptorIndex := 25, attributes := #[] }, { accessFlags := 25, nameIndex := 277, descriptorIndex := 25, attributes := #[] }, { accessFlags := 25, nameIndex := 280, descriptorIndex := 25, attributes := #[] }, { accessFlags := 25, nameIndex := 282, descriptorIndex := 25, attributes := #[] }, { accessFlags := 25, nameIndex := 284, descriptorIndex := 25, attributes := #[] }, { accessFlags := 25, nameIndex := 286, descriptorIndex := 25, attributes := #[] }, { accessFlags := 25, nameIndex := 288, descriptorIndex := 25, attributes := #[] }, { accessFlags := 25, nameIndex := 290, descriptorIndex := 25, attributes := #[] }, { accessFlags := 25, nameIndex := 292, descriptorIndex := 25, attributes := #[] }, { accessFlags := 26, nameIndex := 108, descriptorIndex := 109, attributes := #[] }, { accessFlags := 25, nameIndex := 294, descriptorIndex := 25, attributes := #[] }])
  fields := #[{ name := "U", type := (.object "jdk/internal/misc/Unsafe"), accessFlags := 24, slot := 0, constantValue := 0 }, { name := "BIG_ENDIAN", type := .boolean, accessFlags := 26, slot := 1, constantValue := 0 }, { name := "LOG2_ARRAY_BOOLEAN_INDEX_SCALE", type := .int, accessFlags := 25, slot := 2, constantValue := 0 }, { name := "LOG2_ARRAY_BYTE_INDEX_SCALE", type := .int, accessFlags := 25, slot := 3, constantValue := 0 }, { name := "LOG2_ARRAY_CHAR_INDEX_SCALE", type := .int, accessFlags := 25, slot := 4, constantValue := 0 }, { name := "LOG2_ARRAY_SHORT_INDEX_SCALE", type := .int, accessFlags := 25, slot := 5, constantValue := 0 }, { name := "LOG2_ARRAY_INT_INDEX_SCALE", type := .int, accessFlags := 25, slot := 6, constantValue := 0 }, { name := "LOG2_ARRAY_LONG_INDEX_SCALE", type := .int, accessFlags := 25, slot := 7, constantValue := 0 }, { name := "LOG2_ARRAY_FLOAT_INDEX_SCALE", type := .int, accessFlags := 25, slot := 8, constantValue := 0 }, { name := "LOG2_ARRAY_DOUBLE_INDEX_SCALE", type := .int, accessFlags := 25, slot := 9, constantValue := 0 }, { name := "LOG2_BYTE_BIT_SIZE", type := .int, accessFlags := 26, slot := 10, constantValue := 0 }, { name := "T_BOOLEAN", type := .int, accessFlags := 25, slot := 11, constantValue := 0 }, { name := "T_CHAR", type := .int, accessFlags := 25, slot := 12, constantValue := 0 }, { name := "T_FLOAT", type := .int, accessFlags := 25, slot := 13, constantValue := 0 }, { name := "T_DOUBLE", type := .int, accessFlags := 25, slot := 14, constantValue := 0 }, { name := "T_BYTE", type := .int, accessFlags := 25, slot := 15, constantValue := 0 }, { name := "T_SHORT", type := .int, accessFlags := 25, slot := 16, constantValue := 0 }, { name := "T_INT", type := .int, accessFlags := 25, slot := 17, constantValue := 0 }, { name := "T_LONG", type := .int, accessFlags := 25, slot := 18, constantValue := 0 }, { name := "JLA", type := (.object "jdk/internal/access/JavaLangAccess"), accessFlags := 26, slot := 19, constantValue := 0 }, { name := "SOFT_MAX_ARRAY_LENGTH", type := .int, accessFlags := 25, slot := 20, constantValue := 0 }]
  methods := #[k32m0, k32m1]
  instanceTypes := #[]
  staticTypes := #[(.object "jdk/internal/misc/Unsafe"), .boolean, .int, .int, .int, .int, .int, .int, .int, .int, .int, .int, .int, .int, .int, .int, .int, .int, .int, (.object "jdk/internal/access/JavaLangAccess"), .int]
  resolved := Array.replicate 378 none
  statics := none }

def pool33 : Array CpInfo := pool [(1, .class_ 2), (0, u "java/lang/Cloneable"), (0, .class_ 4), (0, u "java/lang/Object")] 2

/-- java/lang/Cloneable -/
def k33 : Class := { plain "java/lang/Cloneable" (some 0) with
  accessFlags := 1537
  interfaces := #[]
  cf := some (fileOf pool33 1 #[] #[] 1537 3 #[] #[])
  fields := #[]
  methods := #[]
  instanceTypes := #[]
  staticTypes := #[]
  resolved := Array.replicate 7 none
  statics := none }

def pool34 : Array CpInfo := pool [(2, .class_ 4), (1, u "java/util/ImmutableCollections$AbstractImmutableList"), (3, .class_ 10), (1, u "java/util/ImmutableCollections$ListN"), (0, u "elements"), (0, u "[Ljava/lang/Object;"), (2, u "allowNulls"), (0, u "Z"), (42, .class_ 60), (0, u "java/io/Serializable"), (53, .class_ 115), (0, u "java/util/ImmutableCollections")] 3

/-- java/util/ImmutableCollections$ListN -/
def k34 : Class := { plain "java/util/ImmutableCollections$ListN" (some 26) with
  accessFlags := 48
  interfaces := #[7]
  cf := some (fileOf pool34 8 #[.nestHost 114] #[] 48 2 #[59] #[{ accessFlags := 18, nameIndex := 11, descriptorIndex := 12, attributes := #[] }, { accessFlags := 18, nameIndex := 15, descriptorIndex := 16, attributes := #[] }])
  fields := #[{ name := "elements", type := (.array (.object "java/lang/Object")), accessFlags := 18, slot := 0, constantValue := 0 }, { name := "allowNulls", type := .boolean, accessFlags := 18, slot := 1, constantValue := 0 }]
  methods := #[]
  instanceTypes := #[(.array (.object "java/lang/Object")), .boolean]
  staticTypes := #[]
  resolved := Array.replicate 119 none
  statics := none }

/-- the primitive byte -/
def k35 : Class := { plain "byte" none with kind := .primitive 'B', accessFlags := 0x411 }
/-- [B -/
def k36 : Class := { plain "[B" (some 0) with kind := .array 35 .byte, interfaces := #[33, 7], accessFlags := 1041 }

/-- the primitive long -/
def k37 : Class := { plain "long" none with kind := .primitive 'J', accessFlags := 0x411 }
/-- [J -/
def k38 : Class := { plain "[J" (some 0) with kind := .array 37 .long, interfaces := #[33, 7], accessFlags := 1041 }

def heap : Heap := #[{ cls := 12, slots := #[.long 0, .int 1, .null, .int 0, .null, .int 0, .int 0], vm := .statics 12 },
  { cls := 16, slots := #[.int 0, .int 0, .null, .null, .ref 7, .ref 6, .int 0, .int 0, .long 0], vm := .statics 16 },
  { cls := 29, slots := #[.long 0, .int 0, .null, .ref 4, .ref 5, .null, .null, .null, .int 0, .int 1], vm := .statics 29 },
  { cls := 31, slots := #[.null, .null, .null], vm := .statics 31 },
  { cls := 0, slots := #[], vm := .none },
  { cls := 34, slots := #[.null, .int 0], vm := .none },
  { cls := 36, slots := #[.int 48, .int 49, .int 50, .int 51, .int 52, .int 53, .int 54, .int 55, .int 56, .int 57, .int 48, .int 49, .int 50, .int 51, .int 52, .int 53, .int 54, .int 55, .int 56, .int 57, .int 48, .int 49, .int 50, .int 51, .int 52, .int 53, .int 54, .int 55, .int 56, .int 57, .int 48, .int 49, .int 50, .int 51, .int 52, .int 53, .int 54, .int 55, .int 56, .int 57, .int 48, .int 49, .int 50, .int 51, .int 52, .int 53, .int 54, .int 55, .int 56, .int 57, .int 48, .int 49, .int 50, .int 51, .int 52, .int 53, .int 54, .int 55, .int 56, .int 57, .int 48, .int 49, .int 50, .int 51, .int 52, .int 53, .int 54, .int 55, .int 56, .int 57, .int 48, .int 49, .int 50, .int 51, .int 52, .int 53, .int 54, .int 55, .int 56, .int 57, .int 48, .int 49, .int 50, .int 51, .int 52, .int 53, .int 54, .int 55, .int 56, .int 57, .int 48, .int 49, .int 50, .int 51, .int 52, .int 53, .int 54, .int 55, .int 56, .int 57], vm := .none },
  { cls := 36, slots := #[.int 48, .int 48, .int 48, .int 48, .int 48, .int 48, .int 48, .int 48, .int 48, .int 48, .int 49, .int 49, .int 49, .int 49, .int 49, .int 49, .int 49, .int 49, .int 49, .int 49, .int 50, .int 50, .int 50, .int 50, .int 50, .int 50, .int 50, .int 50, .int 50, .int 50, .int 51, .int 51, .int 51, .int 51, .int 51, .int 51, .int 51, .int 51, .int 51, .int 51, .int 52, .int 52, .int 52, .int 52, .int 52, .int 52, .int 52, .int 52, .int 52, .int 52, .int 53, .int 53, .int 53, .int 53, .int 53, .int 53, .int 53, .int 53, .int 53, .int 53, .int 54, .int 54, .int 54, .int 54, .int 54, .int 54, .int 54, .int 54, .int 54, .int 54, .int 55, .int 55, .int 55, .int 55, .int 55, .int 55, .int 55, .int 55, .int 55, .int 55, .int 56, .int 56, .int 56, .int 56, .int 56, .int 56, .int 56, .int 56, .int 56, .int 56, .int 57, .int 57, .int 57, .int 57, .int 57, .int 57, .int 57, .int 57, .int 57, .int 57], vm := .none }]
def classes : Array Class := #[k0, k1, k2, k3, k4, k5, k6, k7, k8, k9, k10, k11, k12, k13, k14, k15, k16, k17, k18, k19, k20, k21, k22, k23, k24, k25, k26, k27, k28, k29, k30, k31, k32, k33, k34, k35, k36, k37, k38]
def interned : List (Array UInt16 × Addr) := []
def slotsUsed : Nat := 231
def theMethod : MethodId := ⟨1, 1⟩
def args0 : Array Value := #[.long 5, .long 7, .int 3, .int 4]
def aboutOver (below : List Frame) : State where
  vm := { classes := classes, interned := interned.toArray }
  heap := heap
  slotsUsed := slotsUsed
  threads := #[{ frames := .invoking theMethod args0 :: below }]
def below0 : List Frame := [.native { method := ⟨0, 0⟩, args := #[] }]
def about1 : State := aboutOver below0
def p0 : Program := .bare "" "" ""
def e0 : Env := launch0.env 0 0 0
theorem w_frames : about1.frames = Frame.invoking theMethod args0 :: below0 := rfl
set_option maxRecDepth 65536 in
theorem w_args : argsFit about1.vm theMethod args0 = true := by decide +kernel
set_option maxRecDepth 65536 in
theorem w_heap : heapFits about1 = true := by decide +kernel
set_option maxRecDepth 65536 in
theorem w_runnable : about1.curStatus? = some .runnable := by decide +kernel
set_option maxRecDepth 65536 in
theorem w_alone : about1.alone = true := by decide +kernel
set_option maxRecDepth 65536 in
theorem w_named : about1.methodNamed? x = some theMethod := by decide +kernel
set_option maxRecDepth 65536 in
theorem w_hears : about1.hears theMethod below0 = true := by decide +kernel
set_option maxRecDepth 65536 in
theorem w_ripe : about1.ripe theMethod args0 below0 = true := by decide +kernel
theorem w_running : about1.status = .running := rfl
set_option maxRecDepth 65536 in
theorem w_room : about1.hasRoom e0.platform room_1 = true :=
  launch0.hasRoom_least _ room_1 (by decide +kernel) (by decide +kernel) (by decide +kernel) (by decide +kernel) (by decide +kernel) (by decide +kernel)
theorem allAtoms_all (ts : List Jvm.Cond) (a : Array Jvm.Value) (st : Jvm.State) : (allAtoms ts).before a st = ts.all (fun c => c.before a st) := by
  induction ts with
  | nil => rfl
  | cons c t ih =>
    show (Jvm.Cond.and c (allAtoms t)).before a st = _
    rw [Jvm.Cond.before_and, ih, List.all_cons]
def words1 : List Jvm.Cond := Jvm.Cond.code x code maxLocals ret :: tables_1
/-- a 'code' word, met by the world's own term for the bytes: nothing is compared byte by byte -/
theorem code_word {y : MethodName} {bytes : ByteArray} {mx : Nat} {rt : Option FieldType} {a : Array Value} {s : State} {m : MethodId} {meth : Method} {c : Code} (h1 : s.methodNamed? y = some m) (h2 : s.vm.method? m = some meth) (h3 : meth.code = some c) (h4 : c.code = bytes)
    (h5 : (c.maxLocals == mx && c.exceptionTable.isEmpty && decide (c.maxStack ≤ mostOperands) && decide (meth.sig.returnType = rt) && !meth.locks && decide (parseMethodDescriptor y.desc = some meth.sig)) = true) : (Jvm.Cond.code y bytes mx rt).before a s = true := by
  simp only [Bool.and_eq_true, beq_iff_eq, Bool.not_eq_true', decide_eq_true_eq] at h5
  obtain ⟨⟨⟨⟨⟨g1, g2⟩, g3⟩, g4⟩, g5⟩, g6⟩ := h5
  simp [Cond.before, Cond.holds, Cond.value, h1, h2, h3, h4, g1, g2, g3, g4, g5, g6]
def isCode : Jvm.Cond → Bool
  | .code _ _ _ _ => true
  | _ => false
theorem all_split {L : List Jvm.Cond} {P : Jvm.Cond → Bool} (h1 : L.all (fun c => isCode c || P c) = true) (h2 : ∀ c ∈ L.filter isCode, P c = true) : L.all P = true := by
  refine List.all_eq_true.mpr fun c hc => ?_
  have h := List.all_eq_true.mp h1 c hc
  rcases Bool.eq_false_or_eq_true (isCode c) with hi | hi
  · exact h2 c (List.mem_filter.mpr ⟨hc, hi⟩)
  · simpa [hi] using h
set_option maxRecDepth 65536 in
theorem w_c0 : (Jvm.Cond.code x code maxLocals ret).before args0 about1 = true := code_word (m := ⟨1, 1⟩) (meth := k1m1) (c := k1c1) (by decide +kernel) rfl rfl rfl (by decide +kernel)
set_option maxRecDepth 65536 in
theorem w_c1 : (Jvm.Cond.code ({ cls := "com/example/eta4/eta4/bench/FillFigures", name := "<init>", desc := "(JJ)V" } : Jvm.MethodName) prog_2_method_1_code (5 : Nat) (Option.none : Option Jvm.ClassFile.FieldType)).before args0 about1 = true := code_word (m := ⟨3, 0⟩) (meth := k3m0) (c := k3c0) (by decide +kernel) rfl rfl rfl (by decide +kernel)
set_option maxRecDepth 65536 in
theorem w_c2 : (Jvm.Cond.code ({ cls := "java/lang/Record", name := "<init>", desc := "()V" } : Jvm.MethodName) jdk_30_method_1_code (1 : Nat) (Option.none : Option Jvm.ClassFile.FieldType)).before args0 about1 = true := code_word (m := ⟨2, 0⟩) (meth := k2m0) (c := k2c0) (by decide +kernel) rfl rfl rfl (by decide +kernel)
set_option maxRecDepth 65536 in
theorem w_c3 : (Jvm.Cond.code ({ cls := "java/lang/Object", name := "<init>", desc := "()V" } : Jvm.MethodName) object_method_1_code (1 : Nat) (Option.none : Option Jvm.ClassFile.FieldType)).before args0 about1 = true := code_word (m := ⟨0, 0⟩) (meth := k0m0) (c := k0c0) (by decide +kernel) rfl rfl rfl (by decide +kernel)
set_option maxRecDepth 65536 in
theorem w_c4 : (Jvm.Cond.code ({ cls := "com/example/eta4/eta4/bench/FillFigures", name := "lines", desc := "()Ljava/util/List;" } : Jvm.MethodName) prog_2_method_2_code (1 : Nat) (Option.some (Jvm.ClassFile.FieldType.object "java/util/List"))).before args0 about1 = true := code_word (m := ⟨3, 1⟩) (meth := k3m1) (c := k3c1) (by decide +kernel) rfl rfl rfl (by decide +kernel)
set_option maxRecDepth 65536 in
theorem w_c5 : (Jvm.Cond.code ({ cls := "java/lang/StringBuilder", name := "<init>", desc := "()V" } : Jvm.MethodName) jdk_67_method_1_code (1 : Nat) (Option.none : Option Jvm.ClassFile.FieldType)).before args0 about1 = true := code_word (m := ⟨9, 0⟩) (meth := k9m0) (c := k9c0) (by decide +kernel) rfl rfl rfl (by decide +kernel)
set_option maxRecDepth 65536 in
theorem w_c6 : (Jvm.Cond.code ({ cls := "java/lang/AbstractStringBuilder", name := "<init>", desc := "(I)V" } : Jvm.MethodName) jdk_68_method_2_code (2 : Nat) (Option.none : Option Jvm.ClassFile.FieldType)).before args0 about1 = true := code_word (m := ⟨6, 1⟩) (meth := k6m1) (c := k6c1) (by decide +kernel) rfl rfl rfl (by decide +kernel)
set_option maxRecDepth 65536 in
theorem w_c7 : (Jvm.Cond.code ({ cls := "java/lang/StringBuilder", name := "append", desc := "(Ljava/lang/String;)Ljava/lang/StringBuilder;" } : Jvm.MethodName) jdk_67_method_7_code (2 : Nat) (Option.some (Jvm.ClassFile.FieldType.object "java/lang/StringBuilder"))).before args0 about1 = true := code_word (m := ⟨9, 1⟩) (meth := k9m1) (c := k9c1) (by decide +kernel) rfl rfl rfl (by decide +kernel)
set_option maxRecDepth 65536 in
theorem w_c8 : (Jvm.Cond.code ({ cls := "java/lang/AbstractStringBuilder", name := "append", desc := "(Ljava/lang/String;)Ljava/lang/AbstractStringBuilder;" } : Jvm.MethodName) jdk_68_method_22_code (3 : Nat) (Option.some (Jvm.ClassFile.FieldType.object "java/lang/AbstractStringBuilder"))).before args0 about1 = true := code_word (m := ⟨6, 5⟩) (meth := k6m5) (c := k6c5) (by decide +kernel) rfl rfl rfl (by decide +kernel)
set_option maxRecDepth 65536 in
theorem w_c9 : (Jvm.Cond.code ({ cls := "java/lang/String", name := "length", desc := "()I" } : Jvm.MethodName) jdk_42_method_54_code (1 : Nat) (Option.some Jvm.ClassFile.FieldType.int)).before args0 about1 = true := code_word (m := ⟨12, 2⟩) (meth := k12m2) (c := k12c2) (by decide +kernel) rfl rfl rfl (by decide +kernel)
set_option maxRecDepth 65536 in
theorem w_c10 : (Jvm.Cond.code ({ cls := "java/lang/String", name := "coder", desc := "()B" } : Jvm.MethodName) jdk_42_method_152_code (1 : Nat) (Option.some Jvm.ClassFile.FieldType.byte)).before args0 about1 = true := code_word (m := ⟨12, 6⟩) (meth := k12m6) (c := k12c6) (by decide +kernel) rfl rfl rfl (by decide +kernel)
set_option maxRecDepth 65536 in
theorem w_c11 : (Jvm.Cond.code ({ cls := "java/lang/AbstractStringBuilder", name := "ensureCapacityInternal", desc := "(I)V" } : Jvm.MethodName) jdk_68_method_9_code (3 : Nat) (Option.none : Option Jvm.ClassFile.FieldType)).before args0 about1 = true := code_word (m := ⟨6, 3⟩) (meth := k6m3) (c := k6c3) (by decide +kernel) rfl rfl rfl (by decide +kernel)
set_option maxRecDepth 65536 in
theorem w_c12 : (Jvm.Cond.code ({ cls := "java/lang/AbstractStringBuilder", name := "putStringAt", desc := "(ILjava/lang/String;)V" } : Jvm.MethodName) jdk_68_method_73_code (3 : Nat) (Option.none : Option Jvm.ClassFile.FieldType)).before args0 about1 = true := code_word (m := ⟨6, 10⟩) (meth := k6m10) (c := k6c10) (by decide +kernel) rfl rfl rfl (by decide +kernel)
set_option maxRecDepth 65536 in
theorem w_c13 : (Jvm.Cond.code ({ cls := "java/lang/AbstractStringBuilder", name := "inflateIfNeededFor", desc := "(Ljava/lang/String;)V" } : Jvm.MethodName) jdk_68_method_71_code (2 : Nat) (Option.none : Option Jvm.ClassFile.FieldType)).before args0 about1 = true := code_word (m := ⟨6, 9⟩) (meth := k6m9) (c := k6c9) (by decide +kernel) rfl rfl rfl (by decide +kernel)
set_option maxRecDepth 65536 in
theorem w_c14 : (Jvm.Cond.code ({ cls := "java/lang/String", name := "getBytes", desc := "([BIB)V" } : Jvm.MethodName) jdk_42_method_147_code (4 : Nat) (Option.none : Option Jvm.ClassFile.FieldType)).before args0 about1 = true := code_word (m := ⟨12, 4⟩) (meth := k12m4) (c := k12c4) (by decide +kernel) rfl rfl rfl (by decide +kernel)
set_option maxRecDepth 65536 in
theorem w_c15 : (Jvm.Cond.code ({ cls := "java/lang/StringBuilder", name := "append", desc := "(J)Ljava/lang/StringBuilder;" } : Jvm.MethodName) jdk_67_method_16_code (3 : Nat) (Option.some (Jvm.ClassFile.FieldType.object "java/lang/StringBuilder"))).before args0 about1 = true := code_word (m := ⟨9, 2⟩) (meth := k9m2) (c := k9c2) (by decide +kernel) rfl rfl rfl (by decide +kernel)
set_option maxRecDepth 65536 in
theorem w_c16 : (Jvm.Cond.code ({ cls := "java/lang/AbstractStringBuilder", name := "append", desc := "(J)Ljava/lang/AbstractStringBuilder;" } : Jvm.MethodName) jdk_68_method_33_code (5 : Nat) (Option.some (Jvm.ClassFile.FieldType.object "java/lang/AbstractStringBuilder"))).before args0 about1 = true := code_word (m := ⟨6, 6⟩) (meth := k6m6) (c := k6c6) (by decide +kernel) rfl rfl rfl (by decide +kernel)
set_option maxRecDepth 65536 in
theorem w_c17 : (Jvm.Cond.code ({ cls := "java/lang/Long", name := "stringSize", desc := "(J)I" } : Jvm.MethodName) jdk_35_method_15_code (6 : Nat) (Option.some Jvm.ClassFile.FieldType.int)).before args0 about1 = true := code_word (m := ⟨15, 1⟩) (meth := k15m1) (c := k15c1) (by decide +kernel) rfl rfl rfl (by decide +kernel)
set_option maxRecDepth 65536 in
theorem w_c18 : (Jvm.Cond.code ({ cls := "java/lang/AbstractStringBuilder", name := "isLatin1", desc := "()Z" } : Jvm.MethodName) jdk_68_method_68_code (1 : Nat) (Option.some Jvm.ClassFile.FieldType.boolean)).before args0 about1 = true := code_word (m := ⟨6, 8⟩) (meth := k6m8) (c := k6c8) (by decide +kernel) rfl rfl rfl (by decide +kernel)
set_option maxRecDepth 65536 in
theorem w_c19 : (Jvm.Cond.code ({ cls := "java/lang/Long", name := "getChars", desc := "(JI[B)I" } : Jvm.MethodName) jdk_35_method_14_code (11 : Nat) (Option.some Jvm.ClassFile.FieldType.int)).before args0 about1 = true := code_word (m := ⟨15, 0⟩) (meth := k15m0) (c := k15c0) (by decide +kernel) rfl rfl rfl (by decide +kernel)
set_option maxRecDepth 65536 in
theorem w_c20 : (Jvm.Cond.code ({ cls := "java/lang/StringBuilder", name := "toString", desc := "()Ljava/lang/String;" } : Jvm.MethodName) jdk_67_method_42_code (1 : Nat) (Option.some (Jvm.ClassFile.FieldType.object "java/lang/String"))).before args0 about1 = true := code_word (m := ⟨9, 3⟩) (meth := k9m3) (c := k9c3) (by decide +kernel) rfl rfl rfl (by decide +kernel)
set_option maxRecDepth 65536 in
theorem w_c21 : (Jvm.Cond.code ({ cls := "java/lang/String", name := "<init>", desc := "(Ljava/lang/StringBuilder;)V" } : Jvm.MethodName) jdk_42_method_53_code (2 : Nat) (Option.none : Option Jvm.ClassFile.FieldType)).before args0 about1 = true := code_word (m := ⟨12, 1⟩) (meth := k12m1) (c := k12c1) (by decide +kernel) rfl rfl rfl (by decide +kernel)
set_option maxRecDepth 65536 in
theorem w_c22 : (Jvm.Cond.code ({ cls := "java/lang/String", name := "<init>", desc := "(Ljava/lang/AbstractStringBuilder;Ljava/lang/Void;)V" } : Jvm.MethodName) jdk_42_method_150_code (5 : Nat) (Option.none : Option Jvm.ClassFile.FieldType)).before args0 about1 = true := code_word (m := ⟨12, 5⟩) (meth := k12m5) (c := k12c5) (by decide +kernel) rfl rfl rfl (by decide +kernel)
set_option maxRecDepth 65536 in
theorem w_c23 : (Jvm.Cond.code ({ cls := "java/lang/AbstractStringBuilder", name := "getValue", desc := "()[B" } : Jvm.MethodName) jdk_68_method_64_code (1 : Nat) (Option.some (Jvm.ClassFile.FieldType.array Jvm.ClassFile.FieldType.byte))).before args0 about1 = true := code_word (m := ⟨6, 7⟩) (meth := k6m7) (c := k6c7) (by decide +kernel) rfl rfl rfl (by decide +kernel)
set_option maxRecDepth 65536 in
theorem w_c24 : (Jvm.Cond.code ({ cls := "java/lang/StringBuilder", name := "length", desc := "()I" } : Jvm.MethodName) jdk_67_method_93_code (1 : Nat) (Option.some Jvm.ClassFile.FieldType.int)).before args0 about1 = true := code_word (m := ⟨9, 4⟩) (meth := k9m4) (c := k9c4) (by decide +kernel) rfl rfl rfl (by decide +kernel)
set_option maxRecDepth 65536 in
theorem w_c25 : (Jvm.Cond.code ({ cls := "java/lang/AbstractStringBuilder", name := "length", desc := "()I" } : Jvm.MethodName) jdk_68_method_6_code (1 : Nat) (Option.some Jvm.ClassFile.FieldType.int)).before args0 about1 = true := code_word (m := ⟨6, 2⟩) (meth := k6m2) (c := k6c2) (by decide +kernel) rfl rfl rfl (by decide +kernel)
set_option maxRecDepth 65536 in
theorem w_c26 : (Jvm.Cond.code ({ cls := "java/util/Arrays", name := "copyOfRange", desc := "([BII)[B" } : Jvm.MethodName) jdk_65_method_132_code (3 : Nat) (Option.some (Jvm.ClassFile.FieldType.array Jvm.ClassFile.FieldType.byte))).before args0 about1 = true := code_word (m := ⟨17, 3⟩) (meth := k17m3) (c := k17c3) (by decide +kernel) rfl rfl rfl (by decide +kernel)
set_option maxRecDepth 65536 in
theorem w_c27 : (Jvm.Cond.code ({ cls := "java/util/Arrays", name := "copyOfRangeByte", desc := "([BII)[B" } : Jvm.MethodName) jdk_65_method_133_code (5 : Nat) (Option.some (Jvm.ClassFile.FieldType.array Jvm.ClassFile.FieldType.byte))).before args0 about1 = true := code_word (m := ⟨17, 4⟩) (meth := k17m4) (c := k17c4) (by decide +kernel) rfl rfl rfl (by decide +kernel)
set_option maxRecDepth 65536 in
theorem w_c28 : (Jvm.Cond.code ({ cls := "java/util/Arrays", name := "checkLength", desc := "(II)V" } : Jvm.MethodName) jdk_65_method_131_code (2 : Nat) (Option.none : Option Jvm.ClassFile.FieldType)).before args0 about1 = true := code_word (m := ⟨17, 2⟩) (meth := k17m2) (c := k17c2) (by decide +kernel) rfl rfl rfl (by decide +kernel)
set_option maxRecDepth 65536 in
theorem w_c29 : (Jvm.Cond.code ({ cls := "java/lang/Math", name := "min", desc := "(II)I" } : Jvm.MethodName) jdk_29_method_69_code (2 : Nat) (Option.some Jvm.ClassFile.FieldType.int)).before args0 about1 = true := code_word (m := ⟨18, 3⟩) (meth := k18m3) (c := k18c3) (by decide +kernel) rfl rfl rfl (by decide +kernel)
set_option maxRecDepth 65536 in
theorem w_c30 : (Jvm.Cond.code ({ cls := "java/util/List", name := "of", desc := "(Ljava/lang/Object;Ljava/lang/Object;)Ljava/util/List;" } : Jvm.MethodName) jdk_40_method_38_code (2 : Nat) (Option.some (Jvm.ClassFile.FieldType.object "java/util/List"))).before args0 about1 = true := code_word (m := ⟨22, 2⟩) (meth := k22m2) (c := k22c2) (by decide +kernel) rfl rfl rfl (by decide +kernel)
set_option maxRecDepth 65536 in
theorem w_c31 : (Jvm.Cond.code ({ cls := "java/util/ImmutableCollections$List12", name := "<init>", desc := "(Ljava/lang/Object;Ljava/lang/Object;)V" } : Jvm.MethodName) jdk_44_method_2_code (3 : Nat) (Option.none : Option Jvm.ClassFile.FieldType)).before args0 about1 = true := code_word (m := ⟨27, 0⟩) (meth := k27m0) (c := k27c0) (by decide +kernel) rfl rfl rfl (by decide +kernel)
set_option maxRecDepth 65536 in
theorem w_c32 : (Jvm.Cond.code ({ cls := "java/util/ImmutableCollections$AbstractImmutableList", name := "<init>", desc := "()V" } : Jvm.MethodName) jdk_46_method_1_code (1 : Nat) (Option.none : Option Jvm.ClassFile.FieldType)).before args0 about1 = true := code_word (m := ⟨26, 0⟩) (meth := k26m0) (c := k26c0) (by decide +kernel) rfl rfl rfl (by decide +kernel)
set_option maxRecDepth 65536 in
theorem w_c33 : (Jvm.Cond.code ({ cls := "java/util/ImmutableCollections$AbstractImmutableCollection", name := "<init>", desc := "()V" } : Jvm.MethodName) jdk_47_method_1_code (1 : Nat) (Option.none : Option Jvm.ClassFile.FieldType)).before args0 about1 = true := code_word (m := ⟨24, 0⟩) (meth := k24m0) (c := k24c0) (by decide +kernel) rfl rfl rfl (by decide +kernel)
set_option maxRecDepth 65536 in
theorem w_c34 : (Jvm.Cond.code ({ cls := "java/util/AbstractCollection", name := "<init>", desc := "()V" } : Jvm.MethodName) jdk_22_method_1_code (1 : Nat) (Option.none : Option Jvm.ClassFile.FieldType)).before args0 about1 = true := code_word (m := ⟨23, 0⟩) (meth := k23m0) (c := k23c0) (by decide +kernel) rfl rfl rfl (by decide +kernel)
set_option maxRecDepth 65536 in
theorem w_c35 : (Jvm.Cond.code ({ cls := "java/util/Objects", name := "requireNonNull", desc := "(Ljava/lang/Object;)Ljava/lang/Object;" } : Jvm.MethodName) jdk_31_method_10_code (1 : Nat) (Option.some (Jvm.ClassFile.FieldType.object "java/lang/Object"))).before args0 about1 = true := code_word (m := ⟨28, 1⟩) (meth := k28m1) (c := k28c1) (by decide +kernel) rfl rfl rfl (by decide +kernel)
set_option maxRecDepth 65536 in
theorem w_c36 : (Jvm.Cond.code ({ cls := "java/util/ImmutableCollections$List12", name := "size", desc := "()I" } : Jvm.MethodName) jdk_44_method_3_code (1 : Nat) (Option.some Jvm.ClassFile.FieldType.int)).before args0 about1 = true := code_word (m := ⟨27, 1⟩) (meth := k27m1) (c := k27c1) (by decide +kernel) rfl rfl rfl (by decide +kernel)
set_option maxRecDepth 65536 in
theorem w_c37 : (Jvm.Cond.code ({ cls := "java/util/ImmutableCollections$List12", name := "get", desc := "(I)Ljava/lang/Object;" } : Jvm.MethodName) jdk_44_method_5_code (2 : Nat) (Option.some (Jvm.ClassFile.FieldType.object "java/lang/Object"))).before args0 about1 = true := code_word (m := ⟨27, 2⟩) (meth := k27m2) (c := k27c2) (by decide +kernel) rfl rfl rfl (by decide +kernel)
set_option maxRecDepth 65536 in
theorem w_c38 : (Jvm.Cond.code ({ cls := "com/example/eta4/eta4/bench/FillFiguresLinesPinLaw", name := "lineOk", desc := "(Ljava/lang/String;Ljava/lang/String;JI)Z" } : Jvm.MethodName) method_3_code (7 : Nat) (Option.some Jvm.ClassFile.FieldType.boolean)).before args0 about1 = true := code_word (m := ⟨1, 2⟩) (meth := k1m2) (c := k1c2) (by decide +kernel) rfl rfl rfl (by decide +kernel)
set_option maxRecDepth 65536 in
theorem w_c39 : (Jvm.Cond.code ({ cls := "com/example/eta4/eta4/bench/FillFiguresLinesPinLaw", name := "digits", desc := "(J)I" } : Jvm.MethodName) method_6_code (2 : Nat) (Option.some Jvm.ClassFile.FieldType.int)).before args0 about1 = true := code_word (m := ⟨1, 5⟩) (meth := k1m5) (c := k1c5) (by decide +kernel) rfl rfl rfl (by decide +kernel)
set_option maxRecDepth 65536 in
theorem w_c40 : (Jvm.Cond.code ({ cls := "com/example/eta4/eta4/bench/FillFiguresLinesPinLaw", name := "more", desc := "(JI)I" } : Jvm.MethodName) method_5_code (3 : Nat) (Option.some Jvm.ClassFile.FieldType.int)).before args0 about1 = true := code_word (m := ⟨1, 4⟩) (meth := k1m4) (c := k1c4) (by decide +kernel) rfl rfl rfl (by decide +kernel)
set_option maxRecDepth 65536 in
theorem w_c41 : (Jvm.Cond.code ({ cls := "com/example/eta4/eta4/bench/FillFiguresLinesPinLaw", name := "pow10", desc := "(I)J" } : Jvm.MethodName) method_4_code (2 : Nat) (Option.some Jvm.ClassFile.FieldType.long)).before args0 about1 = true := code_word (m := ⟨1, 3⟩) (meth := k1m3) (c := k1c3) (by decide +kernel) rfl rfl rfl (by decide +kernel)
set_option maxRecDepth 65536 in
theorem w_c42 : (Jvm.Cond.code ({ cls := "java/lang/String", name := "charAt", desc := "(I)C" } : Jvm.MethodName) jdk_42_method_56_code (2 : Nat) (Option.some Jvm.ClassFile.FieldType.char)).before args0 about1 = true := code_word (m := ⟨12, 3⟩) (meth := k12m3) (c := k12c3) (by decide +kernel) rfl rfl rfl (by decide +kernel)
set_option maxRecDepth 65536 in
theorem w_c43 : (Jvm.Cond.code ({ cls := "java/lang/String", name := "isLatin1", desc := "()Z" } : Jvm.MethodName) jdk_42_method_154_code (1 : Nat) (Option.some Jvm.ClassFile.FieldType.boolean)).before args0 about1 = true := code_word (m := ⟨12, 7⟩) (meth := k12m7) (c := k12c7) (by decide +kernel) rfl rfl rfl (by decide +kernel)
set_option maxRecDepth 65536 in
theorem w_c44 : (Jvm.Cond.code ({ cls := "java/lang/StringLatin1", name := "charAt", desc := "([BI)C" } : Jvm.MethodName) jdk_43_method_2_code (2 : Nat) (Option.some Jvm.ClassFile.FieldType.char)).before args0 about1 = true := code_word (m := ⟨30, 1⟩) (meth := k30m1) (c := k30c1) (by decide +kernel) rfl rfl rfl (by decide +kernel)
set_option maxRecDepth 65536 in
theorem w_c45 : (Jvm.Cond.code ({ cls := "java/lang/String", name := "checkIndex", desc := "(II)V" } : Jvm.MethodName) jdk_42_method_155_code (2 : Nat) (Option.none : Option Jvm.ClassFile.FieldType)).before args0 about1 = true := code_word (m := ⟨12, 8⟩) (meth := k12m8) (c := k12c8) (by decide +kernel) rfl rfl rfl (by decide +kernel)
set_option maxRecDepth 65536 in
theorem w_c46 : (Jvm.Cond.code ({ cls := "jdk/internal/util/Preconditions", name := "checkIndex", desc := "(IILjava/util/function/BiFunction;)I" } : Jvm.MethodName) jdk_41_method_11_code (3 : Nat) (Option.some Jvm.ClassFile.FieldType.int)).before args0 about1 = true := code_word (m := ⟨31, 1⟩) (meth := k31m1) (c := k31c1) (by decide +kernel) rfl rfl rfl (by decide +kernel)
set_option maxRecDepth 65536 in
theorem w_c47 : (Jvm.Cond.code ({ cls := "com/example/eta4/eta4/bench/FillFiguresLinesPinLaw", name := "expected", desc := "(Ljava/lang/String;JI)C" } : Jvm.MethodName) method_7_code (9 : Nat) (Option.some Jvm.ClassFile.FieldType.char)).before args0 about1 = true := code_word (m := ⟨1, 6⟩) (meth := k1m6) (c := k1c6) (by decide +kernel) rfl rfl rfl (by decide +kernel)
set_option maxRecDepth 65536 in
theorem w_c48 : (Jvm.Cond.code ({ cls := "java/lang/AbstractStringBuilder", name := "newCapacity", desc := "(I)I" } : Jvm.MethodName) jdk_68_method_10_code (6 : Nat) (Option.some Jvm.ClassFile.FieldType.int)).before args0 about1 = true := code_word (m := ⟨6, 4⟩) (meth := k6m4) (c := k6c4) (by decide +kernel) rfl rfl rfl (by decide +kernel)
set_option maxRecDepth 65536 in
theorem w_c49 : (Jvm.Cond.code ({ cls := "jdk/internal/util/ArraysSupport", name := "newLength", desc := "(III)I" } : Jvm.MethodName) jdk_48_method_27_code (4 : Nat) (Option.some Jvm.ClassFile.FieldType.int)).before args0 about1 = true := code_word (m := ⟨32, 1⟩) (meth := k32m1) (c := k32c1) (by decide +kernel) rfl rfl rfl (by decide +kernel)
set_option maxRecDepth 65536 in
theorem w_c50 : (Jvm.Cond.code ({ cls := "java/lang/Math", name := "max", desc := "(II)I" } : Jvm.MethodName) jdk_29_method_65_code (2 : Nat) (Option.some Jvm.ClassFile.FieldType.int)).before args0 about1 = true := code_word (m := ⟨18, 2⟩) (meth := k18m2) (c := k18c2) (by decide +kernel) rfl rfl rfl (by decide +kernel)
set_option maxRecDepth 65536 in
theorem w_c51 : (Jvm.Cond.code ({ cls := "java/util/Arrays", name := "copyOf", desc := "([BI)[B" } : Jvm.MethodName) jdk_65_method_121_code (3 : Nat) (Option.some (Jvm.ClassFile.FieldType.array Jvm.ClassFile.FieldType.byte))).before args0 about1 = true := code_word (m := ⟨17, 1⟩) (meth := k17m1) (c := k17c1) (by decide +kernel) rfl rfl rfl (by decide +kernel)
set_option maxRecDepth 65536 in
theorem w_c52 : (Jvm.Cond.code ({ cls := "java/lang/Math", name := "abs", desc := "(J)J" } : Jvm.MethodName) jdk_29_method_61_code (2 : Nat) (Option.some Jvm.ClassFile.FieldType.long)).before args0 about1 = true := code_word (m := ⟨18, 1⟩) (meth := k18m1) (c := k18c1) (by decide +kernel) rfl rfl rfl (by decide +kernel)
def codes1 : List Jvm.Cond := [Jvm.Cond.code x code maxLocals ret, Jvm.Cond.code ({ cls := "com/example/eta4/eta4/bench/FillFigures", name := "<init>", desc := "(JJ)V" } : Jvm.MethodName) prog_2_method_1_code (5 : Nat) (Option.none : Option Jvm.ClassFile.FieldType), Jvm.Cond.code ({ cls := "java/lang/Record", name := "<init>", desc := "()V" } : Jvm.MethodName) jdk_30_method_1_code (1 : Nat) (Option.none : Option Jvm.ClassFile.FieldType), Jvm.Cond.code ({ cls := "java/lang/Object", name := "<init>", desc := "()V" } : Jvm.MethodName) object_method_1_code (1 : Nat) (Option.none : Option Jvm.ClassFile.FieldType), Jvm.Cond.code ({ cls := "com/example/eta4/eta4/bench/FillFigures", name := "lines", desc := "()Ljava/util/List;" } : Jvm.MethodName) prog_2_method_2_code (1 : Nat) (Option.some (Jvm.ClassFile.FieldType.object "java/util/List")), Jvm.Cond.code ({ cls := "java/lang/StringBuilder", name := "<init>", desc := "()V" } : Jvm.MethodName) jdk_67_method_1_code (1 : Nat) (Option.none : Option Jvm.ClassFile.FieldType), Jvm.Cond.code ({ cls := "java/lang/AbstractStringBuilder", name := "<init>", desc := "(I)V" } : Jvm.MethodName) jdk_68_method_2_code (2 : Nat) (Option.none : Option Jvm.ClassFile.FieldType), Jvm.Cond.code ({ cls := "java/lang/StringBuilder", name := "append", desc := "(Ljava/lang/String;)Ljava/lang/StringBuilder;" } : Jvm.MethodName) jdk_67_method_7_code (2 : Nat) (Option.some (Jvm.ClassFile.FieldType.object "java/lang/StringBuilder")), Jvm.Cond.code ({ cls := "java/lang/AbstractStringBuilder", name := "append", desc := "(Ljava/lang/String;)Ljava/lang/AbstractStringBuilder;" } : Jvm.MethodName) jdk_68_method_22_code (3 : Nat) (Option.some (Jvm.ClassFile.FieldType.object "java/lang/AbstractStringBuilder")), Jvm.Cond.code ({ cls := "java/lang/String", name := "length", desc := "()I" } : Jvm.MethodName) jdk_42_method_54_code (1 : Nat) (Option.some Jvm.ClassFile.FieldType.int), Jvm.Cond.code ({ cls := "java/lang/String", name := "coder", desc := "()B" } : Jvm.MethodName) jdk_42_method_152_code (1 : Nat) (Option.some Jvm.ClassFile.FieldType.byte), Jvm.Cond.code ({ cls := "java/lang/AbstractStringBuilder", name := "ensureCapacityInternal", desc := "(I)V" } : Jvm.MethodName) jdk_68_method_9_code (3 : Nat) (Option.none : Option Jvm.ClassFile.FieldType), Jvm.Cond.code ({ cls := "java/lang/AbstractStringBuilder", name := "putStringAt", desc := "(ILjava/lang/String;)V" } : Jvm.MethodName) jdk_68_method_73_code (3 : Nat) (Option.none : Option Jvm.ClassFile.FieldType), Jvm.Cond.code ({ cls := "java/lang/AbstractStringBuilder", name := "inflateIfNeededFor", desc := "(Ljava/lang/String;)V" } : Jvm.MethodName) jdk_68_method_71_code (2 : Nat) (Option.none : Option Jvm.ClassFile.FieldType), Jvm.Cond.code ({ cls := "java/lang/String", name := "getBytes", desc := "([BIB)V" } : Jvm.MethodName) jdk_42_method_147_code (4 : Nat) (Option.none : Option Jvm.ClassFile.FieldType), Jvm.Cond.code ({ cls := "java/lang/StringBuilder", name := "append", desc := "(J)Ljava/lang/StringBuilder;" } : Jvm.MethodName) jdk_67_method_16_code (3 : Nat) (Option.some (Jvm.ClassFile.FieldType.object "java/lang/StringBuilder")), Jvm.Cond.code ({ cls := "java/lang/AbstractStringBuilder", name := "append", desc := "(J)Ljava/lang/AbstractStringBuilder;" } : Jvm.MethodName) jdk_68_method_33_code (5 : Nat) (Option.some (Jvm.ClassFile.FieldType.object "java/lang/AbstractStringBuilder")), Jvm.Cond.code ({ cls := "java/lang/Long", name := "stringSize", desc := "(J)I" } : Jvm.MethodName) jdk_35_method_15_code (6 : Nat) (Option.some Jvm.ClassFile.FieldType.int), Jvm.Cond.code ({ cls := "java/lang/AbstractStringBuilder", name := "isLatin1", desc := "()Z" } : Jvm.MethodName) jdk_68_method_68_code (1 : Nat) (Option.some Jvm.ClassFile.FieldType.boolean), Jvm.Cond.code ({ cls := "java/lang/Long", name := "getChars", desc := "(JI[B)I" } : Jvm.MethodName) jdk_35_method_14_code (11 : Nat) (Option.some Jvm.ClassFile.FieldType.int), Jvm.Cond.code ({ cls := "java/lang/StringBuilder", name := "toString", desc := "()Ljava/lang/String;" } : Jvm.MethodName) jdk_67_method_42_code (1 : Nat) (Option.some (Jvm.ClassFile.FieldType.object "java/lang/String")), Jvm.Cond.code ({ cls := "java/lang/String", name := "<init>", desc := "(Ljava/lang/StringBuilder;)V" } : Jvm.MethodName) jdk_42_method_53_code (2 : Nat) (Option.none : Option Jvm.ClassFile.FieldType), Jvm.Cond.code ({ cls := "java/lang/String", name := "<init>", desc := "(Ljava/lang/AbstractStringBuilder;Ljava/lang/Void;)V" } : Jvm.MethodName) jdk_42_method_150_code (5 : Nat) (Option.none : Option Jvm.ClassFile.FieldType), Jvm.Cond.code ({ cls := "java/lang/AbstractStringBuilder", name := "getValue", desc := "()[B" } : Jvm.MethodName) jdk_68_method_64_code (1 : Nat) (Option.some (Jvm.ClassFile.FieldType.array Jvm.ClassFile.FieldType.byte)), Jvm.Cond.code ({ cls := "java/lang/StringBuilder", name := "length", desc := "()I" } : Jvm.MethodName) jdk_67_method_93_code (1 : Nat) (Option.some Jvm.ClassFile.FieldType.int), Jvm.Cond.code ({ cls := "java/lang/AbstractStringBuilder", name := "length", desc := "()I" } : Jvm.MethodName) jdk_68_method_6_code (1 : Nat) (Option.some Jvm.ClassFile.FieldType.int), Jvm.Cond.code ({ cls := "java/util/Arrays", name := "copyOfRange", desc := "([BII)[B" } : Jvm.MethodName) jdk_65_method_132_code (3 : Nat) (Option.some (Jvm.ClassFile.FieldType.array Jvm.ClassFile.FieldType.byte)), Jvm.Cond.code ({ cls := "java/util/Arrays", name := "copyOfRangeByte", desc := "([BII)[B" } : Jvm.MethodName) jdk_65_method_133_code (5 : Nat) (Option.some (Jvm.ClassFile.FieldType.array Jvm.ClassFile.FieldType.byte)), Jvm.Cond.code ({ cls := "java/util/Arrays", name := "checkLength", desc := "(II)V" } : Jvm.MethodName) jdk_65_method_131_code (2 : Nat) (Option.none : Option Jvm.ClassFile.FieldType), Jvm.Cond.code ({ cls := "java/lang/Math", name := "min", desc := "(II)I" } : Jvm.MethodName) jdk_29_method_69_code (2 : Nat) (Option.some Jvm.ClassFile.FieldType.int), Jvm.Cond.code ({ cls := "java/util/List", name := "of", desc := "(Ljava/lang/Object;Ljava/lang/Object;)Ljava/util/List;" } : Jvm.MethodName) jdk_40_method_38_code (2 : Nat) (Option.some (Jvm.ClassFile.FieldType.object "java/util/List")), Jvm.Cond.code ({ cls := "java/util/ImmutableCollections$List12", name := "<init>", desc := "(Ljava/lang/Object;Ljava/lang/Object;)V" } : Jvm.MethodName) jdk_44_method_2_code (3 : Nat) (Option.none : Option Jvm.ClassFile.FieldType), Jvm.Cond.code ({ cls := "java/util/ImmutableCollections$AbstractImmutableList", name := "<init>", desc := "()V" } : Jvm.MethodName) jdk_46_method_1_code (1 : Nat) (Option.none : Option Jvm.ClassFile.FieldType), Jvm.Cond.code ({ cls := "java/util/ImmutableCollections$AbstractImmutableCollection", name := "<init>", desc := "()V" } : Jvm.MethodName) jdk_47_method_1_code (1 : Nat) (Option.none : Option Jvm.ClassFile.FieldType), Jvm.Cond.code ({ cls := "java/util/AbstractCollection", name := "<init>", desc := "()V" } : Jvm.MethodName) jdk_22_method_1_code (1 : Nat) (Option.none : Option Jvm.ClassFile.FieldType), Jvm.Cond.code ({ cls := "java/util/Objects", name := "requireNonNull", desc := "(Ljava/lang/Object;)Ljava/lang/Object;" } : Jvm.MethodName) jdk_31_method_10_code (1 : Nat) (Option.some (Jvm.ClassFile.FieldType.object "java/lang/Object")), Jvm.Cond.code ({ cls := "java/util/ImmutableCollections$List12", name := "size", desc := "()I" } : Jvm.MethodName) jdk_44_method_3_code (1 : Nat) (Option.some Jvm.ClassFile.FieldType.int), Jvm.Cond.code ({ cls := "java/util/ImmutableCollections$List12", name := "get", desc := "(I)Ljava/lang/Object;" } : Jvm.MethodName) jdk_44_method_5_code (2 : Nat) (Option.some (Jvm.ClassFile.FieldType.object "java/lang/Object")), Jvm.Cond.code ({ cls := "com/example/eta4/eta4/bench/FillFiguresLinesPinLaw", name := "lineOk", desc := "(Ljava/lang/String;Ljava/lang/String;JI)Z" } : Jvm.MethodName) method_3_code (7 : Nat) (Option.some Jvm.ClassFile.FieldType.boolean), Jvm.Cond.code ({ cls := "com/example/eta4/eta4/bench/FillFiguresLinesPinLaw", name := "digits", desc := "(J)I" } : Jvm.MethodName) method_6_code (2 : Nat) (Option.some Jvm.ClassFile.FieldType.int), Jvm.Cond.code ({ cls := "com/example/eta4/eta4/bench/FillFiguresLinesPinLaw", name := "more", desc := "(JI)I" } : Jvm.MethodName) method_5_code (3 : Nat) (Option.some Jvm.ClassFile.FieldType.int), Jvm.Cond.code ({ cls := "com/example/eta4/eta4/bench/FillFiguresLinesPinLaw", name := "pow10", desc := "(I)J" } : Jvm.MethodName) method_4_code (2 : Nat) (Option.some Jvm.ClassFile.FieldType.long), Jvm.Cond.code ({ cls := "java/lang/String", name := "charAt", desc := "(I)C" } : Jvm.MethodName) jdk_42_method_56_code (2 : Nat) (Option.some Jvm.ClassFile.FieldType.char), Jvm.Cond.code ({ cls := "java/lang/String", name := "isLatin1", desc := "()Z" } : Jvm.MethodName) jdk_42_method_154_code (1 : Nat) (Option.some Jvm.ClassFile.FieldType.boolean), Jvm.Cond.code ({ cls := "java/lang/StringLatin1", name := "charAt", desc := "([BI)C" } : Jvm.MethodName) jdk_43_method_2_code (2 : Nat) (Option.some Jvm.ClassFile.FieldType.char), Jvm.Cond.code ({ cls := "java/lang/String", name := "checkIndex", desc := "(II)V" } : Jvm.MethodName) jdk_42_method_155_code (2 : Nat) (Option.none : Option Jvm.ClassFile.FieldType), Jvm.Cond.code ({ cls := "jdk/internal/util/Preconditions", name := "checkIndex", desc := "(IILjava/util/function/BiFunction;)I" } : Jvm.MethodName) jdk_41_method_11_code (3 : Nat) (Option.some Jvm.ClassFile.FieldType.int), Jvm.Cond.code ({ cls := "com/example/eta4/eta4/bench/FillFiguresLinesPinLaw", name := "expected", desc := "(Ljava/lang/String;JI)C" } : Jvm.MethodName) method_7_code (9 : Nat) (Option.some Jvm.ClassFile.FieldType.char), Jvm.Cond.code ({ cls := "java/lang/AbstractStringBuilder", name := "newCapacity", desc := "(I)I" } : Jvm.MethodName) jdk_68_method_10_code (6 : Nat) (Option.some Jvm.ClassFile.FieldType.int), Jvm.Cond.code ({ cls := "jdk/internal/util/ArraysSupport", name := "newLength", desc := "(III)I" } : Jvm.MethodName) jdk_48_method_27_code (4 : Nat) (Option.some Jvm.ClassFile.FieldType.int), Jvm.Cond.code ({ cls := "java/lang/Math", name := "max", desc := "(II)I" } : Jvm.MethodName) jdk_29_method_65_code (2 : Nat) (Option.some Jvm.ClassFile.FieldType.int), Jvm.Cond.code ({ cls := "java/util/Arrays", name := "copyOf", desc := "([BI)[B" } : Jvm.MethodName) jdk_65_method_121_code (3 : Nat) (Option.some (Jvm.ClassFile.FieldType.array Jvm.ClassFile.FieldType.byte)), Jvm.Cond.code ({ cls := "java/lang/Math", name := "abs", desc := "(J)J" } : Jvm.MethodName) jdk_29_method_61_code (2 : Nat) (Option.some Jvm.ClassFile.FieldType.long)]
set_option maxRecDepth 65536 in
theorem codes_eq : words1.filter isCode = codes1 := rfl
theorem w_codes : ∀ c ∈ words1.filter isCode, c.before args0 about1 = true := by
  rw [codes_eq]
  intro c hc
  simp only [codes1, List.mem_cons, List.not_mem_nil, or_false] at hc
  rcases hc with rfl | rfl | rfl | rfl | rfl | rfl | rfl | rfl | rfl | rfl | rfl | rfl | rfl | rfl | rfl | rfl | rfl | rfl | rfl | rfl | rfl | rfl | rfl | rfl | rfl | rfl | rfl | rfl | rfl | rfl | rfl | rfl | rfl | rfl | rfl | rfl | rfl | rfl | rfl | rfl | rfl | rfl | rfl | rfl | rfl | rfl | rfl | rfl | rfl | rfl | rfl | rfl | rfl
  · exact w_c0
  · exact w_c1
  · exact w_c2
  · exact w_c3
  · exact w_c4
  · exact w_c5
  · exact w_c6
  · exact w_c7
  · exact w_c8
  · exact w_c9
  · exact w_c10
  · exact w_c11
  · exact w_c12
  · exact w_c13
  · exact w_c14
  · exact w_c15
  · exact w_c16
  · exact w_c17
  · exact w_c18
  · exact w_c19
  · exact w_c20
  · exact w_c21
  · exact w_c22
  · exact w_c23
  · exact w_c24
  · exact w_c25
  · exact w_c26
  · exact w_c27
  · exact w_c28
  · exact w_c29
  · exact w_c30
  · exact w_c31
  · exact w_c32
  · exact w_c33
  · exact w_c34
  · exact w_c35
  · exact w_c36
  · exact w_c37
  · exact w_c38
  · exact w_c39
  · exact w_c40
  · exact w_c41
  · exact w_c42
  · exact w_c43
  · exact w_c44
  · exact w_c45
  · exact w_c46
  · exact w_c47
  · exact w_c48
  · exact w_c49
  · exact w_c50
  · exact w_c51
  · exact w_c52
set_option maxRecDepth 65536 in
theorem w_t1 : (words1.take 24).all (fun c => isCode c || c.before args0 about1) = true := by decide +kernel
set_option maxRecDepth 65536 in
theorem w_t2 : ((words1.drop 24).take 24).all (fun c => isCode c || c.before args0 about1) = true := by decide +kernel
set_option maxRecDepth 65536 in
theorem w_t3 : (((words1.drop 24).drop 24).take 24).all (fun c => isCode c || c.before args0 about1) = true := by decide +kernel
set_option maxRecDepth 65536 in
theorem w_t4 : ((((words1.drop 24).drop 24).drop 24).take 24).all (fun c => isCode c || c.before args0 about1) = true := by decide +kernel
set_option maxRecDepth 65536 in
theorem w_t5 : (((((words1.drop 24).drop 24).drop 24).drop 24).take 24).all (fun c => isCode c || c.before args0 about1) = true := by decide +kernel
set_option maxRecDepth 65536 in
theorem w_t6 : ((((((words1.drop 24).drop 24).drop 24).drop 24).drop 24).take 24).all (fun c => isCode c || c.before args0 about1) = true := by decide +kernel
set_option maxRecDepth 65536 in
theorem w_t7 : (((((((words1.drop 24).drop 24).drop 24).drop 24).drop 24).drop 24).take 24).all (fun c => isCode c || c.before args0 about1) = true := by decide +kernel
set_option maxRecDepth 65536 in
theorem w_t8 : ((((((((words1.drop 24).drop 24).drop 24).drop 24).drop 24).drop 24).drop 24).take 24).all (fun c => isCode c || c.before args0 about1) = true := by decide +kernel
set_option maxRecDepth 65536 in
theorem w_t9 : (((((((((words1.drop 24).drop 24).drop 24).drop 24).drop 24).drop 24).drop 24).drop 24).take 24).all (fun c => isCode c || c.before args0 about1) = true := by decide +kernel
set_option maxRecDepth 65536 in
theorem w_t10 : ((((((((((words1.drop 24).drop 24).drop 24).drop 24).drop 24).drop 24).drop 24).drop 24).drop 24).take 24).all (fun c => isCode c || c.before args0 about1) = true := by decide +kernel
set_option maxRecDepth 65536 in
theorem w_t11 : (((((((((((words1.drop 24).drop 24).drop 24).drop 24).drop 24).drop 24).drop 24).drop 24).drop 24).drop 24).take 24).all (fun c => isCode c || c.before args0 about1) = true := by decide +kernel
set_option maxRecDepth 65536 in
theorem w_t12 : ((((((((((((words1.drop 24).drop 24).drop 24).drop 24).drop 24).drop 24).drop 24).drop 24).drop 24).drop 24).drop 24).take 24).all (fun c => isCode c || c.before args0 about1) = true := by decide +kernel
set_option maxRecDepth 65536 in
theorem w_t13 : (((((((((((((words1.drop 24).drop 24).drop 24).drop 24).drop 24).drop 24).drop 24).drop 24).drop 24).drop 24).drop 24).drop 24).take 24).all (fun c => isCode c || c.before args0 about1) = true := by decide +kernel
set_option maxRecDepth 65536 in
theorem w_t14 : (((((((((((((words1.drop 24).drop 24).drop 24).drop 24).drop 24).drop 24).drop 24).drop 24).drop 24).drop 24).drop 24).drop 24).drop 24).all (fun c => isCode c || c.before args0 about1) = true := by decide +kernel
theorem w_tables : (allAtoms (Jvm.Cond.code x code maxLocals ret :: tables_1)).before args0 about1 = true := by
  rw [allAtoms_all]
  show words1.all (fun c => c.before args0 about1) = true
  refine all_split ?_ w_codes
  rw [← List.take_append_drop 24 words1, List.all_append, w_t1, ← List.take_append_drop 24 (words1.drop 24), List.all_append, w_t2, ← List.take_append_drop 24 ((words1.drop 24).drop 24), List.all_append, w_t3, ← List.take_append_drop 24 (((words1.drop 24).drop 24).drop 24), List.all_append, w_t4, ← List.take_append_drop 24 ((((words1.drop 24).drop 24).drop 24).drop 24), List.all_append, w_t5, ← List.take_append_drop 24 (((((words1.drop 24).drop 24).drop 24).drop 24).drop 24), List.all_append, w_t6, ← List.take_append_drop 24 ((((((words1.drop 24).drop 24).drop 24).drop 24).drop 24).drop 24), List.all_append, w_t7, ← List.take_append_drop 24 (((((((words1.drop 24).drop 24).drop 24).drop 24).drop 24).drop 24).drop 24), List.all_append, w_t8, ← List.take_append_drop 24 ((((((((words1.drop 24).drop 24).drop 24).drop 24).drop 24).drop 24).drop 24).drop 24), List.all_append, w_t9, ← List.take_append_drop 24 (((((((((words1.drop 24).drop 24).drop 24).drop 24).drop 24).drop 24).drop 24).drop 24).drop 24), List.all_append, w_t10, ← List.take_append_drop 24 ((((((((((words1.drop 24).drop 24).drop 24).drop 24).drop 24).drop 24).drop 24).drop 24).drop 24).drop 24), List.all_append, w_t11, ← List.take_append_drop 24 (((((((((((words1.drop 24).drop 24).drop 24).drop 24).drop 24).drop 24).drop 24).drop 24).drop 24).drop 24).drop 24), List.all_append, w_t12, ← List.take_append_drop 24 ((((((((((((words1.drop 24).drop 24).drop 24).drop 24).drop 24).drop 24).drop 24).drop 24).drop 24).drop 24).drop 24).drop 24), List.all_append, w_t13, w_t14]
  rfl
set_option maxRecDepth 65536 in
theorem w_rest : rest_1_c.before args0 about1 = true := by decide +kernel
set_option maxRecDepth 65536 in
theorem w_case : (Jvm.Cond.and given_1 narrow_1).before args0 about1 = true := by decide +kernel
set_option maxRecDepth 65536 in
theorem w_consts : constsHeld consts_1 about1 := Jvm.Lit.constsHeldB_iff.mp (by decide +kernel)
theorem w_applies : (headSpec (Jvm.Cond.code x code maxLocals ret :: tables_1) room_1).applies x e0.platform about1 = true :=
  (Spec.applies_iff w_frames).mpr ⟨w_running, w_runnable, w_alone, w_named, w_hears, w_ripe, w_room, w_tables⟩
theorem atStart : AtStart classFile x code maxLocals ret World_1 tables_1 room_1 Calls_1 rest_1 Pre_1 launch0 p0 e0 about1 theMethod args0 below0 :=
  ⟨lists_1, trivial, launch0.admits_env _ _ _, launch0.least_env, fairChoices_fair.cas, fairChoices_fair.clock, w_frames, w_args, w_heap, w_applies, ⟨w_consts, trivial⟩, w_rest, w_case⟩
end start1
theorem witness_1 : WitnessClaimed_1 := ⟨start1.p0, start1.e0, start1.about1, start1.theMethod, start1.args0, start1.below0, start1.atStart⟩
end Jvm.Pilot.@@N@@
