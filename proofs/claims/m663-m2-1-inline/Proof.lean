import JvmDerived
import JvmDerived.Pilot.@@N@@Statement
import JvmDerived.Pilot.@@N@@Code
set_option linter.unusedVariables false
set_option linter.unusedSimpArgs false
namespace Jvm.RoadKit
open Sem ClassFile Op Lib Jvm.Stand Jvm.Free Jvm.LawKit
section New
variable {p : Program} {l : Launch} {e : Env} {R : Room} {s : State} {m : MethodId} {args : Array Value} {below : List Frame} {meth : Method} {c : Code} {T : State} {locs : List Loc} {cells slots : Nat}
theorem retI (X : Stand p l e R s m args below meth c T locs cells slots) (hx : p.tables.exec = Jvm.exec) {pc : Nat} {Ls : Array Slot} {z : Int32} {rest : List Value} (hret : meth.sig.returnType = some .int) (hd : decode c.code pc = .ok (.ireturn, 1)) {fs : List Frame}
    (hl : ∀ (f : JFrame) (acts : List Action), f.method = m → f.locked = none → f.entered = [] → (doReturn e (T.setTop f) acts (some (.int z))).1 = T.setFrames fs) : Steps p.tables e below (T.setTop (mkF m pc Ls (.int z :: rest))) (T.setFrames fs) := by
  have hm' : T.vm.method? m = some meth := X.method'
  have hn : narrow .int (.int z) = .int z := rfl
  show Steps p.tables e below (T.setTop { method := m, pc := pc, locals := Ls, stack := _ :: rest, locked := none }) _
  jvm_step X.here [X.here.top, hx, hd, hm', hret, hn]
  first | (intro acts; rw [hl _ acts rfl rfl rfl]) | rw [hl _ _ rfl rfl rfl]
  exact Steps.refl _
theorem lremM {g : JFrame} {target : State} (X : Stand p l e R s m args below meth c T locs cells slots) (hx : p.tables.exec = Jvm.exec) (hg : g.method = m) {x y : Int64} {rest : List Value} (hd : decode c.code g.pc = .ok (.lrem, 1)) (hs : g.stack = .long y :: .long x :: rest) (hy : y ≠ 0)
    (hr : Steps p.tables e below (T.setTop { g with pc := g.pc + 1, stack := .long (x % y) :: rest }) target) : Steps p.tables e below (T.setTop g) target := by
  have q : x - x / y * y = x % y := lrem_mod x y
  exact XS.lrem X.here hx hg hd hs hy (by rw [q]; exact hr)
theorem own_mvX (X : Stand p l e R s m args below meth c T locs cells slots) {a b : Nat} (y : cells = a) (z : slots = b) : Stand p l e R s m args below meth c T locs a b := by subst y z; exact X
theorem own_mvN {k : Nat} {A B L : List Loc} (q : L = A ++ B) (N : Fr k A) (N' : Fr k B) : Fr k L := q ▸ N.app N'
end New
section Own
variable {Z : State} {h0 h h' : Heap} {ws ws' : List (Addr × Nat)} {wa wa' : List Addr} {a : Addr} {sl : Nat} {v : Value} {C n d : String}
/-- own: what a call leaves as it was, by places (ws) and whole cells (wa): every cell is kept in class, kind and size; a place that isn't listed keeps its value -/
def KSx (h h' : Heap) (ws : List (Addr × Nat)) (wa : List Addr) : Prop := h.size ≤ h'.size ∧ ∀ (x : Addr) (c : Cell), h[x]? = some c → ∃ c' : Cell, h'[x]? = some c' ∧ c'.cls = c.cls ∧ c'.vm = c.vm ∧ c'.slots.size = c.slots.size ∧ (∀ j, (∀ p ∈ ws, x ≠ p.1 ∨ j ≠ p.2) → (∀ p ∈ wa, x ≠ p) → c'.slots[j]? = c.slots[j]?) ∧ ((c.vm.isStatics = true ∨ ((∀ p ∈ ws, x ≠ p.1) ∧ ∀ p ∈ wa, x ≠ p)) → c' = c)
theorem ks0 {P : Addr × Nat → Prop} : ∀ p ∈ ([] : List (Addr × Nat)), P p := fun _ q => nomatch q
theorem ksS {P : Addr × Nat → Prop} {y : Addr × Nat} {L : List (Addr × Nat)} (q : P y) (r : ∀ p ∈ L, P p) : ∀ p ∈ y :: L, P p := fun x z => (List.mem_cons.mp z).elim (fun u => u ▸ q) (r x)
theorem KSx.refl (h : Heap) (ws : List (Addr × Nat)) (wa : List Addr) : KSx h h ws wa := ⟨Nat.le_refl _, fun _ c q => ⟨c, q, rfl, rfl, rfl, fun _ _ _ => rfl, fun _ => rfl⟩⟩
theorem KSx.ext (K : KSx h0 h ws wa) (E : Ext h h') : KSx h0 h' ws wa := ⟨Nat.le_trans K.1 E.1, fun x c q => by obtain ⟨c', q', r⟩ := K.2 x c q; exact ⟨c', E.2 x c' q', r⟩⟩
theorem KSx.trans (K : KSx h0 h ws wa) (K' : KSx h h' ws' wa') (q : ∀ p ∈ ws', p ∈ ws ∨ h0.size ≤ p.1) (q2 : ∀ p ∈ wa', p ∈ wa ∨ h0.size ≤ p) : KSx h0 h' ws wa := by
  refine ⟨Nat.le_trans K.1 K'.1, fun x c hc => ?_⟩
  obtain ⟨c1, a1, a2, a3, a4, a5, a6⟩ := K.2 x c hc
  obtain ⟨c2, b1, b2, b3, b4, b5, b6⟩ := K'.2 x c1 a1
  have hx : x < h0.size := (Array.getElem?_eq_some_iff.mp hc).1
  refine ⟨c2, b1, b2.trans a2, b3.trans a3, b4.trans a4, fun j hj hj2 => ?_, fun hs => ?_⟩
  · refine (b5 j (fun p hp => ?_) fun p hp => ?_).trans (a5 j hj hj2)
    · rcases q p hp with w | g
      · exact hj p w
      · exact Or.inl fun e => by subst e; exact absurd hx (Nat.not_lt.mpr g)
    · rcases q2 p hp with w | g
      · exact hj2 p w
      · exact fun e => by subst e; exact absurd hx (Nat.not_lt.mpr g)
  · have e1 : c1 = c := a6 hs
    refine (b6 ?_).trans e1
    rcases hs with w | ⟨w, w2⟩
    · exact Or.inl (by rw [e1]; exact w)
    · refine Or.inr ⟨fun p hp => ?_, fun p hp => ?_⟩
      · rcases q p hp with y | g
        · exact w p y
        · exact fun e => by subst e; exact absurd hx (Nat.not_lt.mpr g)
      · rcases q2 p hp with y | g
        · exact w2 p y
        · exact fun e => by subst e; exact absurd hx (Nat.not_lt.mpr g)
theorem KSx.of_wr (W : Wr h h' a sl v) : KSx h h' [(a, sl)] [] := by
  refine ⟨Nat.le_of_eq W.size.symm, fun x c hc => ?_⟩
  obtain ⟨c', e1, e2, e3, e4, e5, e6, e7⟩ := wr_at W hc
  refine ⟨c', e1, e2, e3, e4, fun j hj _ => ?_, fun hs => ?_⟩
  · rcases hj (a, sl) (List.mem_singleton.mpr rfl) with y | y
    · rw [e5 y]
    · exact e6 j y
  · rcases hs with y | y
    · by_cases z : x = a
      · rw [(e7 z).2.2] at y; cases y
      · exact e5 z
    · exact e5 (y.1 (a, sl) (List.mem_singleton.mpr rfl))
theorem KSx.of_wrA (W : Wr h h' a sl v) : KSx h h' [] [a] := by
  refine ⟨Nat.le_of_eq W.size.symm, fun x c hc => ?_⟩
  obtain ⟨c', e1, e2, e3, e4, e5, e6, e7⟩ := wr_at W hc
  refine ⟨c', e1, e2, e3, e4, fun j _ hj => ?_, fun hs => ?_⟩
  · rw [e5 (hj a (List.mem_singleton.mpr rfl))]
  · rcases hs with y | y
    · by_cases z : x = a
      · rw [(e7 z).2.2] at y; cases y
      · exact e5 z
    · exact e5 (y.2 a (List.mem_singleton.mpr rfl))
theorem KSx.wr (K : KSx h0 h ws wa) (W : Wr h h' a sl v) (q : (a, sl) ∈ ws ∨ h0.size ≤ a) : KSx h0 h' ws wa := K.trans (KSx.of_wr W) (fun p hp => by cases List.mem_singleton.mp hp; exact q) all0
theorem KSx.wrA (K : KSx h0 h ws wa) (W : Wr h h' a sl v) (q : a ∈ wa ∨ h0.size ≤ a) : KSx h0 h' ws wa := K.trans (KSx.of_wrA W) ks0 (fun p hp => by cases List.mem_singleton.mp hp; exact q)
theorem KSx.of_keep {L : List Addr} (K : Keep h h' L) (hs : ∀ x ∈ L, ∀ cell : Cell, h[x]? = some cell → cell.vm.isStatics = false) : KSx h h' [] L := by
  refine ⟨K.1, fun x c hc => ?_⟩
  obtain ⟨c', e1, e2, e3, e4⟩ := K.2.2 x c hc
  have key : (∀ p ∈ L, x ≠ p) → c' = c := fun q => Option.some.inj (e1.symm.trans (K.2.1 x c hc fun m => q x m rfl))
  refine ⟨c', e1, e2, e3, e4, fun j _ hj => by rw [key hj], fun hst => ?_⟩
  rcases hst with y | y
  · by_cases z : x ∈ L
    · rw [hs x z c hc] at y; cases y
    · exact key fun p hp e => z (e ▸ hp)
  · exact key y.2
theorem Fld.ks (F : Fld Z h a C n d v) (K : KSx h h' ws wa) (q : ∀ p ∈ ws, a ≠ p.1 ∨ slotOf Z C n d ≠ p.2) (q2 : ∀ p ∈ wa, a ≠ p) : Fld Z h' a C n d v := by
  obtain ⟨cell, cf, k, i, f, h1, h2, h3, h4, h5, h6, h7⟩ := F
  obtain ⟨c', e1, e2, e3, -, e5, -⟩ := K.2 _ _ h1
  refine ⟨c', cf, k, i, f, e1, h2, h3, by rw [e3]; exact h4, by rw [e3]; exact h5, by rw [e2]; exact h6, ?_⟩
  refine (e5 _ (fun p hp => ?_) q2).trans h7
  simpa [slotOf, h2] using q p hp
theorem Exa.ks (F : Exa Z h a C) (K : KSx h h' ws wa) : Exa Z h' a C := by
  obtain ⟨cell, k, h1, h2, h3, h4, h5⟩ := F
  obtain ⟨c', e1, e2, e3, e4, -⟩ := K.2 _ _ h1
  exact ⟨c', k, e1, by rw [e2]; exact h2, by rw [e2]; exact h3, by rw [e3]; exact h4, by rw [e4]; exact h5⟩
theorem Sta.ks (F : Sta Z h C n d v) (K : KSx h h' ws wa) : Sta Z h' C n d v := by
  obtain ⟨cf, i, k, f, st, cell, h1, h2, h3, h4, h5, h6, h7⟩ := F
  obtain ⟨c', e1, -, -, -, -, e6⟩ := K.2 _ _ h5
  exact ⟨cf, i, k, f, st, cell, h1, h2, h3, h4, (e6 (Or.inl h6)) ▸ e1, h6, h7⟩
theorem Arr.ks {c : Cell} {ty : FieldType} (F : Arr Z h a c ty) (K : KSx h h' ws wa) (q : ∀ p ∈ ws, a ≠ p.1) (q2 : ∀ p ∈ wa, a ≠ p) : Arr Z h' a c ty := by
  obtain ⟨c', e1, -, -, -, -, e6⟩ := K.2 _ _ F.1
  exact ⟨(e6 (Or.inr ⟨q, q2⟩)) ▸ e1, F.2⟩
theorem Arv.ks {k : ClassId} {ty : FieldType} {z : Int32} {vs : List Value} {dv : Value} (F : Arv Z h a k ty z vs dv) (K : KSx h h' ws wa) (q : ∀ p ∈ ws, a ≠ p.1) (q2 : ∀ p ∈ wa, a ≠ p) : Arv Z h' a k ty z vs dv := by obtain ⟨c, A, r⟩ := F; exact ⟨c, A.ks K q q2, r⟩
theorem own_fi {args : Array Value} {s : State} {t : Term} {k : Int32} (ht : t.eval args s none [] s = some (.ref a)) (hq : (Cond.eq (.field t C n d) (.int k)).value args s none s [] = some true) : Fld s s.heap a C n d (.int k) := by
  have e2 : (Term.int k).eval args s none [] s = some (.int k) := Term.int_eval k
  obtain ⟨x, y, e1, e3, -, k2⟩ := cmp_v (Or.inl hq)
  cases e2.symm.trans e3
  obtain ⟨z, rfl⟩ := k2
  have q : z = k := by simpa [Cond.value, e1, e2] using hq
  subst q
  exact Fld.start (by rw [← fld_at ht]; exact e1)
theorem own_fr {args : Array Value} {s : State} {t u : Term} {b : Addr} (ht : t.eval args s none [] s = some (.ref a)) (hu : u.eval args s none [] s = some (.ref b)) (hq : (Cond.eq (.field t C n d) u).value args s none s [] = some true) : Fld s s.heap a C n d (.ref b) := by
  obtain ⟨x, y, e1, e3, k1, k2⟩ := cmp_v (Or.inl hq)
  cases hu.symm.trans e3
  have hr : x.isRef = true := k2.2
  have q : x = .ref b := gotT (eq_R e1 hu hr rfl) hq
  subst q
  exact Fld.start (by rw [← fld_at ht]; exact e1)
theorem own_len {args : Array Value} {s : State} {t : Term} {k : Int32} {cl : Cell} {ty : FieldType} (ht : t.eval args s none [] s = some (.ref a)) (A : Arr s s.heap a cl ty) (hq : (Cond.eq (.length t) (.int k)).value args s none s [] = some true) : cl.slots.size < 2 ^ 31 ∧ cl.slots.size.toInt32 = k := by
  have e2 : (Term.int k).eval args s none [] s = some (.int k) := Term.int_eval k
  have ha : s.arrayAt? a = some cl := A.fin (Vm.Alike.refl _)
  obtain ⟨x, y, e1, e3, -, k2⟩ := cmp_v (Or.inl hq)
  cases e2.symm.trans e3
  obtain ⟨z, rfl⟩ := k2
  have q : z = k := by simpa [Cond.value, e1, e2] using hq
  subst q
  by_cases hl : cl.slots.size < 2 ^ 31
  · rw [len_f ht ha hl] at e1
    cases e1; exact ⟨hl, rfl⟩
  · simp [Term.eval, ht, ha, hl] at e1
theorem own_el {args : Array Value} {s : State} {t u : Term} {k : Int32} {b : Addr} {cl : Cell} {ty : FieldType} (ht : t.eval args s none [] s = some (.ref a)) (hu : u.eval args s none [] s = some (.ref b)) (A : Arr s s.heap a cl ty) (hq : (Cond.eq (.elem t (.int k)) u).value args s none s [] = some true) : cl.slots[k.toNatClampNeg]? = some (.ref b) := by
  obtain ⟨x, y, e1, e3, k1, k2⟩ := cmp_v (Or.inl hq)
  cases hu.symm.trans e3
  have q : x = .ref b := gotT (eq_R e1 hu k2.2 rfl) hq
  subst q
  exact (elem_in e1 ht (Term.int_eval k) A.1).2
theorem own_sel {s : State} {a0 args : Array Value} {y : MethodName} {k : Nat} (hZ : Z.Warmed39 s.vm) (wi : (Cond.instantiable y.cls k).before a0 Z = true) (wp : (Cond.privateMethod y).before a0 Z = true) (wm : (Cond.instanceMethod y).before a0 Z = true) (hy : y.cls ≠ "java/lang/invoke/MethodHandle" ∧ y.cls ≠ "java/lang/invoke/VarHandle") : (Cond.selects y.cls y y).before args s = true := by
  obtain ⟨c, kc, h1, h2, -, h4, -⟩ := Cond.instantiable_spec (mvT (args := args) hZ wi)
  exact selects_self_of_private h1 h2 (Bool.or_eq_false_iff.mp h4).1 (Cond.privateMethod_at (mvP hZ wp (args := args))) (mvT hZ wm) hy
end Own
end Jvm.RoadKit
namespace Jvm.RoadKit
open Sem ClassFile Op Lib Jvm.Stand Jvm.Free Jvm.LawKit
section BAs
variable {Z : State} {h h' : Heap} {a b : Addr} {k k' : ClassId} {ty : FieldType} {z z' : Int32} {f g : Nat → Int32} {ws : List (Addr × Nat)} {wa : List Addr} {sl : Nat} {v : Value}
/-- own: an array of ints (bytes, chars) as a function -/
def BA (Z : State) (h : Heap) (a : Addr) (k : ClassId) (ty : FieldType) (z : Int32) (f : Nat → Int32) : Prop := ∃ c : Cell, Arr Z h a c ty ∧ c.cls = k ∧ c.slots.size = z.toNatClampNeg ∧ ¬ z < 0 ∧ (∀ i, i < c.slots.size → c.slots[i]? = some (.int (f i))) ∧ ∀ i, i < c.slots.size → fits ty (.int (f i)) = true
theorem BA.lt (F : BA Z h a k ty z f) : a < h.size := by obtain ⟨c, A, -⟩ := F; exact A.lt
theorem BA.ext (F : BA Z h a k ty z f) (E : Ext h h') : BA Z h' a k ty z f := by obtain ⟨c, A, r⟩ := F; exact ⟨c, A.ext E, r⟩
theorem BA.other (F : BA Z h b k ty z f) (W : Wr h h' a sl v) (q : b ≠ a) : BA Z h' b k ty z f := by obtain ⟨c, A, r⟩ := F; exact ⟨c, A.other W q, r⟩
theorem BA.ks (F : BA Z h a k ty z f) (K : KSx h h' ws wa) (q : ∀ p ∈ ws, a ≠ p.1) (q2 : ∀ p ∈ wa, a ≠ p) : BA Z h' a k ty z f := by obtain ⟨c, A, r⟩ := F; exact ⟨c, A.ks K q q2, r⟩
theorem BA.congr (F : BA Z h a k ty z f) (e : ∀ i, i < z.toNatClampNeg → f i = g i) : BA Z h a k ty z g := by
  obtain ⟨c, A, q1, S, q3, H, G⟩ := F
  exact ⟨c, A, q1, S, q3, fun i hi => by rw [← e i (S ▸ hi)]; exact H i hi, fun i hi => by rw [← e i (S ▸ hi)]; exact G i hi⟩
theorem BA.set {x j : Int32} (F : BA Z h a k ty z f) (W : Wr h h' a j.toNatClampNeg (.int x)) (hf : fits ty (.int x) = true) : BA Z h' a k ty z (fun i => if i = j.toNatClampNeg then x else f i) := by
  obtain ⟨c, A, q1, S, q3, H, G⟩ := F
  have hs : (c.setSlot j.toNatClampNeg (.int x)).slots.size = c.slots.size := by simp [Cell.setSlot]
  refine ⟨_, A.same W, q1, by rw [hs]; exact S, q3, fun i hi => ?_, fun i hi => ?_⟩
  · rw [hs] at hi
    show _ = some (Value.int (if i = j.toNatClampNeg then x else f i))
    by_cases e : i = j.toNatClampNeg
    · subst e; simp [Cell.setSlot, hi]
    · rw [if_neg e]
      refine Eq.trans ?_ (H i hi)
      simp only [Cell.setSlot]
      exact Array.getElem?_setIfInBounds_ne (Ne.symm e)
  · rw [hs] at hi
    show fits ty (Value.int (if i = j.toNatClampNeg then x else f i)) = true
    by_cases e : i = j.toNatClampNeg
    · rw [if_pos e]; exact hf
    · rw [if_neg e]; exact G i hi
theorem BA.new (A : Arr Z h a (newA k ty z) ty) (q : ¬ z < 0) (hd : defaultValue ty = .int 0) (hf : fits ty (.int 0) = true) : BA Z h a k ty z (fun _ => 0) :=
  ⟨_, A, rfl, sz_new _ _ _, q, fun i hi => by rw [← hd]; simp only [newA] at hi ⊢; rw [Array.size_replicate] at hi; simp [hi], fun _ _ => hf⟩
theorem BA.arv (F : BA Z h a k ty z f) {vs : List Value} (hv : ∀ i, i < z.toNatClampNeg → vs.getD i (.int 0) = .int (f i)) : Arv Z h a k ty z vs (.int 0) := by
  obtain ⟨c, A, q1, S, q3, H, G⟩ := F
  exact ⟨c, A, q1, S, q3, fun i hi => by rw [hv i (S ▸ hi)]; exact H i hi, fun i hi => by rw [hv i (S ▸ hi)]; exact G i hi⟩
theorem BA.of_arv {vs : List Value} {dv : Value} (F : Arv Z h a k ty z vs dv) (hv : ∀ i, i < z.toNatClampNeg → vs.getD i dv = .int (f i)) : BA Z h a k ty z f := by
  obtain ⟨c, A, q1, S, q3, H, G⟩ := F
  exact ⟨c, A, q1, S, q3, fun i hi => by rw [← hv i (S ▸ hi)]; exact H i hi, fun i hi => by rw [← hv i (S ▸ hi)]; exact G i hi⟩
def vls (n : Nat) (f : Nat → Int32) : List Value := (List.range n).map fun i => Value.int (f i)
theorem vls_at {n i : Nat} {d : Value} (hi : i < n) : (vls n f).getD i d = .int (f i) := by simp [vls, hi]
theorem BA.vls (F : BA Z h a k ty z f) : Arv Z h a k ty z (vls z.toNatClampNeg f) (.int 0) := F.arv fun i hi => vls_at hi
theorem BA.nostat (F : BA Z h a k ty z f) : ∀ cell : Cell, h[a]? = some cell → cell.vm.isStatics = false := by obtain ⟨c, A, -⟩ := F; exact A.nostat
variable {p : Program} {l : Launch} {e : Env} {R : Room} {s : State} {m : MethodId} {args : Array Value} {below : List Frame} {meth : Method} {c : Code} {T : State} {locs : List Loc} {cells slots : Nat}
theorem cpB (X : Stand p l e R s m args below meth c T locs cells slots) (hx : p.tables.exec = Jvm.exec) (hZ : Z.Warmed39 s.vm) {a0 : Array Value} {own : String} {index : Nat} (hown : s.vm.findClass own = some m.cls)
    (w1 : (Cond.methodLink own index Jvm.Stand.acN).before a0 Z = true) (w2 : (Cond.native Jvm.Stand.acN).before a0 Z = true) (w3 : (Cond.static Jvm.Stand.acN).before a0 Z = true) (w4 : (Cond.initialized "java/lang/System").before a0 Z = true) (eT : T.heap = h)
    {sp dp nn : Int32} (A : BA Z h a k ty z f) (B : BA Z h b k' ty z' g) (hty : refKind ty = false)
    (h1 : ¬ sp < 0) (h2 : ¬ dp < 0) (h3 : ¬ nn < 0) (h4 : sp.toNatClampNeg + nn.toNatClampNeg ≤ z.toNatClampNeg) (h5 : dp.toNatClampNeg + nn.toNatClampNeg ≤ z'.toNatClampNeg) {n0 : Nat} (N : Fr n0 locs) (ge : n0 ≤ b)
    {g0 : JFrame} (hg : g0.method = m) (hsize : g0.locals.size = c.maxLocals) {rest : List Value} (hs : g0.stack = .int nn :: .int dp :: .ref b :: .int sp :: .ref a :: rest) (hd : decode c.code g0.pc = .ok (.invokestatic index, 3))
    (hf : 1 ≤ R.frames) {W : Nat} (hW : 2 * g0.monitorRoom + (rest.map fun v => v.category).sum ≤ W) (hlo : W + (nativeFrameWords "java/lang/System" "arraycopy" 5 + 11) ≤ R.locals) :
    ∃ T' h' L, Stand p l e R s m args below meth c T' L cells slots ∧ T'.heap = h' ∧ Fr n0 L ∧ KSx h h' [] [b] ∧ BA Z h' b k' ty z' (fun i => if dp.toNatClampNeg ≤ i ∧ i < dp.toNatClampNeg + nn.toNatClampNeg then f (sp.toNatClampNeg + (i - dp.toNatClampNeg)) else g i) ∧
      ∀ target, Steps p.tables e below (T'.setTop { g0 with pc := g0.pc + 3, stack := rest }) target → Steps p.tables e below (T.setTop g0) target := by
  have hl : (vls z'.toNatClampNeg g).length = z'.toNatClampNeg := by simp [vls]
  obtain ⟨T', h', L, X', e', N', K', V', st⟩ := cpA X hx hZ hown w1 w2 w3 w4 eT A.vls B.vls (Or.inl ⟨rfl, hty⟩) h1 h2 h3 h4 h5 rfl (by rw [hl]; exact h5) N ge hg hsize hs hd hf hW hlo
  refine ⟨T', h', L, X', e', N', KSx.of_keep K' (fun x hx' => by cases List.mem_singleton.mp hx'; exact B.nostat), BA.of_arv V' fun i hi => ?_, st⟩
  have hlt : (List.take dp.toNatClampNeg (vls z'.toNatClampNeg g)).length = dp.toNatClampNeg := by rw [List.length_take, hl]; omega
  rw [List.append_assoc, List.getD_eq_getElem?_getD]
  by_cases c1 : i < dp.toNatClampNeg
  · rw [if_neg (by omega), List.getElem?_append_left (by rw [hlt]; exact c1), List.getElem?_take_of_lt c1]
    simp [vls, hi]
  · rw [List.getElem?_append_right (by rw [hlt]; omega), hlt]
    by_cases c2 : i < dp.toNatClampNeg + nn.toNatClampNeg
    · rw [if_pos ⟨by omega, c2⟩, List.getElem?_append_left (by simp; omega)]
      have q : i - dp.toNatClampNeg < nn.toNatClampNeg := by omega
      have q2 : sp.toNatClampNeg + (i - dp.toNatClampNeg) < z.toNatClampNeg := by omega
      simp [vls, q, q2]
    · rw [if_neg (by omega), List.getElem?_append_right (by simp; omega), List.getElem?_drop]
      have q : dp.toNatClampNeg + nn.toNatClampNeg + (i - dp.toNatClampNeg - nn.toNatClampNeg) = i := by omega
      simp [vls, q, hi]
/-- own: a class that declares a selected method is no interface, so no method of it is one's -/
theorem own_nf {s : State} {args : Array Value} {C : String} {y w : MethodName} (hc : y.cls = w.cls) (hsel : (Cond.selects C w w).before args s = true) : NotFace s y := fun r0 h0 => by
  obtain ⟨c2, r2, m2, q1, q2, q3, q4, kP, hkP, hkPi⟩ := Cond.selects_spec hsel
  have e1 := findClass_of_methodNamed h0
  have e2 := findClass_of_methodNamed q3
  rw [hc] at e1
  have e3 : r0.cls = m2.cls := Option.some.inj (e1.symm.trans e2)
  exact ⟨kP, by rw [e3]; exact hkP, hkPi⟩
theorem own_decl {s : State} {args : Array Value} {y : MethodName} {bytes : ByteArray} {ml : Nat} {rt : Option FieldType} (h1 : (Cond.instanceMethod y).before args s = true) (h2 : (Cond.code y bytes ml rt).before args s = true) : (Cond.declares y).before args s = true := by
  obtain ⟨m, meth, e1, e2, e3, -⟩ := Cond.instanceMethod_spec h1
  obtain ⟨meth', c, g1, -, -, -, -, -, -, g8⟩ := Cond.code_spec e1 h2
  cases e2.symm.trans g1
  simp [Cond.before, Cond.holds, Cond.value, e1, e2, e3, g8]
theorem own_same {s : State} {args : Array Value} {y : MethodName} (hx : y.cls ≠ "java/lang/invoke/MethodHandle" ∧ y.cls ≠ "java/lang/invoke/VarHandle") (h1 : (Cond.instanceMethod y).before args s = true) (hf : NotFace s y) : (Cond.sameMethod y.cls y.cls y.name y.desc).before args s = true := by
  obtain ⟨m, meth, e1, -⟩ := Cond.instanceMethod_spec h1
  obtain ⟨k, hk, hki⟩ := hf _ e1
  have e2 := State.methodFound?_of_named e1 hx
  have e1' : s.methodNamed? ⟨y.cls, y.name, y.desc⟩ = some m := e1
  simp [Cond.before, Cond.holds, Cond.value, findClass_of_methodNamed e1, e2, e1', hk, hki]
theorem KSx.more {ws' : List (Addr × Nat)} {wa' : List Addr} (K : KSx h h' ws wa) (q : ∀ p ∈ ws, p ∈ ws') (q2 : ∀ p ∈ wa, p ∈ wa') : KSx h h' ws' wa' := ⟨K.1, fun x c hc => by obtain ⟨c', e1, e2, e3, e4, e5, e6⟩ := K.2 x c hc; exact ⟨c', e1, e2, e3, e4, fun j a1 a2 => e5 j (fun p hp => a1 p (q p hp)) (fun p hp => a2 p (q2 p hp)), fun r => e6 (r.imp id fun z => ⟨fun p hp => z.1 p (q p hp), fun p hp => z.2 p (q2 p hp)⟩)⟩⟩
theorem own_alt {b b' : Addr} {m n : Nat} (q : b' = b ∨ n ≤ b') (g : m ≤ b) (w : m ≤ n) : m ≤ b' := q.elim (fun e => by rw [e]; exact g) (fun e => Nat.le_trans w e)
theorem own_bz (e : z = z') (B : BA Z h a k ty z f) : BA Z h a k ty z' f := e ▸ B
end BAs
end Jvm.RoadKit
namespace Jvm.RoadKit
open Sem ClassFile Op Lib Jvm.Stand Jvm.Free Jvm.LawKit
section Starts
variable {args : Array Value} {s : State}
theorem own_cs {t : Term} (h1 : (Cond.isInt t).value args s none s [] = some true) (h2 : (Cond.not (Cond.eq t (.int 0))).value args s none s [] = some true) : ∃ w : Int32, t.eval args s none [] s = some (.int w) ∧ ¬ (w = (0 : Int32)) := by
  obtain ⟨w, ew⟩ := is_v h1
  refine ⟨w, ew, fun e => ?_⟩
  subst e
  have e2 : (Term.int 0).eval args s none [] s = some (.int 0) := Term.int_eval 0
  simp [Cond.value, ew, e2] at h2
theorem own_rf {t : Term} (h1 : (Cond.isRef t).value args s none s [] = some true) : ∃ v : Value, t.eval args s none [] s = some v ∧ v.isRef = true := by
  cases ev : t.eval args s none [] s with
  | none => simp [Cond.value, ev] at h1
  | some v => exact ⟨v, rfl, by cases v <;> simp_all [Cond.value, Value.isRef]⟩
/-- own: a JDK table of bytes, out of its words -/
theorem own_tab {C name : String} {rhs : Term} {n : Nat} {k : Int32} {F : Nat → Int32} (harr : (Cond.arrayClass .byte).before args s = true) (w2 : (Cond.exactly (.static C name "[B") "[B").before args s = true) (w3 : (Cond.eq (.length (.static C name "[B")) (.int k)).before args s = true)
    (w4 : (Cond.all (.static C name "[B") (.eq (.elem (.static C name "[B") (.index 0)) rhs)).before args s = true) (hk : k = Int32.ofNat n) (hn : n < 2 ^ 31)
    (hrhs : ∀ r, r < n → rhs.eval args s none [r] s = some (.int (F r))) (hF : ∀ r, r < n → fits .byte (.int (F r)) = true) : ∃ (d : Addr) (c : ClassId), (Term.static C name "[B").eval args s none [] s = some (.ref d) ∧ BA s s.heap d c .byte k F := by
  obtain ⟨d, cB, D, kB, hev, hfcB, hcellD, hkB, hstatD, hclsD, -⟩ := Cond.exactly_spec w2
  have hevAll : ∀ idx, (Term.static C name "[B").eval args s none idx s = some (.ref d) := fun idx => by
    have : (Term.static C name "[B").eval args s none idx s = (Term.static C name "[B").eval args s none [] s := by simp only [Term.eval]
    rw [this]; exact hev
  have hl := Cond.eq_int w3 rfl
  obtain ⟨d', D', hev', harrAt, hlen⟩ := Term.length_spec hl
  cases hev.symm.trans hev'
  obtain ⟨hcellD', hknD, -, -⟩ := State.arrayAt?_spec harrAt
  cases hcellD.symm.trans hcellD'
  have h31 := Jvm.Free.SBG.length_lt hev harrAt hl
  have hsz : D.slots.size = n := by
    have h2 : Int32.ofNat D.slots.size = Int32.ofNat n := by rw [← hk]; exact (Value.int.inj hlen).symm
    have := congrArg Int32.toInt h2
    rw [Int32.toInt_ofNat_small h31, Int32.toInt_ofNat_small hn] at this; omega
  obtain ⟨cB', kB', comp, hnameB, hkB', hkindB⟩ := Cond.arrayClass_spec harr
  have eBA : ("[" ++ FieldType.toString .byte) = "[B" := by decide
  rw [eBA] at hnameB
  cases hfcB.symm.trans hnameB
  cases hkB.symm.trans hkB'
  have hc : (Int32.ofNat n).toNatClampNeg = n := by show (Int32.ofNat n).toInt.toNat = n; rw [Int32.toInt_ofNat_small hn]; rfl
  refine ⟨d, D.cls, hev, D, ⟨hcellD, ⟨(fun q h => by rw [h] at hstatD; cases hstatD), kB, (by rw [hclsD]; exact hkB), comp, hkindB⟩, hknD⟩, rfl, by rw [hk, hc, hsz], by rw [hk]; exact Int32.ofNat_not_neg hn, fun r hr => ?_, fun r hr => hF r (by omega)⟩
  have h := Cond.all_elim (hevAll []) harrAt (Jvm.Free.AList.val_of_holds w4) r hr
  have eL : (Term.elem (.static C name "[B") (.index 0)).eval args s none [r] s = D.slots[r]? := Jvm.Free.SBG.elem_at (ix := .index 0) (hevAll [r]) harrAt hr h31 rfl
  obtain ⟨x, y, e1, e3, -, k2⟩ := cmp_v (Or.inl h)
  cases (hrhs r (by omega)).symm.trans e3
  obtain ⟨z, rfl⟩ := k2
  have q : z = F r := by simpa [Cond.value, e1, e3] using h
  subst q
  rw [← eL]; exact e1
end Starts
end Jvm.RoadKit
namespace Jvm.Free.SBG
open Sem ClassFile Op Lib Jvm.Free.AList Jvm.Stand Jvm.Free.SB Jvm.Free.SubstrLeaves
/-- own: the char of the q-th digit from the right -/
def odg (n q : Nat) : Int32 := Int32.ofNat (48 + n / 10 ^ q % 10)
theorem odg_byte : ∀ t : Fin 58, (Int32.ofNat t.1).toInt8.toInt32 = Int32.ofNat t.1 := by decide +kernel
theorem own_put_at {A : Cell} {pos i : Nat} {x : Int32} (hi : i < A.slots.size) : (put A pos x).slots[i]? = if i = pos then some (.int x.toInt8.toInt32) else A.slots[i]? := by
  by_cases e : i = pos
  · subst e; rw [if_pos rfl]; simp [put, Cell.setSlot, hi]
  · rw [if_neg e]; simp only [put, Cell.setSlot]; exact Array.getElem?_setIfInBounds_ne (Ne.symm e)
theorem own_put_size {A : Cell} {pos : Nat} {x : Int32} : (put A pos x).slots.size = A.slots.size := (put_facts A pos x).2.2
theorem odg0 (n : Nat) : odg n 0 = Int32.ofNat (48 + n % 10) := by simp [odg]
theorem odg1 (n : Nat) : odg n 1 = Int32.ofNat (48 + n / 10 % 10) := by simp [odg]
theorem odg2 (n q : Nat) : odg n (q + 2) = odg (n / 100) q := by
  have : 10 ^ (q + 2) = 100 * 10 ^ q := by rw [Nat.pow_add, Nat.mul_comm]
  rw [odg, odg, this, Nat.div_div_eq_div_mul]
theorem own_wN (f n : Nat) : wN (f + 1) n = if 100 ≤ n then 2 + wN f (n / 100) else if 9 < n then 2 else 1 := rfl
theorem own_wN0 (n : Nat) : wN 0 n = 0 := rfl
theorem own_dlS (D1 D2 : Cell) (f : Nat) (A : Cell) (n pos : Nat) : digLoop D1 D2 (f + 1) A n pos = if 100 ≤ n then digLoop D1 D2 f (put (put A (pos - 1) (iAt D1 (n % 100))) (pos - 2) (iAt D2 (n % 100))) (n / 100) (pos - 2)
      else if 9 < n then (put (put A (pos - 1) (iAt D1 n)) (pos - 2) (iAt D2 n), pos - 2) else (put A (pos - 1) (iAt D1 n), pos - 1) := rfl
theorem own_dl {D1 D2 : Cell} (hD1 : ∀ r, r < 100 → iAt D1 r = Int32.ofNat (48 + r % 10)) (hD2 : ∀ r, r < 100 → iAt D2 r = Int32.ofNat (48 + r / 10)) :
    ∀ (f : Nat) (A : Cell) (n pos : Nat), n < 100 ^ f → wN f n ≤ pos → pos ≤ A.slots.size → ∀ i, i < A.slots.size → (digLoop D1 D2 f A n pos).1.slots[i]? = if pos ≤ i + wN f n ∧ i < pos then some (.int (odg n (pos - 1 - i))) else A.slots[i]? := by
  intro f
  induction f with
  | zero => intro A n pos hn hw hp i hi; rw [if_neg (by rw [own_wN0]; omega)]; rfl
  | succ f ih =>
    intro A n pos hn hw hp i hi
    have b1 : (iAt D1 (n % 100)).toInt8.toInt32 = odg n 0 := by
      rw [hD1 _ (by omega), odg0, show n % 100 % 10 = n % 10 by omega]
      exact odg_byte ⟨48 + n % 10, by omega⟩
    have b2 : (iAt D2 (n % 100)).toInt8.toInt32 = odg n 1 := by
      rw [hD2 _ (by omega), odg1, show n % 100 / 10 = n / 10 % 10 by omega]
      exact odg_byte ⟨48 + n / 10 % 10, by omega⟩
    by_cases h1 : 100 ≤ n
    · have ew : wN (f + 1) n = 2 + wN f (n / 100) := by rw [own_wN, if_pos h1]
      rw [ew] at hw
      rw [own_dlS, if_pos h1, ew]
      have hn' : n / 100 < 100 ^ f := by rw [Nat.pow_succ] at hn; exact Nat.div_lt_of_lt_mul (by rw [Nat.mul_comm]; exact hn)
      rw [ih _ (n / 100) (pos - 2) hn' (by omega) (by rw [own_put_size, own_put_size]; omega) i (by rw [own_put_size, own_put_size]; exact hi)]
      by_cases c1 : pos - 2 ≤ i + wN f (n / 100) ∧ i < pos - 2
      · rw [if_pos c1, if_pos (by omega), show pos - 1 - i = (pos - 2 - 1 - i) + 2 by omega, odg2]
      · rw [if_neg c1, own_put_at (by rw [own_put_size]; exact hi), own_put_at hi]
        by_cases c2 : i = pos - 2
        · rw [if_pos c2, if_pos (by omega), b2, show pos - 1 - i = 1 by omega]
        · rw [if_neg c2]
          by_cases c3 : i = pos - 1
          · rw [if_pos c3, if_pos (by omega), b1, show pos - 1 - i = 0 by omega]
          · rw [if_neg c3, if_neg (by omega)]
    · have e100 : n % 100 = n := Nat.mod_eq_of_lt (by omega)
      rw [e100] at b1 b2
      by_cases h2 : 9 < n
      · have ew : wN (f + 1) n = 2 := by rw [own_wN, if_neg h1, if_pos h2]
        rw [ew] at hw
        rw [own_dlS, if_neg h1, if_pos h2, ew]
        show (put (put A (pos - 1) (iAt D1 n)) (pos - 2) (iAt D2 n)).slots[i]? = _
        rw [own_put_at (by rw [own_put_size]; exact hi), own_put_at hi]
        by_cases c2 : i = pos - 2
        · rw [if_pos c2, if_pos (by omega), b2, show pos - 1 - i = 1 by omega]
        · rw [if_neg c2]
          by_cases c3 : i = pos - 1
          · rw [if_pos c3, if_pos (by omega), b1, show pos - 1 - i = 0 by omega]
          · rw [if_neg c3, if_neg (by omega)]
      · have ew : wN (f + 1) n = 1 := by rw [own_wN, if_neg h1, if_neg h2]
        rw [ew] at hw
        rw [own_dlS, if_neg h1, if_neg h2, ew]
        show (put A (pos - 1) (iAt D1 n)).slots[i]? = _
        rw [own_put_at hi]
        by_cases c3 : i = pos - 1
        · rw [if_pos c3, if_pos (by omega), b1, show pos - 1 - i = 0 by omega]
        · rw [if_neg c3, if_neg (by omega)]
/-- own: what getChars leaves, as a function -/
def ogc (neg : Bool) (n w idx : Nat) (f : Nat → Int32) : Nat → Int32 := fun i => if idx ≤ i + w ∧ i < idx then odg n (idx - 1 - i) else if neg = true ∧ i + w + 1 = idx then 45 else f i
theorem own_out {D1 D2 : Cell} (hD1 : ∀ r, r < 100 → iAt D1 r = Int32.ofNat (48 + r % 10)) (hD2 : ∀ r, r < 100 → iAt D2 r = Int32.ofNat (48 + r / 10)) {F : Nat} {A : Cell} {n idx : Nat} {neg : Bool} {f : Nat → Int32} (hn : n < 100 ^ F) (hw : wN F n + (if neg = true then 1 else 0) ≤ idx) (hp : idx ≤ A.slots.size)
    (hA : ∀ i, i < A.slots.size → A.slots[i]? = some (.int (f i))) : ∀ i, i < A.slots.size → (if neg = true then put (digLoop D1 D2 F A n idx).1 ((digLoop D1 D2 F A n idx).2 - 1) 45 else (digLoop D1 D2 F A n idx).1).slots[i]? = some (.int (ogc neg n (wN F n) idx f i)) := by
  intro i hi
  obtain ⟨-, -, s3, s4⟩ := digLoop_facts D1 D2 F A n idx
  have key := own_dl hD1 hD2 F A n idx hn (by split at hw <;> omega) hp i hi
  cases neg with
  | false =>
    simp only [Bool.false_eq_true, if_false] at hw ⊢
    rw [key]; simp only [ogc, Bool.false_eq_true, false_and, if_false]
    split
    · rfl
    · exact hA i hi
  | true =>
    simp only [if_true] at hw ⊢
    rw [own_put_at (by rw [s3]; exact hi), key, s4]
    simp only [ogc, true_and]
    by_cases c1 : i = idx - wN F n - 1
    · rw [if_pos c1, if_neg (by omega), if_pos (by omega)]; rfl
    · rw [if_neg c1]
      by_cases c2 : idx ≤ i + wN F n ∧ i < idx
      · rw [if_pos c2, if_pos c2]
      · rw [if_neg c2, if_neg c2, if_neg (by omega)]; exact hA i hi
end Jvm.Free.SBG
namespace Jvm.RoadKit
open Sem ClassFile Op Lib Jvm.Stand Jvm.Free Jvm.LawKit Jvm.Free.SBG
section Pays
variable {Z : State} {h0 : Heap} {l : Launch} {a0 : Array Value}
abbrev OMet (l : Launch) (Z : State) (y : MethodName) (bytes : ByteArray) (ml : Nat) (rt : Option FieldType) (ws : List Jvm.Cond) (rm : Room) (h0 : Heap) (as : Array Value) (Q : Option Value → Heap → List Loc → Prop) : Prop :=
  MetFree l y (head1 (Jvm.Cond.code y bytes ml rt :: ws) rm) (fun a U => a = as ∧ Z.Warmed39 U.vm ∧ U.heap = h0) (fun _ _ _ _ _ => True) (fun _ U o U' => ∃ v L, o = .returned v ∧ Q v U'.heap L ∧ FrameEnd U o U' L rm.cells rm.slots)
abbrev OMetS (l : Launch) (Z : State) (y : MethodName) (bytes : ByteArray) (ml : Nat) (rt : Option FieldType) (ws : List Jvm.Cond) (rm : Room) (h0 : Heap) (as : Array Value) (Q : Option Value → Heap → List Loc → Prop) : Prop :=
  MetFree l y (head1 (Jvm.Cond.code y bytes ml rt :: ws) rm) (fun a U => a = as ∧ Z.Warmed39 U.vm ∧ U.heap = h0) (fun _ _ _ _ _ => True) (fun _ U o U' => ∃ v L, o = .returned v ∧ Q v U'.heap L ∧ ReturnedEndW U o U' L rm.cells rm.slots)
abbrev OMetH (EL : List (String × Nat)) (l : Launch) (Z : State) (y : MethodName) (bytes : ByteArray) (ml : Nat) (rt : Option FieldType) (ws : List Jvm.Cond) (rm : Room) (h0 : Heap) (as : Array Value) (Q : Option Value → Heap → List Loc → Prop) : Prop :=
  MetFree l y (head1 (Jvm.Cond.code y bytes ml rt :: ws) rm) (fun a U => a = as ∧ Z.Warmed39 U.vm ∧ U.heap = h0 ∧ CHv Z EL U.vm h0) (fun _ _ _ _ _ => True) (fun _ U o U' => ∃ v L, o = .returned v ∧ Q v U'.heap L ∧ CHr Z EL U.vm U.heap U'.vm U'.heap ∧ ReturnedEndW U o U' L rm.cells rm.slots)
def OQp (r : Option Value) (h0 : Heap) (n0 : Nat) (v : Option Value) (h : Heap) (L : List Loc) : Prop := v = r ∧ Fr n0 L ∧ h = h0
def OQl (r : Option Value) (n0 : Nat) (v : Option Value) (h : Heap) (L : List Loc) : Prop := v = r ∧ Fr n0 L
/-- own: a free law of the library, said as a contract of this text's form -/
theorem own_of {y : MethodName} {bytes : ByteArray} {ml : Nat} {rt : Option FieldType} {S : Spec} {rm : Room} {as : Array Value} {P : Array Value → State → Prop} {Q' : Array Value → State → Outcome → State → Prop} {Q : Option Value → Heap → List Loc → Prop}
    (M : MetFree l y S P (fun _ _ _ _ _ => True) Q') (hf : S.room.frames ≤ rm.frames) (hl : S.room.locals ≤ rm.locals) (hc : S.room.cells ≤ rm.cells) (hs : S.room.slots ≤ rm.slots)
    (hpre : ∀ U : State, Z.Warmed39 U.vm → S.pre.before as U = true) (hP : ∀ U : State, Z.Warmed39 U.vm → U.heap = h0 → P as U)
    (hQ : ∀ (U : State) (o : Outcome) (U' : State), Z.Warmed39 U.vm → U.heap = h0 → Q' as U o U' → ∃ v L, o = .returned v ∧ Q v U'.heap L ∧ FrameEnd U o U' L rm.cells rm.slots) : OMet l Z y bytes ml rt [] rm h0 as Q := by
  intro p e ha hcs hk s m args below hfr happ hP' _
  obtain ⟨rfl, hZ, hh⟩ := hP'
  obtain ⟨a1, a2, a3, a4, a5, a6, a7, -⟩ := (Spec.appliesLoose_iff hfr).mp happ
  obtain ⟨n, o, h1, h2, h3, h4⟩ := M p e ha hcs hk s m _ below hfr ((Spec.appliesLoose_iff hfr).mpr ⟨a1, a2, a3, a4, a5, a6, hasRoom_mono hf hl hc hs a7, hpre s hZ⟩) (hP s hZ hh) trivial
  exact ⟨n, o, h1, h2, h3, hQ _ _ _ hZ hh h4⟩
theorem own_tbls {d1 d2 : Addr} {k1 k2 : ClassId} {f1 f2 : Nat → Int32} (S1 : Sta Z h0 INT "DigitOnes" "[B" (.ref d1)) (S2 : Sta Z h0 INT "DigitTens" "[B" (.ref d2)) (w1 : (Cond.laysStatic INT "DigitOnes" "[B").before a0 Z = true) (w2 : (Cond.laysStatic INT "DigitTens" "[B").before a0 Z = true)
    (B1 : BA Z h0 d1 k1 .byte 100 f1) (B2 : BA Z h0 d2 k2 .byte 100 f2) : ∃ (st : Addr) (D1 D2 cs : Cell), (∀ U : State, Z.Warmed39 U.vm → U.heap = h0 → Tbl U "DigitOnes" st d1 D1 ∧ Tbl U "DigitTens" st d2 D2) ∧ h0[st]? = some cs ∧ cs.vm.isStatics = true ∧ (∀ r, r < 100 → iAt D1 r = f1 r) ∧ ∀ r, r < 100 → iAt D2 r = f2 r := by
  obtain ⟨cf, i, k, f, st, cell, h1, h2, h3, h4, h5, h6, h7⟩ := S1
  obtain ⟨cf', i', k', f', st', cell', g1, g2, g3, g4, g5, g6, g7⟩ := S2
  obtain ⟨c2, k2', _, _, _, _, q1, q2, -⟩ := Cond.laysStatic_spec w1
  obtain ⟨c3, k3', _, _, _, _, r1, r2, -⟩ := Cond.laysStatic_spec w2
  cases h1.symm.trans q2
  cases g1.symm.trans r2
  cases q1.symm.trans r1
  have ek := State.fieldFound?_class h1
  have ek' := State.fieldFound?_class g1
  cases ek.symm.trans ek'
  cases h4.symm.trans g4
  cases h5.symm.trans g5
  obtain ⟨D1, A1, -, s1, -, H1, -⟩ := B1
  obtain ⟨D2, A2, -, s2, -, H2, -⟩ := B2
  have z1 : D1.slots.size = 100 := s1
  have z2 : D2.slots.size = 100 := s2
  have v1 : ∀ r, r < 100 → iAt D1 r = f1 r := fun r hr => by have q := H1 r (by rw [z1]; exact hr); simp [iAt, Array.getD_eq_getD_getElem?, q]
  have v2 : ∀ r, r < 100 → iAt D2 r = f2 r := fun r hr => by have q := H2 r (by rw [z2]; exact hr); simp [iAt, Array.getD_eq_getD_getElem?, q]
  refine ⟨st, D1, D2, cell, fun U hZ hh => ⟨?_, ?_⟩, h5, h6, v1, v2⟩
  · obtain ⟨kx, y1, y2⟩ := State.fieldFound?_setVm (s := Z) hZ.alike h1
    exact ⟨_, _, kx, f, cell, y1, h2, by rw [y2]; exact h3, by rw [y2]; exact h4, by rw [hh]; exact h5, (fun e => by rw [e] at h6; cases h6), h7, by rw [hh]; exact A1.1, State.isArrayOf_alike hZ.alike A1.2.1, A1.2.2, z1, fun r hr => by rw [v1 r hr]; exact H1 r (by rw [z1]; exact hr)⟩
  · obtain ⟨kx, y1, y2⟩ := State.fieldFound?_setVm (s := Z) hZ.alike g1
    exact ⟨_, _, kx, f', cell, y1, g2, by rw [y2]; exact h3, by rw [y2]; exact h4, by rw [hh]; exact h5, (fun e => by rw [e] at h6; cases h6), g7, by rw [hh]; exact A2.1, State.isArrayOf_alike hZ.alike A2.2.1, A2.2.2, z2, fun r hr => by rw [v2 r hr]; exact H2 r (by rw [z2]; exact hr)⟩
theorem own_grown {h h' : Heap} (q : ∀ (y : Addr) (c : Cell), h[y]? = some c → ∃ c' : Cell, h'[y]? = some c') : h.size ≤ h'.size := by
  rcases Nat.eq_zero_or_pos h.size with z | z
  · omega
  · obtain ⟨c', e⟩ := q (h.size - 1) _ (Array.getElem?_eq_getElem (by omega))
    have := (Array.getElem?_eq_some_iff.mp e).1
    omega
def OQg (Z : State) (r : Int32) (da : Addr) (k : ClassId) (z : Int32) (f : Nat → Int32) (h0 : Heap) (n0 : Nat) (v : Option Value) (h : Heap) (L : List Loc) : Prop := Fr n0 L ∧ v = some (.int r) ∧ KSx h0 h [] [da] ∧ BA Z h da k .byte z f
/-- own: one cell turned, its class, kind and size kept -/
theorem own_ks1 {h h' : Heap} {da : Addr} {A B : Cell} (hA : h[da]? = some A) (hs : A.vm.isStatics = false) (hB : h'[da]? = some B) (e1 : B.cls = A.cls) (e2 : B.vm = A.vm) (e3 : B.slots.size = A.slots.size) (q : ∀ (y : Addr) (c : Cell), y ≠ da → h[y]? = some c → h'[y]? = some c) : KSx h h' [] [da] := by
  refine ⟨own_grown fun y c hc => ?_, fun x c hc => ?_⟩
  · by_cases e : y = da
    · subst e; exact ⟨_, hB⟩
    · exact ⟨_, q y c e hc⟩
  · by_cases e : x = da
    · subst e
      cases hA.symm.trans hc
      refine ⟨B, hB, e1, e2, e3, fun j _ hj => absurd rfl (hj _ (List.mem_singleton.mpr rfl)), fun hst => ?_⟩
      rcases hst with y | y
      · rw [hs] at y; cases y
      · exact absurd rfl (y.2 _ (List.mem_singleton.mpr rfl))
    · exact ⟨c, q x c e hc, rfl, rfl, rfl, fun _ _ _ => rfl, fun _ => rfl⟩
theorem own_ofNat {j : Int32} (h : ¬ j < 0) : j = Int32.ofNat j.toNatClampNeg := by
  apply Int32.toInt_inj.mp
  rw [Int32.lt_iff_toInt_lt] at h; have z0 : (0 : Int32).toInt = 0 := rfl
  have h2 := j.toInt_lt
  have e : j.toNatClampNeg = j.toInt.toNat := rfl
  rw [e, Int32.toInt_ofNat_small (by omega)]; omega
theorem own_cap {n : Int32} {k : Nat} (hk : k < 2 ^ 31) (h : ¬ Int32.ofNat k < n) : n.toNatClampNeg ≤ k := by
  rw [Int32.lt_iff_toInt_lt, Int32.toInt_ofNat_small hk] at h
  have e : n.toNatClampNeg = n.toInt.toNat := rfl
  omega
theorem own_ishr0 (x : Int32) : x >>> ((0 : Int32) &&& 31) = x := by
  apply Int32.toInt_inj.mp; rw [c_ishr x 0 0 (by decide)]; simp
theorem own_ishl0 (x : Int32) : x <<< ((0 : Int32) &&& 31) = x := by
  rw [shlm (m := 1) (by decide)]; simp
theorem own_clt (z : Int32) : z.toNatClampNeg < 2 ^ 31 := by have := z.toInt_lt; show z.toInt.toNat < _; omega
theorem own_imp {y : MethodName} {bytes : ByteArray} {ml : Nat} {rt : Option FieldType} {ws : List Jvm.Cond} {rm : Room} {as : Array Value} {Q Q' : Option Value → Heap → List Loc → Prop} (M : OMet l Z y bytes ml rt ws rm h0 as Q) (hq : ∀ v h L, Q v h L → Q' v h L) : OMet l Z y bytes ml rt ws rm h0 as Q' := fun p e ha hc hk s m args below hf happ hP hK => by
  obtain ⟨n, o, a, b, c, v, L, h1, h2, h3⟩ := M p e ha hc hk s m args below hf happ hP hK
  exact ⟨n, o, a, b, c, v, L, h1, hq _ _ _ h2, h3⟩
theorem own_impH {EL : List (String × Nat)} {y : MethodName} {bytes : ByteArray} {ml : Nat} {rt : Option FieldType} {ws : List Jvm.Cond} {rm : Room} {as : Array Value} {Q Q' : Option Value → Heap → List Loc → Prop} (M : OMetH EL l Z y bytes ml rt ws rm h0 as Q) (hq : ∀ v h L, Q v h L → Q' v h L) : OMetH EL l Z y bytes ml rt ws rm h0 as Q' := fun p e ha hc hk s m args below hf happ hP hK => by
  obtain ⟨n, o, a, b, c, v, L, h1, h2, h3⟩ := M p e ha hc hk s m args below hf happ hP hK
  exact ⟨n, o, a, b, c, v, L, h1, hq _ _ _ h2, h3⟩
/-- own: nothing that was there is written -/
def OQk (r : Option Value) (h0 : Heap) (n0 : Nat) (v : Option Value) (h : Heap) (L : List Loc) : Prop := Fr n0 L ∧ v = r ∧ KSx h0 h [] []
section CHs
variable {EL : List (String × Nat)} {vm : Vm} {h h' : Heap} {ws : List (Addr × Nat)} {wa : List Addr} {x : Addr}
theorem CHv.ksStep (K : KSx h h' ws wa) (q : ∀ p ∈ ws, Safe Z EL vm h p.1) (q2 : ∀ p ∈ wa, Safe Z EL vm h p) (H : CHv Z EL vm h) : CHv Z EL vm h' ∧ ∀ y, Bk Z EL vm h' y → Bk Z EL vm h y :=
  H.step fun y B cell hc => by
    obtain ⟨c', e1, -, -, -, -, e6⟩ := K.2 y cell hc
    rw [← e6 (Or.inr ⟨fun p hp e => q p hp (e ▸ B), fun p hp e => q2 p hp (e ▸ B)⟩)]; exact e1
theorem CHr.ks (K : KSx h h' ws wa) (q : ∀ p ∈ ws, Safe Z EL vm h p.1) (q2 : ∀ p ∈ wa, Safe Z EL vm h p) (H : CHv Z EL vm h) : CHr Z EL vm h vm h' := ⟨(H.ksStep K q q2).1, K.1, fun y B => Or.inl ((H.ksStep K q q2).2 y B)⟩
theorem Safe.ks (K : KSx h h' ws wa) (q : ∀ p ∈ ws, Safe Z EL vm h p.1) (q2 : ∀ p ∈ wa, Safe Z EL vm h p) (H : CHv Z EL vm h) (S : Safe Z EL vm h x) : Safe Z EL vm h' x := fun B => S ((H.ksStep K q q2).2 _ B)
theorem own_safeB {k : ClassId} {ty : FieldType} {z : Int32} {f : Nat → Int32} (hal : Z.vm.Alike vm) (F : BA Z h x k ty z f) (ht : ty ≠ .byte) : Safe Z EL vm h x := by obtain ⟨c, A, -⟩ := F; exact Safe.arr hal A ht
end CHs
end Pays
end Jvm.RoadKit
namespace Jvm.RoadKit
open Sem ClassFile Op Lib Jvm.Stand Jvm.Free Jvm.LawKit
section CloneB
variable {p : Program} {l : Launch} {e : Env} {R : Room} {s : State} {m : MethodId} {args : Array Value} {below : List Frame} {meth : Method} {c : Code} {T : State} {locs : List Loc} {cells slots : Nat} {Z : State} {h : Heap} {a : Addr} {ty : FieldType}
theorem cloneB (X : Stand p l e R s m args below meth c T locs cells slots) (hx : p.tables.exec = Jvm.exec) (hZ : Z.Warmed39 s.vm) {a0 : Array Value} {own ad : String} {index : Nat} (hown : s.vm.findClass own = some m.cls)
    (w1 : (Cond.methodLink own index ⟨ad, "clone", "()Ljava/lang/Object;"⟩).before a0 Z = true) (w2 : (Cond.sameMethod ad "java/lang/Object" "clone" "()Ljava/lang/Object;").before a0 Z = true) (w3 : (Cond.native ⟨"java/lang/Object", "clone", "()Ljava/lang/Object;"⟩).before a0 Z = true)
    (w4 : (Cond.instanceMethod ⟨"java/lang/Object", "clone", "()Ljava/lang/Object;"⟩).before a0 Z = true) (w5 : (Cond.selects ad ⟨ad, "clone", "()Ljava/lang/Object;"⟩ ⟨"java/lang/Object", "clone", "()Ljava/lang/Object;"⟩).before a0 Z = true) (w6 : (Cond.castable ad "java/lang/Cloneable").before a0 Z = true)
    (eT : T.heap = h) {k : ClassId} {z : Int32} {f : Nat → Int32} (F : BA Z h a k ty z f) (E : Exa Z h a ad) {g : JFrame} (hg : g.method = m) (hsize : g.locals.size = c.maxLocals) {rest : List Value} (hst : g.stack = .ref a :: rest) (hd : decode c.code g.pc = .ok (.invokevirtual index, 3))
    (hf : 1 ≤ R.frames) {W cap : Nat} (hW : 2 * g.monitorRoom + (rest.map fun v => v.category).sum ≤ W) (hl : W + 14 ≤ R.locals) (hcap : z.toNatClampNeg ≤ cap) (hc : cells + 1 ≤ R.cells) (hsl : slots + cap ≤ R.slots) :
    ∃ T' h', Stand p l e R s m args below meth c T' locs (cells + 1) (slots + cap) ∧ T'.heap = h' ∧ Ext h h' ∧ BA Z h' h.size k ty z f ∧ Exa Z h' h.size ad ∧
      ∀ target, Steps p.tables e below (T'.setTop { g with pc := g.pc + 3, stack := .ref h.size :: rest }) target → Steps p.tables e below (T.setTop g) target := by
  obtain ⟨cl, A, q1, S, q3, H, G⟩ := F
  have FC : FitC Z cl := fitC_of A fun i hi v hv => by rw [H i hi] at hv; cases hv; exact G i hi
  obtain ⟨T', h', X', e', ex, A', E', st⟩ := cloneA X hx hZ hown w1 w2 w3 w4 w5 w6 eT A E FC hg hsize hst hd hf hW hl (by rw [S]; exact hcap) hc hsl
  exact ⟨T', h', X', e', ex, ⟨cloneOf cl, A', q1, S, q3, H, G⟩, E', st⟩
end CloneB
end Jvm.RoadKit
namespace Jvm.RoadKit
open Sem ClassFile Op Lib Jvm.Stand Jvm.Free Jvm.LawKit Jvm.Free.SBG
section PaysL
variable {Z : State} {h0 : Heap} {l : Launch} {a0 : Array Value}
theorem own_ssL {x : Int64} {n0 : Nat} (wc : (Cond.code StrSizeL.ssN StrSizeL.ssB 6 (some .int)).before a0 Z = true) (w1 : (Cond.constantLong LNG 140 (-10)).before a0 Z = true) (w2 : (Cond.constantLong LNG 53 10).before a0 Z = true) : OMet l Z StrSizeL.ssN StrSizeL.ssB 6 (some .int) [] ({ frames := 1, cells := 0, slots := 0, locals := 40 } : Room) h0 #[.long x] (OQp (some (.int (strSizeOfL x))) h0 n0) :=
  own_of (StrSizeL.gets l x) (Nat.le_refl _) (Nat.le_refl _) (Nat.zero_le _) (Nat.zero_le _) (fun U hZ => by show (Cond.and (.count 1) (.and (.code StrSizeL.ssN StrSizeL.ssB 6 (some .int)) (.and (.constantLong LNG 140 (-10)) (.constantLong LNG 53 10)))).before _ U = true; rw [Cond.before_and, Cond.before_and, Cond.before_and, mv hZ wc, mv hZ w1, mv hZ w2]; rfl) (fun U _ _ => rfl)
    (fun U o U' _ hh q => by obtain ⟨rfl, e2, e3⟩ := q; exact ⟨_, [], rfl, ⟨rfl, Fr.nil _, e2.trans hh⟩, e3⟩)
theorem own_negL (x : Int64) : (if x < 0 then x else -x) = negL x.toInt.natAbs := by
  have h1 := x.le_toInt; have h2 := x.toInt_lt
  apply Int64.toInt_inj.mp
  have e : (negL x.toInt.natAbs).toInt = -(x.toInt.natAbs : Int) := Int64.toInt_ofInt_of_le (by omega) (by omega)
  rw [e]
  by_cases hx : x < 0
  · rw [if_pos hx]; rw [Int64.lt_iff_toInt_lt] at hx; have z0 : (0 : Int64).toInt = 0 := rfl; omega
  · rw [if_neg hx]; rw [Int64.lt_iff_toInt_lt] at hx; have z0 : (0 : Int64).toInt = 0 := rfl
    have q := c_lneg x; have r1 := (-x).le_toInt; have r2 := (-x).toInt_lt; omega
theorem own_absL (x : Int64) : x.toInt.natAbs ≤ 2 ^ 63 := by have h1 := x.le_toInt; have h2 := x.toInt_lt; omega
theorem own_gcL {x : Int64} {n idx n0 : Nat} {da d1 d2 : Addr} {k k1 k2 : ClassId} {z j : Int32} {f : Nat → Int32} (wc : (Cond.code GetCharsL.gcN GetCharsL.gcB 11 (some .int)).before a0 Z = true) (wf1 : (Cond.fieldLink LNG 133 INT "DigitOnes" "[B").before a0 Z = true) (wf2 : (Cond.fieldLink LNG 137 INT "DigitTens" "[B").before a0 Z = true) (wl1 : (Cond.constantLong LNG 129 (-2147483648)).before a0 Z = true) (wl2 : (Cond.constantLong LNG 131 100).before a0 Z = true)
    (S1 : Sta Z h0 INT "DigitOnes" "[B" (.ref d1)) (S2 : Sta Z h0 INT "DigitTens" "[B" (.ref d2)) (w1 : (Cond.laysStatic INT "DigitOnes" "[B").before a0 Z = true) (w2 : (Cond.laysStatic INT "DigitTens" "[B").before a0 Z = true)
    (B1 : BA Z h0 d1 k1 .byte 100 (fun r => Int32.ofNat (48 + r % 10))) (B2 : BA Z h0 d2 k2 .byte 100 (fun r => Int32.ofNat (48 + r / 10))) (B : BA Z h0 da k .byte z f) (ne1 : da ≠ d1) (ne2 : da ≠ d2) (ge : n0 ≤ da)
    (hj : j = Int32.ofNat idx) (hi : idx ≤ z.toNatClampNeg) (hw : digitsL n + (if x < 0 then 1 else 0) ≤ idx) (hn : n ≤ 2 ^ 63) (hneg : (if x < 0 then x else -x) = negL n) (hz : z.toNatClampNeg < 2 ^ 31) :
    OMet l Z GetCharsL.gcN GetCharsL.gcB 11 (some .int) [] ({ frames := 1, cells := 0, slots := 0, locals := 80 } : Room) h0 #[.long x, .int j, .ref da] (OQg Z (Int32.ofNat (idx - (digitsL n + (if x < 0 then 1 else 0)))) da k z (ogc (decide (x < 0)) n (digitsL n) idx f) h0 n0) := by
  subst hj
  obtain ⟨st, D1, D2, cs, hT, hst, hss, v1, v2⟩ := own_tbls S1 S2 w1 w2 B1 B2
  obtain ⟨A, hA, q1, S, q3, H, G⟩ := B
  have nst : da ≠ st := fun e => by subst e; have := Arr.nostat hA cs hst; rw [this] at hss; cases hss
  have hb : ∀ i, i < A.slots.size → fits .byte (A.slots.getD i .null) = true := fun i hi => by rw [Array.getD_eq_getD_getElem?, H i hi]; exact G i hi
  have esg : GetCharsL.sgnL x = if x < 0 then 1 else 0 := rfl
  refine own_of (GetCharsL.gets l ⟨x, n, idx, da, A, st, d1, D1, d2, D2⟩) (Nat.le_refl _) (Nat.le_refl _) (Nat.zero_le _) (Nat.zero_le _) (fun U hZ => ?_) (fun U hZ hh => ?_) (fun U o U' hZ hh q => ?_)
  · show (Cond.and (.count 3) (.and (.code GetCharsL.gcN GetCharsL.gcB 11 (some .int)) (.and (.fieldLink LNG 133 INT "DigitOnes" "[B") (.and (.fieldLink LNG 137 INT "DigitTens" "[B") (.and (.constantLong LNG 129 (-2147483648)) (.constantLong LNG 131 100)))))).before _ U = true
    rw [Cond.before_and, Cond.before_and, Cond.before_and, Cond.before_and, Cond.before_and, mv hZ wc, mv hZ wf1, mv hZ wf2, mv hZ wl1, mv hZ wl2]; rfl
  · exact ⟨rfl, by rw [hh]; exact hA.1, State.isArrayOf_alike hZ.alike hA.2.1, hA.2.2, by show A.slots.size < _; rw [S]; exact hz, by show idx ≤ A.slots.size; rw [S]; exact hi, by rw [esg]; exact hw, hn, hneg, (hT U hZ hh).1, (hT U hZ hh).2, nst, ne1, ne2⟩
  · obtain ⟨rfl, c1, c2, L, hL, hF⟩ := q
    obtain ⟨o1, o2, o3, o4, -⟩ := GetCharsL.outCell_facts ⟨x, n, idx, da, A, st, d1, D1, d2, D2⟩ hn (by rw [esg]; exact hw) hb
    refine ⟨_, L, rfl, ⟨fun w hw' => by rw [hL w hw']; exact ge, rfl, own_ks1 (B := GetCharsL.outCell ⟨x, n, idx, da, A, st, d1, D1, d2, D2⟩) hA.1 (Arr.nostat hA _ hA.1) c1 o1 o2 o3 (fun y c hy hc => c2 y c hy (by rw [hh]; exact hc)), ?_⟩, hF⟩
    have key := own_out (D1 := D1) (D2 := D2) v1 v2 (F := 10) (A := A) (n := n) (idx := idx) (neg := decide (x < 0)) (f := f) (by omega) (by show digitsL n + _ ≤ _; simpa using hw) (by rw [S]; exact hi) H
    have eo : GetCharsL.outCell ⟨x, n, idx, da, A, st, d1, D1, d2, D2⟩ = if decide (x < 0) = true then put (digLoop D1 D2 10 A n idx).1 ((digLoop D1 D2 10 A n idx).2 - 1) 45 else (digLoop D1 D2 10 A n idx).1 := by
      show (if x < 0 then _ else _) = _
      by_cases hx : x < 0
      · rw [if_pos hx, if_pos (by simpa using hx)]
      · rw [if_neg hx, if_neg (by simpa using hx)]
    rw [← eo] at key
    obtain ⟨a1, kA, a2, comp, a3⟩ := hA.2.1
    refine ⟨_, ⟨c1, ⟨fun q e => a1 q (o2 ▸ e), kA, by rw [o1]; exact a2, comp, a3⟩, by rw [o2]; exact hA.2.2⟩, o1.trans q1, o3.trans S, q3, fun i hi' => key i (o3 ▸ hi'), fun i hi' => ?_⟩
    have e := key i (o3 ▸ hi')
    have e2 := o4 i hi'
    rw [Array.getD_eq_getD_getElem?, e] at e2
    exact e2
theorem own_gcL2 {x : Int64} {j : Int32} {n0 : Nat} {da d1 d2 : Addr} {k k1 k2 : ClassId} {z : Int32} {f u1 u2 : Nat → Int32} (wc : (Cond.code GetCharsL.gcN GetCharsL.gcB 11 (some .int)).before a0 Z = true) (wf1 : (Cond.fieldLink LNG 133 INT "DigitOnes" "[B").before a0 Z = true) (wf2 : (Cond.fieldLink LNG 137 INT "DigitTens" "[B").before a0 Z = true) (wl1 : (Cond.constantLong LNG 129 (-2147483648)).before a0 Z = true) (wl2 : (Cond.constantLong LNG 131 100).before a0 Z = true)
    (S1 : Sta Z h0 INT "DigitOnes" "[B" (.ref d1)) (S2 : Sta Z h0 INT "DigitTens" "[B" (.ref d2)) (w1 : (Cond.laysStatic INT "DigitOnes" "[B").before a0 Z = true) (w2 : (Cond.laysStatic INT "DigitTens" "[B").before a0 Z = true)
    (e1 : u1 = fun r => Int32.ofNat (48 + r % 10)) (B1 : BA Z h0 d1 k1 .byte 100 u1) (e2 : u2 = fun r => Int32.ofNat (48 + r / 10)) (B2 : BA Z h0 d2 k2 .byte 100 u2) (B : BA Z h0 da k .byte z f) (ne1 : da ≠ d1) (ne2 : da ≠ d2) (ge : n0 ≤ da)
    (hj : ¬ j < 0) (hi : j.toNatClampNeg ≤ z.toNatClampNeg) (hw : digitsL x.toInt.natAbs + (if x < 0 then 1 else 0) ≤ j.toNatClampNeg) :
    OMet l Z GetCharsL.gcN GetCharsL.gcB 11 (some .int) [] ({ frames := 1, cells := 0, slots := 0, locals := 80 } : Room) h0 #[.long x, .int j, .ref da] (OQg Z (Int32.ofNat (j.toNatClampNeg - (digitsL x.toInt.natAbs + (if x < 0 then 1 else 0)))) da k z (ogc (decide (x < 0)) x.toInt.natAbs (digitsL x.toInt.natAbs) j.toNatClampNeg f) h0 n0) := by
  subst e1 e2
  exact own_gcL wc wf1 wf2 wl1 wl2 S1 S2 w1 w2 B1 B2 B ne1 ne2 ge (own_ofNat hj) hi hw (own_absL x) (own_negL x) (own_clt z)
end PaysL
end Jvm.RoadKit
namespace Jvm.Pilot.@@N@@
open Jvm Jvm.ClassFile Sem Op Lib Jvm.Free Jvm.Stand Jvm.LawKit Jvm.RoadKit Bundle Jvm.Pilot.@@N@@.Jvm.D
theorem own_rng {k n : Int32} {N : Nat} (h : 0 ≤ k.toInt ∧ k.toInt < N) : ∃ i : Fin N, k = Int32.ofInt i.1 := by
  refine ⟨⟨k.toInt.toNat, by omega⟩, ?_⟩
  show k = Int32.ofInt ((k.toInt.toNat : Nat) : Int)
  rw [Int.toNat_of_nonneg h.1]; exact (Int32.ofInt_toInt k).symm
theorem own_mod (x : Int32) (y : Int32) (hy : 0 < y.toInt) : 0 ≤ ((x &&& (2147483647 : Int32)) % y).toInt ∧ ((x &&& (2147483647 : Int32)) % y).toInt < y.toInt := by
  have h1 := c_mask x 2147483647 31 (by decide) (by decide)
  have h2 := (c_iremV (x &&& (2147483647 : Int32)) y).1 (by rw [h1]; exact Int.emod_nonneg _ (by decide)) hy
  exact ⟨h2.1, h2.2.1⟩
theorem own_b1 (x : Int32) : (x &&& (1 : Int32)) = (0 : Int32) ∨ (x &&& (1 : Int32)) = (1 : Int32) := by
  have h := c_mask x 1 1 (by decide) (by decide)
  have q : (x &&& (1 : Int32)).toInt = 0 ∨ (x &&& (1 : Int32)).toInt = 1 := by rw [h]; omega
  rcases q with q | q <;> simp [← Int32.toInt_inj, q]
theorem tw {a0 : Array Value} {Z : State} {d : Jvm.Cond} (hw : ∀ d ∈ tables_1, d.before a0 Z = true) (i : Nat) (h : tables_1[i]? = some d) : d.before a0 Z = true := hw d (List.mem_of_getElem? h)
theorem own_w (W : Nat) : 2 * 0 + W ≤ W := by omega
abbrev SG (p : Program) (e : Env) (below : List Frame) (T : State) (f : JFrame) (t : State) : Prop := Steps p.tables e below (T.setTop f) t
abbrev vU : Slot := .unset
abbrev vS : Slot := .second
abbrev vI (x : Int32) : Slot := .val (.int x)
abbrev vJ (x : Int64) : Slot := .val (.long x)
abbrev vR (x : Addr) : Slot := .val (.ref x)
set_option maxRecDepth 65536
set_option maxHeartbeats 40000000
/-! m663-m2: plain arithmetic of the text -/
def oc8 (v : Int32) : Int32 := ((v &&& (255 : Int32)).toUInt32.toUInt16.toUInt32.toInt32)
theorem own_nt {a : Nat} (h : a < 2 ^ 31) : (Int32.ofNat a).toInt = a := Int32.toInt_ofNat_small h
theorem own_add (a b : Nat) : Int32.ofNat a + Int32.ofNat b = Int32.ofNat (a + b) := (Int32.ofNat_add a b).symm
theorem own_sub {a b : Nat} (h : b ≤ a) (ha : a < 2 ^ 31) : Int32.ofNat a - Int32.ofNat b = Int32.ofNat (a - b) := by
  apply Int32.toInt_inj.mp
  have q := c_isub (Int32.ofNat a) (Int32.ofNat b)
  have r1 := (Int32.ofNat a - Int32.ofNat b).toInt_lt
  have r2 := (Int32.ofNat a - Int32.ofNat b).le_toInt
  rw [own_nt ha, own_nt (by omega)] at q
  rw [own_nt (a := a - b) (by omega)]
  omega
theorem own_lt {a b : Nat} (ha : a < 2 ^ 31) (hb : b < 2 ^ 31) : Int32.ofNat a < Int32.ofNat b ↔ a < b := by rw [Int32.lt_iff_toInt_lt, own_nt ha, own_nt hb]; omega
theorem own_cl {a : Nat} (h : a < 2 ^ 31) : (Int32.ofNat a).toNatClampNeg = a := by show (Int32.ofNat a).toInt.toNat = a; rw [own_nt h]; rfl
theorem own_n0 {K : Nat} (h : K < 2 ^ 31) : ¬ (Int32.ofNat K < (0 : Int32)) := by show ¬ (Int32.ofNat K < Int32.ofNat 0); rw [own_lt h (by decide)]; omega
def osgL (v : Int64) : Nat := if v < 0 then 1 else 0
def oszL (v : Int64) : Nat := Jvm.Free.SBG.digitsL v.toInt.natAbs + osgL v
def otcL (v : Int64) (j : Nat) : Int32 := if v < 0 ∧ j = 0 then 45 else Jvm.Free.SBG.odg v.toInt.natAbs (oszL v - 1 - j)
def otxL (f : Nat → Int32) (n : Nat) (v : Int64) (i : Nat) : Int32 := if i < n then f i else otcL v (i - n)
theorem own_wb : ∀ f n : Nat, n < 100 ^ f → 1 ≤ n → 1 ≤ Jvm.Free.SBG.wN f n ∧ 10 ^ (Jvm.Free.SBG.wN f n - 1) ≤ n ∧ n < 10 ^ Jvm.Free.SBG.wN f n := by
  intro f
  induction f with
  | zero => intro n h1 h2; exact absurd h1 (by simp; omega)
  | succ f ih =>
    intro n h1 h2
    rw [Jvm.Free.SBG.own_wN]
    by_cases h : 100 ≤ n
    · rw [if_pos h]
      rw [Nat.pow_succ] at h1
      obtain ⟨a, b, c⟩ := ih (n / 100) (by omega) (by omega)
      generalize Jvm.Free.SBG.wN f (n / 100) = w at a b c ⊢
      have e1 : 10 ^ (2 + w - 1) = 100 * 10 ^ (w - 1) := by rw [show 2 + w - 1 = w - 1 + 2 from by omega, Nat.pow_add]; omega
      have e2 : 10 ^ (2 + w) = 100 * 10 ^ w := by rw [Nat.add_comm, Nat.pow_add]; omega
      rw [e1, e2]
      omega
    · rw [if_neg h]
      by_cases h9 : 9 < n
      · rw [if_pos h9]; omega
      · rw [if_neg h9]; omega
theorem own_D (v : Int64) : 1 ≤ Jvm.Free.SBG.digitsL v.toInt.natAbs ∧ Jvm.Free.SBG.digitsL v.toInt.natAbs ≤ 19 ∧ v.toInt.natAbs < 10 ^ Jvm.Free.SBG.digitsL v.toInt.natAbs ∧ (Jvm.Free.SBG.digitsL v.toInt.natAbs ≠ 1 → 10 ^ (Jvm.Free.SBG.digitsL v.toInt.natAbs - 1) ≤ v.toInt.natAbs) := by
  have hb := own_absL v
  generalize v.toInt.natAbs = n at hb ⊢
  by_cases h0 : n = 0
  · subst h0
    have e : Jvm.Free.SBG.digitsL 0 = 1 := by decide
    rw [e]; decide
  · obtain ⟨a, b, c⟩ := own_wb 10 n (by have : (100 : Nat) ^ 10 = 100000000000000000000 := (by decide); omega) (by omega)
    refine ⟨a, ?_, c, fun _ => b⟩
    show Jvm.Free.SBG.wN 10 n ≤ 19
    by_cases h : 20 ≤ Jvm.Free.SBG.wN 10 n
    · have := Nat.pow_le_pow_right (n := 10) (by decide) (show 19 ≤ Jvm.Free.SBG.wN 10 n - 1 by omega)
      have e : (10 : Nat) ^ 19 = 10000000000000000000 := by decide
      omega
    · omega
theorem oszL_le (v : Int64) : 1 ≤ oszL v ∧ oszL v ≤ 20 := by
  have h := own_D v
  have q : osgL v ≤ 1 := by unfold osgL; split <;> omega
  unfold oszL; omega
theorem own_pos {v : Int64} (h : ¬ v < 0) : oszL v = Jvm.Free.SBG.digitsL v.toInt.natAbs ∧ (v.toInt.natAbs : Int) = v.toInt ∧ v.toInt.natAbs < 2 ^ 63 := by
  have e : osgL v = 0 := if_neg h
  have z0 : (0 : Int64).toInt = 0 := rfl
  rw [Int64.lt_iff_toInt_lt, z0] at h
  have := v.toInt_lt
  refine ⟨by rw [oszL, e]; rfl, by omega, by omega⟩
/-- the value of the first K digits -/
def opv (x : Int64) (K : Nat) : Int64 := Int64.ofNat (x.toInt.natAbs / 10 ^ (oszL x - K))
theorem own_pv0 {x : Int64} (h : ¬ x < 0) : (0 : Int64) = opv x 0 := by
  have e := own_pos h
  have d := own_D x
  unfold opv
  rw [Nat.sub_zero, e.1, Nat.div_eq_of_lt d.2.2.1]; rfl
theorem own_pvF {x : Int64} (h : ¬ x < 0) : opv x 19 = x := by
  have e := own_pos h
  have d := own_D x
  unfold opv
  rw [e.1, Nat.sub_eq_zero_of_le d.2.1, Nat.pow_zero, Nat.div_one]
  apply Int64.toInt_inj.mp
  rw [Int64.toInt_ofNat_of_lt e.2.2]; exact e.2.1
theorem own_pvE {x : Int64} {K : Nat} (h : oszL x ≤ K) : opv x K = opv x (K + 1) := by
  unfold opv
  rw [Nat.sub_eq_zero_of_le h, Nat.sub_eq_zero_of_le (Nat.le_succ_of_le h)]
theorem own_pvN {x : Int64} (h : ¬ x < 0) (K : Nat) : ¬ (lcmpW (opv x K) (0 : Int64) < (0 : Int32)) := by
  have e := own_pos h
  rw [lw_lt, Int64.lt_iff_toInt_lt]
  unfold opv
  have q : x.toInt.natAbs / 10 ^ (oszL x - K) ≤ x.toInt.natAbs := Nat.div_le_self _ _
  generalize x.toInt.natAbs / 10 ^ (oszL x - K) = w at q
  rw [Int64.toInt_ofNat_of_lt (by omega)]
  have z0 : (0 : Int64).toInt = 0 := rfl
  omega
theorem own_dgA : ∀ t : Fin 10, (oc8 (Int32.ofNat (48 + t.1)) - (48 : Int32)).toInt64 = Int64.ofNat t.1 ∧ ¬ (oc8 (Int32.ofNat (48 + t.1)) < (48 : Int32)) ∧ ¬ ((57 : Int32) < oc8 (Int32.ofNat (48 + t.1))) ∧ (t.1 ≠ 0 → ¬ (oc8 (Int32.ofNat (48 + t.1)) = (48 : Int32))) := by decide
theorem own_dgB (n q : Nat) : (oc8 (Jvm.Free.SBG.odg n q) - (48 : Int32)).toInt64 = Int64.ofNat (n / 10 ^ q % 10) ∧ ¬ (oc8 (Jvm.Free.SBG.odg n q) < (48 : Int32)) ∧ ¬ ((57 : Int32) < oc8 (Jvm.Free.SBG.odg n q)) ∧ (n / 10 ^ q % 10 ≠ 0 → ¬ (oc8 (Jvm.Free.SBG.odg n q) = (48 : Int32))) := own_dgA ⟨_, Nat.mod_lt _ (by decide)⟩
theorem own_pvS {x : Int64} {K : Nat} (h : K < oszL x) : opv x K * (10 : Int64) + (oc8 (Jvm.Free.SBG.odg x.toInt.natAbs (oszL x - 1 - K)) - (48 : Int32)).toInt64 = opv x (K + 1) := by
  rw [(own_dgB _ _).1]
  unfold opv
  rw [show oszL x - K = oszL x - 1 - K + 1 from by omega, show oszL x - (K + 1) = oszL x - 1 - K from by omega, Nat.pow_succ, ← Nat.div_div_eq_div_mul]
  generalize x.toInt.natAbs / 10 ^ (oszL x - 1 - K) = q
  show Int64.ofNat _ * Int64.ofNat 10 + _ = _
  rw [← Int64.ofNat_mul, ← Int64.ofNat_add]
  congr 1; omega
/-- the first sign of a number of more than one digit -/
theorem own_ld {x : Int64} (h : ¬ x < 0) (h1 : oszL x ≠ 1) : ¬ (oc8 (Jvm.Free.SBG.odg x.toInt.natAbs (oszL x - 1)) = (48 : Int32)) := by
  have e := own_pos h
  have d := own_D x
  refine (own_dgB _ _).2.2.2 ?_
  rw [e.1] at h1 ⊢
  have a := d.2.2.2 h1
  have b := d.2.2.1
  generalize x.toInt.natAbs = n at a b h1 d ⊢
  rw [show Jvm.Free.SBG.digitsL n = Jvm.Free.SBG.digitsL n - 1 + 1 from by omega, Nat.pow_succ] at b
  have p : 0 < 10 ^ (Jvm.Free.SBG.digitsL n - 1) := Nat.pow_pos (by decide)
  have q1 : 1 ≤ n / 10 ^ (Jvm.Free.SBG.digitsL n - 1) := Nat.div_pos a p
  have q2 : n / 10 ^ (Jvm.Free.SBG.digitsL n - 1) < 10 := (Nat.div_lt_iff_lt_mul p).mpr (by rw [Nat.mul_comm]; exact b)
  rw [Nat.mod_eq_of_lt q2]; omega
/-- the rate -/
def ops (c n : Int64) : Int64 := if n = (0 : Int64) then (0 : Int64) else (c * (1000000000 : Int64)) / n
theorem own_big {c : Int64} (h0 : ¬ c < 0) (h1 : c.toInt < 4294967296) : (c * (1000000000 : Int64)).toInt = c.toInt * 1000000000 := by
  have q := c_lmul c 1000000000
  have z0 : (0 : Int64).toInt = 0 := rfl
  have z1 : (1000000000 : Int64).toInt = 1000000000 := rfl
  rw [Int64.lt_iff_toInt_lt, z0] at h0
  rw [z1] at q
  have r1 := (c * (1000000000 : Int64)).toInt_lt
  have r2 := (c * (1000000000 : Int64)).le_toInt
  omega
theorem own_rt {c n : Int64} (h0 : ¬ c < 0) (h1 : c.toInt < 4294967296) (h2 : ¬ n < 0) (h3 : ¬ n = 0) : (ops c n).toInt = c.toInt * 1000000000 / n.toInt := by
  have e := own_big h0 h1
  have z0 : (0 : Int64).toInt = 0 := rfl
  rw [Int64.lt_iff_toInt_lt, z0] at h0
  unfold ops
  rw [if_neg h3, (c_ldiv _ n _ rfl (fun k => by rw [k] at h2; exact h2 (by decide))).1 (by omega), e]
theorem own_r0 {c n : Int64} (h0 : ¬ c < 0) (h1 : c.toInt < 4294967296) (h2 : ¬ n < 0) : ¬ (ops c n < 0) := by
  by_cases h3 : n = 0
  · rw [ops, if_pos h3]; decide
  · have e := own_rt h0 h1 h2 h3
    have z0 : (0 : Int64).toInt = 0 := rfl
    rw [Int64.lt_iff_toInt_lt, z0] at h0 h2 ⊢
    rw [e]
    have := Int.ediv_nonneg (a := c.toInt * 1000000000) (b := n.toInt) (by omega) (by omega)
    omega
theorem own_rI {b n r P S : Int} (hb : 0 ≤ b) (hb2 : b < 9223372036854775808) (hn : 0 < n) (e : r = b / n) (p : (P - r * n) % 18446744073709551616 = 0) (p1 : P < 9223372036854775808) (p2 : -9223372036854775808 ≤ P) (s : (S - (b - P)) % 18446744073709551616 = 0) (s1 : S < 9223372036854775808) (s2 : -9223372036854775808 ≤ S) (hn2 : n < 9223372036854775808) : r ≤ b ∧ (0 < r → n ≤ b / r) ∧ S < n := by
  have l := Int.mul_ediv_add_emod b n
  have m1 := Int.emod_nonneg b (show n ≠ 0 by omega)
  have m2 := Int.emod_lt_of_pos b hn
  have dn := Int.ediv_nonneg (a := b) (b := n) hb (by omega)
  have dl := Int.ediv_le_self (a := b) (b := n) hb
  rw [← e] at l dn dl
  have pn : 0 ≤ n * r := Int.mul_nonneg (by omega) dn
  rw [Int.mul_comm r n] at p
  refine ⟨dl, fun hr => Int.le_ediv_of_mul_le hr ?_, ?_⟩
  · generalize n * r = w at l pn p ⊢
    omega
  · generalize n * r = w at l pn p
    omega
theorem own_rA {c n : Int64} (h0 : ¬ c < 0) (h1 : c.toInt < 4294967296) (h2 : ¬ n < 0) (h3 : ¬ n = 0) : ¬ ((c * (1000000000 : Int64)) < ops c n) ∧ ((0 : Int64) < ops c n → ¬ ((c * (1000000000 : Int64)) / ops c n < n)) ∧ (c * (1000000000 : Int64)) - ops c n * n < n := by
  have e := own_rt h0 h1 h2 h3
  have eb := own_big h0 h1
  have z0 : (0 : Int64).toInt = 0 := rfl
  have hn0 : n.toInt ≠ 0 := fun k => h3 (Int64.toInt_inj.mp (by rw [k]; rfl))
  have n1 := n.toInt_lt
  rw [Int64.lt_iff_toInt_lt, z0] at h0 h2
  rw [← eb] at e
  have hb : 0 ≤ (c * (1000000000 : Int64)).toInt := by omega
  obtain ⟨a1, a2, a3⟩ := own_rI hb (by omega) (by omega) e (c_lmul (ops c n) n) (ops c n * n).toInt_lt (ops c n * n).le_toInt (c_lsub (c * (1000000000 : Int64)) (ops c n * n)) (c * (1000000000 : Int64) - ops c n * n).toInt_lt (c * (1000000000 : Int64) - ops c n * n).le_toInt n1
  refine ⟨?_, ?_, Int64.lt_iff_toInt_lt.mpr a3⟩
  · rw [Int64.lt_iff_toInt_lt]; omega
  · intro hr
    rw [Int64.lt_iff_toInt_lt, z0] at hr
    rw [Int64.lt_iff_toInt_lt, (c_ldiv _ (ops c n) _ rfl (fun k => by rw [k, show (-1 : Int64).toInt = -1 from rfl] at hr; omega)).1 hb]
    have := a2 hr
    omega
theorem own_m32 (a : Int64) : ¬ ((a &&& (4294967295 : Int64)) < 0) ∧ (a &&& (4294967295 : Int64)).toInt < 4294967296 := by
  have key : ∀ x : BitVec 64, (x &&& 4294967295#64).toNat < 4294967296 := fun x => by
    rw [BitVec.toNat_and]; exact Nat.lt_of_le_of_lt Nat.and_le_right (by decide)
  have k := key a.toBitVec
  have e : (a &&& (4294967295 : Int64)).toInt = (a.toBitVec &&& 4294967295#64).toInt := rfl
  have f : (a.toBitVec &&& 4294967295#64).toInt = (a.toBitVec &&& 4294967295#64).toNat := BitVec.toInt_eq_toNat_of_lt (by omega)
  have z0 : (0 : Int64).toInt = 0 := rfl
  rw [Int64.lt_iff_toInt_lt, z0, e, f]; omega
theorem own_m63 (a : Int64) : ¬ ((a &&& (9223372036854775807 : Int64)) < 0) := by
  have key : ∀ x : BitVec 64, (x &&& 9223372036854775807#64).toNat < 9223372036854775808 := fun x => by
    rw [BitVec.toNat_and]; exact Nat.lt_of_le_of_lt Nat.and_le_right (by decide)
  have k := key a.toBitVec
  have e : (a &&& (9223372036854775807 : Int64)).toInt = (a.toBitVec &&& 9223372036854775807#64).toInt := rfl
  have f : (a.toBitVec &&& 9223372036854775807#64).toInt = (a.toBitVec &&& 9223372036854775807#64).toNat := BitVec.toInt_eq_toNat_of_lt (by omega)
  have z0 : (0 : Int64).toInt = 0 := rfl
  rw [Int64.lt_iff_toInt_lt, z0, e, f]; omega
def odm (c : Int32) (a b : Int64) : Int64 := if c = (0 : Int32) then a else b
theorem own_mif (c : Int32) (b : Int64) : ¬ (odm c (b &&& (9223372036854775807 : Int64)) (0 : Int64) < 0) := by
  unfold odm
  split
  · exact own_m63 b
  · decide
theorem own_n16 (u : UInt16) : u.toUInt32.toInt32.toUInt32.toUInt16 = u := by simp
theorem own_oc8 (v : Int32) : nar .char (oc8 v) = oc8 v := by
  show ((v &&& (255 : Int32)).toUInt32.toUInt16.toUInt32.toInt32.toUInt32.toUInt16).toUInt32.toInt32 = _
  rw [own_n16]; rfl
theorem own_t0 {n z : Int32} (hn : ¬ n < 0) (hz : ¬ z < 0) (h : n.toNatClampNeg ≤ z.toNatClampNeg) : n.toInt ≤ z.toInt ∧ 0 ≤ n.toInt := by
  rw [Int32.lt_iff_toInt_lt] at hn hz
  have e : (0 : Int32).toInt = 0 := rfl
  have a : n.toNatClampNeg = n.toInt.toNat := rfl
  have b : z.toNatClampNeg = z.toInt.toNat := rfl
  omega
theorem own_t1 {n z : Int32} (hn : ¬ n < 0) (hz : ¬ z < 0) (h : n.toNatClampNeg ≤ z.toNatClampNeg) (ne : ¬ n = z) : n - (0 : Int32) < z - (0 : Int32) := by
  rw [Int32.sub_zero, Int32.sub_zero, Int32.lt_iff_toInt_lt]
  have q := own_t0 hn hz h
  have : n.toInt ≠ z.toInt := fun e => ne (Int32.toInt_inj.mp e)
  omega
theorem own_t2 {n z c : Int32} (hn : ¬ n < 0) (hz : ¬ z < 0) (h : n.toNatClampNeg ≤ z.toNatClampNeg) (hc : ¬ (c < z)) : ¬ (c < n - (0 : Int32)) := by
  rw [Int32.sub_zero]
  rw [Int32.lt_iff_toInt_lt] at hc ⊢
  have q := own_t0 hn hz h
  omega
theorem own_ltn {i z : Int32} (h0 : ¬ i < 0) (h : i < z) : i.toNatClampNeg < z.toNatClampNeg := by
  rw [Int32.lt_iff_toInt_lt] at h0 h
  have e : (0 : Int32).toInt = 0 := rfl
  have a : i.toNatClampNeg = i.toInt.toNat := rfl
  have b : z.toNatClampNeg = z.toInt.toNat := rfl
  omega
theorem own_ltz {i y z : Int32} (h0 : ¬ i < 0) (h : i < y) (h1 : y.toNatClampNeg ≤ z.toNatClampNeg) : i < z := by
  have q := own_ltn h0 h
  rw [Int32.lt_iff_toInt_lt] at h0 ⊢
  have e : (0 : Int32).toInt = 0 := rfl
  have a : i.toNatClampNeg = i.toInt.toNat := rfl
  have b : z.toNatClampNeg = z.toInt.toNat := rfl
  omega
theorem own_stk {st : Int32} {K : Nat} (h0 : ¬ st < 0) (h1 : st.toNatClampNeg ≤ 100) (hK : K < 19) : st + Int32.ofNat K = Int32.ofNat (st.toNatClampNeg + K) := by
  have key : ∀ (s : Int32) (k : Nat), s = Int32.ofNat k → s + Int32.ofNat K = Int32.ofNat (k + K) := fun s k e => by subst e; exact own_add k K
  exact key st _ (own_ofNat h0)
theorem own_len {st : Int32} {x : Int64} (h0 : ¬ st < 0) (h1 : st.toNatClampNeg ≤ 100) : ((Int32.ofNat (st.toNatClampNeg + oszL x)) >>> ((0 : Int32) &&& 31)) - st = Int32.ofNat (oszL x) := by
  have h := oszL_le x
  rw [own_ishr0]
  have key : ∀ (s : Int32) (k : Nat), s = Int32.ofNat k → k ≤ 100 → Int32.ofNat (k + oszL x) - s = Int32.ofNat (oszL x) := fun s k e hk => by subst e; rw [own_sub (by omega) (by omega), Nat.add_sub_cancel_left]
  exact key st _ (own_ofNat h0) h1
theorem own_stz {st : Int32} {k : Nat} (h0 : ¬ st < 0) (h1 : st.toNatClampNeg ≤ 100) (hk : 1 ≤ k ∧ k ≤ 20) : st < Int32.ofNat (st.toNatClampNeg + k) := by
  have key : ∀ (s : Int32) (j : Nat), s = Int32.ofNat j → j ≤ 100 → s < Int32.ofNat (j + k) := fun s j e hj => by subst e; exact (own_lt (by omega) (by omega)).mpr (by omega)
  exact key st _ (own_ofNat h0) h1
theorem own_vlt {y z : Int32} {k : Nat} (h0 : ¬ y < 0) (h1 : y.toNatClampNeg ≤ 100) (hz : z = Int32.ofNat (y.toNatClampNeg + k)) (hk : k ≤ 20) : ¬ (z < y) := by
  have key : ∀ (s : Int32) (j : Nat), s = Int32.ofNat j → j ≤ 100 → ¬ (Int32.ofNat (j + k) < s) := fun s j e hj => by subst e; rw [own_lt (by omega) (by omega)]; omega
  rw [hz]; exact key y _ (own_ofNat h0) h1
theorem own_n1 {k : Nat} (h : 1 ≤ k) (h2 : k ≤ 20) : ¬ (Int32.ofNat k < (1 : Int32)) := by show ¬ (Int32.ofNat k < Int32.ofNat 1); rw [own_lt (by omega) (by decide)]; omega
theorem own_n19 {k : Nat} (h : k ≤ 19) : ¬ ((19 : Int32) < Int32.ofNat k) := by show ¬ (Int32.ofNat 19 < Int32.ofNat k); rw [own_lt (by decide) (by omega)]; omega
def oz16 (n : Int32) (v : Int64) : Int32 := if n.toNatClampNeg + oszL v ≤ 16 then 16 else 34
def oz34 (n : Int32) (v : Int64) : Int32 := if n.toNatClampNeg + oszL v ≤ 34 then 34 else 70
theorem own_ssxL (v : Int64) : Jvm.Free.SBG.strSizeOfL v = Int32.ofNat (oszL v) := by rw [Jvm.Free.SBG.strSizeOfL_eq (own_absL v) (own_negL v)]; rfl
theorem own_gA {A c : Nat} (h : A ≤ c) (hc : c < 2 ^ 31) : ¬ (Int32.ofNat 0 < Int32.ofNat A - Int32.ofNat c) := by
  have q := c_isub (Int32.ofNat A) (Int32.ofNat c)
  have r1 := (Int32.ofNat A - Int32.ofNat c).toInt_lt
  have r2 := (Int32.ofNat A - Int32.ofNat c).le_toInt
  rw [own_nt (by omega), own_nt hc] at q
  rw [Int32.lt_iff_toInt_lt, own_nt (by decide)]; omega
theorem own_gB {A c : Nat} (h : c < A) (hA : A < 2 ^ 31) : Int32.ofNat 0 < Int32.ofNat A - Int32.ofNat c := by
  rw [own_sub (by omega) hA]; exact (own_lt (by decide) (by omega)).mpr (by omega)
theorem own_gC {A c d : Nat} (h : c ≤ A) (hA : A < c + d) (hd : c + d < 2 ^ 31) : Int32.ofNat A - Int32.ofNat c < Int32.ofNat d := by
  rw [own_sub h (by omega)]; exact (own_lt (by omega) (by omega)).mpr (by omega)
theorem own_g1 {A : Nat} (h : A ≤ 16) : ¬ ((0 : Int32) < Int32.ofNat A - (16 : Int32)) := own_gA (c := 16) h (by decide)
theorem own_g5 {A : Nat} (h : 16 < A) (hA : A < 2 ^ 31) : (0 : Int32) < Int32.ofNat A - (16 : Int32) := own_gB (c := 16) h hA
theorem own_g6 {A : Nat} (h : 16 ≤ A) (hA : A < 34) : Int32.ofNat A - (16 : Int32) < (16 : Int32) + (2 : Int32) := own_gC (c := 16) (d := 18) h hA (by decide)
theorem own_g1b {A : Nat} (h : A ≤ 34) : ¬ ((0 : Int32) < Int32.ofNat A - (34 : Int32)) := own_gA (c := 34) h (by decide)
theorem own_g5b {A : Nat} (h : 34 < A) (hA : A < 2 ^ 31) : (0 : Int32) < Int32.ofNat A - (34 : Int32) := own_gB (c := 34) h hA
theorem own_g6b {A : Nat} (h : 34 ≤ A) (hA : A < 70) : Int32.ofNat A - (34 : Int32) < (34 : Int32) + (2 : Int32) := own_gC (c := 34) (d := 36) h hA (by decide)
theorem own_gcc {neg : Bool} {n w idx i : Nat} {f g : Nat → Int32} (h : f i = g i) : Jvm.Free.SBG.ogc neg n w idx f i = Jvm.Free.SBG.ogc neg n w idx g i := by simp only [Jvm.Free.SBG.ogc, h]
theorem own_c0' : (0 : Int32).toNatClampNeg = 0 := rfl
theorem own_c16' : (16 : Int32).toNatClampNeg = 16 := rfl
theorem own_c34' : (34 : Int32).toNatClampNeg = 34 := rfl
theorem own_8 : (0 : Int32) + (8 : Int32) = Int32.ofNat 8 := rfl
theorem own_10 : (0 : Int32) + (10 : Int32) = Int32.ofNat 10 := rfl
theorem own_11 : (0 : Int32) + (11 : Int32) = Int32.ofNat 11 := rfl
theorem own_17 : (0 : Int32) + (17 : Int32) = Int32.ofNat 17 := rfl
theorem own_k0 : (0 : Int32).toNatClampNeg = 0 := rfl
theorem own_k8 : (8 : Int32).toNatClampNeg = 8 := rfl
theorem own_k10 : (10 : Int32).toNatClampNeg = 10 := rfl
theorem own_k11 : (11 : Int32).toNatClampNeg = 11 := rfl
theorem own_k17 : (17 : Int32).toNatClampNeg = 17 := rfl
theorem own_oz16 {N : Nat} (hN : N ≤ 12) (v : Int64) : (N + oszL v ≤ (oz16 (Int32.ofNat N) v).toNatClampNeg) ∧ ¬ ((70 : Int32) < oz16 (Int32.ofNat N) v) := by
  have h := oszL_le v
  unfold oz16
  rw [own_cl (by omega)]
  by_cases q : N + oszL v ≤ 16
  · rw [if_pos q]; exact ⟨q, by decide⟩
  · rw [if_neg q]; exact ⟨by show _ ≤ 34; omega, by decide⟩
theorem own_oz34 {N : Nat} (hN : N ≤ 17) (v : Int64) : (N + oszL v ≤ (oz34 (Int32.ofNat N) v).toNatClampNeg) ∧ ¬ ((70 : Int32) < oz34 (Int32.ofNat N) v) := by
  have h := oszL_le v
  unfold oz34
  rw [own_cl (by omega)]
  by_cases q : N + oszL v ≤ 34
  · rw [if_pos q]; exact ⟨q, by decide⟩
  · rw [if_neg q]; exact ⟨by show _ ≤ 70; omega, by decide⟩
/-- the text that a builder of C places holds behind append(long) -/
theorem own_txt {v : Int64} {N i C : Nat} {pf g : Nat → Int32} (hN : N ≤ C) (hi : i < N + oszL v) : Jvm.Free.SBG.ogc (decide (v < 0)) v.toInt.natAbs (Jvm.Free.SBG.digitsL v.toInt.natAbs) (N + oszL v) (fun i => if i < C then (if 0 ≤ i ∧ i < 0 + N then pf (0 + (i - 0)) else g i) else 0) i = otxL pf N v i := by
  have hos : oszL v = Jvm.Free.SBG.digitsL v.toInt.natAbs + osgL v := rfl
  have hsg : osgL v = if v < 0 then 1 else 0 := rfl
  have hd := own_D v
  have hd1 := hd.1
  clear hd
  unfold Jvm.Free.SBG.ogc otxL
  dsimp only
  by_cases q : i < N
  · by_cases hv : v < 0
    · rw [if_pos hv] at hsg
      rw [if_neg (by omega), if_neg (by omega), if_pos (by omega), if_pos (by omega), if_pos q, Nat.zero_add, Nat.sub_zero]
    · rw [if_neg hv] at hsg
      rw [if_neg (by omega), if_neg (fun r => hv (by simpa using r.1)), if_pos (by omega), if_pos (by omega), if_pos q, Nat.zero_add, Nat.sub_zero]
  · rw [if_neg q]
    unfold otcL
    by_cases hv : v < 0
    · rw [if_pos hv] at hsg
      by_cases q5 : i = N
      · rw [if_neg (by omega), if_pos ⟨by simp [hv], by omega⟩, if_pos ⟨hv, by omega⟩]
      · rw [if_pos (by omega), if_neg (fun r => by omega), show N + oszL v - 1 - i = oszL v - 1 - (i - N) from by omega]
    · rw [if_neg hv] at hsg
      rw [if_pos (by omega), if_neg (fun r => hv r.1), show N + oszL v - 1 - i = oszL v - 1 - (i - N) from by omega]
theorem own_ci {args : Array Value} {s : State} {t : Jvm.Term} {k : Int32} (h : (Jvm.Cond.eq t (.int k)).value args s none s [] = some true) : t.eval args s none [] s = some (.int k) := by
  have e2 : (Jvm.Term.int k).eval args s none [] s = some (.int k) := Jvm.Term.int_eval k
  cases ev : t.eval args s none [] s with
  | none => simp [Jvm.Cond.value, ev] at h
  | some v => cases v <;> simp_all [Jvm.Cond.value]
theorem own_mvL {Z s : State} {a0 args : Array Value} {own host : String} {y : MethodName} {index : Nat} (hZ : Z.Warmed39 s.vm) (w : (Jvm.Cond.methodLinkNest own index y host).before a0 Z = true) : (Jvm.Cond.methodLinkNest own index y host).before args s = true := (Cond.methodLinkNest_wide hZ w :)
abbrev TW (a0 : Array Value) (Z : State) : Prop := ∀ d ∈ tables_1, d.before a0 Z = true
abbrev Rm (f c s l : Nat) : Room := { frames := f, cells := c, slots := s, locals := l }
abbrev Dc (b : ByteArray) (i : Nat) (o : Instr) (n : Nat) : Prop := decode b i = .ok (o, n)
theorem own_X0 {p : Program} {l : Launch} {x : MethodName} {ws : List Jvm.Cond} {rm : Room} {code : ByteArray} {maxL : Nat} {ret : Option FieldType} {e : Env} {s : State} {m : MethodId} {args : Array Value} {below : List Frame} {meth : Method} {c : Code} {s₁ : State} (B : BodyLoose p l x (head1 ws rm) code maxL ret e s m args below meth c s₁) : Stand p l e rm s m args below meth c s₁ [] 0 0 := Stand.of_body B
abbrev rev1 := jdk_42_method_56_code
abbrev rev2 := jdk_42_method_154_code
abbrev rev3 := jdk_43_method_2_code
abbrev rev4 := jdk_42_method_155_code
abbrev rev5 := jdk_41_method_11_code
abbrev rev6 := jdk_67_method_42_code
abbrev rev7 := jdk_42_method_53_code
abbrev rev8 := jdk_42_method_150_code
abbrev rev9 := jdk_68_method_64_code
abbrev rev10 := jdk_67_method_93_code
abbrev rev11 := jdk_68_method_6_code
abbrev rev12 := jdk_68_method_68_code
abbrev rev13 := jdk_65_method_132_code
abbrev rev14 := jdk_65_method_133_code
abbrev rev15 := jdk_65_method_131_code
abbrev rev16 := jdk_29_method_69_code
abbrev rev17 := jdk_67_method_16_code
abbrev rev18 := jdk_68_method_33_code
abbrev rev19 := jdk_68_method_9_code
abbrev rev20 := jdk_68_method_10_code
abbrev rev21 := jdk_48_method_27_code
abbrev rev22 := jdk_29_method_65_code
abbrev rev23 := jdk_65_method_121_code
abbrev rev24 := prog_5_method_3_code
abbrev rev25 := method_6_code
abbrev rev26 := jdk_42_method_54_code
abbrev rev27 := jdk_42_method_152_code
abbrev rev28 := method_8_code
abbrev rev29 := method_9_code
abbrev rev30 := method_5_code
abbrev rev31 := method_7_code
abbrev rev32 := method_4_code
abbrev rev33 := prog_5_method_2_code
abbrev rev34 := jdk_67_method_1_code
abbrev rev35 := jdk_68_method_2_code
abbrev rev36 := jdk_67_method_7_code
abbrev rev37 := jdk_68_method_22_code
abbrev rev38 := jdk_68_method_73_code
abbrev rev39 := jdk_68_method_71_code
abbrev rev40 := jdk_42_method_147_code
abbrev rev41 := jdk_40_method_40_code
abbrev rev42 := jdk_56_method_5_code
abbrev rev43 := jdk_31_method_10_code
abbrev rev44 := jdk_45_method_1_code
abbrev rev45 := jdk_46_method_1_code
abbrev rev46 := jdk_47_method_1_code
abbrev rev47 := jdk_22_method_1_code
abbrev rev48 := prog_5_method_1_code
abbrev rev49 := jdk_30_method_1_code
abbrev rev50 := jdk_45_method_3_code
abbrev rev51 := jdk_45_method_4_code
abbrev rev52 := method_3_code
abbrev sK1 := "java/lang/String"
abbrev sK2 := "java/lang/AbstractStringBuilder"
abbrev sK3 := "COMPACT_STRINGS"
abbrev sK4 := "java/lang/StringBuilder"
abbrev sK5 := "java/lang/Integer"
abbrev sK6 := "com/example/eta4/eta4/bench/ThroughputFigures"
abbrev sK7 := "jdk/internal/util/Preconditions"
abbrev sK8 := "java/util/ImmutableCollections$ListN"
abbrev sK9 := "SIOOBE_FORMATTER"
abbrev sK10 := "Ljava/util/function/BiFunction;"
abbrev sK11 := "DigitOnes"
abbrev sK12 := "DigitTens"
abbrev sK13 := "java/lang/Object"
abbrev sK14 := "com/example/eta4/eta4/bench/ThroughputFiguresLinesPinLaw"
abbrev sK15 := "elements"
abbrev sK16 := "[Ljava/lang/Object;"
abbrev sK17 := "java/util/ImmutableCollections"
abbrev sK18 := "java/util/Arrays"
abbrev sK19 := "$assertionsDisabled"
abbrev sK20 := "java/util/List"
abbrev mN1 : MethodName := ⟨"java/lang/String", "isLatin1", "()Z"⟩
abbrev mN2 : MethodName := ⟨"jdk/internal/util/Preconditions", "checkIndex", "(IILjava/util/function/BiFunction;)I"⟩
abbrev mN3 : MethodName := ⟨"java/lang/String", "checkIndex", "(II)V"⟩
abbrev mN4 : MethodName := ⟨"java/lang/StringLatin1", "charAt", "([BI)C"⟩
abbrev mN5 : MethodName := ⟨"java/lang/String", "charAt", "(I)C"⟩
abbrev mN6 : MethodName := ⟨"java/lang/AbstractStringBuilder", "getValue", "()[B"⟩
abbrev mN7 : MethodName := ⟨"java/lang/AbstractStringBuilder", "length", "()I"⟩
abbrev mN8 : MethodName := ⟨"java/lang/AbstractStringBuilder", "ensureCapacityInternal", "(I)V"⟩
abbrev mN9 : MethodName := ⟨"java/lang/StringBuilder", "length", "()I"⟩
abbrev mN10 : MethodName := ⟨"java/lang/AbstractStringBuilder", "isLatin1", "()Z"⟩
abbrev mN11 : MethodName := ⟨"java/util/Arrays", "checkLength", "(II)V"⟩
abbrev mN12 : MethodName := ⟨"java/lang/Math", "min", "(II)I"⟩
abbrev mN13 : MethodName := ⟨"java/util/Arrays", "copyOfRangeByte", "([BII)[B"⟩
abbrev mN14 : MethodName := ⟨"java/util/Arrays", "copyOfRange", "([BII)[B"⟩
abbrev mN15 : MethodName := ⟨"java/lang/String", "<init>", "(Ljava/lang/AbstractStringBuilder;Ljava/lang/Void;)V"⟩
abbrev mN16 : MethodName := ⟨"java/lang/String", "<init>", "(Ljava/lang/StringBuilder;)V"⟩
abbrev mN17 : MethodName := ⟨"java/lang/StringBuilder", "toString", "()Ljava/lang/String;"⟩
abbrev mN18 : MethodName := ⟨"java/lang/Long", "stringSize", "(J)I"⟩
abbrev mN19 : MethodName := ⟨"java/lang/Long", "getChars", "(JI[B)I"⟩
abbrev mN20 : MethodName := ⟨"java/lang/AbstractStringBuilder", "append", "(J)Ljava/lang/AbstractStringBuilder;"⟩
abbrev mN21 : MethodName := ⟨"java/lang/StringBuilder", "append", "(J)Ljava/lang/StringBuilder;"⟩
abbrev mN22 : MethodName := ⟨"java/lang/Math", "max", "(II)I"⟩
abbrev mN23 : MethodName := ⟨"jdk/internal/util/ArraysSupport", "newLength", "(III)I"⟩
abbrev mN24 : MethodName := ⟨"java/lang/AbstractStringBuilder", "newCapacity", "(I)I"⟩
abbrev mN25 : MethodName := ⟨"java/util/Arrays", "copyOf", "([BI)[B"⟩
abbrev mN26 : MethodName := ⟨"com/example/eta4/eta4/bench/ThroughputFigures", "perSecond", "(JJ)J"⟩
abbrev mN27 : MethodName := ⟨"java/lang/String", "coder", "()B"⟩
abbrev mN28 : MethodName := ⟨"java/lang/String", "length", "()I"⟩
abbrev mN29 : MethodName := ⟨"com/example/eta4/eta4/bench/ThroughputFiguresLinesPinLaw", "same", "(Ljava/lang/String;Ljava/lang/String;I)Z"⟩
abbrev mN30 : MethodName := ⟨"com/example/eta4/eta4/bench/ThroughputFiguresLinesPinLaw", "acc", "(JLjava/lang/String;III)J"⟩
abbrev mN31 : MethodName := ⟨"com/example/eta4/eta4/bench/ThroughputFiguresLinesPinLaw", "parse", "(Ljava/lang/String;I)J"⟩
abbrev mN32 : MethodName := ⟨"com/example/eta4/eta4/bench/ThroughputFiguresLinesPinLaw", "hasPrefix", "(Ljava/lang/String;Ljava/lang/String;)Z"⟩
abbrev mN33 : MethodName := ⟨"com/example/eta4/eta4/bench/ThroughputFiguresLinesPinLaw", "value", "(Ljava/lang/String;Ljava/lang/String;)J"⟩
abbrev mN34 : MethodName := ⟨"com/example/eta4/eta4/bench/ThroughputFiguresLinesPinLaw", "rateLine", "(Ljava/lang/String;Ljava/lang/String;JJ)Z"⟩
abbrev mN35 : MethodName := ⟨"java/lang/AbstractStringBuilder", "<init>", "(I)V"⟩
abbrev mN36 : MethodName := ⟨"java/lang/StringBuilder", "<init>", "()V"⟩
abbrev mN37 : MethodName := ⟨"java/lang/AbstractStringBuilder", "inflateIfNeededFor", "(Ljava/lang/String;)V"⟩
abbrev mN38 : MethodName := ⟨"java/lang/String", "getBytes", "([BIB)V"⟩
abbrev mN39 : MethodName := ⟨"java/lang/AbstractStringBuilder", "putStringAt", "(ILjava/lang/String;)V"⟩
abbrev mN40 : MethodName := ⟨"java/lang/AbstractStringBuilder", "append", "(Ljava/lang/String;)Ljava/lang/AbstractStringBuilder;"⟩
abbrev mN41 : MethodName := ⟨"java/lang/StringBuilder", "append", "(Ljava/lang/String;)Ljava/lang/StringBuilder;"⟩
abbrev mN42 : MethodName := ⟨"java/util/Objects", "requireNonNull", "(Ljava/lang/Object;)Ljava/lang/Object;"⟩
abbrev mN43 : MethodName := ⟨"java/util/AbstractCollection", "<init>", "()V"⟩
abbrev mN44 : MethodName := ⟨"java/util/ImmutableCollections$AbstractImmutableCollection", "<init>", "()V"⟩
abbrev mN45 : MethodName := ⟨"java/util/ImmutableCollections$AbstractImmutableList", "<init>", "()V"⟩
abbrev mN46 : MethodName := ⟨"java/util/ImmutableCollections$ListN", "<init>", "([Ljava/lang/Object;Z)V"⟩
abbrev mN47 : MethodName := ⟨"java/util/ImmutableCollections", "listFromTrustedArray", "([Ljava/lang/Object;)Ljava/util/List;"⟩
abbrev mN48 : MethodName := ⟨"java/util/List", "of", "(Ljava/lang/Object;Ljava/lang/Object;Ljava/lang/Object;Ljava/lang/Object;)Ljava/util/List;"⟩
abbrev mN49 : MethodName := ⟨"com/example/eta4/eta4/bench/ThroughputFigures", "lines", "()Ljava/util/List;"⟩
abbrev mN50 : MethodName := ⟨"java/lang/Record", "<init>", "()V"⟩
abbrev mN51 : MethodName := ⟨"com/example/eta4/eta4/bench/ThroughputFigures", "<init>", "(JJJJ)V"⟩
abbrev mN52 : MethodName := ⟨"java/util/ImmutableCollections$ListN", "size", "()I"⟩
abbrev mN53 : MethodName := ⟨"java/util/List", "size", "()I"⟩
abbrev mN54 : MethodName := ⟨"java/util/ImmutableCollections$ListN", "get", "(I)Ljava/lang/Object;"⟩
abbrev mN55 : MethodName := ⟨"java/util/List", "get", "(I)Ljava/lang/Object;"⟩
abbrev mN56 : MethodName := ⟨"com/example/eta4/eta4/bench/ThroughputFiguresLinesPinLaw", "countLine", "(Ljava/lang/String;Ljava/lang/String;J)Z"⟩
abbrev EL : List (String × Nat) := [("com/example/eta4/eta4/bench/ThroughputFigures", 25), ("com/example/eta4/eta4/bench/ThroughputFigures", 38), ("com/example/eta4/eta4/bench/ThroughputFigures", 44), ("com/example/eta4/eta4/bench/ThroughputFigures", 46), ("com/example/eta4/eta4/bench/ThroughputFiguresLinesPinLaw", 34), ("com/example/eta4/eta4/bench/ThroughputFiguresLinesPinLaw", 42), ("com/example/eta4/eta4/bench/ThroughputFiguresLinesPinLaw", 48), ("com/example/eta4/eta4/bench/ThroughputFiguresLinesPinLaw", 50)]
theorem el_ok {Z : State} {a0 : Array Value} (hw : TW a0 Z) : EW Z a0 EL := (EW.cons (text := "pushed_ok ") (tw hw 48 rfl) (by decide) (EW.cons (text := "push_per_s ") (tw hw 172 rfl) (by decide) (EW.cons (text := "drained ") (tw hw 176 rfl) (by decide) (EW.cons (text := "pop_finish_per_s ") (tw hw 197 rfl) (by decide) (EW.cons (text := "pushed_ok ") (tw hw 262 rfl) (by decide) (EW.cons (text := "push_per_s ") (tw hw 306 rfl) (by decide) (EW.cons (text := "drained ") (tw hw 310 rfl) (by decide) (EW.cons (text := "pop_finish_per_s ") (tw hw 311 rfl) (by decide) EW.nil))))))))
theorem d48_0 : Dc rev1 0 (.aload_n 0) 1 := by decide +kernel
theorem d48_1 : Dc rev1 1 (.invokevirtual 492) 3 := by decide +kernel
theorem d49_0 : Dc rev2 0 (.getstatic 38) 3 := by decide +kernel
theorem d49_3 : Dc rev2 3 (.ifCond .eq 14) 3 := by decide +kernel
theorem d49_6 : Dc rev2 6 (.aload_n 0) 1 := by decide +kernel
theorem d49_7 : Dc rev2 7 (.getfield 15) 3 := by decide +kernel
theorem d49_10 : Dc rev2 10 (.ifCond .ne 7) 3 := by decide +kernel
theorem d49_13 : Dc rev2 13 (.iconst 1) 1 := by decide +kernel
theorem d49_14 : Dc rev2 14 (.goto 4) 3 := by decide +kernel
theorem d49_18 : Dc rev2 18 .ireturn 1 := by decide +kernel
theorem pn_java_lang_String : plainName "java/lang/String" = true := by first | (simp [plainName, overriddenIn]; done) | decide +kernel
theorem ef_49_v (m : MethodId) (x0 : Addr) : entryFrame m #[(.ref x0)] 1 = mkF m 0 #[.val (.ref x0)] [] := by first | (simp [entryFrame, mkF, argsToLocals, Value.category]; done) | rfl
theorem r49_1 (l : Launch) (Z : State) (a0 : Array Value) (hw : TW a0 Z) (a1 : Addr) (w2 : Int32) (w3 : Int32) (h0 : Heap) (n0 : Nat) (Z0 : n0 ≤ h0.size) (H0 : Sta Z h0 sK1 sK3 "Z" (.int w2)) (H1 : ¬ (w2 = 0)) (H2 : Fld Z h0 a1 sK1 "coder" "B" (.int w3)) (H3 : w3 = 0) :
   OMet l Z mN1 jdk_42_method_154_code 1 (some .boolean) [] (Rm 0 0 0 0) h0 #[(.ref a1)] (OQp (some (.int 1)) h0 n0) := by
 refine MetFree.of_bodySF (plainFor_of_name pn_java_lang_String) hisR ?_
 intro p e s m args below meth c s₁ Bd hml0 hP hK
 obtain ⟨rfl, hZ, hh⟩ := hP
 have hx := Bd.exec
 have hby := Bd.bytes
 have hml : c.maxLocals = 1 := hml0
 have hown : s.vm.findClass sK1 = some m.cls := findClass_of_methodNamed Bd.named
 have X0 := own_X0 Bd
 have e0 : s₁.heap = h0 := by rw [← hh, Bd.state]; rfl
 have N0 := Fr.nil n0
 have pre0 : ∀ t, Steps p.tables e below (s₁.setTop (mkF m 0 #[vR a1] [])) t → Steps p.tables e below (s₁.setTop (entryFrame m #[(.ref a1)] 1)) t := fun t k => castTop (ef_49_v m a1) k
 obtain ⟨T4, X4, e4, st4⟩ := getS2 X0 hx hZ hown (host := "") (Or.inl (tw hw 75 rfl)) Via.refl e0 H0 (g := (mkF m 0 #[vR a1] [])) rfl (hb hby d49_0)
 obtain ⟨T5, X5, e5, st5⟩ := getF X4 hx hZ hown (host := "") (Or.inl (tw hw 76 rfl)) Via.refl e4 H2 (g := (mkF m 7 #[vR a1] [(.ref a1)])) rfl rfl (hb hby d49_7)
 obtain ⟨fs, hr, hrun, hended, hW, hsame⟩ := X5.leave (v := some (.int 1)) (fun h => by rw [Bd.returns] at h; cases h)
 refine ⟨_, _, pre0 _ ?_, hrun, hended, _, _, rfl, ?_, ⟨_, rfl⟩, hW, hsame.mono (by decide) (by decide)⟩
 · show SG p e below s₁ (mkF m 0 #[vR a1] []) _
   refine st4 _ ?_
   show SG p e below T4 (mkF m 3 #[vR a1] [(.int w2)]) _
   refine XS.ifNo X4.here hx rfl (hb hby d49_3) rfl ((if0 _ _).trans (feq H1).1) ?_
   show SG p e below T4 (mkF m 6 #[vR a1] []) _
   refine XS.aloadN X4.here hx rfl (hb hby d49_6) rfl rfl ?_
   show SG p e below T4 (mkF m 7 #[vR a1] [(.ref a1)]) _
   refine st5 _ ?_
   show SG p e below T5 (mkF m 10 #[vR a1] [(.int w3)]) _
   refine XS.ifNo X5.here hx rfl (hb hby d49_10) rfl ((if0 _ _).trans (teq H3).2) ?_
   show SG p e below T5 (mkF m 13 #[vR a1] []) _
   refine XS.iconst X5.here hx rfl (hb hby d49_13) ?_
   refine XS.goto X5.here hx rfl (pc0 := 14) (pc' := 18) rfl (hb hby d49_14) (by decide) (by decide) ?_
   show SG p e below T5 (mkF m 18 #[vR a1] [(.int 1)]) _
   exact retN X5 hx (t := .boolean) Bd.returns (by simp) (hb hby d49_18) hr
 · show OQp (some (.int 1)) h0 n0 _ T5.heap _
   rw [e5]
   exact ⟨rfl, N0, rfl⟩
theorem pd_0 : parseMethodDescriptor "()Z" = some ⟨[], some .boolean⟩ := by decide +kernel
theorem d48_4 : Dc rev1 4 (.ifCond .eq 12) 3 := by decide +kernel
theorem d48_7 : Dc rev1 7 (.aload_n 0) 1 := by decide +kernel
theorem d48_8 : Dc rev1 8 (.getfield 9) 3 := by decide +kernel
theorem d48_11 : Dc rev1 11 (.iload_n 1) 1 := by decide +kernel
theorem d48_12 : Dc rev1 12 (.invokestatic 495) 3 := by decide +kernel
theorem d50_0 : Dc rev3 0 (.iload_n 1) 1 := by decide +kernel
theorem d50_1 : Dc rev3 1 (.aload_n 0) 1 := by decide +kernel
theorem d50_2 : Dc rev3 2 .arraylength 1 := by decide +kernel
theorem d50_3 : Dc rev3 3 (.invokestatic 9) 3 := by decide +kernel
theorem d51_0 : Dc rev4 0 (.iload_n 0) 1 := by decide +kernel
theorem d51_1 : Dc rev4 1 (.iload_n 1) 1 := by decide +kernel
theorem d51_2 : Dc rev4 2 (.getstatic 1053) 3 := by decide +kernel
theorem d51_5 : Dc rev4 5 (.invokestatic 1059) 3 := by decide +kernel
theorem d52_0 : Dc rev5 0 (.iload_n 0) 1 := by decide +kernel
theorem d52_1 : Dc rev5 1 (.ifCond .lt 8) 3 := by decide +kernel
theorem d52_4 : Dc rev5 4 (.iload_n 0) 1 := by decide +kernel
theorem d52_5 : Dc rev5 5 (.iload_n 1) 1 := by decide +kernel
theorem d52_6 : Dc rev5 6 (.if_icmp .lt 10) 3 := by decide +kernel
theorem d52_16 : Dc rev5 16 (.iload_n 0) 1 := by decide +kernel
theorem d52_17 : Dc rev5 17 .ireturn 1 := by decide +kernel
theorem pn_jdk_internal_util_Preconditions : plainName "jdk/internal/util/Preconditions" = true := by first | (simp [plainName, overriddenIn]; done) | decide +kernel
theorem ef_52_vvn (m : MethodId) (x0 : Int32) (x1 : Int32) : entryFrame m #[(.int x0), (.int x1), .null] 3 = mkF m 0 #[.val (.int x0), .val (.int x1), .val .null] [] := by first | (simp [entryFrame, mkF, argsToLocals, Value.category]; done) | rfl
theorem r52_1 (l : Launch) (Z : State) (a0 : Array Value) (hw : TW a0 Z) (p1 : Int32) (p2 : Int32) (h0 : Heap) (n0 : Nat) (Z0 : n0 ≤ h0.size) (H0 : ¬ (p1 < 0)) (H1 : p1 < p2) :
   OMet l Z mN2 jdk_41_method_11_code 3 (some .int) [] (Rm 0 0 0 0) h0 #[(.int p1), (.int p2), .null] (OQp (some (.int p1)) h0 n0) := by
 refine MetFree.of_bodySF (plainFor_of_name pn_jdk_internal_util_Preconditions) hisR ?_
 intro p e s m args below meth c s₁ Bd hml0 hP hK
 obtain ⟨rfl, hZ, hh⟩ := hP
 have hx := Bd.exec
 have hby := Bd.bytes
 have hml : c.maxLocals = 3 := hml0
 have hown : s.vm.findClass sK7 = some m.cls := findClass_of_methodNamed Bd.named
 have X0 := own_X0 Bd
 have e0 : s₁.heap = h0 := by rw [← hh, Bd.state]; rfl
 have N0 := Fr.nil n0
 have pre0 : ∀ t, Steps p.tables e below (s₁.setTop (mkF m 0 #[vI p1, vI p2, .val .null] [])) t → Steps p.tables e below (s₁.setTop (entryFrame m #[(.int p1), (.int p2), .null] 3)) t := fun t k => castTop (ef_52_vvn m p1 p2) k

 obtain ⟨fs, hr, hrun, hended, hW, hsame⟩ := X0.leave (v := some (.int p1)) (fun h => by rw [Bd.returns] at h; cases h)
 refine ⟨_, _, pre0 _ ?_, hrun, hended, _, _, rfl, ?_, ⟨_, rfl⟩, hW, hsame.mono (by decide) (by decide)⟩
 · show SG p e below s₁ (mkF m 0 #[vI p1, vI p2, .val .null] []) _
   refine XS.iloadN X0.here hx rfl (hb hby d52_0) rfl ?_
   refine XS.ifNo X0.here hx rfl (hb hby d52_1) rfl ((if0 _ _).trans (flt H0).1) ?_
   show SG p e below s₁ (mkF m 4 #[vI p1, vI p2, .val .null] []) _
   refine XS.iloadN X0.here hx rfl (hb hby d52_4) rfl ?_
   refine XS.iloadN X0.here hx rfl (hb hby d52_5) rfl ?_
   show SG p e below s₁ (mkF m 6 #[vI p1, vI p2, .val .null] [(.int p2), (.int p1)]) _
   refine XS.icmpYes X0.here hx rfl (pc0 := 6) (pc' := 16) rfl (hb hby d52_6) rfl (tlt H1).1 (by decide) (by decide) ?_
   show SG p e below s₁ (mkF m 16 #[vI p1, vI p2, .val .null] []) _
   refine XS.iloadN X0.here hx rfl (hb hby d52_16) rfl ?_
   show SG p e below s₁ (mkF m 17 #[vI p1, vI p2, .val .null] [(.int p1)]) _
   exact retI X0 hx Bd.returns (hb hby d52_17) hr
 · show OQp (some (.int p1)) h0 n0 _ s₁.heap _
   rw [e0]
   exact ⟨rfl, N0, rfl⟩
theorem pd_1 : parseMethodDescriptor "(IILjava/util/function/BiFunction;)I" = some ⟨[.int, .int, (.object "java/util/function/BiFunction")], some .int⟩ := by decide +kernel
theorem d51_8 : Dc rev4 8 .pop 1 := by decide +kernel
theorem d51_9 : Dc rev4 9 .return_ 1 := by decide +kernel
theorem ef_51_vv (m : MethodId) (x0 : Int32) (x1 : Int32) : entryFrame m #[(.int x0), (.int x1)] 2 = mkF m 0 #[.val (.int x0), .val (.int x1)] [] := by first | (simp [entryFrame, mkF, argsToLocals, Value.category]; done) | rfl
theorem r51_1 (l : Launch) (Z : State) (a0 : Array Value) (hw : TW a0 Z) (p1 : Int32) (p2 : Int32) (h0 : Heap) (n0 : Nat) (Z0 : n0 ≤ h0.size) (H0 : Sta Z h0 sK7 sK9 sK10 .null) (H1 : ¬ (p1 < 0)) (H2 : p1 < p2) :
   OMet l Z mN3 jdk_42_method_155_code 2 none [] (Rm 1 0 0 14) h0 #[(.int p1), (.int p2)] (OQp (none) h0 n0) := by
 refine MetFree.of_bodySF (plainFor_of_name pn_java_lang_String) hisR ?_
 intro p e s m args below meth c s₁ Bd hml0 hP hK
 obtain ⟨rfl, hZ, hh⟩ := hP
 have hx := Bd.exec
 have hby := Bd.bytes
 have hml : c.maxLocals = 2 := hml0
 have hown : s.vm.findClass sK1 = some m.cls := findClass_of_methodNamed Bd.named
 have X0 := own_X0 Bd
 have e0 : s₁.heap = h0 := by rw [← hh, Bd.state]; rfl
 have N0 := Fr.nil n0
 have pre0 : ∀ t, Steps p.tables e below (s₁.setTop (mkF m 0 #[vI p1, vI p2] [])) t → Steps p.tables e below (s₁.setTop (entryFrame m #[(.int p1), (.int p2)] 2)) t := fun t k => castTop (ef_51_vv m p1 p2) k
 obtain ⟨T3, X3, e3, st3⟩ := getS2 X0 hx hZ hown (host := "") (Or.inl (tw hw 294 rfl)) Via.refl e0 H0 (g := (mkF m 2 #[vI p1, vI p2] [(.int p2), (.int p1)])) rfl (hb hby d51_2)
 obtain ⟨_, _, ⟨T4, _, _, _⟩, -, X4, ⟨_, hQ, lq, yq, zq⟩, st4⟩ := Jvm.LawKit.callS X3 hx (y := mN2) hown (mvT hZ (tw hw 296 rfl)) (mvT hZ (tw hw 297 rfl)) (mvT hZ (tw hw 295 rfl)) (mvT hZ (tw hw 298 rfl)) (by decide) (backOf (W := 0) (r52_1 l Z a0 hw p1 p2 h0 n0 Z0 H1 H2) hZ (tw hw 298 rfl) (tw hw 295 rfl) (by decide) (by decide)) (g := (mkF m 5 #[vI p1, vI p2] [.null, (.int p2), (.int p1)])) rfl (by rw [hml]; rfl) (argsL := [(.int p1), (.int p2), .null]) (rest := []) (lenOf pd_1 rfl) rfl (own_w _) (hb hby d51_5) (fun _ _ => ⟨rfl, e3, (by decide : 0 + 0 ≤ _), (by decide : 0 + 0 ≤ _)⟩)
 dsimp only [Pt.U, Pt.locs, Pt.cells, Pt.slots] at X4 lq yq zq st4 hQ
 replace X4 := own_mvX X4 (a := 0) (b := 0) yq zq
 obtain ⟨rfl, Nq, e4⟩ := hQ
 have N4 := own_mvN lq N0 Nq
 obtain ⟨fs, hr, hrun, hended, hW, hsame⟩ := X4.leave (v := none) (fun _ => rfl)
 refine ⟨_, _, pre0 _ ?_, hrun, hended, _, _, rfl, ?_, ⟨_, rfl⟩, hW, hsame.mono (by decide) (by decide)⟩
 · show SG p e below s₁ (mkF m 0 #[vI p1, vI p2] []) _
   refine XS.iloadN X0.here hx rfl (hb hby d51_0) rfl ?_
   refine XS.iloadN X0.here hx rfl (hb hby d51_1) rfl ?_
   show SG p e below s₁ (mkF m 2 #[vI p1, vI p2] [(.int p2), (.int p1)]) _
   refine st3 _ ?_
   show SG p e below T3 (mkF m 5 #[vI p1, vI p2] [.null, (.int p2), (.int p1)]) _
   refine st4 _ ?_
   show SG p e below T4 (mkF m 8 #[vI p1, vI p2] [(.int p1)]) _
   refine XS.pop X4.here hx rfl (hb hby d51_8) rfl rfl ?_
   show SG p e below T4 (mkF m 9 #[vI p1, vI p2] []) _
   exact X4.returnOut hx Bd.returns (hb hby d51_9) hr
 · show OQp (none) h0 n0 _ T4.heap _
   rw [e4]
   exact ⟨rfl, N4, rfl⟩
theorem pd_2 : parseMethodDescriptor "(II)V" = some ⟨[.int, .int], none⟩ := by decide +kernel
theorem d50_6 : Dc rev3 6 (.aload_n 0) 1 := by decide +kernel
theorem d50_7 : Dc rev3 7 (.iload_n 1) 1 := by decide +kernel
theorem d50_8 : Dc rev3 8 .baload 1 := by decide +kernel
theorem d50_9 : Dc rev3 9 (.sipush 255) 3 := by decide +kernel
theorem d50_12 : Dc rev3 12 .iand 1 := by decide +kernel
theorem d50_13 : Dc rev3 13 .i2c 1 := by decide +kernel
theorem d50_14 : Dc rev3 14 .ireturn 1 := by decide +kernel
theorem pn_java_lang_StringLatin1 : plainName "java/lang/StringLatin1" = true := by first | (simp [plainName, overriddenIn]; done) | decide +kernel
theorem ef_50_vv (m : MethodId) (x0 : Addr) (x1 : Int32) : entryFrame m #[(.ref x0), (.int x1)] 2 = mkF m 0 #[.val (.ref x0), .val (.int x1)] [] := by first | (simp [entryFrame, mkF, argsToLocals, Value.category]; done) | rfl
theorem r50_1 (l : Launch) (Z : State) (a0 : Array Value) (hw : TW a0 Z) (a1 : Addr) (p2 : Int32) (k3 : ClassId) (u4 : Nat → Int32) (p5 : Int32) (h0 : Heap) (n0 : Nat) (Z0 : n0 ≤ h0.size) (H0 : BA Z h0 a1 k3 .byte p5 u4) (H1 : Sta Z h0 sK7 sK9 sK10 .null) (H2 : ¬ (p2 < 0)) (H3 : p2 < p5) (H4 : nar .char (((u4 (p2).toNatClampNeg) &&& 255).toUInt32.toUInt16.toUInt32.toInt32) = (((u4 (p2).toNatClampNeg) &&& 255).toUInt32.toUInt16.toUInt32.toInt32)) :
   OMet l Z mN4 jdk_43_method_2_code 2 (some .char) [] (Rm 2 0 0 27) h0 #[(.ref a1), (.int p2)] (OQp (some (.int (((u4 (p2).toNatClampNeg) &&& 255).toUInt32.toUInt16.toUInt32.toInt32))) h0 n0) := by
 refine MetFree.of_bodySF (plainFor_of_name pn_java_lang_StringLatin1) hisR ?_
 intro p e s m args below meth c s₁ Bd hml0 hP hK
 obtain ⟨rfl, hZ, hh⟩ := hP
 have hx := Bd.exec
 have hby := Bd.bytes
 have hml : c.maxLocals = 2 := hml0
 have hown : s.vm.findClass "java/lang/StringLatin1" = some m.cls := findClass_of_methodNamed Bd.named
 have X0 := own_X0 Bd
 have e0 : s₁.heap = h0 := by rw [← hh, Bd.state]; rfl
 have N0 := Fr.nil n0
 have pre0 : ∀ t, Steps p.tables e below (s₁.setTop (mkF m 0 #[vR a1, vI p2] [])) t → Steps p.tables e below (s₁.setTop (entryFrame m #[(.ref a1), (.int p2)] 2)) t := fun t k => castTop (ef_50_vv m a1 p2) k
 have vc6 := H0
 obtain ⟨cl6, Ar6, q6, S6, N6, Hh6, G6⟩ := vc6
 obtain ⟨_, _, ⟨T7, _, _, _⟩, -, X7, ⟨_, hQ, lq, yq, zq⟩, st7⟩ := Jvm.LawKit.callS X0 hx (y := mN3) hown (mvT hZ (tw hw 291 rfl)) (mvT hZ (tw hw 292 rfl)) (mvT hZ (tw hw 42 rfl)) (mvT hZ (tw hw 293 rfl)) (by decide) (backOf (W := 0) (r51_1 l Z a0 hw p2 p5 h0 n0 Z0 H1 H2 H3) hZ (tw hw 293 rfl) (tw hw 42 rfl) (by decide) (by decide)) (g := (mkF m 3 #[vR a1, vI p2] [(.int p5), (.int p2)])) rfl (by rw [hml]; rfl) (argsL := [(.int p2), (.int p5)]) (rest := []) (lenOf pd_2 rfl) rfl (own_w _) (hb hby d50_3) (fun _ _ => ⟨rfl, e0, (by decide : 0 + 0 ≤ _), (by decide : 0 + 0 ≤ _)⟩)
 dsimp only [Pt.U, Pt.locs, Pt.cells, Pt.slots] at X7 lq yq zq st7 hQ
 replace X7 := own_mvX X7 (a := 0) (b := 0) yq zq
 obtain ⟨rfl, Nq, e7⟩ := hQ
 have N7 := own_mvN lq N0 Nq
 have vc8 := H0
 obtain ⟨cl8, Ar8, q8, S8, N8, Hh8, G8⟩ := vc8
 have hin8 : ¬ (p2 < 0 ∨ cl8.slots.size ≤ (p2).toNatClampNeg) := inb_of S8 ⟨H2, H3⟩
 have hat8 : cl8.slots[(p2).toNatClampNeg]? = some (.int (u4 (p2).toNatClampNeg)) := Hh8 _ (Nat.lt_of_not_le fun y => hin8 (Or.inr y))
 obtain ⟨fs, hr, hrun, hended, hW, hsame⟩ := X7.leave (v := some (.int (((u4 (p2).toNatClampNeg) &&& 255).toUInt32.toUInt16.toUInt32.toInt32))) (fun h => by rw [Bd.returns] at h; cases h)
 refine ⟨_, _, pre0 _ ?_, hrun, hended, _, _, rfl, ?_, ⟨_, rfl⟩, hW, hsame.mono (by decide) (by decide)⟩
 · show SG p e below s₁ (mkF m 0 #[vR a1, vI p2] []) _
   refine XS.iloadN X0.here hx rfl (hb hby d50_0) rfl ?_
   refine XS.aloadN X0.here hx rfl (hb hby d50_1) rfl rfl ?_
   show SG p e below s₁ (mkF m 2 #[vR a1, vI p2] [(.ref a1), (.int p2)]) _
   refine X0.arraylength hx (by rw [e0]; exact Ar6.1) (State.isArrayOf_alike hZ.alike Ar6.2.1) (g := (mkF m 2 #[vR a1, vI p2] [(.ref a1), (.int p2)])) rfl rfl (hb hby d50_2) _ ?_
   rw [len_of S6 N6]
   show SG p e below s₁ (mkF m 3 #[vR a1, vI p2] [(.int p5), (.int p2)]) _
   refine st7 _ ?_
   show SG p e below T7 (mkF m 6 #[vR a1, vI p2] []) _
   refine XS.aloadN X7.here hx rfl (hb hby d50_6) rfl rfl ?_
   refine XS.iloadN X7.here hx rfl (hb hby d50_7) rfl ?_
   show SG p e below T7 (mkF m 8 #[vR a1, vI p2] [(.int p2), (.ref a1)]) _
   refine X7.baloadBytes hx (j := p2) (v := (.int (u4 (p2).toNatClampNeg))) (by rw [e7]; exact Ar8.1) (State.isArrayOf_alike hZ.alike Ar8.2.1) Ar8.2.2 hin8 hat8 (g := (mkF m 8 #[vR a1, vI p2] [(.int p2), (.ref a1)])) rfl rfl (hb hby d50_8) _ ?_
   show SG p e below T7 (mkF m 9 #[vR a1, vI p2] [(.int (u4 (p2).toNatClampNeg))]) _
   refine XS.sipush X7.here hx rfl (hb hby d50_9) ?_
   refine XS.iand X7.here hx rfl (hb hby d50_12) rfl ?_
   show SG p e below T7 (mkF m 13 #[vR a1, vI p2] [(.int ((u4 (p2).toNatClampNeg) &&& 255))]) _
   refine XS.i2c X7.here hx rfl (hb hby d50_13) rfl ?_
   show SG p e below T7 (mkF m 14 #[vR a1, vI p2] [(.int (((u4 (p2).toNatClampNeg) &&& 255).toUInt32.toUInt16.toUInt32.toInt32))]) _
   exact retN X7 hx (t := .char) Bd.returns (by simp) (hb hby d50_14) (by rw [H4]; exact hr)
 · show OQp (some (.int (((u4 (p2).toNatClampNeg) &&& 255).toUInt32.toUInt16.toUInt32.toInt32))) h0 n0 _ T7.heap _
   rw [e7]
   exact ⟨rfl, N7, rfl⟩
theorem pd_3 : parseMethodDescriptor "([BI)C" = some ⟨[(.array .byte), .int], some .char⟩ := by decide +kernel
theorem d48_15 : Dc rev1 15 .ireturn 1 := by decide +kernel
theorem ef_48_vv (m : MethodId) (x0 : Addr) (x1 : Int32) : entryFrame m #[(.ref x0), (.int x1)] 2 = mkF m 0 #[.val (.ref x0), .val (.int x1)] [] := by first | (simp [entryFrame, mkF, argsToLocals, Value.category]; done) | rfl
theorem r48_1 (l : Launch) (Z : State) (a0 : Array Value) (hw : TW a0 Z) (a1 : Addr) (p2 : Int32) (w3 : Int32) (w4 : Int32) (w5 : Addr) (k6 : ClassId) (u7 : Nat → Int32) (p8 : Int32) (h0 : Heap) (n0 : Nat) (Z0 : n0 ≤ h0.size) (H0 : Sta Z h0 sK1 sK3 "Z" (.int w3)) (H1 : ¬ (w3 = 0)) (H2 : Fld Z h0 a1 sK1 "coder" "B" (.int w4)) (H3 : w4 = 0) (H4 : Exa Z h0 a1 sK1) (H5 : Fld Z h0 a1 sK1 "value" "[B" (.ref w5)) (H6 : BA Z h0 w5 k6 .byte p8 u7) (H7 : Sta Z h0 sK7 sK9 sK10 .null) (H8 : ¬ (p2 < 0)) (H9 : p2 < p8) (H10 : nar .char (((u7 (p2).toNatClampNeg) &&& 255).toUInt32.toUInt16.toUInt32.toInt32) = (((u7 (p2).toNatClampNeg) &&& 255).toUInt32.toUInt16.toUInt32.toInt32)) :
   OMet l Z mN5 jdk_42_method_56_code 2 (some .char) [] (Rm 3 0 0 40) h0 #[(.ref a1), (.int p2)] (OQp (some (.int (((u7 (p2).toNatClampNeg) &&& 255).toUInt32.toUInt16.toUInt32.toInt32))) h0 n0) := by
 refine MetFree.of_bodySF (plainFor_of_name pn_java_lang_String) hisR ?_
 intro p e s m args below meth c s₁ Bd hml0 hP hK
 obtain ⟨rfl, hZ, hh⟩ := hP
 have hx := Bd.exec
 have hby := Bd.bytes
 have hml : c.maxLocals = 2 := hml0
 have hown : s.vm.findClass sK1 = some m.cls := findClass_of_methodNamed Bd.named
 have X0 := own_X0 Bd
 have e0 : s₁.heap = h0 := by rw [← hh, Bd.state]; rfl
 have N0 := Fr.nil n0
 have pre0 : ∀ t, Steps p.tables e below (s₁.setTop (mkF m 0 #[vR a1, vI p2] [])) t → Steps p.tables e below (s₁.setTop (entryFrame m #[(.ref a1), (.int p2)] 2)) t := fun t k => castTop (ef_48_vv m a1 p2) k
 obtain ⟨cq9, kq9, q9a, q9b, q9c⟩ := isOf hZ e0 H4
 obtain ⟨_, _, ⟨T9, _, _, _⟩, -, X9, ⟨_, hQ, lq, yq, zq⟩, st9⟩ := X0.virtualBack hx (y := mN1) (z := mN1) hown (mvT hZ (tw hw 282 rfl)) (mvT hZ (tw hw 283 rfl)) (notFace_of_selects (args := #[]) (mvT hZ (tw hw 285 rfl))) (mvT hZ (tw hw 285 rfl)) (mvT hZ (tw hw 284 rfl)) (by decide) (backOf (W := 0) (r49_1 l Z a0 hw a1 w3 w4 h0 n0 Z0 H0 H1 H2 H3) hZ (tw hw 286 rfl) (tw hw 42 rfl) (by decide) (by decide)) q9a q9c (g := (mkF m 1 #[vR a1, vI p2] [(.ref a1)])) rfl (by rw [hml]; rfl) (Steps.refl _) (argsL := []) (rest := []) (lenOf pd_0 rfl) rfl (own_w _) (hb hby d48_1) (fun _ _ => ⟨rfl, e0, (by decide : 0 + 0 ≤ _), (by decide : 0 + 0 ≤ _)⟩)
 dsimp only [Pt.U, Pt.locs, Pt.cells, Pt.slots] at X9 lq yq zq st9 hQ
 replace X9 := own_mvX X9 (a := 0) (b := 0) yq zq
 obtain ⟨rfl, Nq, e9⟩ := hQ
 have N9 := own_mvN lq N0 Nq
 obtain ⟨T10, X10, e10, st10⟩ := getF X9 hx hZ hown (host := "") (Or.inl (tw hw 69 rfl)) Via.refl e9 H5 (g := (mkF m 8 #[vR a1, vI p2] [(.ref a1)])) rfl rfl (hb hby d48_8)
 obtain ⟨_, _, ⟨T11, _, _, _⟩, -, X11, ⟨_, hQ, lq, yq, zq⟩, st11⟩ := Jvm.LawKit.callS X10 hx (y := mN4) hown (mvT hZ (tw hw 287 rfl)) (mvT hZ (tw hw 288 rfl)) (mvT hZ (tw hw 289 rfl)) (mvT hZ (tw hw 290 rfl)) (by decide) (backOf (W := 0) (r50_1 l Z a0 hw w5 p2 k6 u7 p8 h0 n0 Z0 H6 H7 H8 H9 H10) hZ (tw hw 290 rfl) (tw hw 289 rfl) (by decide) (by decide)) (g := (mkF m 12 #[vR a1, vI p2] [(.int p2), (.ref w5)])) rfl (by rw [hml]; rfl) (argsL := [(.ref w5), (.int p2)]) (rest := []) (lenOf pd_3 rfl) rfl (own_w _) (hb hby d48_12) (fun _ _ => ⟨rfl, e10, (by decide : 0 + 0 ≤ _), (by decide : 0 + 0 ≤ _)⟩)
 dsimp only [Pt.U, Pt.locs, Pt.cells, Pt.slots] at X11 lq yq zq st11 hQ
 replace X11 := own_mvX X11 (a := 0) (b := 0) yq zq
 obtain ⟨rfl, Nq, e11⟩ := hQ
 have N11 := own_mvN lq N9 Nq
 obtain ⟨fs, hr, hrun, hended, hW, hsame⟩ := X11.leave (v := some (.int (((u7 (p2).toNatClampNeg) &&& 255).toUInt32.toUInt16.toUInt32.toInt32))) (fun h => by rw [Bd.returns] at h; cases h)
 refine ⟨_, _, pre0 _ ?_, hrun, hended, _, _, rfl, ?_, ⟨_, rfl⟩, hW, hsame.mono (by decide) (by decide)⟩
 · show SG p e below s₁ (mkF m 0 #[vR a1, vI p2] []) _
   refine XS.aloadN X0.here hx rfl (hb hby d48_0) rfl rfl ?_
   show SG p e below s₁ (mkF m 1 #[vR a1, vI p2] [(.ref a1)]) _
   refine st9.trans ?_
   show SG p e below T9 (mkF m 4 #[vR a1, vI p2] [(.int 1)]) _
   refine XS.ifNo X9.here hx rfl (hb hby d48_4) rfl ((if0 _ _).trans (feq (by decide : ¬ ((1 : Int32) = 0))).1) ?_
   show SG p e below T9 (mkF m 7 #[vR a1, vI p2] []) _
   refine XS.aloadN X9.here hx rfl (hb hby d48_7) rfl rfl ?_
   show SG p e below T9 (mkF m 8 #[vR a1, vI p2] [(.ref a1)]) _
   refine st10 _ ?_
   show SG p e below T10 (mkF m 11 #[vR a1, vI p2] [(.ref w5)]) _
   refine XS.iloadN X10.here hx rfl (hb hby d48_11) rfl ?_
   show SG p e below T10 (mkF m 12 #[vR a1, vI p2] [(.int p2), (.ref w5)]) _
   refine st11 _ ?_
   show SG p e below T11 (mkF m 15 #[vR a1, vI p2] [(.int (((u7 (p2).toNatClampNeg) &&& 255).toUInt32.toUInt16.toUInt32.toInt32))]) _
   exact retN X11 hx (t := .char) Bd.returns (by simp) (hb hby d48_15) (by rw [H10]; exact hr)
 · show OQp (some (.int (((u7 (p2).toNatClampNeg) &&& 255).toUInt32.toUInt16.toUInt32.toInt32))) h0 n0 _ T11.heap _
   rw [e11]
   exact ⟨rfl, N11, rfl⟩
theorem ef_52_vvv (m : MethodId) (x0 : Int32) (x1 : Int32) (x2 : Addr) : entryFrame m #[(.int x0), (.int x1), (.ref x2)] 3 = mkF m 0 #[.val (.int x0), .val (.int x1), .val (.ref x2)] [] := by first | (simp [entryFrame, mkF, argsToLocals, Value.category]; done) | rfl
theorem r52_2 (l : Launch) (Z : State) (a0 : Array Value) (hw : TW a0 Z) (p1 : Int32) (p2 : Int32) (a3 : Addr) (h0 : Heap) (n0 : Nat) (Z0 : n0 ≤ h0.size) (H0 : ¬ (p1 < 0)) (H1 : p1 < p2) :
   OMet l Z mN2 jdk_41_method_11_code 3 (some .int) [] (Rm 0 0 0 0) h0 #[(.int p1), (.int p2), (.ref a3)] (OQp (some (.int p1)) h0 n0) := by
 refine MetFree.of_bodySF (plainFor_of_name pn_jdk_internal_util_Preconditions) hisR ?_
 intro p e s m args below meth c s₁ Bd hml0 hP hK
 obtain ⟨rfl, hZ, hh⟩ := hP
 have hx := Bd.exec
 have hby := Bd.bytes
 have hml : c.maxLocals = 3 := hml0
 have hown : s.vm.findClass sK7 = some m.cls := findClass_of_methodNamed Bd.named
 have X0 := own_X0 Bd
 have e0 : s₁.heap = h0 := by rw [← hh, Bd.state]; rfl
 have N0 := Fr.nil n0
 have pre0 : ∀ t, Steps p.tables e below (s₁.setTop (mkF m 0 #[vI p1, vI p2, vR a3] [])) t → Steps p.tables e below (s₁.setTop (entryFrame m #[(.int p1), (.int p2), (.ref a3)] 3)) t := fun t k => castTop (ef_52_vvv m p1 p2 a3) k

 obtain ⟨fs, hr, hrun, hended, hW, hsame⟩ := X0.leave (v := some (.int p1)) (fun h => by rw [Bd.returns] at h; cases h)
 refine ⟨_, _, pre0 _ ?_, hrun, hended, _, _, rfl, ?_, ⟨_, rfl⟩, hW, hsame.mono (by decide) (by decide)⟩
 · show SG p e below s₁ (mkF m 0 #[vI p1, vI p2, vR a3] []) _
   refine XS.iloadN X0.here hx rfl (hb hby d52_0) rfl ?_
   refine XS.ifNo X0.here hx rfl (hb hby d52_1) rfl ((if0 _ _).trans (flt H0).1) ?_
   show SG p e below s₁ (mkF m 4 #[vI p1, vI p2, vR a3] []) _
   refine XS.iloadN X0.here hx rfl (hb hby d52_4) rfl ?_
   refine XS.iloadN X0.here hx rfl (hb hby d52_5) rfl ?_
   show SG p e below s₁ (mkF m 6 #[vI p1, vI p2, vR a3] [(.int p2), (.int p1)]) _
   refine XS.icmpYes X0.here hx rfl (pc0 := 6) (pc' := 16) rfl (hb hby d52_6) rfl (tlt H1).1 (by decide) (by decide) ?_
   show SG p e below s₁ (mkF m 16 #[vI p1, vI p2, vR a3] []) _
   refine XS.iloadN X0.here hx rfl (hb hby d52_16) rfl ?_
   show SG p e below s₁ (mkF m 17 #[vI p1, vI p2, vR a3] [(.int p1)]) _
   exact retI X0 hx Bd.returns (hb hby d52_17) hr
 · show OQp (some (.int p1)) h0 n0 _ s₁.heap _
   rw [e0]
   exact ⟨rfl, N0, rfl⟩
theorem r51_2 (l : Launch) (Z : State) (a0 : Array Value) (hw : TW a0 Z) (p1 : Int32) (p2 : Int32) (w3 : Addr) (h0 : Heap) (n0 : Nat) (Z0 : n0 ≤ h0.size) (H0 : Sta Z h0 sK7 sK9 sK10 (.ref w3)) (H1 : ¬ (p1 < 0)) (H2 : p1 < p2) :
   OMet l Z mN3 jdk_42_method_155_code 2 none [] (Rm 1 0 0 14) h0 #[(.int p1), (.int p2)] (OQp (none) h0 n0) := by
 refine MetFree.of_bodySF (plainFor_of_name pn_java_lang_String) hisR ?_
 intro p e s m args below meth c s₁ Bd hml0 hP hK
 obtain ⟨rfl, hZ, hh⟩ := hP
 have hx := Bd.exec
 have hby := Bd.bytes
 have hml : c.maxLocals = 2 := hml0
 have hown : s.vm.findClass sK1 = some m.cls := findClass_of_methodNamed Bd.named
 have X0 := own_X0 Bd
 have e0 : s₁.heap = h0 := by rw [← hh, Bd.state]; rfl
 have N0 := Fr.nil n0
 have pre0 : ∀ t, Steps p.tables e below (s₁.setTop (mkF m 0 #[vI p1, vI p2] [])) t → Steps p.tables e below (s₁.setTop (entryFrame m #[(.int p1), (.int p2)] 2)) t := fun t k => castTop (ef_51_vv m p1 p2) k
 obtain ⟨T4, X4, e4, st4⟩ := getS2 X0 hx hZ hown (host := "") (Or.inl (tw hw 294 rfl)) Via.refl e0 H0 (g := (mkF m 2 #[vI p1, vI p2] [(.int p2), (.int p1)])) rfl (hb hby d51_2)
 obtain ⟨_, _, ⟨T5, _, _, _⟩, -, X5, ⟨_, hQ, lq, yq, zq⟩, st5⟩ := Jvm.LawKit.callS X4 hx (y := mN2) hown (mvT hZ (tw hw 296 rfl)) (mvT hZ (tw hw 297 rfl)) (mvT hZ (tw hw 295 rfl)) (mvT hZ (tw hw 298 rfl)) (by decide) (backOf (W := 0) (r52_2 l Z a0 hw p1 p2 w3 h0 n0 Z0 H1 H2) hZ (tw hw 298 rfl) (tw hw 295 rfl) (by decide) (by decide)) (g := (mkF m 5 #[vI p1, vI p2] [(.ref w3), (.int p2), (.int p1)])) rfl (by rw [hml]; rfl) (argsL := [(.int p1), (.int p2), (.ref w3)]) (rest := []) (lenOf pd_1 rfl) rfl (own_w _) (hb hby d51_5) (fun _ _ => ⟨rfl, e4, (by decide : 0 + 0 ≤ _), (by decide : 0 + 0 ≤ _)⟩)
 dsimp only [Pt.U, Pt.locs, Pt.cells, Pt.slots] at X5 lq yq zq st5 hQ
 replace X5 := own_mvX X5 (a := 0) (b := 0) yq zq
 obtain ⟨rfl, Nq, e5⟩ := hQ
 have N5 := own_mvN lq N0 Nq
 obtain ⟨fs, hr, hrun, hended, hW, hsame⟩ := X5.leave (v := none) (fun _ => rfl)
 refine ⟨_, _, pre0 _ ?_, hrun, hended, _, _, rfl, ?_, ⟨_, rfl⟩, hW, hsame.mono (by decide) (by decide)⟩
 · show SG p e below s₁ (mkF m 0 #[vI p1, vI p2] []) _
   refine XS.iloadN X0.here hx rfl (hb hby d51_0) rfl ?_
   refine XS.iloadN X0.here hx rfl (hb hby d51_1) rfl ?_
   show SG p e below s₁ (mkF m 2 #[vI p1, vI p2] [(.int p2), (.int p1)]) _
   refine st4 _ ?_
   show SG p e below T4 (mkF m 5 #[vI p1, vI p2] [(.ref w3), (.int p2), (.int p1)]) _
   refine st5 _ ?_
   show SG p e below T5 (mkF m 8 #[vI p1, vI p2] [(.int p1)]) _
   refine XS.pop X5.here hx rfl (hb hby d51_8) rfl rfl ?_
   show SG p e below T5 (mkF m 9 #[vI p1, vI p2] []) _
   exact X5.returnOut hx Bd.returns (hb hby d51_9) hr
 · show OQp (none) h0 n0 _ T5.heap _
   rw [e5]
   exact ⟨rfl, N5, rfl⟩
theorem r50_2 (l : Launch) (Z : State) (a0 : Array Value) (hw : TW a0 Z) (a1 : Addr) (p2 : Int32) (k3 : ClassId) (u4 : Nat → Int32) (p5 : Int32) (w6 : Addr) (h0 : Heap) (n0 : Nat) (Z0 : n0 ≤ h0.size) (H0 : BA Z h0 a1 k3 .byte p5 u4) (H1 : Sta Z h0 sK7 sK9 sK10 (.ref w6)) (H2 : ¬ (p2 < 0)) (H3 : p2 < p5) (H4 : nar .char (((u4 (p2).toNatClampNeg) &&& 255).toUInt32.toUInt16.toUInt32.toInt32) = (((u4 (p2).toNatClampNeg) &&& 255).toUInt32.toUInt16.toUInt32.toInt32)) :
   OMet l Z mN4 jdk_43_method_2_code 2 (some .char) [] (Rm 2 0 0 27) h0 #[(.ref a1), (.int p2)] (OQp (some (.int (((u4 (p2).toNatClampNeg) &&& 255).toUInt32.toUInt16.toUInt32.toInt32))) h0 n0) := by
 refine MetFree.of_bodySF (plainFor_of_name pn_java_lang_StringLatin1) hisR ?_
 intro p e s m args below meth c s₁ Bd hml0 hP hK
 obtain ⟨rfl, hZ, hh⟩ := hP
 have hx := Bd.exec
 have hby := Bd.bytes
 have hml : c.maxLocals = 2 := hml0
 have hown : s.vm.findClass "java/lang/StringLatin1" = some m.cls := findClass_of_methodNamed Bd.named
 have X0 := own_X0 Bd
 have e0 : s₁.heap = h0 := by rw [← hh, Bd.state]; rfl
 have N0 := Fr.nil n0
 have pre0 : ∀ t, Steps p.tables e below (s₁.setTop (mkF m 0 #[vR a1, vI p2] [])) t → Steps p.tables e below (s₁.setTop (entryFrame m #[(.ref a1), (.int p2)] 2)) t := fun t k => castTop (ef_50_vv m a1 p2) k
 have vc7 := H0
 obtain ⟨cl7, Ar7, q7, S7, N7, Hh7, G7⟩ := vc7
 obtain ⟨_, _, ⟨T8, _, _, _⟩, -, X8, ⟨_, hQ, lq, yq, zq⟩, st8⟩ := Jvm.LawKit.callS X0 hx (y := mN3) hown (mvT hZ (tw hw 291 rfl)) (mvT hZ (tw hw 292 rfl)) (mvT hZ (tw hw 42 rfl)) (mvT hZ (tw hw 293 rfl)) (by decide) (backOf (W := 0) (r51_2 l Z a0 hw p2 p5 w6 h0 n0 Z0 H1 H2 H3) hZ (tw hw 293 rfl) (tw hw 42 rfl) (by decide) (by decide)) (g := (mkF m 3 #[vR a1, vI p2] [(.int p5), (.int p2)])) rfl (by rw [hml]; rfl) (argsL := [(.int p2), (.int p5)]) (rest := []) (lenOf pd_2 rfl) rfl (own_w _) (hb hby d50_3) (fun _ _ => ⟨rfl, e0, (by decide : 0 + 0 ≤ _), (by decide : 0 + 0 ≤ _)⟩)
 dsimp only [Pt.U, Pt.locs, Pt.cells, Pt.slots] at X8 lq yq zq st8 hQ
 replace X8 := own_mvX X8 (a := 0) (b := 0) yq zq
 obtain ⟨rfl, Nq, e8⟩ := hQ
 have N8 := own_mvN lq N0 Nq
 have vc9 := H0
 obtain ⟨cl9, Ar9, q9, S9, N9, Hh9, G9⟩ := vc9
 have hin9 : ¬ (p2 < 0 ∨ cl9.slots.size ≤ (p2).toNatClampNeg) := inb_of S9 ⟨H2, H3⟩
 have hat9 : cl9.slots[(p2).toNatClampNeg]? = some (.int (u4 (p2).toNatClampNeg)) := Hh9 _ (Nat.lt_of_not_le fun y => hin9 (Or.inr y))
 obtain ⟨fs, hr, hrun, hended, hW, hsame⟩ := X8.leave (v := some (.int (((u4 (p2).toNatClampNeg) &&& 255).toUInt32.toUInt16.toUInt32.toInt32))) (fun h => by rw [Bd.returns] at h; cases h)
 refine ⟨_, _, pre0 _ ?_, hrun, hended, _, _, rfl, ?_, ⟨_, rfl⟩, hW, hsame.mono (by decide) (by decide)⟩
 · show SG p e below s₁ (mkF m 0 #[vR a1, vI p2] []) _
   refine XS.iloadN X0.here hx rfl (hb hby d50_0) rfl ?_
   refine XS.aloadN X0.here hx rfl (hb hby d50_1) rfl rfl ?_
   show SG p e below s₁ (mkF m 2 #[vR a1, vI p2] [(.ref a1), (.int p2)]) _
   refine X0.arraylength hx (by rw [e0]; exact Ar7.1) (State.isArrayOf_alike hZ.alike Ar7.2.1) (g := (mkF m 2 #[vR a1, vI p2] [(.ref a1), (.int p2)])) rfl rfl (hb hby d50_2) _ ?_
   rw [len_of S7 N7]
   show SG p e below s₁ (mkF m 3 #[vR a1, vI p2] [(.int p5), (.int p2)]) _
   refine st8 _ ?_
   show SG p e below T8 (mkF m 6 #[vR a1, vI p2] []) _
   refine XS.aloadN X8.here hx rfl (hb hby d50_6) rfl rfl ?_
   refine XS.iloadN X8.here hx rfl (hb hby d50_7) rfl ?_
   show SG p e below T8 (mkF m 8 #[vR a1, vI p2] [(.int p2), (.ref a1)]) _
   refine X8.baloadBytes hx (j := p2) (v := (.int (u4 (p2).toNatClampNeg))) (by rw [e8]; exact Ar9.1) (State.isArrayOf_alike hZ.alike Ar9.2.1) Ar9.2.2 hin9 hat9 (g := (mkF m 8 #[vR a1, vI p2] [(.int p2), (.ref a1)])) rfl rfl (hb hby d50_8) _ ?_
   show SG p e below T8 (mkF m 9 #[vR a1, vI p2] [(.int (u4 (p2).toNatClampNeg))]) _
   refine XS.sipush X8.here hx rfl (hb hby d50_9) ?_
   refine XS.iand X8.here hx rfl (hb hby d50_12) rfl ?_
   show SG p e below T8 (mkF m 13 #[vR a1, vI p2] [(.int ((u4 (p2).toNatClampNeg) &&& 255))]) _
   refine XS.i2c X8.here hx rfl (hb hby d50_13) rfl ?_
   show SG p e below T8 (mkF m 14 #[vR a1, vI p2] [(.int (((u4 (p2).toNatClampNeg) &&& 255).toUInt32.toUInt16.toUInt32.toInt32))]) _
   exact retN X8 hx (t := .char) Bd.returns (by simp) (hb hby d50_14) (by rw [H4]; exact hr)
 · show OQp (some (.int (((u4 (p2).toNatClampNeg) &&& 255).toUInt32.toUInt16.toUInt32.toInt32))) h0 n0 _ T8.heap _
   rw [e8]
   exact ⟨rfl, N8, rfl⟩
theorem r48_2 (l : Launch) (Z : State) (a0 : Array Value) (hw : TW a0 Z) (a1 : Addr) (p2 : Int32) (w3 : Int32) (w4 : Int32) (w5 : Addr) (k6 : ClassId) (u7 : Nat → Int32) (p8 : Int32) (w9 : Addr) (h0 : Heap) (n0 : Nat) (Z0 : n0 ≤ h0.size) (H0 : Sta Z h0 sK1 sK3 "Z" (.int w3)) (H1 : ¬ (w3 = 0)) (H2 : Fld Z h0 a1 sK1 "coder" "B" (.int w4)) (H3 : w4 = 0) (H4 : Exa Z h0 a1 sK1) (H5 : Fld Z h0 a1 sK1 "value" "[B" (.ref w5)) (H6 : BA Z h0 w5 k6 .byte p8 u7) (H7 : Sta Z h0 sK7 sK9 sK10 (.ref w9)) (H8 : ¬ (p2 < 0)) (H9 : p2 < p8) (H10 : nar .char (((u7 (p2).toNatClampNeg) &&& 255).toUInt32.toUInt16.toUInt32.toInt32) = (((u7 (p2).toNatClampNeg) &&& 255).toUInt32.toUInt16.toUInt32.toInt32)) :
   OMet l Z mN5 jdk_42_method_56_code 2 (some .char) [] (Rm 3 0 0 40) h0 #[(.ref a1), (.int p2)] (OQp (some (.int (((u7 (p2).toNatClampNeg) &&& 255).toUInt32.toUInt16.toUInt32.toInt32))) h0 n0) := by
 refine MetFree.of_bodySF (plainFor_of_name pn_java_lang_String) hisR ?_
 intro p e s m args below meth c s₁ Bd hml0 hP hK
 obtain ⟨rfl, hZ, hh⟩ := hP
 have hx := Bd.exec
 have hby := Bd.bytes
 have hml : c.maxLocals = 2 := hml0
 have hown : s.vm.findClass sK1 = some m.cls := findClass_of_methodNamed Bd.named
 have X0 := own_X0 Bd
 have e0 : s₁.heap = h0 := by rw [← hh, Bd.state]; rfl
 have N0 := Fr.nil n0
 have pre0 : ∀ t, Steps p.tables e below (s₁.setTop (mkF m 0 #[vR a1, vI p2] [])) t → Steps p.tables e below (s₁.setTop (entryFrame m #[(.ref a1), (.int p2)] 2)) t := fun t k => castTop (ef_48_vv m a1 p2) k
 obtain ⟨cq10, kq10, q10a, q10b, q10c⟩ := isOf hZ e0 H4
 obtain ⟨_, _, ⟨T10, _, _, _⟩, -, X10, ⟨_, hQ, lq, yq, zq⟩, st10⟩ := X0.virtualBack hx (y := mN1) (z := mN1) hown (mvT hZ (tw hw 282 rfl)) (mvT hZ (tw hw 283 rfl)) (notFace_of_selects (args := #[]) (mvT hZ (tw hw 285 rfl))) (mvT hZ (tw hw 285 rfl)) (mvT hZ (tw hw 284 rfl)) (by decide) (backOf (W := 0) (r49_1 l Z a0 hw a1 w3 w4 h0 n0 Z0 H0 H1 H2 H3) hZ (tw hw 286 rfl) (tw hw 42 rfl) (by decide) (by decide)) q10a q10c (g := (mkF m 1 #[vR a1, vI p2] [(.ref a1)])) rfl (by rw [hml]; rfl) (Steps.refl _) (argsL := []) (rest := []) (lenOf pd_0 rfl) rfl (own_w _) (hb hby d48_1) (fun _ _ => ⟨rfl, e0, (by decide : 0 + 0 ≤ _), (by decide : 0 + 0 ≤ _)⟩)
 dsimp only [Pt.U, Pt.locs, Pt.cells, Pt.slots] at X10 lq yq zq st10 hQ
 replace X10 := own_mvX X10 (a := 0) (b := 0) yq zq
 obtain ⟨rfl, Nq, e10⟩ := hQ
 have N10 := own_mvN lq N0 Nq
 obtain ⟨T11, X11, e11, st11⟩ := getF X10 hx hZ hown (host := "") (Or.inl (tw hw 69 rfl)) Via.refl e10 H5 (g := (mkF m 8 #[vR a1, vI p2] [(.ref a1)])) rfl rfl (hb hby d48_8)
 obtain ⟨_, _, ⟨T12, _, _, _⟩, -, X12, ⟨_, hQ, lq, yq, zq⟩, st12⟩ := Jvm.LawKit.callS X11 hx (y := mN4) hown (mvT hZ (tw hw 287 rfl)) (mvT hZ (tw hw 288 rfl)) (mvT hZ (tw hw 289 rfl)) (mvT hZ (tw hw 290 rfl)) (by decide) (backOf (W := 0) (r50_2 l Z a0 hw w5 p2 k6 u7 p8 w9 h0 n0 Z0 H6 H7 H8 H9 H10) hZ (tw hw 290 rfl) (tw hw 289 rfl) (by decide) (by decide)) (g := (mkF m 12 #[vR a1, vI p2] [(.int p2), (.ref w5)])) rfl (by rw [hml]; rfl) (argsL := [(.ref w5), (.int p2)]) (rest := []) (lenOf pd_3 rfl) rfl (own_w _) (hb hby d48_12) (fun _ _ => ⟨rfl, e11, (by decide : 0 + 0 ≤ _), (by decide : 0 + 0 ≤ _)⟩)
 dsimp only [Pt.U, Pt.locs, Pt.cells, Pt.slots] at X12 lq yq zq st12 hQ
 replace X12 := own_mvX X12 (a := 0) (b := 0) yq zq
 obtain ⟨rfl, Nq, e12⟩ := hQ
 have N12 := own_mvN lq N10 Nq
 obtain ⟨fs, hr, hrun, hended, hW, hsame⟩ := X12.leave (v := some (.int (((u7 (p2).toNatClampNeg) &&& 255).toUInt32.toUInt16.toUInt32.toInt32))) (fun h => by rw [Bd.returns] at h; cases h)
 refine ⟨_, _, pre0 _ ?_, hrun, hended, _, _, rfl, ?_, ⟨_, rfl⟩, hW, hsame.mono (by decide) (by decide)⟩
 · show SG p e below s₁ (mkF m 0 #[vR a1, vI p2] []) _
   refine XS.aloadN X0.here hx rfl (hb hby d48_0) rfl rfl ?_
   show SG p e below s₁ (mkF m 1 #[vR a1, vI p2] [(.ref a1)]) _
   refine st10.trans ?_
   show SG p e below T10 (mkF m 4 #[vR a1, vI p2] [(.int 1)]) _
   refine XS.ifNo X10.here hx rfl (hb hby d48_4) rfl ((if0 _ _).trans (feq (by decide : ¬ ((1 : Int32) = 0))).1) ?_
   show SG p e below T10 (mkF m 7 #[vR a1, vI p2] []) _
   refine XS.aloadN X10.here hx rfl (hb hby d48_7) rfl rfl ?_
   show SG p e below T10 (mkF m 8 #[vR a1, vI p2] [(.ref a1)]) _
   refine st11 _ ?_
   show SG p e below T11 (mkF m 11 #[vR a1, vI p2] [(.ref w5)]) _
   refine XS.iloadN X11.here hx rfl (hb hby d48_11) rfl ?_
   show SG p e below T11 (mkF m 12 #[vR a1, vI p2] [(.int p2), (.ref w5)]) _
   refine st12 _ ?_
   show SG p e below T12 (mkF m 15 #[vR a1, vI p2] [(.int (((u7 (p2).toNatClampNeg) &&& 255).toUInt32.toUInt16.toUInt32.toInt32))]) _
   exact retN X12 hx (t := .char) Bd.returns (by simp) (hb hby d48_15) (by rw [H10]; exact hr)
 · show OQp (some (.int (((u7 (p2).toNatClampNeg) &&& 255).toUInt32.toUInt16.toUInt32.toInt32))) h0 n0 _ T12.heap _
   rw [e12]
   exact ⟨rfl, N12, rfl⟩
theorem own_ch (l : Launch) (Z : State) (a0 : Array Value) (hw : TW a0 Z) (a : Addr) (wS wc : Int32) (b : Addr) (k : ClassId) (z : Int32) (f : Nat → Int32) (o : Value) (i : Int32) (h0 : Heap) (n0 : Nat) (Z0 : n0 ≤ h0.size) (H1 : Sta Z h0 sK1 sK3 "Z" (.int wS)) (H2 : ¬ (wS = 0)) (H3 : Fld Z h0 a sK1 "coder" "B" (.int wc)) (H4 : wc = 0) (H5 : Exa Z h0 a sK1) (H6 : Fld Z h0 a sK1 "value" "[B" (.ref b)) (H7 : BA Z h0 b k .byte z f) (H8 : Sta Z h0 sK7 sK9 sK10 o) (H9 : o.isRef = true) (H10 : ¬ (i < 0)) (H11 : i < z) :
   OMet l Z mN5 jdk_42_method_56_code 2 (some .char) [] (Rm 3 0 0 40) h0 #[(.ref a), (.int i)] (OQp (some (.int (oc8 (f (i).toNatClampNeg)))) h0 n0) := by
 rcases ref_cases H9 with rfl | ⟨o, rfl⟩
 · exact r48_1 l Z a0 hw a i wS wc b k f z h0 n0 Z0 H1 H2 H3 H4 H5 H6 H7 H8 H10 H11 (own_oc8 _)
 · exact r48_2 l Z a0 hw a i wS wc b k f z o h0 n0 Z0 H1 H2 H3 H4 H5 H6 H7 H8 H10 H11 (own_oc8 _)
theorem d20_0 : Dc rev6 0 (.new 18) 3 := by decide +kernel
theorem d20_3 : Dc rev6 3 .dup 1 := by decide +kernel
theorem d20_4 : Dc rev6 4 (.aload_n 0) 1 := by decide +kernel
theorem d20_5 : Dc rev6 5 (.invokespecial 137) 3 := by decide +kernel
theorem d21_0 : Dc rev7 0 (.aload_n 0) 1 := by decide +kernel
theorem d21_1 : Dc rev7 1 (.aload_n 1) 1 := by decide +kernel
theorem d21_2 : Dc rev7 2 .aconst_null 1 := by decide +kernel
theorem d21_3 : Dc rev7 3 (.invokespecial 489) 3 := by decide +kernel
theorem d22_0 : Dc rev8 0 (.aload_n 0) 1 := by decide +kernel
theorem d22_1 : Dc rev8 1 (.invokespecial 1) 3 := by decide +kernel
theorem d22_4 : Dc rev8 4 (.aload_n 1) 1 := by decide +kernel
theorem d22_5 : Dc rev8 5 (.invokevirtual 552) 3 := by decide +kernel
theorem d23_0 : Dc rev9 0 (.aload_n 0) 1 := by decide +kernel
theorem d23_1 : Dc rev9 1 (.getfield 15) 3 := by decide +kernel
theorem d23_4 : Dc rev9 4 .areturn 1 := by decide +kernel
theorem pn_java_lang_AbstractStringBuilder : plainName "java/lang/AbstractStringBuilder" = true := by first | (simp [plainName, overriddenIn]; done) | decide +kernel
theorem ef_23_v (m : MethodId) (x0 : Addr) : entryFrame m #[(.ref x0)] 1 = mkF m 0 #[.val (.ref x0)] [] := by first | (simp [entryFrame, mkF, argsToLocals, Value.category]; done) | rfl
theorem r23_1 (l : Launch) (Z : State) (a0 : Array Value) (hw : TW a0 Z) (a1 : Addr) (w2 : Addr) (h0 : Heap) (n0 : Nat) (Z0 : n0 ≤ h0.size) (H0 : Fld Z h0 a1 sK2 "value" "[B" (.ref w2)) :
   OMet l Z mN6 jdk_68_method_64_code 1 (some (.array .byte)) [] (Rm 0 0 0 0) h0 #[(.ref a1)] (OQp (some (.ref w2)) h0 n0) := by
 refine MetFree.of_bodySF (plainFor_of_name pn_java_lang_AbstractStringBuilder) hisR ?_
 intro p e s m args below meth c s₁ Bd hml0 hP hK
 obtain ⟨rfl, hZ, hh⟩ := hP
 have hx := Bd.exec
 have hby := Bd.bytes
 have hml : c.maxLocals = 1 := hml0
 have hown : s.vm.findClass sK2 = some m.cls := findClass_of_methodNamed Bd.named
 have X0 := own_X0 Bd
 have e0 : s₁.heap = h0 := by rw [← hh, Bd.state]; rfl
 have N0 := Fr.nil n0
 have pre0 : ∀ t, Steps p.tables e below (s₁.setTop (mkF m 0 #[vR a1] [])) t → Steps p.tables e below (s₁.setTop (entryFrame m #[(.ref a1)] 1)) t := fun t k => castTop (ef_23_v m a1) k
 obtain ⟨T3, X3, e3, st3⟩ := getF X0 hx hZ hown (host := "") (Or.inl (tw hw 44 rfl)) Via.refl e0 H0 (g := (mkF m 1 #[vR a1] [(.ref a1)])) rfl rfl (hb hby d23_1)
 obtain ⟨fs, hr, hrun, hended, hW, hsame⟩ := X3.leave (v := some (.ref w2)) (fun h => by rw [Bd.returns] at h; cases h)
 refine ⟨_, _, pre0 _ ?_, hrun, hended, _, _, rfl, ?_, ⟨_, rfl⟩, hW, hsame.mono (by decide) (by decide)⟩
 · show SG p e below s₁ (mkF m 0 #[vR a1] []) _
   refine XS.aloadN X0.here hx rfl (hb hby d23_0) rfl rfl ?_
   show SG p e below s₁ (mkF m 1 #[vR a1] [(.ref a1)]) _
   refine st3 _ ?_
   show SG p e below T3 (mkF m 4 #[vR a1] [(.ref w2)]) _
   jvm_step X3.here [X3.here.top, hx, (hb hby d23_4), X3.method', Bd.returns, Value.isRef, FieldType.isReference]
   first | (intro acts; rw [hr _ acts rfl rfl rfl]) | rw [hr _ _ rfl rfl rfl]
   exact Steps.refl _
 · show OQp (some (.ref w2)) h0 n0 _ T3.heap _
   rw [e3]
   exact ⟨rfl, N0, rfl⟩
theorem pd_4 : parseMethodDescriptor "()[B" = some ⟨[], some (.array .byte)⟩ := by decide +kernel
theorem d22_8 : Dc rev8 8 (.astore_n 3) 1 := by decide +kernel
theorem d22_9 : Dc rev8 9 (.aload_n 1) 1 := by decide +kernel
theorem d22_10 : Dc rev8 10 (.invokevirtual 549) 3 := by decide +kernel
theorem d24_0 : Dc rev10 0 (.aload_n 0) 1 := by decide +kernel
theorem d24_1 : Dc rev10 1 (.invokespecial 343) 3 := by decide +kernel
theorem d25_0 : Dc rev11 0 (.aload_n 0) 1 := by decide +kernel
theorem d25_1 : Dc rev11 1 (.getfield 79) 3 := by decide +kernel
theorem d25_4 : Dc rev11 4 .ireturn 1 := by decide +kernel
theorem ef_25_v (m : MethodId) (x0 : Addr) : entryFrame m #[(.ref x0)] 1 = mkF m 0 #[.val (.ref x0)] [] := by first | (simp [entryFrame, mkF, argsToLocals, Value.category]; done) | rfl
theorem r25_1 (l : Launch) (Z : State) (a0 : Array Value) (hw : TW a0 Z) (a1 : Addr) (w2 : Int32) (h0 : Heap) (n0 : Nat) (Z0 : n0 ≤ h0.size) (H0 : Fld Z h0 a1 sK2 "count" "I" (.int w2)) :
   OMet l Z mN7 jdk_68_method_6_code 1 (some .int) [] (Rm 0 0 0 0) h0 #[(.ref a1)] (OQp (some (.int w2)) h0 n0) := by
 refine MetFree.of_bodySF (plainFor_of_name pn_java_lang_AbstractStringBuilder) hisR ?_
 intro p e s m args below meth c s₁ Bd hml0 hP hK
 obtain ⟨rfl, hZ, hh⟩ := hP
 have hx := Bd.exec
 have hby := Bd.bytes
 have hml : c.maxLocals = 1 := hml0
 have hown : s.vm.findClass sK2 = some m.cls := findClass_of_methodNamed Bd.named
 have X0 := own_X0 Bd
 have e0 : s₁.heap = h0 := by rw [← hh, Bd.state]; rfl
 have N0 := Fr.nil n0
 have pre0 : ∀ t, Steps p.tables e below (s₁.setTop (mkF m 0 #[vR a1] [])) t → Steps p.tables e below (s₁.setTop (entryFrame m #[(.ref a1)] 1)) t := fun t k => castTop (ef_25_v m a1) k
 obtain ⟨T3, X3, e3, st3⟩ := getF X0 hx hZ hown (host := "") (Or.inl (tw hw 77 rfl)) Via.refl e0 H0 (g := (mkF m 1 #[vR a1] [(.ref a1)])) rfl rfl (hb hby d25_1)
 obtain ⟨fs, hr, hrun, hended, hW, hsame⟩ := X3.leave (v := some (.int w2)) (fun h => by rw [Bd.returns] at h; cases h)
 refine ⟨_, _, pre0 _ ?_, hrun, hended, _, _, rfl, ?_, ⟨_, rfl⟩, hW, hsame.mono (by decide) (by decide)⟩
 · show SG p e below s₁ (mkF m 0 #[vR a1] []) _
   refine XS.aloadN X0.here hx rfl (hb hby d25_0) rfl rfl ?_
   show SG p e below s₁ (mkF m 1 #[vR a1] [(.ref a1)]) _
   refine st3 _ ?_
   show SG p e below T3 (mkF m 4 #[vR a1] [(.int w2)]) _
   exact retI X3 hx Bd.returns (hb hby d25_4) hr
 · show OQp (some (.int w2)) h0 n0 _ T3.heap _
   rw [e3]
   exact ⟨rfl, N0, rfl⟩
theorem pd_5 : parseMethodDescriptor "()I" = some ⟨[], some .int⟩ := by decide +kernel
theorem d24_4 : Dc rev10 4 .ireturn 1 := by decide +kernel
theorem pn_java_lang_StringBuilder : plainName "java/lang/StringBuilder" = true := by first | (simp [plainName, overriddenIn]; done) | decide +kernel
theorem ef_24_v (m : MethodId) (x0 : Addr) : entryFrame m #[(.ref x0)] 1 = mkF m 0 #[.val (.ref x0)] [] := by first | (simp [entryFrame, mkF, argsToLocals, Value.category]; done) | rfl
theorem r24_1 (l : Launch) (Z : State) (a0 : Array Value) (hw : TW a0 Z) (a1 : Addr) (w2 : Int32) (h0 : Heap) (n0 : Nat) (Z0 : n0 ≤ h0.size) (H0 : Fld Z h0 a1 sK2 "count" "I" (.int w2)) (H1 : Exa Z h0 a1 sK4) :
   OMet l Z mN9 jdk_67_method_93_code 1 (some .int) [] (Rm 1 0 0 12) h0 #[(.ref a1)] (OQp (some (.int w2)) h0 n0) := by
 refine MetFree.of_bodySF (plainFor_of_name pn_java_lang_StringBuilder) hisR ?_
 intro p e s m args below meth c s₁ Bd hml0 hP hK
 obtain ⟨rfl, hZ, hh⟩ := hP
 have hx := Bd.exec
 have hby := Bd.bytes
 have hml : c.maxLocals = 1 := hml0
 have hown : s.vm.findClass sK4 = some m.cls := findClass_of_methodNamed Bd.named
 have X0 := own_X0 Bd
 have e0 : s₁.heap = h0 := by rw [← hh, Bd.state]; rfl
 have N0 := Fr.nil n0
 have pre0 : ∀ t, Steps p.tables e below (s₁.setTop (mkF m 0 #[vR a1] [])) t → Steps p.tables e below (s₁.setTop (entryFrame m #[(.ref a1)] 1)) t := fun t k => castTop (ef_24_v m a1) k
 obtain ⟨_, _, ⟨T3, _, _, _⟩, -, X3, ⟨_, hQ, lq, yq, zq⟩, st3⟩ := superBack X0 hx hZ (y := mN7) hown (tw hw 154 rfl) (own_same (y := mN7) (by decide) (tw hw 150 rfl) (own_nf (args := a0) (w := mN8) rfl (tw hw 82 rfl))) (tw hw 150 rfl) (tw hw 61 rfl) (by decide) (backOf (W := 0) (r25_1 l Z a0 hw a1 w2 h0 n0 Z0 H0) hZ (tw hw 155 rfl) (tw hw 38 rfl) (by decide) (by decide)) e0 (Ins.self H1) (g := (mkF m 1 #[vR a1] [(.ref a1)])) rfl (by rw [hml]; rfl) (tw hw 155 rfl) (argsL := []) (rest := []) (lenOf pd_5 rfl) rfl (own_w _) (hb hby d24_1) (fun _ _ => ⟨rfl, e0, (by decide : 0 + 0 ≤ _), (by decide : 0 + 0 ≤ _)⟩)
 dsimp only [Pt.U, Pt.locs, Pt.cells, Pt.slots] at X3 lq yq zq st3 hQ
 replace X3 := own_mvX X3 (a := 0) (b := 0) yq zq
 obtain ⟨rfl, Nq, e3⟩ := hQ
 have N3 := own_mvN lq N0 Nq
 obtain ⟨fs, hr, hrun, hended, hW, hsame⟩ := X3.leave (v := some (.int w2)) (fun h => by rw [Bd.returns] at h; cases h)
 refine ⟨_, _, pre0 _ ?_, hrun, hended, _, _, rfl, ?_, ⟨_, rfl⟩, hW, hsame.mono (by decide) (by decide)⟩
 · show SG p e below s₁ (mkF m 0 #[vR a1] []) _
   refine XS.aloadN X0.here hx rfl (hb hby d24_0) rfl rfl ?_
   show SG p e below s₁ (mkF m 1 #[vR a1] [(.ref a1)]) _
   refine st3.trans ?_
   show SG p e below T3 (mkF m 4 #[vR a1] [(.int w2)]) _
   exact retI X3 hx Bd.returns (hb hby d24_4) hr
 · show OQp (some (.int w2)) h0 n0 _ T3.heap _
   rw [e3]
   exact ⟨rfl, N3, rfl⟩
theorem d22_13 : Dc rev8 13 (.istore 4) 2 := by decide +kernel
theorem d22_15 : Dc rev8 15 (.aload_n 1) 1 := by decide +kernel
theorem d22_16 : Dc rev8 16 (.invokevirtual 1047) 3 := by decide +kernel
theorem d18_0 : Dc rev12 0 (.getstatic 18) 3 := by decide +kernel
theorem d18_3 : Dc rev12 3 (.ifCond .eq 14) 3 := by decide +kernel
theorem d18_6 : Dc rev12 6 (.aload_n 0) 1 := by decide +kernel
theorem d18_7 : Dc rev12 7 (.getfield 22) 3 := by decide +kernel
theorem d18_10 : Dc rev12 10 (.ifCond .ne 7) 3 := by decide +kernel
theorem d18_13 : Dc rev12 13 (.iconst 1) 1 := by decide +kernel
theorem d18_14 : Dc rev12 14 (.goto 4) 3 := by decide +kernel
theorem d18_18 : Dc rev12 18 .ireturn 1 := by decide +kernel
theorem ef_18_v (m : MethodId) (x0 : Addr) : entryFrame m #[(.ref x0)] 1 = mkF m 0 #[.val (.ref x0)] [] := by first | (simp [entryFrame, mkF, argsToLocals, Value.category]; done) | rfl
theorem r18_1 (l : Launch) (Z : State) (a0 : Array Value) (hw : TW a0 Z) (a1 : Addr) (w2 : Int32) (w3 : Int32) (h0 : Heap) (n0 : Nat) (Z0 : n0 ≤ h0.size) (H0 : Sta Z h0 sK1 sK3 "Z" (.int w2)) (H1 : ¬ (w2 = 0)) (H2 : Fld Z h0 a1 sK2 "coder" "B" (.int w3)) (H3 : w3 = 0) :
   OMet l Z mN10 jdk_68_method_68_code 1 (some .boolean) [] (Rm 0 0 0 0) h0 #[(.ref a1)] (OQp (some (.int 1)) h0 n0) := by
 refine MetFree.of_bodySF (plainFor_of_name pn_java_lang_AbstractStringBuilder) hisR ?_
 intro p e s m args below meth c s₁ Bd hml0 hP hK
 obtain ⟨rfl, hZ, hh⟩ := hP
 have hx := Bd.exec
 have hby := Bd.bytes
 have hml : c.maxLocals = 1 := hml0
 have hown : s.vm.findClass sK2 = some m.cls := findClass_of_methodNamed Bd.named
 have X0 := own_X0 Bd
 have e0 : s₁.heap = h0 := by rw [← hh, Bd.state]; rfl
 have N0 := Fr.nil n0
 have pre0 : ∀ t, Steps p.tables e below (s₁.setTop (mkF m 0 #[vR a1] [])) t → Steps p.tables e below (s₁.setTop (entryFrame m #[(.ref a1)] 1)) t := fun t k => castTop (ef_18_v m a1) k
 obtain ⟨T4, X4, e4, st4⟩ := getS2 X0 hx hZ hown (host := "") (Or.inl (tw hw 41 rfl)) Via.refl e0 H0 (g := (mkF m 0 #[vR a1] [])) rfl (hb hby d18_0)
 obtain ⟨T5, X5, e5, st5⟩ := getF X4 hx hZ hown (host := "") (Or.inl (tw hw 46 rfl)) Via.refl e4 H2 (g := (mkF m 7 #[vR a1] [(.ref a1)])) rfl rfl (hb hby d18_7)
 obtain ⟨fs, hr, hrun, hended, hW, hsame⟩ := X5.leave (v := some (.int 1)) (fun h => by rw [Bd.returns] at h; cases h)
 refine ⟨_, _, pre0 _ ?_, hrun, hended, _, _, rfl, ?_, ⟨_, rfl⟩, hW, hsame.mono (by decide) (by decide)⟩
 · show SG p e below s₁ (mkF m 0 #[vR a1] []) _
   refine st4 _ ?_
   show SG p e below T4 (mkF m 3 #[vR a1] [(.int w2)]) _
   refine XS.ifNo X4.here hx rfl (hb hby d18_3) rfl ((if0 _ _).trans (feq H1).1) ?_
   show SG p e below T4 (mkF m 6 #[vR a1] []) _
   refine XS.aloadN X4.here hx rfl (hb hby d18_6) rfl rfl ?_
   show SG p e below T4 (mkF m 7 #[vR a1] [(.ref a1)]) _
   refine st5 _ ?_
   show SG p e below T5 (mkF m 10 #[vR a1] [(.int w3)]) _
   refine XS.ifNo X5.here hx rfl (hb hby d18_10) rfl ((if0 _ _).trans (teq H3).2) ?_
   show SG p e below T5 (mkF m 13 #[vR a1] []) _
   refine XS.iconst X5.here hx rfl (hb hby d18_13) ?_
   refine XS.goto X5.here hx rfl (pc0 := 14) (pc' := 18) rfl (hb hby d18_14) (by decide) (by decide) ?_
   show SG p e below T5 (mkF m 18 #[vR a1] [(.int 1)]) _
   exact retN X5 hx (t := .boolean) Bd.returns (by simp) (hb hby d18_18) hr
 · show OQp (some (.int 1)) h0 n0 _ T5.heap _
   rw [e5]
   exact ⟨rfl, N0, rfl⟩
theorem d22_19 : Dc rev8 19 (.ifCond .eq 22) 3 := by decide +kernel
theorem d22_22 : Dc rev8 22 (.aload_n 0) 1 := by decide +kernel
theorem d22_23 : Dc rev8 23 (.iconst 0) 1 := by decide +kernel
theorem d22_24 : Dc rev8 24 (.putfield 15) 3 := by decide +kernel
theorem d22_27 : Dc rev8 27 (.aload_n 0) 1 := by decide +kernel
theorem d22_28 : Dc rev8 28 (.aload_n 3) 1 := by decide +kernel
theorem d22_29 : Dc rev8 29 (.iconst 0) 1 := by decide +kernel
theorem d22_30 : Dc rev8 30 (.iload 4) 2 := by decide +kernel
theorem d22_32 : Dc rev8 32 (.invokestatic 54) 3 := by decide +kernel
theorem d26_0 : Dc rev13 0 (.iload_n 1) 1 := by decide +kernel
theorem d26_1 : Dc rev13 1 (.ifCond .ne 9) 3 := by decide +kernel
theorem d26_4 : Dc rev13 4 (.iload_n 2) 1 := by decide +kernel
theorem d26_5 : Dc rev13 5 (.aload_n 0) 1 := by decide +kernel
theorem d26_6 : Dc rev13 6 .arraylength 1 := by decide +kernel
theorem d26_7 : Dc rev13 7 (.if_icmp .eq 10) 3 := by decide +kernel
theorem d26_10 : Dc rev13 10 (.aload_n 0) 1 := by decide +kernel
theorem d26_11 : Dc rev13 11 (.iload_n 1) 1 := by decide +kernel
theorem d26_12 : Dc rev13 12 (.iload_n 2) 1 := by decide +kernel
theorem d26_13 : Dc rev13 13 (.invokestatic 339) 3 := by decide +kernel
theorem d27_0 : Dc rev14 0 (.iload_n 1) 1 := by decide +kernel
theorem d27_1 : Dc rev14 1 (.iload_n 2) 1 := by decide +kernel
theorem d27_2 : Dc rev14 2 (.invokestatic 343) 3 := by decide +kernel
theorem d28_0 : Dc rev15 0 (.iload_n 1) 1 := by decide +kernel
theorem d28_1 : Dc rev15 1 (.iload_n 0) 1 := by decide +kernel
theorem d28_2 : Dc rev15 2 (.if_icmp .ge 35) 3 := by decide +kernel
theorem d28_37 : Dc rev15 37 .return_ 1 := by decide +kernel
theorem pn_java_util_Arrays : plainName "java/util/Arrays" = true := by first | (simp [plainName, overriddenIn]; done) | decide +kernel
theorem ef_28_vv (m : MethodId) (x0 : Int32) (x1 : Int32) : entryFrame m #[(.int x0), (.int x1)] 2 = mkF m 0 #[.val (.int x0), .val (.int x1)] [] := by first | (simp [entryFrame, mkF, argsToLocals, Value.category]; done) | rfl
theorem r28_1 (l : Launch) (Z : State) (a0 : Array Value) (hw : TW a0 Z) (p1 : Int32) (p2 : Int32) (h0 : Heap) (n0 : Nat) (Z0 : n0 ≤ h0.size) (H0 : ¬ (p2 < p1)) :
   OMet l Z mN11 jdk_65_method_131_code 2 none [] (Rm 0 0 0 0) h0 #[(.int p1), (.int p2)] (OQp (none) h0 n0) := by
 refine MetFree.of_bodySF (plainFor_of_name pn_java_util_Arrays) hisR ?_
 intro p e s m args below meth c s₁ Bd hml0 hP hK
 obtain ⟨rfl, hZ, hh⟩ := hP
 have hx := Bd.exec
 have hby := Bd.bytes
 have hml : c.maxLocals = 2 := hml0
 have hown : s.vm.findClass sK18 = some m.cls := findClass_of_methodNamed Bd.named
 have X0 := own_X0 Bd
 have e0 : s₁.heap = h0 := by rw [← hh, Bd.state]; rfl
 have N0 := Fr.nil n0
 have pre0 : ∀ t, Steps p.tables e below (s₁.setTop (mkF m 0 #[vI p1, vI p2] [])) t → Steps p.tables e below (s₁.setTop (entryFrame m #[(.int p1), (.int p2)] 2)) t := fun t k => castTop (ef_28_vv m p1 p2) k

 obtain ⟨fs, hr, hrun, hended, hW, hsame⟩ := X0.leave (v := none) (fun _ => rfl)
 refine ⟨_, _, pre0 _ ?_, hrun, hended, _, _, rfl, ?_, ⟨_, rfl⟩, hW, hsame.mono (by decide) (by decide)⟩
 · show SG p e below s₁ (mkF m 0 #[vI p1, vI p2] []) _
   refine XS.iloadN X0.here hx rfl (hb hby d28_0) rfl ?_
   refine XS.iloadN X0.here hx rfl (hb hby d28_1) rfl ?_
   show SG p e below s₁ (mkF m 2 #[vI p1, vI p2] [(.int p1), (.int p2)]) _
   refine XS.icmpYes X0.here hx rfl (pc0 := 2) (pc' := 37) rfl (hb hby d28_2) rfl (flt H0).2.1 (by decide) (by decide) ?_
   show SG p e below s₁ (mkF m 37 #[vI p1, vI p2] []) _
   exact X0.returnOut hx Bd.returns (hb hby d28_37) hr
 · show OQp (none) h0 n0 _ s₁.heap _
   rw [e0]
   exact ⟨rfl, N0, rfl⟩
theorem d27_5 : Dc rev14 5 (.iload_n 2) 1 := by decide +kernel
theorem d27_6 : Dc rev14 6 (.iload_n 1) 1 := by decide +kernel
theorem d27_7 : Dc rev14 7 .isub 1 := by decide +kernel
theorem d27_8 : Dc rev14 8 (.istore_n 3) 1 := by decide +kernel
theorem d27_9 : Dc rev14 9 (.iload_n 3) 1 := by decide +kernel
theorem d27_10 : Dc rev14 10 (.newarray .byte) 2 := by decide +kernel
theorem d27_12 : Dc rev14 12 (.astore 4) 2 := by decide +kernel
theorem d27_14 : Dc rev14 14 (.aload_n 0) 1 := by decide +kernel
theorem d27_15 : Dc rev14 15 (.iload_n 1) 1 := by decide +kernel
theorem d27_16 : Dc rev14 16 (.aload 4) 2 := by decide +kernel
theorem d27_18 : Dc rev14 18 (.iconst 0) 1 := by decide +kernel
theorem d27_19 : Dc rev14 19 (.aload_n 0) 1 := by decide +kernel
theorem d27_20 : Dc rev14 20 .arraylength 1 := by decide +kernel
theorem d27_21 : Dc rev14 21 (.iload_n 1) 1 := by decide +kernel
theorem d27_22 : Dc rev14 22 .isub 1 := by decide +kernel
theorem d27_23 : Dc rev14 23 (.iload_n 3) 1 := by decide +kernel
theorem d27_24 : Dc rev14 24 (.invokestatic 304) 3 := by decide +kernel
theorem d29_0 : Dc rev16 0 (.iload_n 0) 1 := by decide +kernel
theorem d29_1 : Dc rev16 1 (.iload_n 1) 1 := by decide +kernel
theorem d29_2 : Dc rev16 2 (.if_icmp .gt 7) 3 := by decide +kernel
theorem d29_9 : Dc rev16 9 (.iload_n 1) 1 := by decide +kernel
theorem d29_10 : Dc rev16 10 .ireturn 1 := by decide +kernel
theorem ef_29_vv (m : MethodId) (x0 : Int32) (x1 : Int32) : entryFrame m #[(.int x0), (.int x1)] 2 = mkF m 0 #[.val (.int x0), .val (.int x1)] [] := by first | (simp [entryFrame, mkF, argsToLocals, Value.category]; done) | rfl
theorem r29_1 (l : Launch) (Z : State) (a0 : Array Value) (hw : TW a0 Z) (p1 : Int32) (p2 : Int32) (h0 : Heap) (n0 : Nat) (Z0 : n0 ≤ h0.size) (H0 : p2 < p1) :
   OMet l Z mN12 jdk_29_method_69_code 2 (some .int) [] (Rm 0 0 0 0) h0 #[(.int p1), (.int p2)] (OQp (some (.int p2)) h0 n0) := by
 refine MetFree.of_bodySF (Jvm.Free.JP.mathPlain rfl (by decide +kernel)) hisR ?_
 intro p e s m args below meth c s₁ Bd hml0 hP hK
 obtain ⟨rfl, hZ, hh⟩ := hP
 have hx := Bd.exec
 have hby := Bd.bytes
 have hml : c.maxLocals = 2 := hml0
 have hown : s.vm.findClass "java/lang/Math" = some m.cls := findClass_of_methodNamed Bd.named
 have X0 := own_X0 Bd
 have e0 : s₁.heap = h0 := by rw [← hh, Bd.state]; rfl
 have N0 := Fr.nil n0
 have pre0 : ∀ t, Steps p.tables e below (s₁.setTop (mkF m 0 #[vI p1, vI p2] [])) t → Steps p.tables e below (s₁.setTop (entryFrame m #[(.int p1), (.int p2)] 2)) t := fun t k => castTop (ef_29_vv m p1 p2) k

 obtain ⟨fs, hr, hrun, hended, hW, hsame⟩ := X0.leave (v := some (.int p2)) (fun h => by rw [Bd.returns] at h; cases h)
 refine ⟨_, _, pre0 _ ?_, hrun, hended, _, _, rfl, ?_, ⟨_, rfl⟩, hW, hsame.mono (by decide) (by decide)⟩
 · show SG p e below s₁ (mkF m 0 #[vI p1, vI p2] []) _
   refine XS.iloadN X0.here hx rfl (hb hby d29_0) rfl ?_
   refine XS.iloadN X0.here hx rfl (hb hby d29_1) rfl ?_
   show SG p e below s₁ (mkF m 2 #[vI p1, vI p2] [(.int p2), (.int p1)]) _
   refine XS.icmpYes X0.here hx rfl (pc0 := 2) (pc' := 9) rfl (hb hby d29_2) rfl (tlt H0).2.2.1 (by decide) (by decide) ?_
   show SG p e below s₁ (mkF m 9 #[vI p1, vI p2] []) _
   refine XS.iloadN X0.here hx rfl (hb hby d29_9) rfl ?_
   show SG p e below s₁ (mkF m 10 #[vI p1, vI p2] [(.int p2)]) _
   exact retI X0 hx Bd.returns (hb hby d29_10) hr
 · show OQp (some (.int p2)) h0 n0 _ s₁.heap _
   rw [e0]
   exact ⟨rfl, N0, rfl⟩
theorem pd_6 : parseMethodDescriptor "(II)I" = some ⟨[.int, .int], some .int⟩ := by decide +kernel
theorem d27_27 : Dc rev14 27 (.invokestatic 150) 3 := by decide +kernel
theorem d27_30 : Dc rev14 30 (.aload 4) 2 := by decide +kernel
theorem d27_32 : Dc rev14 32 .areturn 1 := by decide +kernel
theorem ef_27_vvv (m : MethodId) (x0 : Addr) (x1 : Int32) (x2 : Int32) : entryFrame m #[(.ref x0), (.int x1), (.int x2)] 5 = mkF m 0 #[.val (.ref x0), .val (.int x1), .val (.int x2), .unset, .unset] [] := by first | (simp [entryFrame, mkF, argsToLocals, Value.category]; done) | rfl
def Qr27_1 (Z : State) (a1 : Addr) (p2 : Int32) (p3 : Int32) (k4 : ClassId) (u5 : Nat → Int32) (p6 : Int32) (h0 : Heap) (n0 : Nat) (v : Option Value) (h : Heap) (L : List Loc) : Prop := Fr n0 L ∧ ∃ b7 : Addr, ∃ k7 : ClassId, v = some (.ref b7) ∧ h0.size ≤ b7 ∧ KSx h0 h [] [] ∧ Exa Z h b7 "[B" ∧ BA Z h b7 k7 .byte (p3 - p2) (fun i => if ((0 : Int32)).toNatClampNeg ≤ i ∧ i < ((0 : Int32)).toNatClampNeg + ((p3 - p2)).toNatClampNeg then u5 ((p2).toNatClampNeg + (i - ((0 : Int32)).toNatClampNeg)) else (fun _ => (0 : Int32)) i)
theorem r27_1 (l : Launch) (Z : State) (a0 : Array Value) (hw : TW a0 Z) (a1 : Addr) (p2 : Int32) (p3 : Int32) (k4 : ClassId) (u5 : Nat → Int32) (p6 : Int32) (h0 : Heap) (n0 : Nat) (Z0 : n0 ≤ h0.size) (H0 : ¬ (p3 < p2)) (H1 : ¬ ((p3 - p2) < 0)) (H2 : ¬ ((70 : Int32) < (p3 - p2))) (H3 : BA Z h0 a1 k4 .byte p6 u5) (H4 : (p3 - p2) < (p6 - p2)) (H5 : ¬ (p2 < 0)) (H6 : (p2).toNatClampNeg + ((p3 - p2)).toNatClampNeg ≤ (p6).toNatClampNeg) (H7 : ((0 : Int32)).toNatClampNeg + ((p3 - p2)).toNatClampNeg ≤ ((p3 - p2)).toNatClampNeg) :
   OMet l Z mN13 jdk_65_method_133_code 5 (some (.array .byte)) [] (Rm 1 1 70 18) h0 #[(.ref a1), (.int p2), (.int p3)] (Qr27_1 Z a1 p2 p3 k4 u5 p6 h0 n0) := by
 refine MetFree.of_bodySF (plainFor_of_name pn_java_util_Arrays) hisR ?_
 intro p e s m args below meth c s₁ Bd hml0 hP hK
 obtain ⟨rfl, hZ, hh⟩ := hP
 have hx := Bd.exec
 have hby := Bd.bytes
 have hml : c.maxLocals = 5 := hml0
 have hown : s.vm.findClass sK18 = some m.cls := findClass_of_methodNamed Bd.named
 have X0 := own_X0 Bd
 have e0 : s₁.heap = h0 := by rw [← hh, Bd.state]; rfl
 have N0 := Fr.nil n0
 have pre0 : ∀ t, Steps p.tables e below (s₁.setTop (mkF m 0 #[vR a1, vI p2, vI p3, .unset, .unset] [])) t → Steps p.tables e below (s₁.setTop (entryFrame m #[(.ref a1), (.int p2), (.int p3)] 5)) t := fun t k => castTop (ef_27_vvv m a1 p2 p3) k
 obtain ⟨_, _, ⟨T7, _, _, _⟩, -, X7, ⟨_, hQ, lq, yq, zq⟩, st7⟩ := Jvm.LawKit.callS X0 hx (y := mN11) hown (mvT hZ (tw hw 164 rfl)) (mvT hZ (tw hw 165 rfl)) (mvT hZ (tw hw 159 rfl)) (mvT hZ (tw hw 166 rfl)) (by decide) (backOf (W := 0) (r28_1 l Z a0 hw p2 p3 h0 n0 Z0 H0) hZ (tw hw 166 rfl) (tw hw 159 rfl) (by decide) (by decide)) (g := (mkF m 2 #[vR a1, vI p2, vI p3, vU, vU] [(.int p3), (.int p2)])) rfl (by rw [hml]; rfl) (argsL := [(.int p2), (.int p3)]) (rest := []) (lenOf pd_2 rfl) rfl (own_w _) (hb hby d27_2) (fun _ _ => ⟨rfl, e0, (by decide : 0 + 0 ≤ _), (by decide : 0 + 0 ≤ _)⟩)
 dsimp only [Pt.U, Pt.locs, Pt.cells, Pt.slots] at X7 lq yq zq st7 hQ
 replace X7 := own_mvX X7 (a := 0) (b := 0) yq zq
 obtain ⟨rfl, Nq, e7⟩ := hQ
 have N7 := own_mvN lq N0 Nq
 obtain ⟨T8, h8, k8, X8, e8, E8, A8, Ea8, st8⟩ := newPE X7 hx hZ (tw hw 43 rfl) e7 (g := (mkF m 10 #[vR a1, vI p2, vI p3, vI (p3 - p2), vU] [(.int (p3 - p2))])) rfl (hb hby d27_10) rfl H1 (cap := 70) (own_cap (k := 70) (by decide) H2) (by decide) (by decide) (by decide) (ad := "[B") rfl
 obtain ⟨b8, g8⟩ : ∃ z, z = h0.size := ⟨_, rfl⟩
 rw [← g8] at A8 Ea8 st8
 have KC8 := KSx.ext (KSx.refl h0 [] []) E8
 have B8 : BA Z h8 b8 k8 .byte (p3 - p2) (fun _ => (0 : Int32)) := BA.new A8 H1 rfl rfl
 have f9 := (H3.ext E8)
 have vc10 := f9
 obtain ⟨cl10, Ar10, q10, S10, N10, Hh10, G10⟩ := vc10
 have Z8 : n0 ≤ h8.size := Nat.le_trans Z0 E8.1
 obtain ⟨_, _, ⟨T11, _, _, _⟩, -, X11, ⟨_, hQ, lq, yq, zq⟩, st11⟩ := Jvm.LawKit.callS X8 hx (y := mN12) hown (mvT hZ (tw hw 167 rfl)) (mvT hZ (tw hw 168 rfl)) (mvT hZ (tw hw 169 rfl)) (mvT hZ (tw hw 170 rfl)) (by decide) (backOf (W := 4) (r29_1 l Z a0 hw (p6 - p2) (p3 - p2) h8 n0 Z8 H4) hZ (tw hw 170 rfl) (tw hw 169 rfl) (by decide) (by decide)) (g := (mkF m 24 #[vR a1, vI p2, vI p3, vI (p3 - p2), vR b8] [(.int (p3 - p2)), (.int (p6 - p2)), (.int 0), (.ref b8), (.int p2), (.ref a1)])) rfl (by rw [hml]; rfl) (argsL := [(.int (p6 - p2)), (.int (p3 - p2))]) (rest := [(.int 0), (.ref b8), (.int p2), (.ref a1)]) (lenOf pd_6 rfl) rfl (own_w _) (hb hby d27_24) (fun _ _ => ⟨rfl, e8, (by decide : 1 + 0 ≤ _), (by decide : 70 + 0 ≤ _)⟩)
 dsimp only [Pt.U, Pt.locs, Pt.cells, Pt.slots] at X11 lq yq zq st11 hQ
 replace X11 := own_mvX X11 (a := 1) (b := 70) yq zq
 obtain ⟨rfl, Nq, e11⟩ := hQ
 have N11 := own_mvN lq N7 Nq
 have g12 : n0 ≤ b8 := Nat.le_trans Z0 (Nat.le_of_eq g8.symm)
 obtain ⟨T13, h13, L13, X13, e13, N13, K13, B13, st13⟩ := cpB X11 hx hZ hown (tw hw 171 rfl) (tw hw 103 rfl) (tw hw 101 rfl) (tw hw 102 rfl) e11 f9 B8 rfl H5 (by decide) H1 H6 H7 N11 g12 (g0 := (mkF m 27 #[vR a1, vI p2, vI p3, vI (p3 - p2), vR b8] [(.int (p3 - p2)), (.int 0), (.ref b8), (.int p2), (.ref a1)])) rfl (by rw [hml]; rfl) rfl (hb hby d27_27) (by decide) (W := 0) (own_w _) (by decide)
 have z14 : h0.size ≤ b8 := Nat.le_trans (KSx.refl h0 [] []).1 (Nat.le_of_eq g8.symm)
 have KC13 := KSx.trans KC8 K13 ks0 (allS (Or.inr z14) all0)
 have f15 := (Ea8.ks K13)
 obtain ⟨fs, hr, hrun, hended, hW, hsame⟩ := X13.leave (v := some (.ref b8)) (fun h => by rw [Bd.returns] at h; cases h)
 refine ⟨_, _, pre0 _ ?_, hrun, hended, _, _, rfl, ?_, ⟨_, rfl⟩, hW, hsame.mono (by decide) (by decide)⟩
 · show SG p e below s₁ (mkF m 0 #[vR a1, vI p2, vI p3, vU, vU] []) _
   refine XS.iloadN X0.here hx rfl (hb hby d27_0) rfl ?_
   refine XS.iloadN X0.here hx rfl (hb hby d27_1) rfl ?_
   show SG p e below s₁ (mkF m 2 #[vR a1, vI p2, vI p3, vU, vU] [(.int p3), (.int p2)]) _
   refine st7 _ ?_
   show SG p e below T7 (mkF m 5 #[vR a1, vI p2, vI p3, vU, vU] []) _
   refine XS.iloadN X7.here hx rfl (hb hby d27_5) rfl ?_
   refine XS.iloadN X7.here hx rfl (hb hby d27_6) rfl ?_
   show SG p e below T7 (mkF m 7 #[vR a1, vI p2, vI p3, vU, vU] [(.int p2), (.int p3)]) _
   refine XS.isub X7.here hx rfl (hb hby d27_7) rfl ?_
   show SG p e below T7 (mkF m 8 #[vR a1, vI p2, vI p3, vU, vU] [(.int (p3 - p2))]) _
   refine XS.istoreN X7.here hx rfl (hb hby d27_8) rfl (l' := #[vR a1, vI p2, vI p3, vI (p3 - p2), vU]) rfl ?_
   show SG p e below T7 (mkF m 9 #[vR a1, vI p2, vI p3, vI (p3 - p2), vU] []) _
   refine XS.iloadN X7.here hx rfl (hb hby d27_9) rfl ?_
   show SG p e below T7 (mkF m 10 #[vR a1, vI p2, vI p3, vI (p3 - p2), vU] [(.int (p3 - p2))]) _
   refine st8 _ ?_
   show SG p e below T8 (mkF m 12 #[vR a1, vI p2, vI p3, vI (p3 - p2), vU] [(.ref b8)]) _
   refine XS.astore X8.here hx rfl (hb hby d27_12) rfl rfl (l' := #[vR a1, vI p2, vI p3, vI (p3 - p2), vR b8]) rfl ?_
   show SG p e below T8 (mkF m 14 #[vR a1, vI p2, vI p3, vI (p3 - p2), vR b8] []) _
   refine XS.aloadN X8.here hx rfl (hb hby d27_14) rfl rfl ?_
   refine XS.iloadN X8.here hx rfl (hb hby d27_15) rfl ?_
   show SG p e below T8 (mkF m 16 #[vR a1, vI p2, vI p3, vI (p3 - p2), vR b8] [(.int p2), (.ref a1)]) _
   refine XS.aload X8.here hx rfl (hb hby d27_16) rfl rfl ?_
   refine XS.iconst X8.here hx rfl (hb hby d27_18) ?_
   show SG p e below T8 (mkF m 19 #[vR a1, vI p2, vI p3, vI (p3 - p2), vR b8] [(.int 0), (.ref b8), (.int p2), (.ref a1)]) _
   refine XS.aloadN X8.here hx rfl (hb hby d27_19) rfl rfl ?_
   show SG p e below T8 (mkF m 20 #[vR a1, vI p2, vI p3, vI (p3 - p2), vR b8] [(.ref a1), (.int 0), (.ref b8), (.int p2), (.ref a1)]) _
   refine X8.arraylength hx (by rw [e8]; exact Ar10.1) (State.isArrayOf_alike hZ.alike Ar10.2.1) (g := (mkF m 20 #[vR a1, vI p2, vI p3, vI (p3 - p2), vR b8] [(.ref a1), (.int 0), (.ref b8), (.int p2), (.ref a1)])) rfl rfl (hb hby d27_20) _ ?_
   rw [len_of S10 N10]
   show SG p e below T8 (mkF m 21 #[vR a1, vI p2, vI p3, vI (p3 - p2), vR b8] [(.int p6), (.int 0), (.ref b8), (.int p2), (.ref a1)]) _
   refine XS.iloadN X8.here hx rfl (hb hby d27_21) rfl ?_
   refine XS.isub X8.here hx rfl (hb hby d27_22) rfl ?_
   show SG p e below T8 (mkF m 23 #[vR a1, vI p2, vI p3, vI (p3 - p2), vR b8] [(.int (p6 - p2)), (.int 0), (.ref b8), (.int p2), (.ref a1)]) _
   refine XS.iloadN X8.here hx rfl (hb hby d27_23) rfl ?_
   show SG p e below T8 (mkF m 24 #[vR a1, vI p2, vI p3, vI (p3 - p2), vR b8] [(.int (p3 - p2)), (.int (p6 - p2)), (.int 0), (.ref b8), (.int p2), (.ref a1)]) _
   refine st11 _ ?_
   show SG p e below T11 (mkF m 27 #[vR a1, vI p2, vI p3, vI (p3 - p2), vR b8] [(.int (p3 - p2)), (.int 0), (.ref b8), (.int p2), (.ref a1)]) _
   refine st13 _ ?_
   show SG p e below T13 (mkF m 30 #[vR a1, vI p2, vI p3, vI (p3 - p2), vR b8] []) _
   refine XS.aload X13.here hx rfl (hb hby d27_30) rfl rfl ?_
   show SG p e below T13 (mkF m 32 #[vR a1, vI p2, vI p3, vI (p3 - p2), vR b8] [(.ref b8)]) _
   jvm_step X13.here [X13.here.top, hx, (hb hby d27_32), X13.method', Bd.returns, Value.isRef, FieldType.isReference]
   first | (intro acts; rw [hr _ acts rfl rfl rfl]) | rw [hr _ _ rfl rfl rfl]
   exact Steps.refl _
 · show Qr27_1 Z a1 p2 p3 k4 u5 p6 h0 n0 _ T13.heap _
   rw [e13]
   exact ⟨N13, b8, k8, rfl, z14, KC13, f15, B13⟩
theorem pd_7 : parseMethodDescriptor "([BII)[B" = some ⟨[(.array .byte), .int, .int], some (.array .byte)⟩ := by decide +kernel
theorem d26_16 : Dc rev13 16 .areturn 1 := by decide +kernel
theorem ef_26_vvv (m : MethodId) (x0 : Addr) (x1 : Int32) (x2 : Int32) : entryFrame m #[(.ref x0), (.int x1), (.int x2)] 3 = mkF m 0 #[.val (.ref x0), .val (.int x1), .val (.int x2)] [] := by first | (simp [entryFrame, mkF, argsToLocals, Value.category]; done) | rfl
def Qr26_1 (Z : State) (a1 : Addr) (p2 : Int32) (p3 : Int32) (k4 : ClassId) (u5 : Nat → Int32) (p6 : Int32) (h0 : Heap) (n0 : Nat) (v : Option Value) (h : Heap) (L : List Loc) : Prop := Fr n0 L ∧ ∃ b7_0 : Addr, ∃ k7_0 : ClassId, v = some (.ref b7_0) ∧ h0.size ≤ b7_0 ∧ KSx h0 h [] [] ∧ Exa Z h b7_0 "[B" ∧ BA Z h b7_0 k7_0 .byte (p3 - p2) (fun i => if ((0 : Int32)).toNatClampNeg ≤ i ∧ i < ((0 : Int32)).toNatClampNeg + ((p3 - p2)).toNatClampNeg then u5 ((p2).toNatClampNeg + (i - ((0 : Int32)).toNatClampNeg)) else (fun _ => (0 : Int32)) i)
theorem r26_1 (l : Launch) (Z : State) (a0 : Array Value) (hw : TW a0 Z) (a1 : Addr) (p2 : Int32) (p3 : Int32) (k4 : ClassId) (u5 : Nat → Int32) (p6 : Int32) (h0 : Heap) (n0 : Nat) (Z0 : n0 ≤ h0.size) (H0 : p2 = 0) (H1 : BA Z h0 a1 k4 .byte p6 u5) (H2 : ¬ (p3 = p6)) (H3 : ¬ (p3 < p2)) (H4 : ¬ ((p3 - p2) < 0)) (H5 : ¬ ((70 : Int32) < (p3 - p2))) (H6 : (p3 - p2) < (p6 - p2)) (H7 : ¬ (p2 < 0)) (H8 : (p2).toNatClampNeg + ((p3 - p2)).toNatClampNeg ≤ (p6).toNatClampNeg) (H9 : ((0 : Int32)).toNatClampNeg + ((p3 - p2)).toNatClampNeg ≤ ((p3 - p2)).toNatClampNeg) :
   OMet l Z mN14 jdk_65_method_132_code 3 (some (.array .byte)) [] (Rm 2 1 70 34) h0 #[(.ref a1), (.int p2), (.int p3)] (Qr26_1 Z a1 p2 p3 k4 u5 p6 h0 n0) := by
 refine MetFree.of_bodySF (plainFor_of_name pn_java_util_Arrays) hisR ?_
 intro p e s m args below meth c s₁ Bd hml0 hP hK
 obtain ⟨rfl, hZ, hh⟩ := hP
 have hx := Bd.exec
 have hby := Bd.bytes
 have hml : c.maxLocals = 3 := hml0
 have hown : s.vm.findClass sK18 = some m.cls := findClass_of_methodNamed Bd.named
 have X0 := own_X0 Bd
 have e0 : s₁.heap = h0 := by rw [← hh, Bd.state]; rfl
 have N0 := Fr.nil n0
 have pre0 : ∀ t, Steps p.tables e below (s₁.setTop (mkF m 0 #[vR a1, vI p2, vI p3] [])) t → Steps p.tables e below (s₁.setTop (entryFrame m #[(.ref a1), (.int p2), (.int p3)] 3)) t := fun t k => castTop (ef_26_vvv m a1 p2 p3) k
 have vc7 := H1
 obtain ⟨cl7, Ar7, q7, S7, N7, Hh7, G7⟩ := vc7
 obtain ⟨_, _, ⟨T8, _, _, _⟩, -, X8, ⟨_, hQ, lq, yq, zq⟩, st8⟩ := Jvm.LawKit.callS X0 hx (y := mN13) hown (mvT hZ (tw hw 161 rfl)) (mvT hZ (tw hw 162 rfl)) (mvT hZ (tw hw 159 rfl)) (mvT hZ (tw hw 163 rfl)) (by decide) (backOf (W := 0) (r27_1 l Z a0 hw a1 p2 p3 k4 u5 p6 h0 n0 Z0 H3 H4 H5 H1 H6 H7 H8 H9) hZ (tw hw 163 rfl) (tw hw 159 rfl) (by decide) (by decide)) (g := (mkF m 13 #[vR a1, vI p2, vI p3] [(.int p3), (.int p2), (.ref a1)])) rfl (by rw [hml]; rfl) (argsL := [(.ref a1), (.int p2), (.int p3)]) (rest := []) (lenOf pd_7 rfl) rfl (own_w _) (hb hby d26_13) (fun _ _ => ⟨rfl, e0, (by decide : 0 + 1 ≤ _), (by decide : 0 + 70 ≤ _)⟩)
 dsimp only [Pt.U, Pt.locs, Pt.cells, Pt.slots] at X8 lq yq zq st8 hQ
 replace X8 := own_mvX X8 (a := 1) (b := 70) yq zq
 obtain ⟨Nq, b8_0, k8_0, rfl, ge_b8_0, K8, o8_0, o8_1⟩ := hQ
 have N8 := own_mvN lq N0 Nq
 have KC8 := KSx.trans (KSx.refl h0 [] []) K8 ks0 all0
 obtain ⟨fs, hr, hrun, hended, hW, hsame⟩ := X8.leave (v := some (.ref b8_0)) (fun h => by rw [Bd.returns] at h; cases h)
 refine ⟨_, _, pre0 _ ?_, hrun, hended, _, _, rfl, ?_, ⟨_, rfl⟩, hW, hsame.mono (by decide) (by decide)⟩
 · show SG p e below s₁ (mkF m 0 #[vR a1, vI p2, vI p3] []) _
   refine XS.iloadN X0.here hx rfl (hb hby d26_0) rfl ?_
   refine XS.ifNo X0.here hx rfl (hb hby d26_1) rfl ((if0 _ _).trans (teq H0).2) ?_
   show SG p e below s₁ (mkF m 4 #[vR a1, vI p2, vI p3] []) _
   refine XS.iloadN X0.here hx rfl (hb hby d26_4) rfl ?_
   refine XS.aloadN X0.here hx rfl (hb hby d26_5) rfl rfl ?_
   show SG p e below s₁ (mkF m 6 #[vR a1, vI p2, vI p3] [(.ref a1), (.int p3)]) _
   refine X0.arraylength hx (by rw [e0]; exact Ar7.1) (State.isArrayOf_alike hZ.alike Ar7.2.1) (g := (mkF m 6 #[vR a1, vI p2, vI p3] [(.ref a1), (.int p3)])) rfl rfl (hb hby d26_6) _ ?_
   rw [len_of S7 N7]
   show SG p e below s₁ (mkF m 7 #[vR a1, vI p2, vI p3] [(.int p6), (.int p3)]) _
   refine XS.icmpNo X0.here hx rfl (hb hby d26_7) rfl (feq H2).1 ?_
   show SG p e below s₁ (mkF m 10 #[vR a1, vI p2, vI p3] []) _
   refine XS.aloadN X0.here hx rfl (hb hby d26_10) rfl rfl ?_
   refine XS.iloadN X0.here hx rfl (hb hby d26_11) rfl ?_
   show SG p e below s₁ (mkF m 12 #[vR a1, vI p2, vI p3] [(.int p2), (.ref a1)]) _
   refine XS.iloadN X0.here hx rfl (hb hby d26_12) rfl ?_
   show SG p e below s₁ (mkF m 13 #[vR a1, vI p2, vI p3] [(.int p3), (.int p2), (.ref a1)]) _
   refine st8 _ ?_
   show SG p e below T8 (mkF m 16 #[vR a1, vI p2, vI p3] [(.ref b8_0)]) _
   jvm_step X8.here [X8.here.top, hx, (hb hby d26_16), X8.method', Bd.returns, Value.isRef, FieldType.isReference]
   first | (intro acts; rw [hr _ acts rfl rfl rfl]) | rw [hr _ _ rfl rfl rfl]
   exact Steps.refl _
 · show Qr26_1 Z a1 p2 p3 k4 u5 p6 h0 n0 _ T8.heap _
   exact ⟨N8, b8_0, k8_0, rfl, (Nat.le_trans (KSx.refl h0 [] []).1 ge_b8_0), KC8, o8_0, o8_1⟩
theorem d22_35 : Dc rev8 35 (.putfield 9) 3 := by decide +kernel
theorem d22_38 : Dc rev8 38 (.goto 59) 3 := by decide +kernel
theorem d22_97 : Dc rev8 97 .return_ 1 := by decide +kernel
theorem ef_22_vvn (m : MethodId) (x0 : Addr) (x1 : Addr) : entryFrame m #[(.ref x0), (.ref x1), .null] 5 = mkF m 0 #[.val (.ref x0), .val (.ref x1), .val .null, .unset, .unset] [] := by first | (simp [entryFrame, mkF, argsToLocals, Value.category]; done) | rfl
def Qr22_1 (Z : State) (a1 : Addr) (a2 : Addr) (w3 : Addr) (w4 : Int32) (w5 : Int32) (w6 : Int32) (w7 : Int32) (k8 : ClassId) (u9 : Nat → Int32) (p10 : Int32) (h0 : Heap) (n0 : Nat) (v : Option Value) (h : Heap) (L : List Loc) : Prop := Fr n0 L ∧ ∃ b11_0 : Addr, ∃ k11_0 : ClassId, v = none ∧ h0.size ≤ b11_0 ∧ KSx h0 h [(a1, Jvm.RoadKit.slotOf Z sK1 "coder" "B"), (a1, Jvm.RoadKit.slotOf Z sK1 "value" "[B")] [] ∧ Exa Z h b11_0 "[B" ∧ Fld Z h a1 sK1 "coder" "B" (.int 0) ∧ Fld Z h a1 sK1 "value" "[B" (.ref b11_0) ∧ BA Z h b11_0 k11_0 .byte (w4 - 0) (fun i => if ((0 : Int32)).toNatClampNeg ≤ i ∧ i < ((0 : Int32)).toNatClampNeg + ((w4 - 0)).toNatClampNeg then u9 (((0 : Int32)).toNatClampNeg + (i - ((0 : Int32)).toNatClampNeg)) else (fun _ => (0 : Int32)) i)
theorem r22_1 (l : Launch) (Z : State) (a0 : Array Value) (hw : TW a0 Z) (a1 : Addr) (a2 : Addr) (w3 : Addr) (w4 : Int32) (w5 : Int32) (w6 : Int32) (w7 : Int32) (k8 : ClassId) (u9 : Nat → Int32) (p10 : Int32) (h0 : Heap) (n0 : Nat) (Z0 : n0 ≤ h0.size) (H0 : Fld Z h0 a2 sK2 "value" "[B" (.ref w3)) (H1 : Exa Z h0 a2 sK4) (H2 : Fld Z h0 a2 sK2 "count" "I" (.int w4)) (H3 : Sta Z h0 sK1 sK3 "Z" (.int w5)) (H4 : ¬ (w5 = 0)) (H5 : Fld Z h0 a2 sK2 "coder" "B" (.int w6)) (H6 : w6 = 0) (H7 : Exa Z h0 a1 sK1) (H8 : Fld Z h0 a1 sK1 "coder" "B" (.int w7)) (H9 : n0 ≤ a1) (H10 : BA Z h0 w3 k8 .byte p10 u9) (H11 : w3 ≠ a1) (H12 : ¬ (w4 = p10)) (H13 : ¬ (w4 < 0)) (H14 : ¬ ((w4 - 0) < 0)) (H15 : ¬ ((70 : Int32) < (w4 - 0))) (H16 : (w4 - 0) < (p10 - 0)) (H17 : ((0 : Int32)).toNatClampNeg + ((w4 - 0)).toNatClampNeg ≤ (p10).toNatClampNeg) (H18 : ((0 : Int32)).toNatClampNeg + ((w4 - 0)).toNatClampNeg ≤ ((w4 - 0)).toNatClampNeg) (H19 : Fld Z h0 a1 sK1 "value" "[B" .null) :
   OMet l Z mN15 jdk_42_method_150_code 5 none [] (Rm 3 1 70 49) h0 #[(.ref a1), (.ref a2), .null] (Qr22_1 Z a1 a2 w3 w4 w5 w6 w7 k8 u9 p10 h0 n0) := by
 refine MetFree.of_bodySF (plainFor_of_name pn_java_lang_String) hisR ?_
 intro p e s m args below meth c s₁ Bd hml0 hP hK
 obtain ⟨rfl, hZ, hh⟩ := hP
 have hx := Bd.exec
 have hby := Bd.bytes
 have hml : c.maxLocals = 5 := hml0
 have hown : s.vm.findClass sK1 = some m.cls := findClass_of_methodNamed Bd.named
 have hnm := (name_of_methodNamed Bd.named Bd.method).1
 have X0 := own_X0 Bd
 have e0 : s₁.heap = h0 := by rw [← hh, Bd.state]; rfl
 have N0 := Fr.nil n0
 have pre0 : ∀ t, Steps p.tables e below (s₁.setTop (mkF m 0 #[vR a1, vR a2, .val .null, .unset, .unset] [])) t → Steps p.tables e below (s₁.setTop (entryFrame m #[(.ref a1), (.ref a2), .null] 5)) t := fun t k => castTop (ef_22_vvn m a1 a2) k
 obtain ⟨T11, X11, e11, st11⟩ := initO X0 hx hZ hown (tw hw 142 rfl) (tw hw 13 rfl) (tw hw 14 rfl) e0 (g := (mkF m 1 #[vR a1, vR a2, .val .null, vU, vU] [(.ref a1)])) rfl (by rw [hml]; rfl) rfl (hb hby d22_1) (by decide) (W := 0) (own_w _) (by decide)
 obtain ⟨cq12, kq12, q12a, q12b, q12c⟩ := isOf hZ e11 H1
 obtain ⟨_, _, ⟨T12, _, _, _⟩, -, X12, ⟨_, hQ, lq, yq, zq⟩, st12⟩ := X11.virtualBack hx (y := mN6) (z := mN6) hown (mvT hZ (tw hw 143 rfl)) (mvT hZ (tw hw 144 rfl)) (notFace_of_selects (args := #[]) (mvT hZ (tw hw 146 rfl))) (mvT hZ (tw hw 146 rfl)) (mvT hZ (tw hw 145 rfl)) (by decide) (backOf (W := 0) (r23_1 l Z a0 hw a2 w3 h0 n0 Z0 H0) hZ (tw hw 147 rfl) (tw hw 38 rfl) (by decide) (by decide)) q12a q12c (g := (mkF m 5 #[vR a1, vR a2, .val .null, vU, vU] [(.ref a2)])) rfl (by rw [hml]; rfl) (Steps.refl _) (argsL := []) (rest := []) (lenOf pd_4 rfl) rfl (own_w _) (hb hby d22_5) (fun _ _ => ⟨rfl, e11, (by decide : 0 + 0 ≤ _), (by decide : 0 + 0 ≤ _)⟩)
 dsimp only [Pt.U, Pt.locs, Pt.cells, Pt.slots] at X12 lq yq zq st12 hQ
 replace X12 := own_mvX X12 (a := 0) (b := 0) yq zq
 obtain ⟨rfl, Nq, e12⟩ := hQ
 have N12 := own_mvN lq N0 Nq
 obtain ⟨cq13, kq13, q13a, q13b, q13c⟩ := isOf hZ e12 H1
 obtain ⟨_, _, ⟨T13, _, _, _⟩, -, X13, ⟨_, hQ, lq, yq, zq⟩, st13⟩ := X12.virtualBack hx (y := mN7) (z := mN9) hown (mvT hZ (tw hw 148 rfl)) (mvT hZ (tw hw 149 rfl)) (own_nf (w := mN8) (args := #[]) rfl (mvT hZ (tw hw 82 rfl))) (mvT hZ (tw hw 151 rfl)) (mvT hZ (tw hw 152 rfl)) (by decide) (backOf (W := 0) (r24_1 l Z a0 hw a2 w4 h0 n0 Z0 H2 H1) hZ (tw hw 153 rfl) (tw hw 30 rfl) (by decide) (by decide)) q13a q13c (g := (mkF m 10 #[vR a1, vR a2, .val .null, vR w3, vU] [(.ref a2)])) rfl (by rw [hml]; rfl) (Steps.refl _) (argsL := []) (rest := []) (lenOf pd_5 rfl) rfl (own_w _) (hb hby d22_10) (fun _ _ => ⟨rfl, e12, (by decide : 0 + 0 ≤ _), (by decide : 0 + 0 ≤ _)⟩)
 dsimp only [Pt.U, Pt.locs, Pt.cells, Pt.slots] at X13 lq yq zq st13 hQ
 replace X13 := own_mvX X13 (a := 0) (b := 0) yq zq
 obtain ⟨rfl, Nq, e13⟩ := hQ
 have N13 := own_mvN lq N12 Nq
 obtain ⟨cq14, kq14, q14a, q14b, q14c⟩ := isOf hZ e13 H1
 obtain ⟨_, _, ⟨T14, _, _, _⟩, -, X14, ⟨_, hQ, lq, yq, zq⟩, st14⟩ := X13.virtualBack hx (y := mN10) (z := mN10) hown (mvT hZ (tw hw 156 rfl)) (mvT hZ (tw hw 119 rfl)) (notFace_of_selects (args := #[]) (mvT hZ (tw hw 121 rfl))) (mvT hZ (tw hw 121 rfl)) (mvT hZ (tw hw 120 rfl)) (by decide) (backOf (W := 0) (r18_1 l Z a0 hw a2 w5 w6 h0 n0 Z0 H3 H4 H5 H6) hZ (tw hw 122 rfl) (tw hw 38 rfl) (by decide) (by decide)) q14a q14c (g := (mkF m 16 #[vR a1, vR a2, .val .null, vR w3, vI w4] [(.ref a2)])) rfl (by rw [hml]; rfl) (Steps.refl _) (argsL := []) (rest := []) (lenOf pd_0 rfl) rfl (own_w _) (hb hby d22_16) (fun _ _ => ⟨rfl, e13, (by decide : 0 + 0 ≤ _), (by decide : 0 + 0 ≤ _)⟩)
 dsimp only [Pt.U, Pt.locs, Pt.cells, Pt.slots] at X14 lq yq zq st14 hQ
 replace X14 := own_mvX X14 (a := 0) (b := 0) yq zq
 obtain ⟨rfl, Nq, e14⟩ := hQ
 have N14 := own_mvN lq N13 Nq
 obtain ⟨T15, h15, X15, e15, W15, st15⟩ := putF X14 hx hZ hown (host := "") (Or.inl (tw hw 76 rfl)) Via.refl e14 H8 H7 (Or.inr ⟨(tw hw 51 rfl), rfl, hnm⟩) (tw hw 49 rfl) (ty := .byte) (by decide) rfl rfl (g := (mkF m 24 #[vR a1, vR a2, .val .null, vR w3, vI w4] [(.int 0), (.ref a1)])) rfl rfl (hb hby d22_24)
 have Fw15 := Fld.same W15 H8
 have KC15 := KSx.wr (KSx.refl h0 [(a1, Jvm.RoadKit.slotOf Z sK1 "coder" "B"), (a1, Jvm.RoadKit.slotOf Z sK1 "value" "[B")] []) W15 (Or.inl (List.mem_of_getElem? (i := 0) rfl))
 have N15 := Fr.snoc X15 N14 H9
 have f16 := (H10.other W15 H11)
 have Z15 : n0 ≤ h15.size := Nat.le_trans Z0 (Nat.le_of_eq W15.size.symm)
 obtain ⟨_, _, ⟨T17, _, _, _⟩, -, X17, ⟨_, hQ, lq, yq, zq⟩, st17⟩ := Jvm.LawKit.callS X15 hx (y := mN14) hown (mvT hZ (tw hw 157 rfl)) (mvT hZ (tw hw 158 rfl)) (mvT hZ (tw hw 159 rfl)) (mvT hZ (tw hw 160 rfl)) (by decide) (backOf (W := 1) (r26_1 l Z a0 hw w3 (0 : Int32) w4 k8 u9 p10 h15 n0 Z15 rfl f16 H12 H13 H14 H15 H16 (by first | decide | rfl) H17 H18) hZ (tw hw 160 rfl) (tw hw 159 rfl) (by decide) (by decide)) (g := (mkF m 32 #[vR a1, vR a2, .val .null, vR w3, vI w4] [(.int w4), (.int 0), (.ref w3), (.ref a1)])) rfl (by rw [hml]; rfl) (argsL := [(.ref w3), (.int 0), (.int w4)]) (rest := [(.ref a1)]) (lenOf pd_7 rfl) rfl (own_w _) (hb hby d22_32) (fun _ _ => ⟨rfl, e15, (by decide : 0 + 1 ≤ _), (by decide : 0 + 70 ≤ _)⟩)
 dsimp only [Pt.U, Pt.locs, Pt.cells, Pt.slots] at X17 lq yq zq st17 hQ
 replace X17 := own_mvX X17 (a := 1) (b := 70) yq zq
 obtain ⟨Nq, b17_0, k17_0, rfl, ge_b17_0, K17, o17_0, o17_1⟩ := hQ
 have N17 := own_mvN lq N15 Nq
 have KC17 := KSx.trans KC15 K17 ks0 all0
 have f18 := ((H7.wr W15).ks K17)
 have f19 := ((H19.other W15 (Or.inr (slot_ne (Or.inr (tw hw 50 rfl)) (Or.inr (tw hw 51 rfl)) (by decide) (t := (.array .byte)) (t' := .byte) (by decide) (by decide)))).ks K17 ks0 all0)
 obtain ⟨T20, h20, X20, e20, W20, st20⟩ := putF X17 hx hZ hown (host := "") (Or.inl (tw hw 69 rfl)) Via.refl rfl f19 f18 (Or.inr ⟨(tw hw 50 rfl), rfl, hnm⟩) (tw hw 49 rfl) (ty := (.array .byte)) (by decide) rfl rfl (g := (mkF m 35 #[vR a1, vR a2, .val .null, vR w3, vI w4] [(.ref b17_0), (.ref a1)])) rfl rfl (hb hby d22_35)
 have Fw20 := Fld.same W20 f19
 have KC20 := KSx.wr KC17 W20 (Or.inl (List.mem_of_getElem? (i := 1) rfl))
 have N20 := Fr.snoc X20 N17 H9
 have f21 := (o17_0.wr W20)
 have f22 := ((Fw15.ks K17 ks0 all0).other W20 (Or.inr (slot_ne (Or.inr (tw hw 51 rfl)) (Or.inr (tw hw 50 rfl)) (by decide) (t := .byte) (t' := (.array .byte)) (by decide) (by decide))))
 have f23 := (H7.wr W15)
 have ne24 : a1 ≠ b17_0 := (Nat.ne_of_lt (Nat.lt_of_lt_of_le (f23).lt ge_b17_0))
 have f25 := (o17_1.other W20 (Ne.symm ne24))
 obtain ⟨fs, hr, hrun, hended, hW, hsame⟩ := X20.leave (v := none) (fun _ => rfl)
 refine ⟨_, _, pre0 _ ?_, hrun, hended, _, _, rfl, ?_, ⟨_, rfl⟩, hW, hsame.mono (by decide) (by decide)⟩
 · show SG p e below s₁ (mkF m 0 #[vR a1, vR a2, .val .null, vU, vU] []) _
   refine XS.aloadN X0.here hx rfl (hb hby d22_0) rfl rfl ?_
   show SG p e below s₁ (mkF m 1 #[vR a1, vR a2, .val .null, vU, vU] [(.ref a1)]) _
   refine st11 _ ?_
   show SG p e below T11 (mkF m 4 #[vR a1, vR a2, .val .null, vU, vU] []) _
   refine XS.aloadN X11.here hx rfl (hb hby d22_4) rfl rfl ?_
   show SG p e below T11 (mkF m 5 #[vR a1, vR a2, .val .null, vU, vU] [(.ref a2)]) _
   refine st12.trans ?_
   show SG p e below T12 (mkF m 8 #[vR a1, vR a2, .val .null, vU, vU] [(.ref w3)]) _
   refine XS.astoreN X12.here hx rfl (hb hby d22_8) rfl rfl (l' := #[vR a1, vR a2, .val .null, vR w3, vU]) rfl ?_
   show SG p e below T12 (mkF m 9 #[vR a1, vR a2, .val .null, vR w3, vU] []) _
   refine XS.aloadN X12.here hx rfl (hb hby d22_9) rfl rfl ?_
   show SG p e below T12 (mkF m 10 #[vR a1, vR a2, .val .null, vR w3, vU] [(.ref a2)]) _
   refine st13.trans ?_
   show SG p e below T13 (mkF m 13 #[vR a1, vR a2, .val .null, vR w3, vU] [(.int w4)]) _
   refine XS.istore X13.here hx rfl (hb hby d22_13) rfl (l' := #[vR a1, vR a2, .val .null, vR w3, vI w4]) rfl ?_
   show SG p e below T13 (mkF m 15 #[vR a1, vR a2, .val .null, vR w3, vI w4] []) _
   refine XS.aloadN X13.here hx rfl (hb hby d22_15) rfl rfl ?_
   show SG p e below T13 (mkF m 16 #[vR a1, vR a2, .val .null, vR w3, vI w4] [(.ref a2)]) _
   refine st14.trans ?_
   show SG p e below T14 (mkF m 19 #[vR a1, vR a2, .val .null, vR w3, vI w4] [(.int 1)]) _
   refine XS.ifNo X14.here hx rfl (hb hby d22_19) rfl ((if0 _ _).trans (feq (by decide : ¬ ((1 : Int32) = 0))).1) ?_
   show SG p e below T14 (mkF m 22 #[vR a1, vR a2, .val .null, vR w3, vI w4] []) _
   refine XS.aloadN X14.here hx rfl (hb hby d22_22) rfl rfl ?_
   refine XS.iconst X14.here hx rfl (hb hby d22_23) ?_
   show SG p e below T14 (mkF m 24 #[vR a1, vR a2, .val .null, vR w3, vI w4] [(.int 0), (.ref a1)]) _
   refine st15 _ ?_
   show SG p e below T15 (mkF m 27 #[vR a1, vR a2, .val .null, vR w3, vI w4] []) _
   refine XS.aloadN X15.here hx rfl (hb hby d22_27) rfl rfl ?_
   refine XS.aloadN X15.here hx rfl (hb hby d22_28) rfl rfl ?_
   show SG p e below T15 (mkF m 29 #[vR a1, vR a2, .val .null, vR w3, vI w4] [(.ref w3), (.ref a1)]) _
   refine XS.iconst X15.here hx rfl (hb hby d22_29) ?_
   refine XS.iload X15.here hx rfl (hb hby d22_30) rfl ?_
   show SG p e below T15 (mkF m 32 #[vR a1, vR a2, .val .null, vR w3, vI w4] [(.int w4), (.int 0), (.ref w3), (.ref a1)]) _
   refine st17 _ ?_
   show SG p e below T17 (mkF m 35 #[vR a1, vR a2, .val .null, vR w3, vI w4] [(.ref b17_0), (.ref a1)]) _
   refine st20 _ ?_
   show SG p e below T20 (mkF m 38 #[vR a1, vR a2, .val .null, vR w3, vI w4] []) _
   refine XS.goto X20.here hx rfl (pc0 := 38) (pc' := 97) rfl (hb hby d22_38) (by decide) (by decide) ?_
   show SG p e below T20 (mkF m 97 #[vR a1, vR a2, .val .null, vR w3, vI w4] []) _
   exact X20.returnOut hx Bd.returns (hb hby d22_97) hr
 · show Qr22_1 Z a1 a2 w3 w4 w5 w6 w7 k8 u9 p10 h0 n0 _ T20.heap _
   rw [e20]
   exact ⟨N20, b17_0, k17_0, rfl, (Nat.le_trans KC15.1 ge_b17_0), KC20, f21, f22, Fw20, f25⟩
theorem pd_8 : parseMethodDescriptor "(Ljava/lang/AbstractStringBuilder;Ljava/lang/Void;)V" = some ⟨[(.object "java/lang/AbstractStringBuilder"), (.object "java/lang/Void")], none⟩ := by decide +kernel
theorem d21_6 : Dc rev7 6 .return_ 1 := by decide +kernel
theorem ef_21_vv (m : MethodId) (x0 : Addr) (x1 : Addr) : entryFrame m #[(.ref x0), (.ref x1)] 2 = mkF m 0 #[.val (.ref x0), .val (.ref x1)] [] := by first | (simp [entryFrame, mkF, argsToLocals, Value.category]; done) | rfl
def Qr21_1 (Z : State) (a1 : Addr) (a2 : Addr) (w3 : Addr) (w4 : Int32) (w5 : Int32) (w6 : Int32) (w7 : Int32) (k8 : ClassId) (u9 : Nat → Int32) (p10 : Int32) (h0 : Heap) (n0 : Nat) (v : Option Value) (h : Heap) (L : List Loc) : Prop := Fr n0 L ∧ ∃ b11_0 : Addr, ∃ k11_0 : ClassId, v = none ∧ h0.size ≤ b11_0 ∧ KSx h0 h [(a1, Jvm.RoadKit.slotOf Z sK1 "value" "[B"), (a1, Jvm.RoadKit.slotOf Z sK1 "coder" "B")] [] ∧ Exa Z h b11_0 "[B" ∧ Fld Z h a1 sK1 "coder" "B" (.int 0) ∧ Fld Z h a1 sK1 "value" "[B" (.ref b11_0) ∧ BA Z h b11_0 k11_0 .byte (w4 - 0) (fun i => if ((0 : Int32)).toNatClampNeg ≤ i ∧ i < ((0 : Int32)).toNatClampNeg + ((w4 - 0)).toNatClampNeg then u9 (((0 : Int32)).toNatClampNeg + (i - ((0 : Int32)).toNatClampNeg)) else (fun _ => (0 : Int32)) i)
theorem r21_1 (l : Launch) (Z : State) (a0 : Array Value) (hw : TW a0 Z) (a1 : Addr) (a2 : Addr) (w3 : Addr) (w4 : Int32) (w5 : Int32) (w6 : Int32) (w7 : Int32) (k8 : ClassId) (u9 : Nat → Int32) (p10 : Int32) (h0 : Heap) (n0 : Nat) (Z0 : n0 ≤ h0.size) (H0 : Fld Z h0 a2 sK2 "value" "[B" (.ref w3)) (H1 : Exa Z h0 a2 sK4) (H2 : Fld Z h0 a2 sK2 "count" "I" (.int w4)) (H3 : Sta Z h0 sK1 sK3 "Z" (.int w5)) (H4 : ¬ (w5 = 0)) (H5 : Fld Z h0 a2 sK2 "coder" "B" (.int w6)) (H6 : w6 = 0) (H7 : Exa Z h0 a1 sK1) (H8 : Fld Z h0 a1 sK1 "coder" "B" (.int w7)) (H9 : n0 ≤ a1) (H10 : BA Z h0 w3 k8 .byte p10 u9) (H11 : w3 ≠ a1) (H12 : ¬ (w4 = p10)) (H13 : ¬ (w4 < 0)) (H14 : ¬ ((w4 - 0) < 0)) (H15 : ¬ ((70 : Int32) < (w4 - 0))) (H16 : (w4 - 0) < (p10 - 0)) (H17 : ((0 : Int32)).toNatClampNeg + ((w4 - 0)).toNatClampNeg ≤ (p10).toNatClampNeg) (H18 : ((0 : Int32)).toNatClampNeg + ((w4 - 0)).toNatClampNeg ≤ ((w4 - 0)).toNatClampNeg) (H19 : Fld Z h0 a1 sK1 "value" "[B" .null) :
   OMet l Z mN16 jdk_42_method_53_code 2 none [] (Rm 4 1 70 65) h0 #[(.ref a1), (.ref a2)] (Qr21_1 Z a1 a2 w3 w4 w5 w6 w7 k8 u9 p10 h0 n0) := by
 refine MetFree.of_bodySF (plainFor_of_name pn_java_lang_String) hisR ?_
 intro p e s m args below meth c s₁ Bd hml0 hP hK
 obtain ⟨rfl, hZ, hh⟩ := hP
 have hx := Bd.exec
 have hby := Bd.bytes
 have hml : c.maxLocals = 2 := hml0
 have hown : s.vm.findClass sK1 = some m.cls := findClass_of_methodNamed Bd.named
 have X0 := own_X0 Bd
 have e0 : s₁.heap = h0 := by rw [← hh, Bd.state]; rfl
 have N0 := Fr.nil n0
 have pre0 : ∀ t, Steps p.tables e below (s₁.setTop (mkF m 0 #[vR a1, vR a2] [])) t → Steps p.tables e below (s₁.setTop (entryFrame m #[(.ref a1), (.ref a2)] 2)) t := fun t k => castTop (ef_21_vv m a1 a2) k
 obtain ⟨_, _, ⟨T11, _, _, _⟩, -, X11, ⟨_, hQ, lq, yq, zq⟩, st11⟩ := X0.specialBack hx (y := mN15) rfl hown (mvT hZ (tw hw 139 rfl)) (mvT hZ (tw hw 140 rfl)) (mvT hZ (tw hw 141 rfl)) (by decide) (backOf (W := 0) (r22_1 l Z a0 hw a1 a2 w3 w4 w5 w6 w7 k8 u9 p10 h0 n0 Z0 H0 H1 H2 H3 H4 H5 H6 H7 H8 H9 H10 H11 H12 H13 H14 H15 H16 H17 H18 H19) hZ (tw hw 141 rfl) (tw hw 42 rfl) (by decide) (by decide)) (g := (mkF m 3 #[vR a1, vR a2] [.null, (.ref a2), (.ref a1)])) rfl (by rw [hml]; rfl) (Steps.refl _) (a := a1) (argsL := [(.ref a2), .null]) (rest := []) (lenOf pd_8 rfl) rfl (own_w _) (hb hby d21_3) (fun _ _ => ⟨rfl, e0, (by decide : 0 + 1 ≤ _), (by decide : 0 + 70 ≤ _)⟩)
 dsimp only [Pt.U, Pt.locs, Pt.cells, Pt.slots] at X11 lq yq zq st11 hQ
 replace X11 := own_mvX X11 (a := 1) (b := 70) yq zq
 obtain ⟨Nq, b11_0, k11_0, rfl, ge_b11_0, K11, o11_0, o11_1, o11_2, o11_3⟩ := hQ
 have N11 := own_mvN lq N0 Nq
 have KC11 := KSx.trans (KSx.refl h0 [(a1, Jvm.RoadKit.slotOf Z sK1 "value" "[B"), (a1, Jvm.RoadKit.slotOf Z sK1 "coder" "B")] []) K11 (ksS (Or.inl (List.mem_of_getElem? (i := 1) rfl)) (ksS (Or.inl (List.mem_of_getElem? (i := 0) rfl)) ks0)) all0
 obtain ⟨fs, hr, hrun, hended, hW, hsame⟩ := X11.leave (v := none) (fun _ => rfl)
 refine ⟨_, _, pre0 _ ?_, hrun, hended, _, _, rfl, ?_, ⟨_, rfl⟩, hW, hsame.mono (by decide) (by decide)⟩
 · show SG p e below s₁ (mkF m 0 #[vR a1, vR a2] []) _
   refine XS.aloadN X0.here hx rfl (hb hby d21_0) rfl rfl ?_
   refine XS.aloadN X0.here hx rfl (hb hby d21_1) rfl rfl ?_
   show SG p e below s₁ (mkF m 2 #[vR a1, vR a2] [(.ref a2), (.ref a1)]) _
   refine XS.aconstNull X0.here hx rfl (hb hby d21_2) ?_
   show SG p e below s₁ (mkF m 3 #[vR a1, vR a2] [.null, (.ref a2), (.ref a1)]) _
   refine st11.trans ?_
   show SG p e below T11 (mkF m 6 #[vR a1, vR a2] []) _
   exact X11.returnOut hx Bd.returns (hb hby d21_6) hr
 · show Qr21_1 Z a1 a2 w3 w4 w5 w6 w7 k8 u9 p10 h0 n0 _ T11.heap _
   exact ⟨N11, b11_0, k11_0, rfl, (Nat.le_trans (KSx.refl h0 [(a1, Jvm.RoadKit.slotOf Z sK1 "value" "[B"), (a1, Jvm.RoadKit.slotOf Z sK1 "coder" "B")] []).1 ge_b11_0), KC11, o11_0, o11_1, o11_2, o11_3⟩
theorem pd_9 : parseMethodDescriptor "(Ljava/lang/StringBuilder;)V" = some ⟨[(.object "java/lang/StringBuilder")], none⟩ := by decide +kernel
theorem d20_8 : Dc rev6 8 .areturn 1 := by decide +kernel
theorem ef_20_v (m : MethodId) (x0 : Addr) : entryFrame m #[(.ref x0)] 1 = mkF m 0 #[.val (.ref x0)] [] := by first | (simp [entryFrame, mkF, argsToLocals, Value.category]; done) | rfl
def Qr20_1 (Z : State) (a1 : Addr) (w2 : Addr) (w3 : Int32) (w4 : Int32) (w5 : Int32) (k6 : ClassId) (u7 : Nat → Int32) (p8 : Int32) (h0 : Heap) (n0 : Nat) (v : Option Value) (h : Heap) (L : List Loc) : Prop := Fr n0 L ∧ ∃ b9 b10_0 : Addr, ∃ k10_0 : ClassId, v = some (.ref b9) ∧ h0.size ≤ b9 ∧ h0.size ≤ b10_0 ∧ KSx h0 h [] [] ∧ Exa Z h b9 sK1 ∧ Exa Z h b10_0 "[B" ∧ Fld Z h b9 sK1 "value" "[B" (.ref b10_0) ∧ Fld Z h b9 sK1 "coder" "B" (.int 0) ∧ BA Z h b10_0 k10_0 .byte (w3 - 0) (fun i => if ((0 : Int32)).toNatClampNeg ≤ i ∧ i < ((0 : Int32)).toNatClampNeg + ((w3 - 0)).toNatClampNeg then u7 (((0 : Int32)).toNatClampNeg + (i - ((0 : Int32)).toNatClampNeg)) else (fun _ => (0 : Int32)) i)
theorem r20_1 (l : Launch) (Z : State) (a0 : Array Value) (hw : TW a0 Z) (a1 : Addr) (w2 : Addr) (w3 : Int32) (w4 : Int32) (w5 : Int32) (k6 : ClassId) (u7 : Nat → Int32) (p8 : Int32) (h0 : Heap) (n0 : Nat) (Z0 : n0 ≤ h0.size) (H0 : Fld Z h0 a1 sK2 "value" "[B" (.ref w2)) (H1 : Exa Z h0 a1 sK4) (H2 : Fld Z h0 a1 sK2 "count" "I" (.int w3)) (H3 : Sta Z h0 sK1 sK3 "Z" (.int w4)) (H4 : ¬ (w4 = 0)) (H5 : Fld Z h0 a1 sK2 "coder" "B" (.int w5)) (H6 : w5 = 0) (H7 : BA Z h0 w2 k6 .byte p8 u7) (H8 : ¬ (w3 = p8)) (H9 : ¬ (w3 < 0)) (H10 : ¬ ((w3 - 0) < 0)) (H11 : ¬ ((70 : Int32) < (w3 - 0))) (H12 : (w3 - 0) < (p8 - 0)) (H13 : ((0 : Int32)).toNatClampNeg + ((w3 - 0)).toNatClampNeg ≤ (p8).toNatClampNeg) (H14 : ((0 : Int32)).toNatClampNeg + ((w3 - 0)).toNatClampNeg ≤ ((w3 - 0)).toNatClampNeg) :
   OMet l Z mN17 jdk_67_method_42_code 1 (some (.object sK1)) [] (Rm 5 2 74 79) h0 #[(.ref a1)] (Qr20_1 Z a1 w2 w3 w4 w5 k6 u7 p8 h0 n0) := by
 refine MetFree.of_bodySF (plainFor_of_name pn_java_lang_StringBuilder) hisR ?_
 intro p e s m args below meth c s₁ Bd hml0 hP hK
 obtain ⟨rfl, hZ, hh⟩ := hP
 have hx := Bd.exec
 have hby := Bd.bytes
 have hml : c.maxLocals = 1 := hml0
 have hown : s.vm.findClass sK4 = some m.cls := findClass_of_methodNamed Bd.named
 have X0 := own_X0 Bd
 have e0 : s₁.heap = h0 := by rw [← hh, Bd.state]; rfl
 have N0 := Fr.nil n0
 have pre0 : ∀ t, Steps p.tables e below (s₁.setTop (mkF m 0 #[vR a1] [])) t → Steps p.tables e below (s₁.setTop (entryFrame m #[(.ref a1)] 1)) t := fun t k => castTop (ef_20_v m a1) k
 obtain ⟨T9, h9, X9, e9, E9, A9, D9, -, st9⟩ := newO X0 hx hZ hown (tw hw 134 rfl) (tw hw 49 rfl) (tw hw 42 rfl) e0 (g := (mkF m 0 #[vR a1] [])) rfl (hb hby d20_0) (by decide) (by decide)
 obtain ⟨b9, g9⟩ : ∃ z, z = h0.size := ⟨_, rfl⟩
 rw [← g9] at A9 D9 st9
 have KC9 := KSx.ext (KSx.refl h0 [] []) E9
 have f10 := (H0.ext E9)
 have f11 := (H1.ext E9)
 have f12 := (H2.ext E9)
 have f13 := (H3.ext E9)
 have f14 := (H5.ext E9)
 have g15 : n0 ≤ b9 := Nat.le_trans Z0 (Nat.le_of_eq g9.symm)
 have f16 := (H7.ext E9)
 have ne17 : w2 ≠ b9 := (Nat.ne_of_lt (Nat.lt_of_lt_of_le (H7).lt (Nat.le_of_eq g9.symm)))
 have Z9 : n0 ≤ h9.size := Nat.le_trans Z0 E9.1
 obtain ⟨_, _, ⟨T18, _, _, _⟩, -, X18, ⟨_, hQ, lq, yq, zq⟩, st18⟩ := X9.specialBack hx (y := mN16) rfl hown (mvT hZ (tw hw 135 rfl)) (mvT hZ (tw hw 136 rfl)) (mvT hZ (tw hw 138 rfl)) (by decide) (backOf (W := 1) (r21_1 l Z a0 hw b9 a1 w2 w3 w4 w5 (0 : Int32) k6 u7 p8 h9 n0 Z9 f10 f11 f12 f13 H4 f14 H6 A9 (D9 (Or.inr (tw hw 51 rfl)) (ty := .byte) (by decide)) g15 f16 ne17 H8 H9 H10 H11 H12 H13 H14 (D9 (Or.inr (tw hw 50 rfl)) (ty := (.array .byte)) (by decide))) hZ (tw hw 138 rfl) (tw hw 42 rfl) (by decide) (by decide)) (g := (mkF m 5 #[vR a1] [(.ref a1), (.ref b9), (.ref b9)])) rfl (by rw [hml]; rfl) (Steps.refl _) (a := b9) (argsL := [(.ref a1)]) (rest := [(.ref b9)]) (lenOf pd_9 rfl) rfl (own_w _) (hb hby d20_5) (fun _ _ => ⟨rfl, e9, (by decide : 1 + 1 ≤ _), (by decide : 4 + 70 ≤ _)⟩)
 dsimp only [Pt.U, Pt.locs, Pt.cells, Pt.slots] at X18 lq yq zq st18 hQ
 replace X18 := own_mvX X18 (a := 2) (b := 74) yq zq
 obtain ⟨Nq, b18_0, k18_0, rfl, ge_b18_0, K18, o18_0, o18_1, o18_2, o18_3⟩ := hQ
 have N18 := own_mvN lq N0 Nq
 have z19 : h0.size ≤ b9 := Nat.le_trans (KSx.refl h0 [] []).1 (Nat.le_of_eq g9.symm)
 have KC18 := KSx.trans KC9 K18 (ksS (Or.inr z19) (ksS (Or.inr z19) ks0)) all0
 have f20 := (A9.ks K18)
 obtain ⟨fs, hr, hrun, hended, hW, hsame⟩ := X18.leave (v := some (.ref b9)) (fun h => by rw [Bd.returns] at h; cases h)
 refine ⟨_, _, pre0 _ ?_, hrun, hended, _, _, rfl, ?_, ⟨_, rfl⟩, hW, hsame.mono (by decide) (by decide)⟩
 · show SG p e below s₁ (mkF m 0 #[vR a1] []) _
   refine st9 _ ?_
   show SG p e below T9 (mkF m 3 #[vR a1] [(.ref b9)]) _
   refine XS.dup X9.here hx rfl (hb hby d20_3) rfl rfl ?_
   refine XS.aloadN X9.here hx rfl (hb hby d20_4) rfl rfl ?_
   show SG p e below T9 (mkF m 5 #[vR a1] [(.ref a1), (.ref b9), (.ref b9)]) _
   refine st18.trans ?_
   show SG p e below T18 (mkF m 8 #[vR a1] [(.ref b9)]) _
   jvm_step X18.here [X18.here.top, hx, (hb hby d20_8), X18.method', Bd.returns, Value.isRef, FieldType.isReference]
   first | (intro acts; rw [hr _ acts rfl rfl rfl]) | rw [hr _ _ rfl rfl rfl]
   exact Steps.refl _
 · show Qr20_1 Z a1 w2 w3 w4 w5 k6 u7 p8 h0 n0 _ T18.heap _
   exact ⟨N18, b9, b18_0, k18_0, rfl, z19, (Nat.le_trans KC9.1 ge_b18_0), KC18, f20, o18_0, o18_2, o18_1, o18_3⟩
theorem d26_17 : Dc rev13 17 (.aload_n 0) 1 := by decide +kernel
theorem d26_18 : Dc rev13 18 (.invokevirtual 310) 3 := by decide +kernel
theorem d26_21 : Dc rev13 21 (.checkcast 311) 3 := by decide +kernel
theorem d26_24 : Dc rev13 24 .areturn 1 := by decide +kernel
def Qr26_2 (Z : State) (a1 : Addr) (p2 : Int32) (p3 : Int32) (k4 : ClassId) (u5 : Nat → Int32) (p6 : Int32) (h0 : Heap) (n0 : Nat) (v : Option Value) (h : Heap) (L : List Loc) : Prop := Fr n0 L ∧ ∃ b7 : Addr, v = some (.ref b7) ∧ h0.size ≤ b7 ∧ KSx h0 h [] [] ∧ Exa Z h b7 "[B" ∧ BA Z h b7 k4 .byte p6 u5
theorem r26_2 (l : Launch) (Z : State) (a0 : Array Value) (hw : TW a0 Z) (a1 : Addr) (p2 : Int32) (p3 : Int32) (k4 : ClassId) (u5 : Nat → Int32) (p6 : Int32) (h0 : Heap) (n0 : Nat) (Z0 : n0 ≤ h0.size) (H0 : p2 = 0) (H1 : BA Z h0 a1 k4 .byte p6 u5) (H2 : p3 = p6) (H3 : Exa Z h0 a1 "[B") (H4 : ¬ ((70 : Int32) < p6)) :
   OMet l Z mN14 jdk_65_method_132_code 3 (some (.array .byte)) [] (Rm 1 1 70 14) h0 #[(.ref a1), (.int p2), (.int p3)] (Qr26_2 Z a1 p2 p3 k4 u5 p6 h0 n0) := by
 refine MetFree.of_bodySF (plainFor_of_name pn_java_util_Arrays) hisR ?_
 intro p e s m args below meth c s₁ Bd hml0 hP hK
 obtain ⟨rfl, hZ, hh⟩ := hP
 have hx := Bd.exec
 have hby := Bd.bytes
 have hml : c.maxLocals = 3 := hml0
 have hown : s.vm.findClass sK18 = some m.cls := findClass_of_methodNamed Bd.named
 have X0 := own_X0 Bd
 have e0 : s₁.heap = h0 := by rw [← hh, Bd.state]; rfl
 have N0 := Fr.nil n0
 have pre0 : ∀ t, Steps p.tables e below (s₁.setTop (mkF m 0 #[vR a1, vI p2, vI p3] [])) t → Steps p.tables e below (s₁.setTop (entryFrame m #[(.ref a1), (.int p2), (.int p3)] 3)) t := fun t k => castTop (ef_26_vvv m a1 p2 p3) k
 have vc7 := H1
 obtain ⟨cl7, Ar7, q7, S7, N7, Hh7, G7⟩ := vc7
 obtain ⟨T8, h8, X8, e8, E8, B8, A8, st8⟩ := cloneB X0 hx hZ hown (tw hw 315 rfl) (tw hw 316 rfl) (tw hw 320 rfl) (tw hw 318 rfl) (tw hw 319 rfl) (tw hw 321 rfl) e0 H1 H3 (g := (mkF m 18 #[vR a1, vI p2, vI p3] [(.ref a1)])) rfl (by rw [hml]; rfl) rfl (hb hby d26_18) (by decide) (W := 0) (own_w _) (by decide) (cap := 70) (own_cap (k := 70) (by decide) H4) (by decide) (by decide)
 obtain ⟨b8, g8⟩ : ∃ z, z = h0.size := ⟨_, rfl⟩
 rw [← g8] at A8 B8 st8
 have KC8 := KSx.ext (KSx.refl h0 [] []) E8
 obtain ⟨T9, X9, e9, st9⟩ := castY X8 hx hZ hown (tw hw 322 rfl) e8 (Ins.self A8) (g := (mkF m 21 #[vR a1, vI p2, vI p3] [(.ref b8)])) rfl rfl (hb hby d26_21)
 obtain ⟨fs, hr, hrun, hended, hW, hsame⟩ := X9.leave (v := some (.ref b8)) (fun h => by rw [Bd.returns] at h; cases h)
 refine ⟨_, _, pre0 _ ?_, hrun, hended, _, _, rfl, ?_, ⟨_, rfl⟩, hW, hsame.mono (by decide) (by decide)⟩
 · show SG p e below s₁ (mkF m 0 #[vR a1, vI p2, vI p3] []) _
   refine XS.iloadN X0.here hx rfl (hb hby d26_0) rfl ?_
   refine XS.ifNo X0.here hx rfl (hb hby d26_1) rfl ((if0 _ _).trans (teq H0).2) ?_
   show SG p e below s₁ (mkF m 4 #[vR a1, vI p2, vI p3] []) _
   refine XS.iloadN X0.here hx rfl (hb hby d26_4) rfl ?_
   refine XS.aloadN X0.here hx rfl (hb hby d26_5) rfl rfl ?_
   show SG p e below s₁ (mkF m 6 #[vR a1, vI p2, vI p3] [(.ref a1), (.int p3)]) _
   refine X0.arraylength hx (by rw [e0]; exact Ar7.1) (State.isArrayOf_alike hZ.alike Ar7.2.1) (g := (mkF m 6 #[vR a1, vI p2, vI p3] [(.ref a1), (.int p3)])) rfl rfl (hb hby d26_6) _ ?_
   rw [len_of S7 N7]
   show SG p e below s₁ (mkF m 7 #[vR a1, vI p2, vI p3] [(.int p6), (.int p3)]) _
   refine XS.icmpYes X0.here hx rfl (pc0 := 7) (pc' := 17) rfl (hb hby d26_7) rfl (teq H2).1 (by decide) (by decide) ?_
   show SG p e below s₁ (mkF m 17 #[vR a1, vI p2, vI p3] []) _
   refine XS.aloadN X0.here hx rfl (hb hby d26_17) rfl rfl ?_
   show SG p e below s₁ (mkF m 18 #[vR a1, vI p2, vI p3] [(.ref a1)]) _
   refine st8 _ ?_
   show SG p e below T8 (mkF m 21 #[vR a1, vI p2, vI p3] [(.ref b8)]) _
   refine st9 _ ?_
   show SG p e below T9 (mkF m 24 #[vR a1, vI p2, vI p3] [(.ref b8)]) _
   jvm_step X9.here [X9.here.top, hx, (hb hby d26_24), X9.method', Bd.returns, Value.isRef, FieldType.isReference]
   first | (intro acts; rw [hr _ acts rfl rfl rfl]) | rw [hr _ _ rfl rfl rfl]
   exact Steps.refl _
 · show Qr26_2 Z a1 p2 p3 k4 u5 p6 h0 n0 _ T9.heap _
   rw [e9]
   exact ⟨N0, b8, rfl, (Nat.le_trans (KSx.refl h0 [] []).1 (Nat.le_of_eq g8.symm)), KC8, A8, B8⟩
def Qr22_2 (Z : State) (a1 : Addr) (a2 : Addr) (w3 : Addr) (w4 : Int32) (w5 : Int32) (w6 : Int32) (w7 : Int32) (k8 : ClassId) (u9 : Nat → Int32) (p10 : Int32) (h0 : Heap) (n0 : Nat) (v : Option Value) (h : Heap) (L : List Loc) : Prop := Fr n0 L ∧ ∃ b11_0 : Addr, v = none ∧ h0.size ≤ b11_0 ∧ KSx h0 h [(a1, Jvm.RoadKit.slotOf Z sK1 "coder" "B"), (a1, Jvm.RoadKit.slotOf Z sK1 "value" "[B")] [] ∧ Exa Z h b11_0 "[B" ∧ Fld Z h a1 sK1 "coder" "B" (.int 0) ∧ Fld Z h a1 sK1 "value" "[B" (.ref b11_0) ∧ BA Z h b11_0 k8 .byte p10 u9
theorem r22_2 (l : Launch) (Z : State) (a0 : Array Value) (hw : TW a0 Z) (a1 : Addr) (a2 : Addr) (w3 : Addr) (w4 : Int32) (w5 : Int32) (w6 : Int32) (w7 : Int32) (k8 : ClassId) (u9 : Nat → Int32) (p10 : Int32) (h0 : Heap) (n0 : Nat) (Z0 : n0 ≤ h0.size) (H0 : Fld Z h0 a2 sK2 "value" "[B" (.ref w3)) (H1 : Exa Z h0 a2 sK4) (H2 : Fld Z h0 a2 sK2 "count" "I" (.int w4)) (H3 : Sta Z h0 sK1 sK3 "Z" (.int w5)) (H4 : ¬ (w5 = 0)) (H5 : Fld Z h0 a2 sK2 "coder" "B" (.int w6)) (H6 : w6 = 0) (H7 : Exa Z h0 a1 sK1) (H8 : Fld Z h0 a1 sK1 "coder" "B" (.int w7)) (H9 : n0 ≤ a1) (H10 : BA Z h0 w3 k8 .byte p10 u9) (H11 : w3 ≠ a1) (H12 : w4 = p10) (H13 : Exa Z h0 w3 "[B") (H14 : ¬ ((70 : Int32) < p10)) (H15 : Fld Z h0 a1 sK1 "value" "[B" .null) :
   OMet l Z mN15 jdk_42_method_150_code 5 none [] (Rm 2 1 70 29) h0 #[(.ref a1), (.ref a2), .null] (Qr22_2 Z a1 a2 w3 w4 w5 w6 w7 k8 u9 p10 h0 n0) := by
 refine MetFree.of_bodySF (plainFor_of_name pn_java_lang_String) hisR ?_
 intro p e s m args below meth c s₁ Bd hml0 hP hK
 obtain ⟨rfl, hZ, hh⟩ := hP
 have hx := Bd.exec
 have hby := Bd.bytes
 have hml : c.maxLocals = 5 := hml0
 have hown : s.vm.findClass sK1 = some m.cls := findClass_of_methodNamed Bd.named
 have hnm := (name_of_methodNamed Bd.named Bd.method).1
 have X0 := own_X0 Bd
 have e0 : s₁.heap = h0 := by rw [← hh, Bd.state]; rfl
 have N0 := Fr.nil n0
 have pre0 : ∀ t, Steps p.tables e below (s₁.setTop (mkF m 0 #[vR a1, vR a2, .val .null, .unset, .unset] [])) t → Steps p.tables e below (s₁.setTop (entryFrame m #[(.ref a1), (.ref a2), .null] 5)) t := fun t k => castTop (ef_22_vvn m a1 a2) k
 obtain ⟨T11, X11, e11, st11⟩ := initO X0 hx hZ hown (tw hw 142 rfl) (tw hw 13 rfl) (tw hw 14 rfl) e0 (g := (mkF m 1 #[vR a1, vR a2, .val .null, vU, vU] [(.ref a1)])) rfl (by rw [hml]; rfl) rfl (hb hby d22_1) (by decide) (W := 0) (own_w _) (by decide)
 obtain ⟨cq12, kq12, q12a, q12b, q12c⟩ := isOf hZ e11 H1
 obtain ⟨_, _, ⟨T12, _, _, _⟩, -, X12, ⟨_, hQ, lq, yq, zq⟩, st12⟩ := X11.virtualBack hx (y := mN6) (z := mN6) hown (mvT hZ (tw hw 143 rfl)) (mvT hZ (tw hw 144 rfl)) (notFace_of_selects (args := #[]) (mvT hZ (tw hw 146 rfl))) (mvT hZ (tw hw 146 rfl)) (mvT hZ (tw hw 145 rfl)) (by decide) (backOf (W := 0) (r23_1 l Z a0 hw a2 w3 h0 n0 Z0 H0) hZ (tw hw 147 rfl) (tw hw 38 rfl) (by decide) (by decide)) q12a q12c (g := (mkF m 5 #[vR a1, vR a2, .val .null, vU, vU] [(.ref a2)])) rfl (by rw [hml]; rfl) (Steps.refl _) (argsL := []) (rest := []) (lenOf pd_4 rfl) rfl (own_w _) (hb hby d22_5) (fun _ _ => ⟨rfl, e11, (by decide : 0 + 0 ≤ _), (by decide : 0 + 0 ≤ _)⟩)
 dsimp only [Pt.U, Pt.locs, Pt.cells, Pt.slots] at X12 lq yq zq st12 hQ
 replace X12 := own_mvX X12 (a := 0) (b := 0) yq zq
 obtain ⟨rfl, Nq, e12⟩ := hQ
 have N12 := own_mvN lq N0 Nq
 obtain ⟨cq13, kq13, q13a, q13b, q13c⟩ := isOf hZ e12 H1
 obtain ⟨_, _, ⟨T13, _, _, _⟩, -, X13, ⟨_, hQ, lq, yq, zq⟩, st13⟩ := X12.virtualBack hx (y := mN7) (z := mN9) hown (mvT hZ (tw hw 148 rfl)) (mvT hZ (tw hw 149 rfl)) (own_nf (w := mN8) (args := #[]) rfl (mvT hZ (tw hw 82 rfl))) (mvT hZ (tw hw 151 rfl)) (mvT hZ (tw hw 152 rfl)) (by decide) (backOf (W := 0) (r24_1 l Z a0 hw a2 w4 h0 n0 Z0 H2 H1) hZ (tw hw 153 rfl) (tw hw 30 rfl) (by decide) (by decide)) q13a q13c (g := (mkF m 10 #[vR a1, vR a2, .val .null, vR w3, vU] [(.ref a2)])) rfl (by rw [hml]; rfl) (Steps.refl _) (argsL := []) (rest := []) (lenOf pd_5 rfl) rfl (own_w _) (hb hby d22_10) (fun _ _ => ⟨rfl, e12, (by decide : 0 + 0 ≤ _), (by decide : 0 + 0 ≤ _)⟩)
 dsimp only [Pt.U, Pt.locs, Pt.cells, Pt.slots] at X13 lq yq zq st13 hQ
 replace X13 := own_mvX X13 (a := 0) (b := 0) yq zq
 obtain ⟨rfl, Nq, e13⟩ := hQ
 have N13 := own_mvN lq N12 Nq
 obtain ⟨cq14, kq14, q14a, q14b, q14c⟩ := isOf hZ e13 H1
 obtain ⟨_, _, ⟨T14, _, _, _⟩, -, X14, ⟨_, hQ, lq, yq, zq⟩, st14⟩ := X13.virtualBack hx (y := mN10) (z := mN10) hown (mvT hZ (tw hw 156 rfl)) (mvT hZ (tw hw 119 rfl)) (notFace_of_selects (args := #[]) (mvT hZ (tw hw 121 rfl))) (mvT hZ (tw hw 121 rfl)) (mvT hZ (tw hw 120 rfl)) (by decide) (backOf (W := 0) (r18_1 l Z a0 hw a2 w5 w6 h0 n0 Z0 H3 H4 H5 H6) hZ (tw hw 122 rfl) (tw hw 38 rfl) (by decide) (by decide)) q14a q14c (g := (mkF m 16 #[vR a1, vR a2, .val .null, vR w3, vI w4] [(.ref a2)])) rfl (by rw [hml]; rfl) (Steps.refl _) (argsL := []) (rest := []) (lenOf pd_0 rfl) rfl (own_w _) (hb hby d22_16) (fun _ _ => ⟨rfl, e13, (by decide : 0 + 0 ≤ _), (by decide : 0 + 0 ≤ _)⟩)
 dsimp only [Pt.U, Pt.locs, Pt.cells, Pt.slots] at X14 lq yq zq st14 hQ
 replace X14 := own_mvX X14 (a := 0) (b := 0) yq zq
 obtain ⟨rfl, Nq, e14⟩ := hQ
 have N14 := own_mvN lq N13 Nq
 obtain ⟨T15, h15, X15, e15, W15, st15⟩ := putF X14 hx hZ hown (host := "") (Or.inl (tw hw 76 rfl)) Via.refl e14 H8 H7 (Or.inr ⟨(tw hw 51 rfl), rfl, hnm⟩) (tw hw 49 rfl) (ty := .byte) (by decide) rfl rfl (g := (mkF m 24 #[vR a1, vR a2, .val .null, vR w3, vI w4] [(.int 0), (.ref a1)])) rfl rfl (hb hby d22_24)
 have Fw15 := Fld.same W15 H8
 have KC15 := KSx.wr (KSx.refl h0 [(a1, Jvm.RoadKit.slotOf Z sK1 "coder" "B"), (a1, Jvm.RoadKit.slotOf Z sK1 "value" "[B")] []) W15 (Or.inl (List.mem_of_getElem? (i := 0) rfl))
 have N15 := Fr.snoc X15 N14 H9
 have f16 := (H10.other W15 H11)
 have f17 := (H13.wr W15)
 have Z15 : n0 ≤ h15.size := Nat.le_trans Z0 (Nat.le_of_eq W15.size.symm)
 obtain ⟨_, _, ⟨T18, _, _, _⟩, -, X18, ⟨_, hQ, lq, yq, zq⟩, st18⟩ := Jvm.LawKit.callS X15 hx (y := mN14) hown (mvT hZ (tw hw 157 rfl)) (mvT hZ (tw hw 158 rfl)) (mvT hZ (tw hw 159 rfl)) (mvT hZ (tw hw 160 rfl)) (by decide) (backOf (W := 1) (r26_2 l Z a0 hw w3 (0 : Int32) w4 k8 u9 p10 h15 n0 Z15 rfl f16 H12 f17 H14) hZ (tw hw 160 rfl) (tw hw 159 rfl) (by decide) (by decide)) (g := (mkF m 32 #[vR a1, vR a2, .val .null, vR w3, vI w4] [(.int w4), (.int 0), (.ref w3), (.ref a1)])) rfl (by rw [hml]; rfl) (argsL := [(.ref w3), (.int 0), (.int w4)]) (rest := [(.ref a1)]) (lenOf pd_7 rfl) rfl (own_w _) (hb hby d22_32) (fun _ _ => ⟨rfl, e15, (by decide : 0 + 1 ≤ _), (by decide : 0 + 70 ≤ _)⟩)
 dsimp only [Pt.U, Pt.locs, Pt.cells, Pt.slots] at X18 lq yq zq st18 hQ
 replace X18 := own_mvX X18 (a := 1) (b := 70) yq zq
 obtain ⟨Nq, b18_0, rfl, ge_b18_0, K18, o18_0, o18_1⟩ := hQ
 have N18 := own_mvN lq N15 Nq
 have KC18 := KSx.trans KC15 K18 ks0 all0
 have f19 := ((H7.wr W15).ks K18)
 have f20 := ((H15.other W15 (Or.inr (slot_ne (Or.inr (tw hw 50 rfl)) (Or.inr (tw hw 51 rfl)) (by decide) (t := (.array .byte)) (t' := .byte) (by decide) (by decide)))).ks K18 ks0 all0)
 obtain ⟨T21, h21, X21, e21, W21, st21⟩ := putF X18 hx hZ hown (host := "") (Or.inl (tw hw 69 rfl)) Via.refl rfl f20 f19 (Or.inr ⟨(tw hw 50 rfl), rfl, hnm⟩) (tw hw 49 rfl) (ty := (.array .byte)) (by decide) rfl rfl (g := (mkF m 35 #[vR a1, vR a2, .val .null, vR w3, vI w4] [(.ref b18_0), (.ref a1)])) rfl rfl (hb hby d22_35)
 have Fw21 := Fld.same W21 f20
 have KC21 := KSx.wr KC18 W21 (Or.inl (List.mem_of_getElem? (i := 1) rfl))
 have N21 := Fr.snoc X21 N18 H9
 have f22 := (o18_0.wr W21)
 have f23 := ((Fw15.ks K18 ks0 all0).other W21 (Or.inr (slot_ne (Or.inr (tw hw 51 rfl)) (Or.inr (tw hw 50 rfl)) (by decide) (t := .byte) (t' := (.array .byte)) (by decide) (by decide))))
 have f24 := (H7.wr W15)
 have ne25 : a1 ≠ b18_0 := (Nat.ne_of_lt (Nat.lt_of_lt_of_le (f24).lt ge_b18_0))
 have f26 := (o18_1.other W21 (Ne.symm ne25))
 obtain ⟨fs, hr, hrun, hended, hW, hsame⟩ := X21.leave (v := none) (fun _ => rfl)
 refine ⟨_, _, pre0 _ ?_, hrun, hended, _, _, rfl, ?_, ⟨_, rfl⟩, hW, hsame.mono (by decide) (by decide)⟩
 · show SG p e below s₁ (mkF m 0 #[vR a1, vR a2, .val .null, vU, vU] []) _
   refine XS.aloadN X0.here hx rfl (hb hby d22_0) rfl rfl ?_
   show SG p e below s₁ (mkF m 1 #[vR a1, vR a2, .val .null, vU, vU] [(.ref a1)]) _
   refine st11 _ ?_
   show SG p e below T11 (mkF m 4 #[vR a1, vR a2, .val .null, vU, vU] []) _
   refine XS.aloadN X11.here hx rfl (hb hby d22_4) rfl rfl ?_
   show SG p e below T11 (mkF m 5 #[vR a1, vR a2, .val .null, vU, vU] [(.ref a2)]) _
   refine st12.trans ?_
   show SG p e below T12 (mkF m 8 #[vR a1, vR a2, .val .null, vU, vU] [(.ref w3)]) _
   refine XS.astoreN X12.here hx rfl (hb hby d22_8) rfl rfl (l' := #[vR a1, vR a2, .val .null, vR w3, vU]) rfl ?_
   show SG p e below T12 (mkF m 9 #[vR a1, vR a2, .val .null, vR w3, vU] []) _
   refine XS.aloadN X12.here hx rfl (hb hby d22_9) rfl rfl ?_
   show SG p e below T12 (mkF m 10 #[vR a1, vR a2, .val .null, vR w3, vU] [(.ref a2)]) _
   refine st13.trans ?_
   show SG p e below T13 (mkF m 13 #[vR a1, vR a2, .val .null, vR w3, vU] [(.int w4)]) _
   refine XS.istore X13.here hx rfl (hb hby d22_13) rfl (l' := #[vR a1, vR a2, .val .null, vR w3, vI w4]) rfl ?_
   show SG p e below T13 (mkF m 15 #[vR a1, vR a2, .val .null, vR w3, vI w4] []) _
   refine XS.aloadN X13.here hx rfl (hb hby d22_15) rfl rfl ?_
   show SG p e below T13 (mkF m 16 #[vR a1, vR a2, .val .null, vR w3, vI w4] [(.ref a2)]) _
   refine st14.trans ?_
   show SG p e below T14 (mkF m 19 #[vR a1, vR a2, .val .null, vR w3, vI w4] [(.int 1)]) _
   refine XS.ifNo X14.here hx rfl (hb hby d22_19) rfl ((if0 _ _).trans (feq (by decide : ¬ ((1 : Int32) = 0))).1) ?_
   show SG p e below T14 (mkF m 22 #[vR a1, vR a2, .val .null, vR w3, vI w4] []) _
   refine XS.aloadN X14.here hx rfl (hb hby d22_22) rfl rfl ?_
   refine XS.iconst X14.here hx rfl (hb hby d22_23) ?_
   show SG p e below T14 (mkF m 24 #[vR a1, vR a2, .val .null, vR w3, vI w4] [(.int 0), (.ref a1)]) _
   refine st15 _ ?_
   show SG p e below T15 (mkF m 27 #[vR a1, vR a2, .val .null, vR w3, vI w4] []) _
   refine XS.aloadN X15.here hx rfl (hb hby d22_27) rfl rfl ?_
   refine XS.aloadN X15.here hx rfl (hb hby d22_28) rfl rfl ?_
   show SG p e below T15 (mkF m 29 #[vR a1, vR a2, .val .null, vR w3, vI w4] [(.ref w3), (.ref a1)]) _
   refine XS.iconst X15.here hx rfl (hb hby d22_29) ?_
   refine XS.iload X15.here hx rfl (hb hby d22_30) rfl ?_
   show SG p e below T15 (mkF m 32 #[vR a1, vR a2, .val .null, vR w3, vI w4] [(.int w4), (.int 0), (.ref w3), (.ref a1)]) _
   refine st18 _ ?_
   show SG p e below T18 (mkF m 35 #[vR a1, vR a2, .val .null, vR w3, vI w4] [(.ref b18_0), (.ref a1)]) _
   refine st21 _ ?_
   show SG p e below T21 (mkF m 38 #[vR a1, vR a2, .val .null, vR w3, vI w4] []) _
   refine XS.goto X21.here hx rfl (pc0 := 38) (pc' := 97) rfl (hb hby d22_38) (by decide) (by decide) ?_
   show SG p e below T21 (mkF m 97 #[vR a1, vR a2, .val .null, vR w3, vI w4] []) _
   exact X21.returnOut hx Bd.returns (hb hby d22_97) hr
 · show Qr22_2 Z a1 a2 w3 w4 w5 w6 w7 k8 u9 p10 h0 n0 _ T21.heap _
   rw [e21]
   exact ⟨N21, b18_0, rfl, (Nat.le_trans KC15.1 ge_b18_0), KC21, f22, f23, Fw21, f26⟩
def Qr21_2 (Z : State) (a1 : Addr) (a2 : Addr) (w3 : Addr) (w4 : Int32) (w5 : Int32) (w6 : Int32) (w7 : Int32) (k8 : ClassId) (u9 : Nat → Int32) (p10 : Int32) (h0 : Heap) (n0 : Nat) (v : Option Value) (h : Heap) (L : List Loc) : Prop := Fr n0 L ∧ ∃ b11_0 : Addr, v = none ∧ h0.size ≤ b11_0 ∧ KSx h0 h [(a1, Jvm.RoadKit.slotOf Z sK1 "value" "[B"), (a1, Jvm.RoadKit.slotOf Z sK1 "coder" "B")] [] ∧ Exa Z h b11_0 "[B" ∧ Fld Z h a1 sK1 "coder" "B" (.int 0) ∧ Fld Z h a1 sK1 "value" "[B" (.ref b11_0) ∧ BA Z h b11_0 k8 .byte p10 u9
theorem r21_2 (l : Launch) (Z : State) (a0 : Array Value) (hw : TW a0 Z) (a1 : Addr) (a2 : Addr) (w3 : Addr) (w4 : Int32) (w5 : Int32) (w6 : Int32) (w7 : Int32) (k8 : ClassId) (u9 : Nat → Int32) (p10 : Int32) (h0 : Heap) (n0 : Nat) (Z0 : n0 ≤ h0.size) (H0 : Fld Z h0 a2 sK2 "value" "[B" (.ref w3)) (H1 : Exa Z h0 a2 sK4) (H2 : Fld Z h0 a2 sK2 "count" "I" (.int w4)) (H3 : Sta Z h0 sK1 sK3 "Z" (.int w5)) (H4 : ¬ (w5 = 0)) (H5 : Fld Z h0 a2 sK2 "coder" "B" (.int w6)) (H6 : w6 = 0) (H7 : Exa Z h0 a1 sK1) (H8 : Fld Z h0 a1 sK1 "coder" "B" (.int w7)) (H9 : n0 ≤ a1) (H10 : BA Z h0 w3 k8 .byte p10 u9) (H11 : w3 ≠ a1) (H12 : w4 = p10) (H13 : Exa Z h0 w3 "[B") (H14 : ¬ ((70 : Int32) < p10)) (H15 : Fld Z h0 a1 sK1 "value" "[B" .null) :
   OMet l Z mN16 jdk_42_method_53_code 2 none [] (Rm 3 1 70 45) h0 #[(.ref a1), (.ref a2)] (Qr21_2 Z a1 a2 w3 w4 w5 w6 w7 k8 u9 p10 h0 n0) := by
 refine MetFree.of_bodySF (plainFor_of_name pn_java_lang_String) hisR ?_
 intro p e s m args below meth c s₁ Bd hml0 hP hK
 obtain ⟨rfl, hZ, hh⟩ := hP
 have hx := Bd.exec
 have hby := Bd.bytes
 have hml : c.maxLocals = 2 := hml0
 have hown : s.vm.findClass sK1 = some m.cls := findClass_of_methodNamed Bd.named
 have X0 := own_X0 Bd
 have e0 : s₁.heap = h0 := by rw [← hh, Bd.state]; rfl
 have N0 := Fr.nil n0
 have pre0 : ∀ t, Steps p.tables e below (s₁.setTop (mkF m 0 #[vR a1, vR a2] [])) t → Steps p.tables e below (s₁.setTop (entryFrame m #[(.ref a1), (.ref a2)] 2)) t := fun t k => castTop (ef_21_vv m a1 a2) k
 obtain ⟨_, _, ⟨T11, _, _, _⟩, -, X11, ⟨_, hQ, lq, yq, zq⟩, st11⟩ := X0.specialBack hx (y := mN15) rfl hown (mvT hZ (tw hw 139 rfl)) (mvT hZ (tw hw 140 rfl)) (mvT hZ (tw hw 141 rfl)) (by decide) (backOf (W := 0) (r22_2 l Z a0 hw a1 a2 w3 w4 w5 w6 w7 k8 u9 p10 h0 n0 Z0 H0 H1 H2 H3 H4 H5 H6 H7 H8 H9 H10 H11 H12 H13 H14 H15) hZ (tw hw 141 rfl) (tw hw 42 rfl) (by decide) (by decide)) (g := (mkF m 3 #[vR a1, vR a2] [.null, (.ref a2), (.ref a1)])) rfl (by rw [hml]; rfl) (Steps.refl _) (a := a1) (argsL := [(.ref a2), .null]) (rest := []) (lenOf pd_8 rfl) rfl (own_w _) (hb hby d21_3) (fun _ _ => ⟨rfl, e0, (by decide : 0 + 1 ≤ _), (by decide : 0 + 70 ≤ _)⟩)
 dsimp only [Pt.U, Pt.locs, Pt.cells, Pt.slots] at X11 lq yq zq st11 hQ
 replace X11 := own_mvX X11 (a := 1) (b := 70) yq zq
 obtain ⟨Nq, b11_0, rfl, ge_b11_0, K11, o11_0, o11_1, o11_2, o11_3⟩ := hQ
 have N11 := own_mvN lq N0 Nq
 have KC11 := KSx.trans (KSx.refl h0 [(a1, Jvm.RoadKit.slotOf Z sK1 "value" "[B"), (a1, Jvm.RoadKit.slotOf Z sK1 "coder" "B")] []) K11 (ksS (Or.inl (List.mem_of_getElem? (i := 1) rfl)) (ksS (Or.inl (List.mem_of_getElem? (i := 0) rfl)) ks0)) all0
 obtain ⟨fs, hr, hrun, hended, hW, hsame⟩ := X11.leave (v := none) (fun _ => rfl)
 refine ⟨_, _, pre0 _ ?_, hrun, hended, _, _, rfl, ?_, ⟨_, rfl⟩, hW, hsame.mono (by decide) (by decide)⟩
 · show SG p e below s₁ (mkF m 0 #[vR a1, vR a2] []) _
   refine XS.aloadN X0.here hx rfl (hb hby d21_0) rfl rfl ?_
   refine XS.aloadN X0.here hx rfl (hb hby d21_1) rfl rfl ?_
   show SG p e below s₁ (mkF m 2 #[vR a1, vR a2] [(.ref a2), (.ref a1)]) _
   refine XS.aconstNull X0.here hx rfl (hb hby d21_2) ?_
   show SG p e below s₁ (mkF m 3 #[vR a1, vR a2] [.null, (.ref a2), (.ref a1)]) _
   refine st11.trans ?_
   show SG p e below T11 (mkF m 6 #[vR a1, vR a2] []) _
   exact X11.returnOut hx Bd.returns (hb hby d21_6) hr
 · show Qr21_2 Z a1 a2 w3 w4 w5 w6 w7 k8 u9 p10 h0 n0 _ T11.heap _
   exact ⟨N11, b11_0, rfl, (Nat.le_trans (KSx.refl h0 [(a1, Jvm.RoadKit.slotOf Z sK1 "value" "[B"), (a1, Jvm.RoadKit.slotOf Z sK1 "coder" "B")] []).1 ge_b11_0), KC11, o11_0, o11_1, o11_2, o11_3⟩
def Qr20_2 (Z : State) (a1 : Addr) (w2 : Addr) (w3 : Int32) (w4 : Int32) (w5 : Int32) (k6 : ClassId) (u7 : Nat → Int32) (p8 : Int32) (h0 : Heap) (n0 : Nat) (v : Option Value) (h : Heap) (L : List Loc) : Prop := Fr n0 L ∧ ∃ b9 b10_0 : Addr, v = some (.ref b9) ∧ h0.size ≤ b9 ∧ h0.size ≤ b10_0 ∧ KSx h0 h [] [] ∧ Exa Z h b9 sK1 ∧ Exa Z h b10_0 "[B" ∧ Fld Z h b9 sK1 "value" "[B" (.ref b10_0) ∧ Fld Z h b9 sK1 "coder" "B" (.int 0) ∧ BA Z h b10_0 k6 .byte p8 u7
theorem r20_2 (l : Launch) (Z : State) (a0 : Array Value) (hw : TW a0 Z) (a1 : Addr) (w2 : Addr) (w3 : Int32) (w4 : Int32) (w5 : Int32) (k6 : ClassId) (u7 : Nat → Int32) (p8 : Int32) (h0 : Heap) (n0 : Nat) (Z0 : n0 ≤ h0.size) (H0 : Fld Z h0 a1 sK2 "value" "[B" (.ref w2)) (H1 : Exa Z h0 a1 sK4) (H2 : Fld Z h0 a1 sK2 "count" "I" (.int w3)) (H3 : Sta Z h0 sK1 sK3 "Z" (.int w4)) (H4 : ¬ (w4 = 0)) (H5 : Fld Z h0 a1 sK2 "coder" "B" (.int w5)) (H6 : w5 = 0) (H7 : BA Z h0 w2 k6 .byte p8 u7) (H8 : w3 = p8) (H9 : Exa Z h0 w2 "[B") (H10 : ¬ ((70 : Int32) < p8)) :
   OMet l Z mN17 jdk_67_method_42_code 1 (some (.object sK1)) [] (Rm 5 2 74 79) h0 #[(.ref a1)] (Qr20_2 Z a1 w2 w3 w4 w5 k6 u7 p8 h0 n0) := by
 refine MetFree.of_bodySF (plainFor_of_name pn_java_lang_StringBuilder) hisR ?_
 intro p e s m args below meth c s₁ Bd hml0 hP hK
 obtain ⟨rfl, hZ, hh⟩ := hP
 have hx := Bd.exec
 have hby := Bd.bytes
 have hml : c.maxLocals = 1 := hml0
 have hown : s.vm.findClass sK4 = some m.cls := findClass_of_methodNamed Bd.named
 have X0 := own_X0 Bd
 have e0 : s₁.heap = h0 := by rw [← hh, Bd.state]; rfl
 have N0 := Fr.nil n0
 have pre0 : ∀ t, Steps p.tables e below (s₁.setTop (mkF m 0 #[vR a1] [])) t → Steps p.tables e below (s₁.setTop (entryFrame m #[(.ref a1)] 1)) t := fun t k => castTop (ef_20_v m a1) k
 obtain ⟨T9, h9, X9, e9, E9, A9, D9, -, st9⟩ := newO X0 hx hZ hown (tw hw 134 rfl) (tw hw 49 rfl) (tw hw 42 rfl) e0 (g := (mkF m 0 #[vR a1] [])) rfl (hb hby d20_0) (by decide) (by decide)
 obtain ⟨b9, g9⟩ : ∃ z, z = h0.size := ⟨_, rfl⟩
 rw [← g9] at A9 D9 st9
 have KC9 := KSx.ext (KSx.refl h0 [] []) E9
 have f10 := (H0.ext E9)
 have f11 := (H1.ext E9)
 have f12 := (H2.ext E9)
 have f13 := (H3.ext E9)
 have f14 := (H5.ext E9)
 have g15 : n0 ≤ b9 := Nat.le_trans Z0 (Nat.le_of_eq g9.symm)
 have f16 := (H7.ext E9)
 have ne17 : w2 ≠ b9 := (Nat.ne_of_lt (Nat.lt_of_lt_of_le (H7).lt (Nat.le_of_eq g9.symm)))
 have f18 := (H9.ext E9)
 have Z9 : n0 ≤ h9.size := Nat.le_trans Z0 E9.1
 obtain ⟨_, _, ⟨T19, _, _, _⟩, -, X19, ⟨_, hQ, lq, yq, zq⟩, st19⟩ := X9.specialBack hx (y := mN16) rfl hown (mvT hZ (tw hw 135 rfl)) (mvT hZ (tw hw 136 rfl)) (mvT hZ (tw hw 138 rfl)) (by decide) (backOf (W := 1) (r21_2 l Z a0 hw b9 a1 w2 w3 w4 w5 (0 : Int32) k6 u7 p8 h9 n0 Z9 f10 f11 f12 f13 H4 f14 H6 A9 (D9 (Or.inr (tw hw 51 rfl)) (ty := .byte) (by decide)) g15 f16 ne17 H8 f18 H10 (D9 (Or.inr (tw hw 50 rfl)) (ty := (.array .byte)) (by decide))) hZ (tw hw 138 rfl) (tw hw 42 rfl) (by decide) (by decide)) (g := (mkF m 5 #[vR a1] [(.ref a1), (.ref b9), (.ref b9)])) rfl (by rw [hml]; rfl) (Steps.refl _) (a := b9) (argsL := [(.ref a1)]) (rest := [(.ref b9)]) (lenOf pd_9 rfl) rfl (own_w _) (hb hby d20_5) (fun _ _ => ⟨rfl, e9, (by decide : 1 + 1 ≤ _), (by decide : 4 + 70 ≤ _)⟩)
 dsimp only [Pt.U, Pt.locs, Pt.cells, Pt.slots] at X19 lq yq zq st19 hQ
 replace X19 := own_mvX X19 (a := 2) (b := 74) yq zq
 obtain ⟨Nq, b19_0, rfl, ge_b19_0, K19, o19_0, o19_1, o19_2, o19_3⟩ := hQ
 have N19 := own_mvN lq N0 Nq
 have z20 : h0.size ≤ b9 := Nat.le_trans (KSx.refl h0 [] []).1 (Nat.le_of_eq g9.symm)
 have KC19 := KSx.trans KC9 K19 (ksS (Or.inr z20) (ksS (Or.inr z20) ks0)) all0
 have f21 := (A9.ks K19)
 obtain ⟨fs, hr, hrun, hended, hW, hsame⟩ := X19.leave (v := some (.ref b9)) (fun h => by rw [Bd.returns] at h; cases h)
 refine ⟨_, _, pre0 _ ?_, hrun, hended, _, _, rfl, ?_, ⟨_, rfl⟩, hW, hsame.mono (by decide) (by decide)⟩
 · show SG p e below s₁ (mkF m 0 #[vR a1] []) _
   refine st9 _ ?_
   show SG p e below T9 (mkF m 3 #[vR a1] [(.ref b9)]) _
   refine XS.dup X9.here hx rfl (hb hby d20_3) rfl rfl ?_
   refine XS.aloadN X9.here hx rfl (hb hby d20_4) rfl rfl ?_
   show SG p e below T9 (mkF m 5 #[vR a1] [(.ref a1), (.ref b9), (.ref b9)]) _
   refine st19.trans ?_
   show SG p e below T19 (mkF m 8 #[vR a1] [(.ref b9)]) _
   jvm_step X19.here [X19.here.top, hx, (hb hby d20_8), X19.method', Bd.returns, Value.isRef, FieldType.isReference]
   first | (intro acts; rw [hr _ acts rfl rfl rfl]) | rw [hr _ _ rfl rfl rfl]
   exact Steps.refl _
 · show Qr20_2 Z a1 w2 w3 w4 w5 k6 u7 p8 h0 n0 _ T19.heap _
   exact ⟨N19, b9, b19_0, rfl, z20, (Nat.le_trans KC9.1 ge_b19_0), KC19, f21, o19_0, o19_2, o19_1, o19_3⟩
def OQs (Z : State) (n : Int32) (f : Nat → Int32) (h0 : Heap) (n0 : Nat) (v : Option Value) (h : Heap) (L : List Loc) : Prop := Fr n0 L ∧ ∃ sa sd : Addr, ∃ k : ClassId, v = some (.ref sa) ∧ h0.size ≤ sa ∧ h0.size ≤ sd ∧ KSx h0 h [] [] ∧ Exa Z h sa sK1 ∧ Exa Z h sd "[B" ∧ Fld Z h sa sK1 "value" "[B" (.ref sd) ∧ Fld Z h sa sK1 "coder" "B" (.int 0) ∧ BA Z h sd k .byte n f
theorem own_tos (l : Launch) (Z : State) (a0 : Array Value) (hw : TW a0 Z) (a b : Addr) (n wS wc : Int32) (k : ClassId) (z : Int32) (f : Nat → Int32) (h0 : Heap) (n0 : Nat) (Z0 : n0 ≤ h0.size) (H1 : Fld Z h0 a sK2 "value" "[B" (.ref b)) (H2 : Exa Z h0 a sK4) (H3 : Fld Z h0 a sK2 "count" "I" (.int n)) (H4 : Sta Z h0 sK1 sK3 "Z" (.int wS)) (H5 : ¬ (wS = 0)) (H6 : Fld Z h0 a sK2 "coder" "B" (.int wc)) (H7 : wc = 0) (H8 : BA Z h0 b k .byte z f) (H9 : Exa Z h0 b "[B") (H10 : ¬ (n < 0)) (H11 : (n).toNatClampNeg ≤ (z).toNatClampNeg) (H12 : ¬ ((70 : Int32) < z)) :
   OMet l Z mN17 jdk_67_method_42_code 1 (some (.object sK1)) [] (Rm 5 2 74 79) h0 #[(.ref a)] (OQs Z n f h0 n0) := by
 have hz : ¬ z < 0 := by obtain ⟨c, _, _, _, h, _⟩ := H8; exact h
 by_cases hnz : n = z
 · refine own_imp (r20_2 l Z a0 hw a b n wS wc k f z h0 n0 Z0 H1 H2 H3 H4 H5 H6 H7 H8 hnz H9 H12) fun v h L q => ?_
   obtain ⟨N, sa, sd, e, g1, g2, K, E, E2, F, C, B⟩ := q
   exact ⟨N, sa, sd, _, e, g1, g2, K, E, E2, F, C, by rw [hnz]; exact B⟩
 · refine own_imp (r20_1 l Z a0 hw a b n wS wc k f z h0 n0 Z0 H1 H2 H3 H4 H5 H6 H7 H8 hnz H10 (by rw [Int32.sub_zero]; exact H10) (own_t2 H10 hz H11 H12) (own_t1 H10 hz H11 hnz) (by rw [Int32.sub_zero, show (0 : Int32).toNatClampNeg = 0 from rfl, Nat.zero_add]; exact H11) (by rw [show (0 : Int32).toNatClampNeg = 0 from rfl, Nat.zero_add]; exact Nat.le_refl _)) fun v h L q => ?_
   obtain ⟨N, sa, sd, k', e, g1, g2, K, E, E2, F, C, B⟩ := q
   exact ⟨N, sa, sd, _, e, g1, g2, K, E, E2, F, C, by
     rw [Int32.sub_zero] at B
     refine B.congr fun i hi => ?_
     rw [show (0 : Int32).toNatClampNeg = 0 from rfl]
     simp only [Nat.zero_le, Nat.zero_add, Nat.sub_zero, true_and]
     rw [if_pos hi]⟩
theorem d15_0 : Dc rev17 0 (.aload_n 0) 1 := by decide +kernel
theorem d15_1 : Dc rev17 1 (.lload_n 1) 1 := by decide +kernel
theorem d15_2 : Dc rev17 2 (.invokespecial 56) 3 := by decide +kernel
theorem d16_0 : Dc rev18 0 (.aload_n 0) 1 := by decide +kernel
theorem d16_1 : Dc rev18 1 (.getfield 79) 3 := by decide +kernel
theorem d16_4 : Dc rev18 4 (.istore_n 3) 1 := by decide +kernel
theorem d16_5 : Dc rev18 5 (.iload_n 3) 1 := by decide +kernel
theorem d16_6 : Dc rev18 6 (.lload_n 1) 1 := by decide +kernel
theorem d16_7 : Dc rev18 7 (.invokestatic 254) 3 := by decide +kernel
theorem pd_10 : parseMethodDescriptor "(J)I" = some ⟨[.long], some .int⟩ := by decide +kernel
theorem d16_10 : Dc rev18 10 .iadd 1 := by decide +kernel
theorem d16_11 : Dc rev18 11 (.istore 4) 2 := by decide +kernel
theorem d16_13 : Dc rev18 13 (.aload_n 0) 1 := by decide +kernel
abbrev la0 (a1 : Addr) (q2 : Int64) (w3 : Int32) : Array Slot := #[vR a1, vJ q2, vS, vI w3, vI (w3 + (SBG.strSizeOfL q2))]
theorem d16_14 : Dc rev18 14 (.iload 4) 2 := by decide +kernel
theorem d16_16 : Dc rev18 16 (.invokevirtual 100) 3 := by decide +kernel
theorem d11_0 : Dc rev19 0 (.aload_n 0) 1 := by decide +kernel
theorem d11_1 : Dc rev19 1 (.getfield 15) 3 := by decide +kernel
theorem d11_4 : Dc rev19 4 .arraylength 1 := by decide +kernel
theorem d11_5 : Dc rev19 5 (.aload_n 0) 1 := by decide +kernel
theorem d11_6 : Dc rev19 6 (.getfield 22) 3 := by decide +kernel
theorem d11_9 : Dc rev19 9 .ishr 1 := by decide +kernel
theorem d11_10 : Dc rev19 10 (.istore_n 2) 1 := by decide +kernel
theorem d11_11 : Dc rev19 11 (.iload_n 1) 1 := by decide +kernel
theorem d11_12 : Dc rev19 12 (.iload_n 2) 1 := by decide +kernel
theorem d11_13 : Dc rev19 13 .isub 1 := by decide +kernel
theorem d11_14 : Dc rev19 14 (.ifCond .le 24) 3 := by decide +kernel
theorem d11_38 : Dc rev19 38 .return_ 1 := by decide +kernel
theorem ef_11_vv (m : MethodId) (x0 : Addr) (x1 : Int32) : entryFrame m #[(.ref x0), (.int x1)] 3 = mkF m 0 #[.val (.ref x0), .val (.int x1), .unset] [] := by first | (simp [entryFrame, mkF, argsToLocals, Value.category]; done) | rfl
theorem r11_1 (l : Launch) (Z : State) (a0 : Array Value) (hw : TW a0 Z) (a1 : Addr) (p2 : Int32) (w3 : Addr) (k4 : ClassId) (u5 : Nat → Int32) (p6 : Int32) (w7 : Int32) (h0 : Heap) (n0 : Nat) (Z0 : n0 ≤ h0.size) (H0 : Fld Z h0 a1 sK2 "value" "[B" (.ref w3)) (H1 : BA Z h0 w3 k4 .byte p6 u5) (H2 : Fld Z h0 a1 sK2 "coder" "B" (.int w7)) (H3 : ¬ ((0 : Int32) < (p2 - (p6 >>> (w7 &&& 31))))) :
   OMet l Z mN8 jdk_68_method_9_code 3 none [] (Rm 0 0 0 0) h0 #[(.ref a1), (.int p2)] (OQp (none) h0 n0) := by
 refine MetFree.of_bodySF (plainFor_of_name pn_java_lang_AbstractStringBuilder) hisR ?_
 intro p e s m args below meth c s₁ Bd hml0 hP hK
 obtain ⟨rfl, hZ, hh⟩ := hP
 have hx := Bd.exec
 have hby := Bd.bytes
 have hml : c.maxLocals = 3 := hml0
 have hown : s.vm.findClass sK2 = some m.cls := findClass_of_methodNamed Bd.named
 have X0 := own_X0 Bd
 have e0 : s₁.heap = h0 := by rw [← hh, Bd.state]; rfl
 have N0 := Fr.nil n0
 have pre0 : ∀ t, Steps p.tables e below (s₁.setTop (mkF m 0 #[vR a1, vI p2, .unset] [])) t → Steps p.tables e below (s₁.setTop (entryFrame m #[(.ref a1), (.int p2)] 3)) t := fun t k => castTop (ef_11_vv m a1 p2) k
 obtain ⟨T8, X8, e8, st8⟩ := getF X0 hx hZ hown (host := "") (Or.inl (tw hw 44 rfl)) Via.refl e0 H0 (g := (mkF m 1 #[vR a1, vI p2, vU] [(.ref a1)])) rfl rfl (hb hby d11_1)
 have vc9 := H1
 obtain ⟨cl9, Ar9, q9, S9, N9, Hh9, G9⟩ := vc9
 obtain ⟨T10, X10, e10, st10⟩ := getF X8 hx hZ hown (host := "") (Or.inl (tw hw 46 rfl)) Via.refl e8 H2 (g := (mkF m 6 #[vR a1, vI p2, vU] [(.ref a1), (.int p6)])) rfl rfl (hb hby d11_6)
 obtain ⟨fs, hr, hrun, hended, hW, hsame⟩ := X10.leave (v := none) (fun _ => rfl)
 refine ⟨_, _, pre0 _ ?_, hrun, hended, _, _, rfl, ?_, ⟨_, rfl⟩, hW, hsame.mono (by decide) (by decide)⟩
 · show SG p e below s₁ (mkF m 0 #[vR a1, vI p2, vU] []) _
   refine XS.aloadN X0.here hx rfl (hb hby d11_0) rfl rfl ?_
   show SG p e below s₁ (mkF m 1 #[vR a1, vI p2, vU] [(.ref a1)]) _
   refine st8 _ ?_
   show SG p e below T8 (mkF m 4 #[vR a1, vI p2, vU] [(.ref w3)]) _
   refine X8.arraylength hx (by rw [e8]; exact Ar9.1) (State.isArrayOf_alike hZ.alike Ar9.2.1) (g := (mkF m 4 #[vR a1, vI p2, vU] [(.ref w3)])) rfl rfl (hb hby d11_4) _ ?_
   rw [len_of S9 N9]
   show SG p e below T8 (mkF m 5 #[vR a1, vI p2, vU] [(.int p6)]) _
   refine XS.aloadN X8.here hx rfl (hb hby d11_5) rfl rfl ?_
   show SG p e below T8 (mkF m 6 #[vR a1, vI p2, vU] [(.ref a1), (.int p6)]) _
   refine st10 _ ?_
   show SG p e below T10 (mkF m 9 #[vR a1, vI p2, vU] [(.int w7), (.int p6)]) _
   refine XS.ishr X10.here hx rfl (hb hby d11_9) rfl ?_
   show SG p e below T10 (mkF m 10 #[vR a1, vI p2, vU] [(.int (p6 >>> (w7 &&& 31)))]) _
   refine XS.istoreN X10.here hx rfl (hb hby d11_10) rfl (l' := #[vR a1, vI p2, vI (p6 >>> (w7 &&& 31))]) rfl ?_
   show SG p e below T10 (mkF m 11 #[vR a1, vI p2, vI (p6 >>> (w7 &&& 31))] []) _
   refine XS.iloadN X10.here hx rfl (hb hby d11_11) rfl ?_
   refine XS.iloadN X10.here hx rfl (hb hby d11_12) rfl ?_
   show SG p e below T10 (mkF m 13 #[vR a1, vI p2, vI (p6 >>> (w7 &&& 31))] [(.int (p6 >>> (w7 &&& 31))), (.int p2)]) _
   refine XS.isub X10.here hx rfl (hb hby d11_13) rfl ?_
   show SG p e below T10 (mkF m 14 #[vR a1, vI p2, vI (p6 >>> (w7 &&& 31))] [(.int (p2 - (p6 >>> (w7 &&& 31))))]) _
   refine XS.ifYes X10.here hx rfl (pc0 := 14) (pc' := 38) rfl (hb hby d11_14) rfl ((if0 _ _).trans (flt H3).2.2.2) (by decide) (by decide) ?_
   show SG p e below T10 (mkF m 38 #[vR a1, vI p2, vI (p6 >>> (w7 &&& 31))] []) _
   exact X10.returnOut hx Bd.returns (hb hby d11_38) hr
 · show OQp (none) h0 n0 _ T10.heap _
   rw [e10]
   exact ⟨rfl, N0, rfl⟩
theorem pd_11 : parseMethodDescriptor "(I)V" = some ⟨[.int], none⟩ := by decide +kernel
theorem d16_19 : Dc rev18 19 (.aload_n 0) 1 := by decide +kernel
theorem d16_20 : Dc rev18 20 (.invokevirtual 83) 3 := by decide +kernel
theorem d16_23 : Dc rev18 23 (.ifCond .eq 17) 3 := by decide +kernel
theorem d16_26 : Dc rev18 26 (.lload_n 1) 1 := by decide +kernel
theorem d16_27 : Dc rev18 27 (.iload 4) 2 := by decide +kernel
theorem d16_29 : Dc rev18 29 (.aload_n 0) 1 := by decide +kernel
theorem d16_30 : Dc rev18 30 (.getfield 15) 3 := by decide +kernel
theorem d16_33 : Dc rev18 33 (.invokestatic 259) 3 := by decide +kernel
theorem pd_12 : parseMethodDescriptor "(JI[B)I" = some ⟨[.long, .int, (.array .byte)], some .int⟩ := by decide +kernel
theorem d16_36 : Dc rev18 36 .pop 1 := by decide +kernel
theorem d16_37 : Dc rev18 37 (.goto 15) 3 := by decide +kernel
theorem d16_52 : Dc rev18 52 (.aload_n 0) 1 := by decide +kernel
theorem d16_53 : Dc rev18 53 (.iload 4) 2 := by decide +kernel
theorem d16_55 : Dc rev18 55 (.putfield 79) 3 := by decide +kernel
theorem d16_58 : Dc rev18 58 (.aload_n 0) 1 := by decide +kernel
theorem d16_59 : Dc rev18 59 .areturn 1 := by decide +kernel
theorem ef_16_vv (m : MethodId) (x0 : Addr) (x1 : Int64) : entryFrame m #[(.ref x0), (.long x1)] 5 = mkF m 0 #[.val (.ref x0), .val (.long x1), .second, .unset, .unset] [] := by first | (simp [entryFrame, mkF, argsToLocals, Value.category]; done) | rfl
def Qr16_1 (Z : State) (a1 : Addr) (q2 : Int64) (w3 : Int32) (w4 : Addr) (k5 : ClassId) (u6 : Nat → Int32) (p7 : Int32) (w8 : Int32) (w9 : Int32) (w10 : Addr) (w11 : Addr) (k12 : ClassId) (u13 : Nat → Int32) (k14 : ClassId) (u15 : Nat → Int32) (h0 : Heap) (n0 : Nat) (v : Option Value) (h : Heap) (L : List Loc) : Prop := Fr n0 L ∧ v = some (.ref a1) ∧ KSx h0 h [(a1, Jvm.RoadKit.slotOf Z sK2 "count" "I")] [w4] ∧ Fld Z h a1 sK2 "count" "I" (.int (w3 + (SBG.strSizeOfL q2))) ∧ BA Z h w4 k5 .byte p7 (SBG.ogc (decide (q2 < 0)) (q2).toInt.natAbs (SBG.digitsL (q2).toInt.natAbs) ((w3 + (SBG.strSizeOfL q2))).toNatClampNeg u6)
theorem r16_1 (l : Launch) (Z : State) (a0 : Array Value) (hw : TW a0 Z) (a1 : Addr) (q2 : Int64) (w3 : Int32) (w4 : Addr) (k5 : ClassId) (u6 : Nat → Int32) (p7 : Int32) (w8 : Int32) (w9 : Int32) (w10 : Addr) (w11 : Addr) (k12 : ClassId) (u13 : Nat → Int32) (k14 : ClassId) (u15 : Nat → Int32) (h0 : Heap) (n0 : Nat) (Z0 : n0 ≤ h0.size) (H0 : Fld Z h0 a1 sK2 "count" "I" (.int w3)) (H1 : Fld Z h0 a1 sK2 "value" "[B" (.ref w4)) (H2 : BA Z h0 w4 k5 .byte p7 u6) (H3 : Fld Z h0 a1 sK2 "coder" "B" (.int w8)) (H4 : ¬ ((0 : Int32) < ((w3 + (SBG.strSizeOfL q2)) - (p7 >>> (w8 &&& 31))))) (H5 : Exa Z h0 a1 sK4) (H6 : Sta Z h0 sK1 sK3 "Z" (.int w9)) (H7 : ¬ (w9 = 0)) (H8 : w8 = 0) (H9 : Sta Z h0 sK5 sK11 "[B" (.ref w10)) (H10 : Sta Z h0 sK5 sK12 "[B" (.ref w11)) (H11 : BA Z h0 w10 k12 .byte (100 : Int32) u13) (H12 : BA Z h0 w11 k14 .byte (100 : Int32) u15) (H13 : w4 ≠ w10) (H14 : w4 ≠ w11) (H15 : n0 ≤ w4) (H16 : ¬ ((w3 + (SBG.strSizeOfL q2)) < 0)) (H17 : ((w3 + (SBG.strSizeOfL q2))).toNatClampNeg ≤ (p7).toNatClampNeg) (H18 : SBG.digitsL (q2).toInt.natAbs + (if q2 < 0 then 1 else 0) ≤ ((w3 + (SBG.strSizeOfL q2))).toNatClampNeg) (H19 : u13 = (fun r => Int32.ofNat (48 + r % 10))) (H20 : u15 = (fun r => Int32.ofNat (48 + r / 10))) (H21 : (Jvm.Cond.laysStatic sK5 sK11 "[B").before a0 Z = true) (H22 : (Jvm.Cond.laysStatic sK5 sK12 "[B").before a0 Z = true) (H23 : a1 ≠ w4) (H24 : n0 ≤ a1) (H25 : w4 ≠ a1) :
   OMet l Z mN20 jdk_68_method_33_code 5 (some (.object sK2)) [] (Rm 2 0 0 102) h0 #[(.ref a1), (.long q2)] (Qr16_1 Z a1 q2 w3 w4 k5 u6 p7 w8 w9 w10 w11 k12 u13 k14 u15 h0 n0) := by
 refine MetFree.of_bodySF (plainFor_of_name pn_java_lang_AbstractStringBuilder) hisR ?_
 intro p e s m args below meth c s₁ Bd hml0 hP hK
 obtain ⟨rfl, hZ, hh⟩ := hP
 have hx := Bd.exec
 have hby := Bd.bytes
 have hml : c.maxLocals = 5 := hml0
 have hown : s.vm.findClass sK2 = some m.cls := findClass_of_methodNamed Bd.named
 have X0 := own_X0 Bd
 have e0 : s₁.heap = h0 := by rw [← hh, Bd.state]; rfl
 have N0 := Fr.nil n0
 have pre0 : ∀ t, Steps p.tables e below (s₁.setTop (mkF m 0 #[vR a1, vJ q2, vS, .unset, .unset] [])) t → Steps p.tables e below (s₁.setTop (entryFrame m #[(.ref a1), (.long q2)] 5)) t := fun t k => castTop (ef_16_vv m a1 q2) k
 obtain ⟨T16, X16, e16, st16⟩ := getF X0 hx hZ hown (host := "") (Or.inl (tw hw 77 rfl)) Via.refl e0 H0 (g := (mkF m 1 #[vR a1, vJ q2, vS, vU, vU] [(.ref a1)])) rfl rfl (hb hby d16_1)
 obtain ⟨_, _, ⟨T17, _, _, _⟩, -, X17, ⟨_, hQ, lq, yq, zq⟩, st17⟩ := Jvm.LawKit.callS X16 hx (y := mN18) hown (mvT hZ (tw hw 113 rfl)) (mvT hZ (tw hw 114 rfl)) (mvT hZ (tw hw 115 rfl)) (mvT hZ (tw hw 116 rfl)) (by decide) (backOf (W := 1) (own_ssL (l := l) (h0 := h0) (n0 := n0) (x := q2) (tw hw 116 rfl) (tw hw 117 rfl) (tw hw 177 rfl)) hZ (tw hw 116 rfl) (tw hw 115 rfl) (by decide) (by decide)) (g := (mkF m 7 #[vR a1, vJ q2, vS, vI w3, vU] [(.long q2), (.int w3)])) rfl (by rw [hml]; rfl) (argsL := [(.long q2)]) (rest := [(.int w3)]) (lenOf pd_10 rfl) rfl (own_w _) (hb hby d16_7) (fun _ _ => ⟨rfl, e16, (by decide : 0 + 0 ≤ _), (by decide : 0 + 0 ≤ _)⟩)
 dsimp only [Pt.U, Pt.locs, Pt.cells, Pt.slots] at X17 lq yq zq st17 hQ
 replace X17 := own_mvX X17 (a := 0) (b := 0) yq zq
 obtain ⟨rfl, Nq, e17⟩ := hQ
 have N17 := own_mvN lq N0 Nq
 obtain ⟨cq18, kq18, q18a, q18b, q18c⟩ := isOf hZ e17 H5
 obtain ⟨_, _, ⟨T18, _, _, _⟩, -, X18, ⟨_, hQ, lq, yq, zq⟩, st18⟩ := X17.virtualBack hx (y := mN8) (z := mN8) hown (mvT hZ (tw hw 79 rfl)) (own_decl (mvT hZ (tw hw 80 rfl)) (mvT hZ (tw hw 83 rfl))) (notFace_of_selects (args := #[]) (mvT hZ (tw hw 82 rfl))) (mvT hZ (tw hw 82 rfl)) (mvT hZ (tw hw 80 rfl)) (by decide) (backOf (W := 0) (r11_1 l Z a0 hw a1 (w3 + (SBG.strSizeOfL q2)) w4 k5 u6 p7 w8 h0 n0 Z0 H1 H2 H3 H4) hZ (tw hw 83 rfl) (tw hw 38 rfl) (by decide) (by decide)) q18a q18c (g := (mkF m 16 (la0 a1 q2 w3) [(.int (w3 + (SBG.strSizeOfL q2))), (.ref a1)])) rfl (by rw [hml]; rfl) (Steps.refl _) (argsL := [(.int (w3 + (SBG.strSizeOfL q2)))]) (rest := []) (lenOf pd_11 rfl) rfl (own_w _) (hb hby d16_16) (fun _ _ => ⟨rfl, e17, (by decide : 0 + 0 ≤ _), (by decide : 0 + 0 ≤ _)⟩)
 dsimp only [Pt.U, Pt.locs, Pt.cells, Pt.slots] at X18 lq yq zq st18 hQ
 replace X18 := own_mvX X18 (a := 0) (b := 0) yq zq
 obtain ⟨rfl, Nq, e18⟩ := hQ
 have N18 := own_mvN lq N17 Nq
 obtain ⟨cq19, kq19, q19a, q19b, q19c⟩ := isOf hZ e18 H5
 obtain ⟨_, _, ⟨T19, _, _, _⟩, -, X19, ⟨_, hQ, lq, yq, zq⟩, st19⟩ := X18.virtualBack hx (y := mN10) (z := mN10) hown (mvT hZ (tw hw 118 rfl)) (mvT hZ (tw hw 119 rfl)) (notFace_of_selects (args := #[]) (mvT hZ (tw hw 121 rfl))) (mvT hZ (tw hw 121 rfl)) (mvT hZ (tw hw 120 rfl)) (by decide) (backOf (W := 0) (r18_1 l Z a0 hw a1 w9 w8 h0 n0 Z0 H6 H7 H3 H8) hZ (tw hw 122 rfl) (tw hw 38 rfl) (by decide) (by decide)) q19a q19c (g := (mkF m 20 (la0 a1 q2 w3) [(.ref a1)])) rfl (by rw [hml]; rfl) (Steps.refl _) (argsL := []) (rest := []) (lenOf pd_0 rfl) rfl (own_w _) (hb hby d16_20) (fun _ _ => ⟨rfl, e18, (by decide : 0 + 0 ≤ _), (by decide : 0 + 0 ≤ _)⟩)
 dsimp only [Pt.U, Pt.locs, Pt.cells, Pt.slots] at X19 lq yq zq st19 hQ
 replace X19 := own_mvX X19 (a := 0) (b := 0) yq zq
 obtain ⟨rfl, Nq, e19⟩ := hQ
 have N19 := own_mvN lq N18 Nq
 obtain ⟨T20, X20, e20, st20⟩ := getF X19 hx hZ hown (host := "") (Or.inl (tw hw 44 rfl)) Via.refl e19 H1 (g := (mkF m 30 (la0 a1 q2 w3) [(.ref a1), (.int (w3 + (SBG.strSizeOfL q2))), (.long q2)])) rfl rfl (hb hby d16_30)
 obtain ⟨_, _, ⟨T21, _, _, _⟩, -, X21, ⟨_, hQ, lq, yq, zq⟩, st21⟩ := Jvm.LawKit.callS X20 hx (y := mN19) hown (mvT hZ (tw hw 123 rfl)) (mvT hZ (tw hw 124 rfl)) (mvT hZ (tw hw 115 rfl)) (mvT hZ (tw hw 125 rfl)) (by decide) (backOf (W := 0) (own_gcL2 (l := l) (h0 := h0) (n0 := n0) (x := q2) (j := (w3 + (SBG.strSizeOfL q2))) (tw hw 125 rfl) (tw hw 127 rfl) (tw hw 196 rfl) (tw hw 126 rfl) (tw hw 195 rfl) H9 H10 H21 H22 H19 H11 H20 H12 H2 H13 H14 H15 H16 H17 H18) hZ (tw hw 125 rfl) (tw hw 115 rfl) (by decide) (by decide)) (g := (mkF m 33 (la0 a1 q2 w3) [(.ref w4), (.int (w3 + (SBG.strSizeOfL q2))), (.long q2)])) rfl (by rw [hml]; rfl) (argsL := [(.long q2), (.int (w3 + (SBG.strSizeOfL q2))), (.ref w4)]) (rest := []) (lenOf pd_12 rfl) rfl (own_w _) (hb hby d16_33) (fun _ _ => ⟨rfl, e20, (by decide : 0 + 0 ≤ _), (by decide : 0 + 0 ≤ _)⟩)
 dsimp only [Pt.U, Pt.locs, Pt.cells, Pt.slots] at X21 lq yq zq st21 hQ
 replace X21 := own_mvX X21 (a := 0) (b := 0) yq zq
 obtain ⟨Nq, rfl, K21, o21_0⟩ := hQ
 have N21 := own_mvN lq N19 Nq
 have KC21 := KSx.trans (KSx.refl h0 [(a1, Jvm.RoadKit.slotOf Z sK2 "count" "I")] [w4]) K21 ks0 (allS (Or.inl (List.mem_of_getElem? (i := 0) rfl)) all0)
 have f22 := (H5.ks K21)
 have f23 := (H0.ks K21 ks0 (allS H23 all0))
 obtain ⟨T24, h24, X24, e24, W24, st24⟩ := putF X21 hx hZ hown (host := "") (Or.inl (tw hw 77 rfl)) Via.refl rfl f23 f22 (Or.inl (tw hw 78 rfl)) (tw hw 29 rfl) (ty := .int) (by decide) rfl rfl (g := (mkF m 55 (la0 a1 q2 w3) [(.int (w3 + (SBG.strSizeOfL q2))), (.ref a1)])) rfl rfl (hb hby d16_55)
 have Fw24 := Fld.same W24 f23
 have KC24 := KSx.wr KC21 W24 (Or.inl (List.mem_of_getElem? (i := 0) rfl))
 have N24 := Fr.snoc X24 N21 H24
 have f25 := (o21_0.other W24 H25)
 obtain ⟨fs, hr, hrun, hended, hW, hsame⟩ := X24.leave (v := some (.ref a1)) (fun h => by rw [Bd.returns] at h; cases h)
 refine ⟨_, _, pre0 _ ?_, hrun, hended, _, _, rfl, ?_, ⟨_, rfl⟩, hW, hsame.mono (by decide) (by decide)⟩
 · show SG p e below s₁ (mkF m 0 #[vR a1, vJ q2, vS, vU, vU] []) _
   refine XS.aloadN X0.here hx rfl (hb hby d16_0) rfl rfl ?_
   show SG p e below s₁ (mkF m 1 #[vR a1, vJ q2, vS, vU, vU] [(.ref a1)]) _
   refine st16 _ ?_
   show SG p e below T16 (mkF m 4 #[vR a1, vJ q2, vS, vU, vU] [(.int w3)]) _
   refine XS.istoreN X16.here hx rfl (hb hby d16_4) rfl (l' := #[vR a1, vJ q2, vS, vI w3, vU]) rfl ?_
   show SG p e below T16 (mkF m 5 #[vR a1, vJ q2, vS, vI w3, vU] []) _
   refine XS.iloadN X16.here hx rfl (hb hby d16_5) rfl ?_
   refine XS.lloadN X16.here hx rfl (hb hby d16_6) rfl ?_
   show SG p e below T16 (mkF m 7 #[vR a1, vJ q2, vS, vI w3, vU] [(.long q2), (.int w3)]) _
   refine st17 _ ?_
   show SG p e below T17 (mkF m 10 #[vR a1, vJ q2, vS, vI w3, vU] [(.int (SBG.strSizeOfL q2)), (.int w3)]) _
   refine XS.iadd X17.here hx rfl (hb hby d16_10) rfl ?_
   show SG p e below T17 (mkF m 11 #[vR a1, vJ q2, vS, vI w3, vU] [(.int (w3 + (SBG.strSizeOfL q2)))]) _
   refine XS.istore X17.here hx rfl (hb hby d16_11) rfl (l' := #[vR a1, vJ q2, vS, vI w3, vI (w3 + (SBG.strSizeOfL q2))]) rfl ?_
   show SG p e below T17 (mkF m 13 (la0 a1 q2 w3) []) _
   refine XS.aloadN X17.here hx rfl (hb hby d16_13) rfl rfl ?_
   refine XS.iload X17.here hx rfl (hb hby d16_14) rfl ?_
   show SG p e below T17 (mkF m 16 (la0 a1 q2 w3) [(.int (w3 + (SBG.strSizeOfL q2))), (.ref a1)]) _
   refine st18.trans ?_
   show SG p e below T18 (mkF m 19 (la0 a1 q2 w3) []) _
   refine XS.aloadN X18.here hx rfl (hb hby d16_19) rfl rfl ?_
   show SG p e below T18 (mkF m 20 (la0 a1 q2 w3) [(.ref a1)]) _
   refine st19.trans ?_
   show SG p e below T19 (mkF m 23 (la0 a1 q2 w3) [(.int 1)]) _
   refine XS.ifNo X19.here hx rfl (hb hby d16_23) rfl ((if0 _ _).trans (feq (by decide : ¬ ((1 : Int32) = 0))).1) ?_
   show SG p e below T19 (mkF m 26 (la0 a1 q2 w3) []) _
   refine XS.lloadN X19.here hx rfl (hb hby d16_26) rfl ?_
   refine XS.iload X19.here hx rfl (hb hby d16_27) rfl ?_
   show SG p e below T19 (mkF m 29 (la0 a1 q2 w3) [(.int (w3 + (SBG.strSizeOfL q2))), (.long q2)]) _
   refine XS.aloadN X19.here hx rfl (hb hby d16_29) rfl rfl ?_
   show SG p e below T19 (mkF m 30 (la0 a1 q2 w3) [(.ref a1), (.int (w3 + (SBG.strSizeOfL q2))), (.long q2)]) _
   refine st20 _ ?_
   show SG p e below T20 (mkF m 33 (la0 a1 q2 w3) [(.ref w4), (.int (w3 + (SBG.strSizeOfL q2))), (.long q2)]) _
   refine st21 _ ?_
   show SG p e below T21 (mkF m 36 (la0 a1 q2 w3) [(.int (Int32.ofNat (((w3 + (SBG.strSizeOfL q2))).toNatClampNeg - (SBG.digitsL (q2).toInt.natAbs + (if q2 < 0 then 1 else 0)))))]) _
   refine XS.pop X21.here hx rfl (hb hby d16_36) rfl rfl ?_
   show SG p e below T21 (mkF m 37 (la0 a1 q2 w3) []) _
   refine XS.goto X21.here hx rfl (pc0 := 37) (pc' := 52) rfl (hb hby d16_37) (by decide) (by decide) ?_
   show SG p e below T21 (mkF m 52 (la0 a1 q2 w3) []) _
   refine XS.aloadN X21.here hx rfl (hb hby d16_52) rfl rfl ?_
   refine XS.iload X21.here hx rfl (hb hby d16_53) rfl ?_
   show SG p e below T21 (mkF m 55 (la0 a1 q2 w3) [(.int (w3 + (SBG.strSizeOfL q2))), (.ref a1)]) _
   refine st24 _ ?_
   show SG p e below T24 (mkF m 58 (la0 a1 q2 w3) []) _
   refine XS.aloadN X24.here hx rfl (hb hby d16_58) rfl rfl ?_
   show SG p e below T24 (mkF m 59 (la0 a1 q2 w3) [(.ref a1)]) _
   jvm_step X24.here [X24.here.top, hx, (hb hby d16_59), X24.method', Bd.returns, Value.isRef, FieldType.isReference]
   first | (intro acts; rw [hr _ acts rfl rfl rfl]) | rw [hr _ _ rfl rfl rfl]
   exact Steps.refl _
 · show Qr16_1 Z a1 q2 w3 w4 k5 u6 p7 w8 w9 w10 w11 k12 u13 k14 u15 h0 n0 _ T24.heap _
   rw [e24]
   exact ⟨N24, rfl, KC24, Fw24, f25⟩
theorem pd_13 : parseMethodDescriptor "(J)Ljava/lang/AbstractStringBuilder;" = some ⟨[.long], some (.object "java/lang/AbstractStringBuilder")⟩ := by decide +kernel
theorem d15_5 : Dc rev17 5 .pop 1 := by decide +kernel
theorem d15_6 : Dc rev17 6 (.aload_n 0) 1 := by decide +kernel
theorem d15_7 : Dc rev17 7 .areturn 1 := by decide +kernel
theorem ef_15_vv (m : MethodId) (x0 : Addr) (x1 : Int64) : entryFrame m #[(.ref x0), (.long x1)] 3 = mkF m 0 #[.val (.ref x0), .val (.long x1), .second] [] := by first | (simp [entryFrame, mkF, argsToLocals, Value.category]; done) | rfl
def Qr15_1 (Z : State) (a1 : Addr) (q2 : Int64) (w3 : Int32) (w4 : Addr) (k5 : ClassId) (u6 : Nat → Int32) (p7 : Int32) (w8 : Int32) (w9 : Int32) (w10 : Addr) (w11 : Addr) (k12 : ClassId) (u13 : Nat → Int32) (k14 : ClassId) (u15 : Nat → Int32) (h0 : Heap) (n0 : Nat) (v : Option Value) (h : Heap) (L : List Loc) : Prop := Fr n0 L ∧ v = some (.ref a1) ∧ KSx h0 h [(a1, Jvm.RoadKit.slotOf Z sK2 "count" "I")] [w4] ∧ Fld Z h a1 sK2 "count" "I" (.int (w3 + (SBG.strSizeOfL q2))) ∧ BA Z h w4 k5 .byte p7 (SBG.ogc (decide (q2 < 0)) (q2).toInt.natAbs (SBG.digitsL (q2).toInt.natAbs) ((w3 + (SBG.strSizeOfL q2))).toNatClampNeg u6)
theorem r15_1 (l : Launch) (Z : State) (a0 : Array Value) (hw : TW a0 Z) (a1 : Addr) (q2 : Int64) (w3 : Int32) (w4 : Addr) (k5 : ClassId) (u6 : Nat → Int32) (p7 : Int32) (w8 : Int32) (w9 : Int32) (w10 : Addr) (w11 : Addr) (k12 : ClassId) (u13 : Nat → Int32) (k14 : ClassId) (u15 : Nat → Int32) (h0 : Heap) (n0 : Nat) (Z0 : n0 ≤ h0.size) (H0 : Fld Z h0 a1 sK2 "count" "I" (.int w3)) (H1 : Fld Z h0 a1 sK2 "value" "[B" (.ref w4)) (H2 : BA Z h0 w4 k5 .byte p7 u6) (H3 : Fld Z h0 a1 sK2 "coder" "B" (.int w8)) (H4 : ¬ ((0 : Int32) < ((w3 + (SBG.strSizeOfL q2)) - (p7 >>> (w8 &&& 31))))) (H5 : Exa Z h0 a1 sK4) (H6 : Sta Z h0 sK1 sK3 "Z" (.int w9)) (H7 : ¬ (w9 = 0)) (H8 : w8 = 0) (H9 : Sta Z h0 sK5 sK11 "[B" (.ref w10)) (H10 : Sta Z h0 sK5 sK12 "[B" (.ref w11)) (H11 : BA Z h0 w10 k12 .byte (100 : Int32) u13) (H12 : BA Z h0 w11 k14 .byte (100 : Int32) u15) (H13 : w4 ≠ w10) (H14 : w4 ≠ w11) (H15 : n0 ≤ w4) (H16 : ¬ ((w3 + (SBG.strSizeOfL q2)) < 0)) (H17 : ((w3 + (SBG.strSizeOfL q2))).toNatClampNeg ≤ (p7).toNatClampNeg) (H18 : SBG.digitsL (q2).toInt.natAbs + (if q2 < 0 then 1 else 0) ≤ ((w3 + (SBG.strSizeOfL q2))).toNatClampNeg) (H19 : u13 = (fun r => Int32.ofNat (48 + r % 10))) (H20 : u15 = (fun r => Int32.ofNat (48 + r / 10))) (H21 : (Jvm.Cond.laysStatic sK5 sK11 "[B").before a0 Z = true) (H22 : (Jvm.Cond.laysStatic sK5 sK12 "[B").before a0 Z = true) (H23 : a1 ≠ w4) (H24 : n0 ≤ a1) (H25 : w4 ≠ a1) :
   OMet l Z mN21 jdk_67_method_16_code 3 (some (.object sK4)) [] (Rm 5 1 70 118) h0 #[(.ref a1), (.long q2)] (Qr15_1 Z a1 q2 w3 w4 k5 u6 p7 w8 w9 w10 w11 k12 u13 k14 u15 h0 n0) := by
 refine MetFree.of_bodySF (plainFor_of_name pn_java_lang_StringBuilder) hisR ?_
 intro p e s m args below meth c s₁ Bd hml0 hP hK
 obtain ⟨rfl, hZ, hh⟩ := hP
 have hx := Bd.exec
 have hby := Bd.bytes
 have hml : c.maxLocals = 3 := hml0
 have hown : s.vm.findClass sK4 = some m.cls := findClass_of_methodNamed Bd.named
 have X0 := own_X0 Bd
 have e0 : s₁.heap = h0 := by rw [← hh, Bd.state]; rfl
 have N0 := Fr.nil n0
 have pre0 : ∀ t, Steps p.tables e below (s₁.setTop (mkF m 0 #[vR a1, vJ q2, vS] [])) t → Steps p.tables e below (s₁.setTop (entryFrame m #[(.ref a1), (.long q2)] 3)) t := fun t k => castTop (ef_15_vv m a1 q2) k
 obtain ⟨_, _, ⟨T16, _, _, _⟩, -, X16, ⟨_, hQ, lq, yq, zq⟩, st16⟩ := superBack X0 hx hZ (y := mN20) hown (tw hw 109 rfl) (own_same (y := mN20) (by decide) (tw hw 110 rfl) (own_nf (args := a0) (w := mN8) rfl (tw hw 82 rfl))) (tw hw 110 rfl) (tw hw 61 rfl) (by decide) (backOf (W := 0) (r16_1 l Z a0 hw a1 q2 w3 w4 k5 u6 p7 w8 w9 w10 w11 k12 u13 k14 u15 h0 n0 Z0 H0 H1 H2 H3 H4 H5 H6 H7 H8 H9 H10 H11 H12 H13 H14 H15 H16 H17 H18 H19 H20 H21 H22 H23 H24 H25) hZ (tw hw 112 rfl) (tw hw 38 rfl) (by decide) (by decide)) e0 (Ins.self H5) (g := (mkF m 2 #[vR a1, vJ q2, vS] [(.long q2), (.ref a1)])) rfl (by rw [hml]; rfl) (tw hw 112 rfl) (argsL := [(.long q2)]) (rest := []) (lenOf pd_13 rfl) rfl (own_w _) (hb hby d15_2) (fun _ _ => ⟨rfl, e0, (by decide : 0 + 0 ≤ _), (by decide : 0 + 0 ≤ _)⟩)
 dsimp only [Pt.U, Pt.locs, Pt.cells, Pt.slots] at X16 lq yq zq st16 hQ
 replace X16 := own_mvX X16 (a := 0) (b := 0) yq zq
 obtain ⟨Nq, rfl, K16, o16_0, o16_1⟩ := hQ
 have N16 := own_mvN lq N0 Nq
 have KC16 := KSx.trans (KSx.refl h0 [(a1, Jvm.RoadKit.slotOf Z sK2 "count" "I")] [w4]) K16 (ksS (Or.inl (List.mem_of_getElem? (i := 0) rfl)) ks0) (allS (Or.inl (List.mem_of_getElem? (i := 0) rfl)) all0)
 obtain ⟨fs, hr, hrun, hended, hW, hsame⟩ := X16.leave (v := some (.ref a1)) (fun h => by rw [Bd.returns] at h; cases h)
 refine ⟨_, _, pre0 _ ?_, hrun, hended, _, _, rfl, ?_, ⟨_, rfl⟩, hW, hsame.mono (by decide) (by decide)⟩
 · show SG p e below s₁ (mkF m 0 #[vR a1, vJ q2, vS] []) _
   refine XS.aloadN X0.here hx rfl (hb hby d15_0) rfl rfl ?_
   refine XS.lloadN X0.here hx rfl (hb hby d15_1) rfl ?_
   show SG p e below s₁ (mkF m 2 #[vR a1, vJ q2, vS] [(.long q2), (.ref a1)]) _
   refine st16.trans ?_
   show SG p e below T16 (mkF m 5 #[vR a1, vJ q2, vS] [(.ref a1)]) _
   refine XS.pop X16.here hx rfl (hb hby d15_5) rfl rfl ?_
   show SG p e below T16 (mkF m 6 #[vR a1, vJ q2, vS] []) _
   refine XS.aloadN X16.here hx rfl (hb hby d15_6) rfl rfl ?_
   show SG p e below T16 (mkF m 7 #[vR a1, vJ q2, vS] [(.ref a1)]) _
   jvm_step X16.here [X16.here.top, hx, (hb hby d15_7), X16.method', Bd.returns, Value.isRef, FieldType.isReference]
   first | (intro acts; rw [hr _ acts rfl rfl rfl]) | rw [hr _ _ rfl rfl rfl]
   exact Steps.refl _
 · show Qr15_1 Z a1 q2 w3 w4 k5 u6 p7 w8 w9 w10 w11 k12 u13 k14 u15 h0 n0 _ T16.heap _
   exact ⟨N16, rfl, KC16, o16_0, o16_1⟩
theorem d11_17 : Dc rev19 17 (.aload_n 0) 1 := by decide +kernel
theorem d11_18 : Dc rev19 18 (.aload_n 0) 1 := by decide +kernel
theorem d11_19 : Dc rev19 19 (.getfield 15) 3 := by decide +kernel
theorem d11_22 : Dc rev19 22 (.aload_n 0) 1 := by decide +kernel
theorem d11_23 : Dc rev19 23 (.iload_n 1) 1 := by decide +kernel
theorem d11_24 : Dc rev19 24 (.invokevirtual 104) 3 := by decide +kernel
theorem d31_0 : Dc rev20 0 (.aload_n 0) 1 := by decide +kernel
theorem d31_1 : Dc rev20 1 (.getfield 15) 3 := by decide +kernel
theorem d31_4 : Dc rev20 4 .arraylength 1 := by decide +kernel
theorem d31_5 : Dc rev20 5 (.istore_n 2) 1 := by decide +kernel
theorem d31_6 : Dc rev20 6 (.iload_n 1) 1 := by decide +kernel
theorem d31_7 : Dc rev20 7 (.aload_n 0) 1 := by decide +kernel
theorem d31_8 : Dc rev20 8 (.getfield 22) 3 := by decide +kernel
theorem d31_11 : Dc rev20 11 .ishl 1 := by decide +kernel
theorem d31_12 : Dc rev20 12 (.istore_n 3) 1 := by decide +kernel
theorem d31_13 : Dc rev20 13 (.iload_n 3) 1 := by decide +kernel
abbrev la2 (a1 : Addr) (p2 : Int32) (p3 : Int32) (w4 : Int32) : Array Slot := #[vR a1, vI p2, vI p3, vI (p2 <<< (w4 &&& 31)), vU, vU]
theorem d31_14 : Dc rev20 14 (.iload_n 2) 1 := by decide +kernel
theorem d31_15 : Dc rev20 15 .isub 1 := by decide +kernel
theorem d31_16 : Dc rev20 16 (.istore 4) 2 := by decide +kernel
theorem d31_18 : Dc rev20 18 (.iload_n 2) 1 := by decide +kernel
abbrev la3 (a1 : Addr) (p2 : Int32) (p3 : Int32) (w4 : Int32) : Array Slot := #[vR a1, vI p2, vI p3, vI (p2 <<< (w4 &&& 31)), vI ((p2 <<< (w4 &&& 31)) - p3), vU]
theorem d31_19 : Dc rev20 19 (.iload 4) 2 := by decide +kernel
theorem d31_21 : Dc rev20 21 (.iload_n 2) 1 := by decide +kernel
theorem d31_22 : Dc rev20 22 (.iconst 2) 1 := by decide +kernel
theorem d31_23 : Dc rev20 23 (.aload_n 0) 1 := by decide +kernel
theorem d31_24 : Dc rev20 24 (.getfield 22) 3 := by decide +kernel
theorem d31_27 : Dc rev20 27 .ishl 1 := by decide +kernel
theorem d31_28 : Dc rev20 28 .iadd 1 := by decide +kernel
theorem d31_29 : Dc rev20 29 (.invokestatic 114) 3 := by decide +kernel
theorem d32_0 : Dc rev21 0 (.iload_n 0) 1 := by decide +kernel
theorem d32_1 : Dc rev21 1 (.iload_n 1) 1 := by decide +kernel
theorem d32_2 : Dc rev21 2 (.iload_n 2) 1 := by decide +kernel
theorem d32_3 : Dc rev21 3 (.invokestatic 194) 3 := by decide +kernel
theorem d33_0 : Dc rev22 0 (.iload_n 0) 1 := by decide +kernel
theorem d33_1 : Dc rev22 1 (.iload_n 1) 1 := by decide +kernel
theorem d33_2 : Dc rev22 2 (.if_icmp .lt 7) 3 := by decide +kernel
theorem d33_9 : Dc rev22 9 (.iload_n 1) 1 := by decide +kernel
theorem d33_10 : Dc rev22 10 .ireturn 1 := by decide +kernel
theorem ef_33_vv (m : MethodId) (x0 : Int32) (x1 : Int32) : entryFrame m #[(.int x0), (.int x1)] 2 = mkF m 0 #[.val (.int x0), .val (.int x1)] [] := by first | (simp [entryFrame, mkF, argsToLocals, Value.category]; done) | rfl
theorem r33_1 (l : Launch) (Z : State) (a0 : Array Value) (hw : TW a0 Z) (p1 : Int32) (p2 : Int32) (h0 : Heap) (n0 : Nat) (Z0 : n0 ≤ h0.size) (H0 : p1 < p2) :
   OMet l Z mN22 jdk_29_method_65_code 2 (some .int) [] (Rm 0 0 0 0) h0 #[(.int p1), (.int p2)] (OQp (some (.int p2)) h0 n0) := by
 refine MetFree.of_bodySF (Jvm.Free.JP.mathPlain rfl (by decide +kernel)) hisR ?_
 intro p e s m args below meth c s₁ Bd hml0 hP hK
 obtain ⟨rfl, hZ, hh⟩ := hP
 have hx := Bd.exec
 have hby := Bd.bytes
 have hml : c.maxLocals = 2 := hml0
 have hown : s.vm.findClass "java/lang/Math" = some m.cls := findClass_of_methodNamed Bd.named
 have X0 := own_X0 Bd
 have e0 : s₁.heap = h0 := by rw [← hh, Bd.state]; rfl
 have N0 := Fr.nil n0
 have pre0 : ∀ t, Steps p.tables e below (s₁.setTop (mkF m 0 #[vI p1, vI p2] [])) t → Steps p.tables e below (s₁.setTop (entryFrame m #[(.int p1), (.int p2)] 2)) t := fun t k => castTop (ef_33_vv m p1 p2) k

 obtain ⟨fs, hr, hrun, hended, hW, hsame⟩ := X0.leave (v := some (.int p2)) (fun h => by rw [Bd.returns] at h; cases h)
 refine ⟨_, _, pre0 _ ?_, hrun, hended, _, _, rfl, ?_, ⟨_, rfl⟩, hW, hsame.mono (by decide) (by decide)⟩
 · show SG p e below s₁ (mkF m 0 #[vI p1, vI p2] []) _
   refine XS.iloadN X0.here hx rfl (hb hby d33_0) rfl ?_
   refine XS.iloadN X0.here hx rfl (hb hby d33_1) rfl ?_
   show SG p e below s₁ (mkF m 2 #[vI p1, vI p2] [(.int p2), (.int p1)]) _
   refine XS.icmpYes X0.here hx rfl (pc0 := 2) (pc' := 9) rfl (hb hby d33_2) rfl (tlt H0).1 (by decide) (by decide) ?_
   show SG p e below s₁ (mkF m 9 #[vI p1, vI p2] []) _
   refine XS.iloadN X0.here hx rfl (hb hby d33_9) rfl ?_
   show SG p e below s₁ (mkF m 10 #[vI p1, vI p2] [(.int p2)]) _
   exact retI X0 hx Bd.returns (hb hby d33_10) hr
 · show OQp (some (.int p2)) h0 n0 _ s₁.heap _
   rw [e0]
   exact ⟨rfl, N0, rfl⟩
theorem d32_6 : Dc rev21 6 .iadd 1 := by decide +kernel
theorem d32_7 : Dc rev21 7 (.istore_n 3) 1 := by decide +kernel
theorem d32_8 : Dc rev21 8 (.iconst 0) 1 := by decide +kernel
theorem d32_9 : Dc rev21 9 (.iload_n 3) 1 := by decide +kernel
theorem d32_10 : Dc rev21 10 (.if_icmp .ge 11) 3 := by decide +kernel
theorem d32_13 : Dc rev21 13 (.iload_n 3) 1 := by decide +kernel
theorem d32_14 : Dc rev21 14 (.ldc 200) 2 := by decide +kernel
theorem d32_16 : Dc rev21 16 (.if_icmp .gt 5) 3 := by decide +kernel
theorem d32_19 : Dc rev21 19 (.iload_n 3) 1 := by decide +kernel
theorem d32_20 : Dc rev21 20 .ireturn 1 := by decide +kernel
theorem pn_jdk_internal_util_ArraysSupport : plainName "jdk/internal/util/ArraysSupport" = true := by first | (simp [plainName, overriddenIn]; done) | decide +kernel
theorem ef_32_vvv (m : MethodId) (x0 : Int32) (x1 : Int32) (x2 : Int32) : entryFrame m #[(.int x0), (.int x1), (.int x2)] 4 = mkF m 0 #[.val (.int x0), .val (.int x1), .val (.int x2), .unset] [] := by first | (simp [entryFrame, mkF, argsToLocals, Value.category]; done) | rfl
theorem r32_1 (l : Launch) (Z : State) (a0 : Array Value) (hw : TW a0 Z) (p1 : Int32) (p2 : Int32) (p3 : Int32) (h0 : Heap) (n0 : Nat) (Z0 : n0 ≤ h0.size) (H0 : p2 < p3) (H1 : (0 : Int32) < (p1 + p3)) (H2 : ¬ ((2147483639 : Int32) < (p1 + p3))) :
   OMet l Z mN23 jdk_48_method_27_code 4 (some .int) [] (Rm 1 0 0 14) h0 #[(.int p1), (.int p2), (.int p3)] (OQp (some (.int (p1 + p3))) h0 n0) := by
 refine MetFree.of_bodySF (plainFor_of_name pn_jdk_internal_util_ArraysSupport) hisR ?_
 intro p e s m args below meth c s₁ Bd hml0 hP hK
 obtain ⟨rfl, hZ, hh⟩ := hP
 have hx := Bd.exec
 have hby := Bd.bytes
 have hml : c.maxLocals = 4 := hml0
 have hown : s.vm.findClass "jdk/internal/util/ArraysSupport" = some m.cls := findClass_of_methodNamed Bd.named
 have X0 := own_X0 Bd
 have e0 : s₁.heap = h0 := by rw [← hh, Bd.state]; rfl
 have N0 := Fr.nil n0
 have pre0 : ∀ t, Steps p.tables e below (s₁.setTop (mkF m 0 #[vI p1, vI p2, vI p3, .unset] [])) t → Steps p.tables e below (s₁.setTop (entryFrame m #[(.int p1), (.int p2), (.int p3)] 4)) t := fun t k => castTop (ef_32_vvv m p1 p2 p3) k
 obtain ⟨_, _, ⟨T4, _, _, _⟩, -, X4, ⟨_, hQ, lq, yq, zq⟩, st4⟩ := Jvm.LawKit.callS X0 hx (y := mN22) hown (mvT hZ (tw hw 187 rfl)) (mvT hZ (tw hw 188 rfl)) (mvT hZ (tw hw 169 rfl)) (mvT hZ (tw hw 189 rfl)) (by decide) (backOf (W := 1) (r33_1 l Z a0 hw p2 p3 h0 n0 Z0 H0) hZ (tw hw 189 rfl) (tw hw 169 rfl) (by decide) (by decide)) (g := (mkF m 3 #[vI p1, vI p2, vI p3, vU] [(.int p3), (.int p2), (.int p1)])) rfl (by rw [hml]; rfl) (argsL := [(.int p2), (.int p3)]) (rest := [(.int p1)]) (lenOf pd_6 rfl) rfl (own_w _) (hb hby d32_3) (fun _ _ => ⟨rfl, e0, (by decide : 0 + 0 ≤ _), (by decide : 0 + 0 ≤ _)⟩)
 dsimp only [Pt.U, Pt.locs, Pt.cells, Pt.slots] at X4 lq yq zq st4 hQ
 replace X4 := own_mvX X4 (a := 0) (b := 0) yq zq
 obtain ⟨rfl, Nq, e4⟩ := hQ
 have N4 := own_mvN lq N0 Nq
 obtain ⟨fs, hr, hrun, hended, hW, hsame⟩ := X4.leave (v := some (.int (p1 + p3))) (fun h => by rw [Bd.returns] at h; cases h)
 refine ⟨_, _, pre0 _ ?_, hrun, hended, _, _, rfl, ?_, ⟨_, rfl⟩, hW, hsame.mono (by decide) (by decide)⟩
 · show SG p e below s₁ (mkF m 0 #[vI p1, vI p2, vI p3, vU] []) _
   refine XS.iloadN X0.here hx rfl (hb hby d32_0) rfl ?_
   refine XS.iloadN X0.here hx rfl (hb hby d32_1) rfl ?_
   show SG p e below s₁ (mkF m 2 #[vI p1, vI p2, vI p3, vU] [(.int p2), (.int p1)]) _
   refine XS.iloadN X0.here hx rfl (hb hby d32_2) rfl ?_
   show SG p e below s₁ (mkF m 3 #[vI p1, vI p2, vI p3, vU] [(.int p3), (.int p2), (.int p1)]) _
   refine st4 _ ?_
   show SG p e below T4 (mkF m 6 #[vI p1, vI p2, vI p3, vU] [(.int p3), (.int p1)]) _
   refine XS.iadd X4.here hx rfl (hb hby d32_6) rfl ?_
   show SG p e below T4 (mkF m 7 #[vI p1, vI p2, vI p3, vU] [(.int (p1 + p3))]) _
   refine XS.istoreN X4.here hx rfl (hb hby d32_7) rfl (l' := #[vI p1, vI p2, vI p3, vI (p1 + p3)]) rfl ?_
   show SG p e below T4 (mkF m 8 #[vI p1, vI p2, vI p3, vI (p1 + p3)] []) _
   refine XS.iconst X4.here hx rfl (hb hby d32_8) ?_
   refine XS.iloadN X4.here hx rfl (hb hby d32_9) rfl ?_
   show SG p e below T4 (mkF m 10 #[vI p1, vI p2, vI p3, vI (p1 + p3)] [(.int (p1 + p3)), (.int 0)]) _
   refine XS.icmpNo X4.here hx rfl (hb hby d32_10) rfl (tlt H1).2.1 ?_
   show SG p e below T4 (mkF m 13 #[vI p1, vI p2, vI p3, vI (p1 + p3)] []) _
   refine XS.iloadN X4.here hx rfl (hb hby d32_13) rfl ?_
   show SG p e below T4 (mkF m 14 #[vI p1, vI p2, vI p3, vI (p1 + p3)] [(.int (p1 + p3))]) _
   refine X4.ldcInt hx hown (mvT hZ (tw hw 190 rfl)) (g := (mkF m 14 #[vI p1, vI p2, vI p3, vI (p1 + p3)] [(.int (p1 + p3))])) rfl (hb hby d32_14) _ ?_
   show SG p e below T4 (mkF m 16 #[vI p1, vI p2, vI p3, vI (p1 + p3)] [(.int 2147483639), (.int (p1 + p3))]) _
   refine XS.icmpNo X4.here hx rfl (hb hby d32_16) rfl (flt H2).2.2.1 ?_
   show SG p e below T4 (mkF m 19 #[vI p1, vI p2, vI p3, vI (p1 + p3)] []) _
   refine XS.iloadN X4.here hx rfl (hb hby d32_19) rfl ?_
   show SG p e below T4 (mkF m 20 #[vI p1, vI p2, vI p3, vI (p1 + p3)] [(.int (p1 + p3))]) _
   exact retI X4 hx Bd.returns (hb hby d32_20) hr
 · show OQp (some (.int (p1 + p3))) h0 n0 _ T4.heap _
   rw [e4]
   exact ⟨rfl, N4, rfl⟩
theorem pd_14 : parseMethodDescriptor "(III)I" = some ⟨[.int, .int, .int], some .int⟩ := by decide +kernel
theorem d31_32 : Dc rev20 32 (.istore 5) 2 := by decide +kernel
theorem d31_34 : Dc rev20 34 (.iload 5) 2 := by decide +kernel
abbrev la4 (a1 : Addr) (p2 : Int32) (p3 : Int32) (w4 : Int32) : Array Slot := #[vR a1, vI p2, vI p3, vI (p2 <<< (w4 &&& 31)), vI ((p2 <<< (w4 &&& 31)) - p3), vI (p3 + (p3 + ((2 : Int32) <<< (w4 &&& 31))))]
theorem d31_36 : Dc rev20 36 (.ldc 39) 2 := by decide +kernel
theorem d31_38 : Dc rev20 38 (.if_icmp .ne 13) 3 := by decide +kernel
theorem d31_51 : Dc rev20 51 (.iload 5) 2 := by decide +kernel
theorem d31_53 : Dc rev20 53 (.aload_n 0) 1 := by decide +kernel
theorem d31_54 : Dc rev20 54 (.getfield 22) 3 := by decide +kernel
theorem d31_57 : Dc rev20 57 .ishr 1 := by decide +kernel
theorem d31_58 : Dc rev20 58 .ireturn 1 := by decide +kernel
theorem ef_31_vv (m : MethodId) (x0 : Addr) (x1 : Int32) : entryFrame m #[(.ref x0), (.int x1)] 6 = mkF m 0 #[.val (.ref x0), .val (.int x1), .unset, .unset, .unset, .unset] [] := by first | (simp [entryFrame, mkF, argsToLocals, Value.category]; done) | rfl
theorem r31_1 (l : Launch) (Z : State) (a0 : Array Value) (hw : TW a0 Z) (a1 : Addr) (p2 : Int32) (w3 : Addr) (k4 : ClassId) (u5 : Nat → Int32) (p6 : Int32) (w7 : Int32) (h0 : Heap) (n0 : Nat) (Z0 : n0 ≤ h0.size) (H0 : Fld Z h0 a1 sK2 "value" "[B" (.ref w3)) (H1 : BA Z h0 w3 k4 .byte p6 u5) (H2 : Fld Z h0 a1 sK2 "coder" "B" (.int w7)) (H3 : ((p2 <<< (w7 &&& 31)) - p6) < (p6 + ((2 : Int32) <<< (w7 &&& 31)))) (H4 : (0 : Int32) < (p6 + (p6 + ((2 : Int32) <<< (w7 &&& 31))))) (H5 : ¬ ((2147483639 : Int32) < (p6 + (p6 + ((2 : Int32) <<< (w7 &&& 31)))))) (H6 : ¬ ((p6 + (p6 + ((2 : Int32) <<< (w7 &&& 31)))) = 2147483647)) :
   OMet l Z mN24 jdk_68_method_10_code 6 (some .int) [] (Rm 2 0 0 29) h0 #[(.ref a1), (.int p2)] (OQp (some (.int ((p6 + (p6 + ((2 : Int32) <<< (w7 &&& 31)))) >>> (w7 &&& 31)))) h0 n0) := by
 refine MetFree.of_bodySF (plainFor_of_name pn_java_lang_AbstractStringBuilder) hisR ?_
 intro p e s m args below meth c s₁ Bd hml0 hP hK
 obtain ⟨rfl, hZ, hh⟩ := hP
 have hx := Bd.exec
 have hby := Bd.bytes
 have hml : c.maxLocals = 6 := hml0
 have hown : s.vm.findClass sK2 = some m.cls := findClass_of_methodNamed Bd.named
 have X0 := own_X0 Bd
 have e0 : s₁.heap = h0 := by rw [← hh, Bd.state]; rfl
 have N0 := Fr.nil n0
 have pre0 : ∀ t, Steps p.tables e below (s₁.setTop (mkF m 0 #[vR a1, vI p2, .unset, .unset, .unset, .unset] [])) t → Steps p.tables e below (s₁.setTop (entryFrame m #[(.ref a1), (.int p2)] 6)) t := fun t k => castTop (ef_31_vv m a1 p2) k
 obtain ⟨T8, X8, e8, st8⟩ := getF X0 hx hZ hown (host := "") (Or.inl (tw hw 44 rfl)) Via.refl e0 H0 (g := (mkF m 1 #[vR a1, vI p2, vU, vU, vU, vU] [(.ref a1)])) rfl rfl (hb hby d31_1)
 have vc9 := H1
 obtain ⟨cl9, Ar9, q9, S9, N9, Hh9, G9⟩ := vc9
 obtain ⟨T10, X10, e10, st10⟩ := getF X8 hx hZ hown (host := "") (Or.inl (tw hw 46 rfl)) Via.refl e8 H2 (g := (mkF m 8 #[vR a1, vI p2, vI p6, vU, vU, vU] [(.ref a1), (.int p2)])) rfl rfl (hb hby d31_8)
 obtain ⟨T11, X11, e11, st11⟩ := getF X10 hx hZ hown (host := "") (Or.inl (tw hw 46 rfl)) Via.refl e10 H2 (g := (mkF m 24 (la3 a1 p2 p6 w7) [(.ref a1), (.int 2), (.int p6), (.int ((p2 <<< (w7 &&& 31)) - p6)), (.int p6)])) rfl rfl (hb hby d31_24)
 obtain ⟨_, _, ⟨T12, _, _, _⟩, -, X12, ⟨_, hQ, lq, yq, zq⟩, st12⟩ := Jvm.LawKit.callS X11 hx (y := mN23) hown (mvT hZ (tw hw 183 rfl)) (mvT hZ (tw hw 184 rfl)) (mvT hZ (tw hw 185 rfl)) (mvT hZ (tw hw 186 rfl)) (by decide) (backOf (W := 0) (r32_1 l Z a0 hw p6 ((p2 <<< (w7 &&& 31)) - p6) (p6 + ((2 : Int32) <<< (w7 &&& 31))) h0 n0 Z0 H3 H4 H5) hZ (tw hw 186 rfl) (tw hw 185 rfl) (by decide) (by decide)) (g := (mkF m 29 (la3 a1 p2 p6 w7) [(.int (p6 + ((2 : Int32) <<< (w7 &&& 31)))), (.int ((p2 <<< (w7 &&& 31)) - p6)), (.int p6)])) rfl (by rw [hml]; rfl) (argsL := [(.int p6), (.int ((p2 <<< (w7 &&& 31)) - p6)), (.int (p6 + ((2 : Int32) <<< (w7 &&& 31))))]) (rest := []) (lenOf pd_14 rfl) rfl (own_w _) (hb hby d31_29) (fun _ _ => ⟨rfl, e11, (by decide : 0 + 0 ≤ _), (by decide : 0 + 0 ≤ _)⟩)
 dsimp only [Pt.U, Pt.locs, Pt.cells, Pt.slots] at X12 lq yq zq st12 hQ
 replace X12 := own_mvX X12 (a := 0) (b := 0) yq zq
 obtain ⟨rfl, Nq, e12⟩ := hQ
 have N12 := own_mvN lq N0 Nq
 obtain ⟨T13, X13, e13, st13⟩ := getF X12 hx hZ hown (host := "") (Or.inl (tw hw 46 rfl)) Via.refl e12 H2 (g := (mkF m 54 (la4 a1 p2 p6 w7) [(.ref a1), (.int (p6 + (p6 + ((2 : Int32) <<< (w7 &&& 31)))))])) rfl rfl (hb hby d31_54)
 obtain ⟨fs, hr, hrun, hended, hW, hsame⟩ := X13.leave (v := some (.int ((p6 + (p6 + ((2 : Int32) <<< (w7 &&& 31)))) >>> (w7 &&& 31)))) (fun h => by rw [Bd.returns] at h; cases h)
 refine ⟨_, _, pre0 _ ?_, hrun, hended, _, _, rfl, ?_, ⟨_, rfl⟩, hW, hsame.mono (by decide) (by decide)⟩
 · show SG p e below s₁ (mkF m 0 #[vR a1, vI p2, vU, vU, vU, vU] []) _
   refine XS.aloadN X0.here hx rfl (hb hby d31_0) rfl rfl ?_
   show SG p e below s₁ (mkF m 1 #[vR a1, vI p2, vU, vU, vU, vU] [(.ref a1)]) _
   refine st8 _ ?_
   show SG p e below T8 (mkF m 4 #[vR a1, vI p2, vU, vU, vU, vU] [(.ref w3)]) _
   refine X8.arraylength hx (by rw [e8]; exact Ar9.1) (State.isArrayOf_alike hZ.alike Ar9.2.1) (g := (mkF m 4 #[vR a1, vI p2, vU, vU, vU, vU] [(.ref w3)])) rfl rfl (hb hby d31_4) _ ?_
   rw [len_of S9 N9]
   show SG p e below T8 (mkF m 5 #[vR a1, vI p2, vU, vU, vU, vU] [(.int p6)]) _
   refine XS.istoreN X8.here hx rfl (hb hby d31_5) rfl (l' := #[vR a1, vI p2, vI p6, vU, vU, vU]) rfl ?_
   show SG p e below T8 (mkF m 6 #[vR a1, vI p2, vI p6, vU, vU, vU] []) _
   refine XS.iloadN X8.here hx rfl (hb hby d31_6) rfl ?_
   refine XS.aloadN X8.here hx rfl (hb hby d31_7) rfl rfl ?_
   show SG p e below T8 (mkF m 8 #[vR a1, vI p2, vI p6, vU, vU, vU] [(.ref a1), (.int p2)]) _
   refine st10 _ ?_
   show SG p e below T10 (mkF m 11 #[vR a1, vI p2, vI p6, vU, vU, vU] [(.int w7), (.int p2)]) _
   refine XS.ishl X10.here hx rfl (hb hby d31_11) rfl ?_
   show SG p e below T10 (mkF m 12 #[vR a1, vI p2, vI p6, vU, vU, vU] [(.int (p2 <<< (w7 &&& 31)))]) _
   refine XS.istoreN X10.here hx rfl (hb hby d31_12) rfl (l' := #[vR a1, vI p2, vI p6, vI (p2 <<< (w7 &&& 31)), vU, vU]) rfl ?_
   show SG p e below T10 (mkF m 13 (la2 a1 p2 p6 w7) []) _
   refine XS.iloadN X10.here hx rfl (hb hby d31_13) rfl ?_
   refine XS.iloadN X10.here hx rfl (hb hby d31_14) rfl ?_
   show SG p e below T10 (mkF m 15 (la2 a1 p2 p6 w7) [(.int p6), (.int (p2 <<< (w7 &&& 31)))]) _
   refine XS.isub X10.here hx rfl (hb hby d31_15) rfl ?_
   show SG p e below T10 (mkF m 16 (la2 a1 p2 p6 w7) [(.int ((p2 <<< (w7 &&& 31)) - p6))]) _
   refine XS.istore X10.here hx rfl (hb hby d31_16) rfl (l' := #[vR a1, vI p2, vI p6, vI (p2 <<< (w7 &&& 31)), vI ((p2 <<< (w7 &&& 31)) - p6), vU]) rfl ?_
   show SG p e below T10 (mkF m 18 (la3 a1 p2 p6 w7) []) _
   refine XS.iloadN X10.here hx rfl (hb hby d31_18) rfl ?_
   refine XS.iload X10.here hx rfl (hb hby d31_19) rfl ?_
   show SG p e below T10 (mkF m 21 (la3 a1 p2 p6 w7) [(.int ((p2 <<< (w7 &&& 31)) - p6)), (.int p6)]) _
   refine XS.iloadN X10.here hx rfl (hb hby d31_21) rfl ?_
   refine XS.iconst X10.here hx rfl (hb hby d31_22) ?_
   show SG p e below T10 (mkF m 23 (la3 a1 p2 p6 w7) [(.int 2), (.int p6), (.int ((p2 <<< (w7 &&& 31)) - p6)), (.int p6)]) _
   refine XS.aloadN X10.here hx rfl (hb hby d31_23) rfl rfl ?_
   show SG p e below T10 (mkF m 24 (la3 a1 p2 p6 w7) [(.ref a1), (.int 2), (.int p6), (.int ((p2 <<< (w7 &&& 31)) - p6)), (.int p6)]) _
   refine st11 _ ?_
   show SG p e below T11 (mkF m 27 (la3 a1 p2 p6 w7) [(.int w7), (.int 2), (.int p6), (.int ((p2 <<< (w7 &&& 31)) - p6)), (.int p6)]) _
   refine XS.ishl X11.here hx rfl (hb hby d31_27) rfl ?_
   show SG p e below T11 (mkF m 28 (la3 a1 p2 p6 w7) [(.int ((2 : Int32) <<< (w7 &&& 31))), (.int p6), (.int ((p2 <<< (w7 &&& 31)) - p6)), (.int p6)]) _
   refine XS.iadd X11.here hx rfl (hb hby d31_28) rfl ?_
   show SG p e below T11 (mkF m 29 (la3 a1 p2 p6 w7) [(.int (p6 + ((2 : Int32) <<< (w7 &&& 31)))), (.int ((p2 <<< (w7 &&& 31)) - p6)), (.int p6)]) _
   refine st12 _ ?_
   show SG p e below T12 (mkF m 32 (la3 a1 p2 p6 w7) [(.int (p6 + (p6 + ((2 : Int32) <<< (w7 &&& 31)))))]) _
   refine XS.istore X12.here hx rfl (hb hby d31_32) rfl (l' := #[vR a1, vI p2, vI p6, vI (p2 <<< (w7 &&& 31)), vI ((p2 <<< (w7 &&& 31)) - p6), vI (p6 + (p6 + ((2 : Int32) <<< (w7 &&& 31))))]) rfl ?_
   show SG p e below T12 (mkF m 34 (la4 a1 p2 p6 w7) []) _
   refine XS.iload X12.here hx rfl (hb hby d31_34) rfl ?_
   show SG p e below T12 (mkF m 36 (la4 a1 p2 p6 w7) [(.int (p6 + (p6 + ((2 : Int32) <<< (w7 &&& 31)))))]) _
   refine X12.ldcInt hx hown (mvT hZ (tw hw 191 rfl)) (g := (mkF m 36 (la4 a1 p2 p6 w7) [(.int (p6 + (p6 + ((2 : Int32) <<< (w7 &&& 31)))))])) rfl (hb hby d31_36) _ ?_
   show SG p e below T12 (mkF m 38 (la4 a1 p2 p6 w7) [(.int 2147483647), (.int (p6 + (p6 + ((2 : Int32) <<< (w7 &&& 31)))))]) _
   refine XS.icmpYes X12.here hx rfl (pc0 := 38) (pc' := 51) rfl (hb hby d31_38) rfl (feq H6).2 (by decide) (by decide) ?_
   show SG p e below T12 (mkF m 51 (la4 a1 p2 p6 w7) []) _
   refine XS.iload X12.here hx rfl (hb hby d31_51) rfl ?_
   refine XS.aloadN X12.here hx rfl (hb hby d31_53) rfl rfl ?_
   show SG p e below T12 (mkF m 54 (la4 a1 p2 p6 w7) [(.ref a1), (.int (p6 + (p6 + ((2 : Int32) <<< (w7 &&& 31)))))]) _
   refine st13 _ ?_
   show SG p e below T13 (mkF m 57 (la4 a1 p2 p6 w7) [(.int w7), (.int (p6 + (p6 + ((2 : Int32) <<< (w7 &&& 31)))))]) _
   refine XS.ishr X13.here hx rfl (hb hby d31_57) rfl ?_
   show SG p e below T13 (mkF m 58 (la4 a1 p2 p6 w7) [(.int ((p6 + (p6 + ((2 : Int32) <<< (w7 &&& 31)))) >>> (w7 &&& 31)))]) _
   exact retI X13 hx Bd.returns (hb hby d31_58) hr
 · show OQp (some (.int ((p6 + (p6 + ((2 : Int32) <<< (w7 &&& 31)))) >>> (w7 &&& 31)))) h0 n0 _ T13.heap _
   rw [e13]
   exact ⟨rfl, N12, rfl⟩
theorem pd_15 : parseMethodDescriptor "(I)I" = some ⟨[.int], some .int⟩ := by decide +kernel
theorem d11_27 : Dc rev19 27 (.aload_n 0) 1 := by decide +kernel
theorem d11_28 : Dc rev19 28 (.getfield 22) 3 := by decide +kernel
theorem d11_31 : Dc rev19 31 .ishl 1 := by decide +kernel
theorem d11_32 : Dc rev19 32 (.invokestatic 108) 3 := by decide +kernel
theorem d34_0 : Dc rev23 0 (.iload_n 1) 1 := by decide +kernel
theorem d34_1 : Dc rev23 1 (.aload_n 0) 1 := by decide +kernel
theorem d34_2 : Dc rev23 2 .arraylength 1 := by decide +kernel
theorem d34_3 : Dc rev23 3 (.if_icmp .ne 11) 3 := by decide +kernel
theorem d34_14 : Dc rev23 14 (.iload_n 1) 1 := by decide +kernel
theorem d34_15 : Dc rev23 15 (.newarray .byte) 2 := by decide +kernel
theorem d34_17 : Dc rev23 17 (.astore_n 2) 1 := by decide +kernel
theorem d34_18 : Dc rev23 18 (.aload_n 0) 1 := by decide +kernel
theorem d34_19 : Dc rev23 19 (.iconst 0) 1 := by decide +kernel
theorem d34_20 : Dc rev23 20 (.aload_n 2) 1 := by decide +kernel
theorem d34_21 : Dc rev23 21 (.iconst 0) 1 := by decide +kernel
theorem d34_22 : Dc rev23 22 (.aload_n 0) 1 := by decide +kernel
theorem d34_23 : Dc rev23 23 .arraylength 1 := by decide +kernel
theorem d34_24 : Dc rev23 24 (.iload_n 1) 1 := by decide +kernel
theorem d34_25 : Dc rev23 25 (.invokestatic 304) 3 := by decide +kernel
theorem d29_5 : Dc rev16 5 (.iload_n 0) 1 := by decide +kernel
theorem d29_6 : Dc rev16 6 (.goto 4) 3 := by decide +kernel
theorem r29_2 (l : Launch) (Z : State) (a0 : Array Value) (hw : TW a0 Z) (p1 : Int32) (p2 : Int32) (h0 : Heap) (n0 : Nat) (Z0 : n0 ≤ h0.size) (H0 : ¬ (p2 < p1)) :
   OMet l Z mN12 jdk_29_method_69_code 2 (some .int) [] (Rm 0 0 0 0) h0 #[(.int p1), (.int p2)] (OQp (some (.int p1)) h0 n0) := by
 refine MetFree.of_bodySF (Jvm.Free.JP.mathPlain rfl (by decide +kernel)) hisR ?_
 intro p e s m args below meth c s₁ Bd hml0 hP hK
 obtain ⟨rfl, hZ, hh⟩ := hP
 have hx := Bd.exec
 have hby := Bd.bytes
 have hml : c.maxLocals = 2 := hml0
 have hown : s.vm.findClass "java/lang/Math" = some m.cls := findClass_of_methodNamed Bd.named
 have X0 := own_X0 Bd
 have e0 : s₁.heap = h0 := by rw [← hh, Bd.state]; rfl
 have N0 := Fr.nil n0
 have pre0 : ∀ t, Steps p.tables e below (s₁.setTop (mkF m 0 #[vI p1, vI p2] [])) t → Steps p.tables e below (s₁.setTop (entryFrame m #[(.int p1), (.int p2)] 2)) t := fun t k => castTop (ef_29_vv m p1 p2) k

 obtain ⟨fs, hr, hrun, hended, hW, hsame⟩ := X0.leave (v := some (.int p1)) (fun h => by rw [Bd.returns] at h; cases h)
 refine ⟨_, _, pre0 _ ?_, hrun, hended, _, _, rfl, ?_, ⟨_, rfl⟩, hW, hsame.mono (by decide) (by decide)⟩
 · show SG p e below s₁ (mkF m 0 #[vI p1, vI p2] []) _
   refine XS.iloadN X0.here hx rfl (hb hby d29_0) rfl ?_
   refine XS.iloadN X0.here hx rfl (hb hby d29_1) rfl ?_
   show SG p e below s₁ (mkF m 2 #[vI p1, vI p2] [(.int p2), (.int p1)]) _
   refine XS.icmpNo X0.here hx rfl (hb hby d29_2) rfl (flt H0).2.2.1 ?_
   show SG p e below s₁ (mkF m 5 #[vI p1, vI p2] []) _
   refine XS.iloadN X0.here hx rfl (hb hby d29_5) rfl ?_
   refine XS.goto X0.here hx rfl (pc0 := 6) (pc' := 10) rfl (hb hby d29_6) (by decide) (by decide) ?_
   show SG p e below s₁ (mkF m 10 #[vI p1, vI p2] [(.int p1)]) _
   exact retI X0 hx Bd.returns (hb hby d29_10) hr
 · show OQp (some (.int p1)) h0 n0 _ s₁.heap _
   rw [e0]
   exact ⟨rfl, N0, rfl⟩
theorem d34_28 : Dc rev23 28 (.invokestatic 150) 3 := by decide +kernel
theorem d34_31 : Dc rev23 31 (.aload_n 2) 1 := by decide +kernel
theorem d34_32 : Dc rev23 32 .areturn 1 := by decide +kernel
theorem ef_34_vv (m : MethodId) (x0 : Addr) (x1 : Int32) : entryFrame m #[(.ref x0), (.int x1)] 3 = mkF m 0 #[.val (.ref x0), .val (.int x1), .unset] [] := by first | (simp [entryFrame, mkF, argsToLocals, Value.category]; done) | rfl
def Qr34_1 (Z : State) (a1 : Addr) (p2 : Int32) (k3 : ClassId) (u4 : Nat → Int32) (p5 : Int32) (h0 : Heap) (n0 : Nat) (v : Option Value) (h : Heap) (L : List Loc) : Prop := Fr n0 L ∧ ∃ b6 : Addr, ∃ k6 : ClassId, v = some (.ref b6) ∧ h0.size ≤ b6 ∧ KSx h0 h [] [] ∧ Exa Z h b6 "[B" ∧ BA Z h b6 k6 .byte p2 (fun i => if ((0 : Int32)).toNatClampNeg ≤ i ∧ i < ((0 : Int32)).toNatClampNeg + (p5).toNatClampNeg then u4 (((0 : Int32)).toNatClampNeg + (i - ((0 : Int32)).toNatClampNeg)) else (fun _ => (0 : Int32)) i)
theorem r34_1 (l : Launch) (Z : State) (a0 : Array Value) (hw : TW a0 Z) (a1 : Addr) (p2 : Int32) (k3 : ClassId) (u4 : Nat → Int32) (p5 : Int32) (h0 : Heap) (n0 : Nat) (Z0 : n0 ≤ h0.size) (H0 : BA Z h0 a1 k3 .byte p5 u4) (H1 : ¬ (p2 = p5)) (H2 : ¬ (p2 < 0)) (H3 : ¬ ((70 : Int32) < p2)) (H4 : ¬ (p2 < p5)) (H5 : ¬ (p5 < 0)) (H6 : ((0 : Int32)).toNatClampNeg + (p5).toNatClampNeg ≤ (p5).toNatClampNeg) (H7 : ((0 : Int32)).toNatClampNeg + (p5).toNatClampNeg ≤ (p2).toNatClampNeg) :
   OMet l Z mN25 jdk_65_method_121_code 3 (some (.array .byte)) [] (Rm 1 1 70 18) h0 #[(.ref a1), (.int p2)] (Qr34_1 Z a1 p2 k3 u4 p5 h0 n0) := by
 refine MetFree.of_bodySF (plainFor_of_name pn_java_util_Arrays) hisR ?_
 intro p e s m args below meth c s₁ Bd hml0 hP hK
 obtain ⟨rfl, hZ, hh⟩ := hP
 have hx := Bd.exec
 have hby := Bd.bytes
 have hml : c.maxLocals = 3 := hml0
 have hown : s.vm.findClass sK18 = some m.cls := findClass_of_methodNamed Bd.named
 have X0 := own_X0 Bd
 have e0 : s₁.heap = h0 := by rw [← hh, Bd.state]; rfl
 have N0 := Fr.nil n0
 have pre0 : ∀ t, Steps p.tables e below (s₁.setTop (mkF m 0 #[vR a1, vI p2, .unset] [])) t → Steps p.tables e below (s₁.setTop (entryFrame m #[(.ref a1), (.int p2)] 3)) t := fun t k => castTop (ef_34_vv m a1 p2) k
 have vc6 := H0
 obtain ⟨cl6, Ar6, q6, S6, N6, Hh6, G6⟩ := vc6
 obtain ⟨T7, h7, k7, X7, e7, E7, A7, Ea7, st7⟩ := newPE X0 hx hZ (tw hw 43 rfl) e0 (g := (mkF m 15 #[vR a1, vI p2, vU] [(.int p2)])) rfl (hb hby d34_15) rfl H2 (cap := 70) (own_cap (k := 70) (by decide) H3) (by decide) (by decide) (by decide) (ad := "[B") rfl
 obtain ⟨b7, g7⟩ : ∃ z, z = h0.size := ⟨_, rfl⟩
 rw [← g7] at A7 Ea7 st7
 have KC7 := KSx.ext (KSx.refl h0 [] []) E7
 have B7 : BA Z h7 b7 k7 .byte p2 (fun _ => (0 : Int32)) := BA.new A7 H2 rfl rfl
 have f8 := (H0.ext E7)
 have vc9 := f8
 obtain ⟨cl9, Ar9, q9, S9, N9, Hh9, G9⟩ := vc9
 have Z7 : n0 ≤ h7.size := Nat.le_trans Z0 E7.1
 obtain ⟨_, _, ⟨T10, _, _, _⟩, -, X10, ⟨_, hQ, lq, yq, zq⟩, st10⟩ := Jvm.LawKit.callS X7 hx (y := mN12) hown (mvT hZ (tw hw 167 rfl)) (mvT hZ (tw hw 168 rfl)) (mvT hZ (tw hw 169 rfl)) (mvT hZ (tw hw 170 rfl)) (by decide) (backOf (W := 4) (r29_2 l Z a0 hw p5 p2 h7 n0 Z7 H4) hZ (tw hw 170 rfl) (tw hw 169 rfl) (by decide) (by decide)) (g := (mkF m 25 #[vR a1, vI p2, vR b7] [(.int p2), (.int p5), (.int 0), (.ref b7), (.int 0), (.ref a1)])) rfl (by rw [hml]; rfl) (argsL := [(.int p5), (.int p2)]) (rest := [(.int 0), (.ref b7), (.int 0), (.ref a1)]) (lenOf pd_6 rfl) rfl (own_w _) (hb hby d34_25) (fun _ _ => ⟨rfl, e7, (by decide : 1 + 0 ≤ _), (by decide : 70 + 0 ≤ _)⟩)
 dsimp only [Pt.U, Pt.locs, Pt.cells, Pt.slots] at X10 lq yq zq st10 hQ
 replace X10 := own_mvX X10 (a := 1) (b := 70) yq zq
 obtain ⟨rfl, Nq, e10⟩ := hQ
 have N10 := own_mvN lq N0 Nq
 have g11 : n0 ≤ b7 := Nat.le_trans Z0 (Nat.le_of_eq g7.symm)
 obtain ⟨T12, h12, L12, X12, e12, N12, K12, B12, st12⟩ := cpB X10 hx hZ hown (tw hw 171 rfl) (tw hw 103 rfl) (tw hw 101 rfl) (tw hw 102 rfl) e10 f8 B7 rfl (by decide) (by decide) H5 H6 H7 N10 g11 (g0 := (mkF m 28 #[vR a1, vI p2, vR b7] [(.int p5), (.int 0), (.ref b7), (.int 0), (.ref a1)])) rfl (by rw [hml]; rfl) rfl (hb hby d34_28) (by decide) (W := 0) (own_w _) (by decide)
 have z13 : h0.size ≤ b7 := Nat.le_trans (KSx.refl h0 [] []).1 (Nat.le_of_eq g7.symm)
 have KC12 := KSx.trans KC7 K12 ks0 (allS (Or.inr z13) all0)
 have f14 := (Ea7.ks K12)
 obtain ⟨fs, hr, hrun, hended, hW, hsame⟩ := X12.leave (v := some (.ref b7)) (fun h => by rw [Bd.returns] at h; cases h)
 refine ⟨_, _, pre0 _ ?_, hrun, hended, _, _, rfl, ?_, ⟨_, rfl⟩, hW, hsame.mono (by decide) (by decide)⟩
 · show SG p e below s₁ (mkF m 0 #[vR a1, vI p2, vU] []) _
   refine XS.iloadN X0.here hx rfl (hb hby d34_0) rfl ?_
   refine XS.aloadN X0.here hx rfl (hb hby d34_1) rfl rfl ?_
   show SG p e below s₁ (mkF m 2 #[vR a1, vI p2, vU] [(.ref a1), (.int p2)]) _
   refine X0.arraylength hx (by rw [e0]; exact Ar6.1) (State.isArrayOf_alike hZ.alike Ar6.2.1) (g := (mkF m 2 #[vR a1, vI p2, vU] [(.ref a1), (.int p2)])) rfl rfl (hb hby d34_2) _ ?_
   rw [len_of S6 N6]
   show SG p e below s₁ (mkF m 3 #[vR a1, vI p2, vU] [(.int p5), (.int p2)]) _
   refine XS.icmpYes X0.here hx rfl (pc0 := 3) (pc' := 14) rfl (hb hby d34_3) rfl (feq H1).2 (by decide) (by decide) ?_
   show SG p e below s₁ (mkF m 14 #[vR a1, vI p2, vU] []) _
   refine XS.iloadN X0.here hx rfl (hb hby d34_14) rfl ?_
   show SG p e below s₁ (mkF m 15 #[vR a1, vI p2, vU] [(.int p2)]) _
   refine st7 _ ?_
   show SG p e below T7 (mkF m 17 #[vR a1, vI p2, vU] [(.ref b7)]) _
   refine XS.astoreN X7.here hx rfl (hb hby d34_17) rfl rfl (l' := #[vR a1, vI p2, vR b7]) rfl ?_
   show SG p e below T7 (mkF m 18 #[vR a1, vI p2, vR b7] []) _
   refine XS.aloadN X7.here hx rfl (hb hby d34_18) rfl rfl ?_
   refine XS.iconst X7.here hx rfl (hb hby d34_19) ?_
   show SG p e below T7 (mkF m 20 #[vR a1, vI p2, vR b7] [(.int 0), (.ref a1)]) _
   refine XS.aloadN X7.here hx rfl (hb hby d34_20) rfl rfl ?_
   refine XS.iconst X7.here hx rfl (hb hby d34_21) ?_
   show SG p e below T7 (mkF m 22 #[vR a1, vI p2, vR b7] [(.int 0), (.ref b7), (.int 0), (.ref a1)]) _
   refine XS.aloadN X7.here hx rfl (hb hby d34_22) rfl rfl ?_
   show SG p e below T7 (mkF m 23 #[vR a1, vI p2, vR b7] [(.ref a1), (.int 0), (.ref b7), (.int 0), (.ref a1)]) _
   refine X7.arraylength hx (by rw [e7]; exact Ar9.1) (State.isArrayOf_alike hZ.alike Ar9.2.1) (g := (mkF m 23 #[vR a1, vI p2, vR b7] [(.ref a1), (.int 0), (.ref b7), (.int 0), (.ref a1)])) rfl rfl (hb hby d34_23) _ ?_
   rw [len_of S9 N9]
   show SG p e below T7 (mkF m 24 #[vR a1, vI p2, vR b7] [(.int p5), (.int 0), (.ref b7), (.int 0), (.ref a1)]) _
   refine XS.iloadN X7.here hx rfl (hb hby d34_24) rfl ?_
   show SG p e below T7 (mkF m 25 #[vR a1, vI p2, vR b7] [(.int p2), (.int p5), (.int 0), (.ref b7), (.int 0), (.ref a1)]) _
   refine st10 _ ?_
   show SG p e below T10 (mkF m 28 #[vR a1, vI p2, vR b7] [(.int p5), (.int 0), (.ref b7), (.int 0), (.ref a1)]) _
   refine st12 _ ?_
   show SG p e below T12 (mkF m 31 #[vR a1, vI p2, vR b7] []) _
   refine XS.aloadN X12.here hx rfl (hb hby d34_31) rfl rfl ?_
   show SG p e below T12 (mkF m 32 #[vR a1, vI p2, vR b7] [(.ref b7)]) _
   jvm_step X12.here [X12.here.top, hx, (hb hby d34_32), X12.method', Bd.returns, Value.isRef, FieldType.isReference]
   first | (intro acts; rw [hr _ acts rfl rfl rfl]) | rw [hr _ _ rfl rfl rfl]
   exact Steps.refl _
 · show Qr34_1 Z a1 p2 k3 u4 p5 h0 n0 _ T12.heap _
   rw [e12]
   exact ⟨N12, b7, k7, rfl, z13, KC12, f14, B12⟩
theorem pd_16 : parseMethodDescriptor "([BI)[B" = some ⟨[(.array .byte), .int], some (.array .byte)⟩ := by decide +kernel
theorem d11_35 : Dc rev19 35 (.putfield 15) 3 := by decide +kernel
def Qr11_2 (Z : State) (a1 : Addr) (p2 : Int32) (w3 : Addr) (k4 : ClassId) (u5 : Nat → Int32) (p6 : Int32) (w7 : Int32) (h0 : Heap) (n0 : Nat) (v : Option Value) (h : Heap) (L : List Loc) : Prop := Fr n0 L ∧ ∃ b8_0 : Addr, ∃ k8_0 : ClassId, v = none ∧ h0.size ≤ b8_0 ∧ KSx h0 h [(a1, Jvm.RoadKit.slotOf Z sK2 "value" "[B")] [] ∧ Exa Z h b8_0 "[B" ∧ Fld Z h a1 sK2 "value" "[B" (.ref b8_0) ∧ BA Z h b8_0 k8_0 .byte (((p6 + (p6 + ((2 : Int32) <<< (w7 &&& 31)))) >>> (w7 &&& 31)) <<< (w7 &&& 31)) (fun i => if ((0 : Int32)).toNatClampNeg ≤ i ∧ i < ((0 : Int32)).toNatClampNeg + (p6).toNatClampNeg then u5 (((0 : Int32)).toNatClampNeg + (i - ((0 : Int32)).toNatClampNeg)) else (fun _ => (0 : Int32)) i)
theorem r11_2 (l : Launch) (Z : State) (a0 : Array Value) (hw : TW a0 Z) (a1 : Addr) (p2 : Int32) (w3 : Addr) (k4 : ClassId) (u5 : Nat → Int32) (p6 : Int32) (w7 : Int32) (h0 : Heap) (n0 : Nat) (Z0 : n0 ≤ h0.size) (H0 : Fld Z h0 a1 sK2 "value" "[B" (.ref w3)) (H1 : BA Z h0 w3 k4 .byte p6 u5) (H2 : Fld Z h0 a1 sK2 "coder" "B" (.int w7)) (H3 : (0 : Int32) < (p2 - (p6 >>> (w7 &&& 31)))) (H4 : ((p2 <<< (w7 &&& 31)) - p6) < (p6 + ((2 : Int32) <<< (w7 &&& 31)))) (H5 : (0 : Int32) < (p6 + (p6 + ((2 : Int32) <<< (w7 &&& 31))))) (H6 : ¬ ((2147483639 : Int32) < (p6 + (p6 + ((2 : Int32) <<< (w7 &&& 31)))))) (H7 : ¬ ((p6 + (p6 + ((2 : Int32) <<< (w7 &&& 31)))) = 2147483647)) (H8 : Exa Z h0 a1 sK4) (H9 : ¬ ((((p6 + (p6 + ((2 : Int32) <<< (w7 &&& 31)))) >>> (w7 &&& 31)) <<< (w7 &&& 31)) = p6)) (H10 : ¬ ((((p6 + (p6 + ((2 : Int32) <<< (w7 &&& 31)))) >>> (w7 &&& 31)) <<< (w7 &&& 31)) < 0)) (H11 : ¬ ((70 : Int32) < (((p6 + (p6 + ((2 : Int32) <<< (w7 &&& 31)))) >>> (w7 &&& 31)) <<< (w7 &&& 31)))) (H12 : ¬ ((((p6 + (p6 + ((2 : Int32) <<< (w7 &&& 31)))) >>> (w7 &&& 31)) <<< (w7 &&& 31)) < p6)) (H13 : ¬ (p6 < 0)) (H14 : ((0 : Int32)).toNatClampNeg + (p6).toNatClampNeg ≤ (p6).toNatClampNeg) (H15 : ((0 : Int32)).toNatClampNeg + (p6).toNatClampNeg ≤ ((((p6 + (p6 + ((2 : Int32) <<< (w7 &&& 31)))) >>> (w7 &&& 31)) <<< (w7 &&& 31))).toNatClampNeg) (H16 : n0 ≤ a1) :
   OMet l Z mN8 jdk_68_method_9_code 3 none [] (Rm 3 1 70 48) h0 #[(.ref a1), (.int p2)] (Qr11_2 Z a1 p2 w3 k4 u5 p6 w7 h0 n0) := by
 refine MetFree.of_bodySF (plainFor_of_name pn_java_lang_AbstractStringBuilder) hisR ?_
 intro p e s m args below meth c s₁ Bd hml0 hP hK
 obtain ⟨rfl, hZ, hh⟩ := hP
 have hx := Bd.exec
 have hby := Bd.bytes
 have hml : c.maxLocals = 3 := hml0
 have hown : s.vm.findClass sK2 = some m.cls := findClass_of_methodNamed Bd.named
 have X0 := own_X0 Bd
 have e0 : s₁.heap = h0 := by rw [← hh, Bd.state]; rfl
 have N0 := Fr.nil n0
 have pre0 : ∀ t, Steps p.tables e below (s₁.setTop (mkF m 0 #[vR a1, vI p2, .unset] [])) t → Steps p.tables e below (s₁.setTop (entryFrame m #[(.ref a1), (.int p2)] 3)) t := fun t k => castTop (ef_11_vv m a1 p2) k
 obtain ⟨T8, X8, e8, st8⟩ := getF X0 hx hZ hown (host := "") (Or.inl (tw hw 44 rfl)) Via.refl e0 H0 (g := (mkF m 1 #[vR a1, vI p2, vU] [(.ref a1)])) rfl rfl (hb hby d11_1)
 have vc9 := H1
 obtain ⟨cl9, Ar9, q9, S9, N9, Hh9, G9⟩ := vc9
 obtain ⟨T10, X10, e10, st10⟩ := getF X8 hx hZ hown (host := "") (Or.inl (tw hw 46 rfl)) Via.refl e8 H2 (g := (mkF m 6 #[vR a1, vI p2, vU] [(.ref a1), (.int p6)])) rfl rfl (hb hby d11_6)
 obtain ⟨T11, X11, e11, st11⟩ := getF X10 hx hZ hown (host := "") (Or.inl (tw hw 44 rfl)) Via.refl e10 H0 (g := (mkF m 19 #[vR a1, vI p2, vI (p6 >>> (w7 &&& 31))] [(.ref a1), (.ref a1)])) rfl rfl (hb hby d11_19)
 obtain ⟨cq12, kq12, q12a, q12b, q12c⟩ := isOf hZ e11 H8
 obtain ⟨_, _, ⟨T12, _, _, _⟩, -, X12, ⟨_, hQ, lq, yq, zq⟩, st12⟩ := X11.virtualBack hx (y := mN24) (z := mN24) hown (mvT hZ (tw hw 178 rfl)) (own_decl (mvT hZ (tw hw 179 rfl)) (mvT hZ (tw hw 182 rfl))) (notFace_of_selects (args := #[]) (mvT hZ (tw hw 181 rfl))) (mvT hZ (tw hw 181 rfl)) (mvT hZ (tw hw 179 rfl)) (by decide) (backOf (W := 2) (r31_1 l Z a0 hw a1 p2 w3 k4 u5 p6 w7 h0 n0 Z0 H0 H1 H2 H4 H5 H6 H7) hZ (tw hw 182 rfl) (tw hw 38 rfl) (by decide) (by decide)) q12a q12c (g := (mkF m 24 #[vR a1, vI p2, vI (p6 >>> (w7 &&& 31))] [(.int p2), (.ref a1), (.ref w3), (.ref a1)])) rfl (by rw [hml]; rfl) (Steps.refl _) (argsL := [(.int p2)]) (rest := [(.ref w3), (.ref a1)]) (lenOf pd_15 rfl) rfl (own_w _) (hb hby d11_24) (fun _ _ => ⟨rfl, e11, (by decide : 0 + 0 ≤ _), (by decide : 0 + 0 ≤ _)⟩)
 dsimp only [Pt.U, Pt.locs, Pt.cells, Pt.slots] at X12 lq yq zq st12 hQ
 replace X12 := own_mvX X12 (a := 0) (b := 0) yq zq
 obtain ⟨rfl, Nq, e12⟩ := hQ
 have N12 := own_mvN lq N0 Nq
 obtain ⟨T13, X13, e13, st13⟩ := getF X12 hx hZ hown (host := "") (Or.inl (tw hw 46 rfl)) Via.refl e12 H2 (g := (mkF m 28 #[vR a1, vI p2, vI (p6 >>> (w7 &&& 31))] [(.ref a1), (.int ((p6 + (p6 + ((2 : Int32) <<< (w7 &&& 31)))) >>> (w7 &&& 31))), (.ref w3), (.ref a1)])) rfl rfl (hb hby d11_28)
 obtain ⟨_, _, ⟨T14, _, _, _⟩, -, X14, ⟨_, hQ, lq, yq, zq⟩, st14⟩ := Jvm.LawKit.callS X13 hx (y := mN25) hown (mvT hZ (tw hw 192 rfl)) (mvT hZ (tw hw 193 rfl)) (mvT hZ (tw hw 159 rfl)) (mvT hZ (tw hw 194 rfl)) (by decide) (backOf (W := 1) (r34_1 l Z a0 hw w3 (((p6 + (p6 + ((2 : Int32) <<< (w7 &&& 31)))) >>> (w7 &&& 31)) <<< (w7 &&& 31)) k4 u5 p6 h0 n0 Z0 H1 H9 H10 H11 H12 H13 H14 H15) hZ (tw hw 194 rfl) (tw hw 159 rfl) (by decide) (by decide)) (g := (mkF m 32 #[vR a1, vI p2, vI (p6 >>> (w7 &&& 31))] [(.int (((p6 + (p6 + ((2 : Int32) <<< (w7 &&& 31)))) >>> (w7 &&& 31)) <<< (w7 &&& 31))), (.ref w3), (.ref a1)])) rfl (by rw [hml]; rfl) (argsL := [(.ref w3), (.int (((p6 + (p6 + ((2 : Int32) <<< (w7 &&& 31)))) >>> (w7 &&& 31)) <<< (w7 &&& 31)))]) (rest := [(.ref a1)]) (lenOf pd_16 rfl) rfl (own_w _) (hb hby d11_32) (fun _ _ => ⟨rfl, e13, (by decide : 0 + 1 ≤ _), (by decide : 0 + 70 ≤ _)⟩)
 dsimp only [Pt.U, Pt.locs, Pt.cells, Pt.slots] at X14 lq yq zq st14 hQ
 replace X14 := own_mvX X14 (a := 1) (b := 70) yq zq
 obtain ⟨Nq, b14_0, k14_0, rfl, ge_b14_0, K14, o14_0, o14_1⟩ := hQ
 have N14 := own_mvN lq N12 Nq
 have KC14 := KSx.trans (KSx.refl h0 [(a1, Jvm.RoadKit.slotOf Z sK2 "value" "[B")] []) K14 ks0 all0
 have f15 := (H8.ks K14)
 have f16 := (H0.ks K14 ks0 all0)
 obtain ⟨T17, h17, X17, e17, W17, st17⟩ := putF X14 hx hZ hown (host := "") (Or.inl (tw hw 44 rfl)) Via.refl rfl f16 f15 (Or.inl (tw hw 45 rfl)) (tw hw 29 rfl) (ty := (.array .byte)) (by decide) rfl rfl (g := (mkF m 35 #[vR a1, vI p2, vI (p6 >>> (w7 &&& 31))] [(.ref b14_0), (.ref a1)])) rfl rfl (hb hby d11_35)
 have Fw17 := Fld.same W17 f16
 have KC17 := KSx.wr KC14 W17 (Or.inl (List.mem_of_getElem? (i := 0) rfl))
 have N17 := Fr.snoc X17 N14 H16
 have f18 := (o14_0.wr W17)
 have ne19 : a1 ≠ b14_0 := (Nat.ne_of_lt (Nat.lt_of_lt_of_le (H2).lt ge_b14_0))
 have f20 := (o14_1.other W17 (Ne.symm ne19))
 obtain ⟨fs, hr, hrun, hended, hW, hsame⟩ := X17.leave (v := none) (fun _ => rfl)
 refine ⟨_, _, pre0 _ ?_, hrun, hended, _, _, rfl, ?_, ⟨_, rfl⟩, hW, hsame.mono (by decide) (by decide)⟩
 · show SG p e below s₁ (mkF m 0 #[vR a1, vI p2, vU] []) _
   refine XS.aloadN X0.here hx rfl (hb hby d11_0) rfl rfl ?_
   show SG p e below s₁ (mkF m 1 #[vR a1, vI p2, vU] [(.ref a1)]) _
   refine st8 _ ?_
   show SG p e below T8 (mkF m 4 #[vR a1, vI p2, vU] [(.ref w3)]) _
   refine X8.arraylength hx (by rw [e8]; exact Ar9.1) (State.isArrayOf_alike hZ.alike Ar9.2.1) (g := (mkF m 4 #[vR a1, vI p2, vU] [(.ref w3)])) rfl rfl (hb hby d11_4) _ ?_
   rw [len_of S9 N9]
   show SG p e below T8 (mkF m 5 #[vR a1, vI p2, vU] [(.int p6)]) _
   refine XS.aloadN X8.here hx rfl (hb hby d11_5) rfl rfl ?_
   show SG p e below T8 (mkF m 6 #[vR a1, vI p2, vU] [(.ref a1), (.int p6)]) _
   refine st10 _ ?_
   show SG p e below T10 (mkF m 9 #[vR a1, vI p2, vU] [(.int w7), (.int p6)]) _
   refine XS.ishr X10.here hx rfl (hb hby d11_9) rfl ?_
   show SG p e below T10 (mkF m 10 #[vR a1, vI p2, vU] [(.int (p6 >>> (w7 &&& 31)))]) _
   refine XS.istoreN X10.here hx rfl (hb hby d11_10) rfl (l' := #[vR a1, vI p2, vI (p6 >>> (w7 &&& 31))]) rfl ?_
   show SG p e below T10 (mkF m 11 #[vR a1, vI p2, vI (p6 >>> (w7 &&& 31))] []) _
   refine XS.iloadN X10.here hx rfl (hb hby d11_11) rfl ?_
   refine XS.iloadN X10.here hx rfl (hb hby d11_12) rfl ?_
   show SG p e below T10 (mkF m 13 #[vR a1, vI p2, vI (p6 >>> (w7 &&& 31))] [(.int (p6 >>> (w7 &&& 31))), (.int p2)]) _
   refine XS.isub X10.here hx rfl (hb hby d11_13) rfl ?_
   show SG p e below T10 (mkF m 14 #[vR a1, vI p2, vI (p6 >>> (w7 &&& 31))] [(.int (p2 - (p6 >>> (w7 &&& 31))))]) _
   refine XS.ifNo X10.here hx rfl (hb hby d11_14) rfl ((if0 _ _).trans (tlt H3).2.2.2) ?_
   show SG p e below T10 (mkF m 17 #[vR a1, vI p2, vI (p6 >>> (w7 &&& 31))] []) _
   refine XS.aloadN X10.here hx rfl (hb hby d11_17) rfl rfl ?_
   refine XS.aloadN X10.here hx rfl (hb hby d11_18) rfl rfl ?_
   show SG p e below T10 (mkF m 19 #[vR a1, vI p2, vI (p6 >>> (w7 &&& 31))] [(.ref a1), (.ref a1)]) _
   refine st11 _ ?_
   show SG p e below T11 (mkF m 22 #[vR a1, vI p2, vI (p6 >>> (w7 &&& 31))] [(.ref w3), (.ref a1)]) _
   refine XS.aloadN X11.here hx rfl (hb hby d11_22) rfl rfl ?_
   refine XS.iloadN X11.here hx rfl (hb hby d11_23) rfl ?_
   show SG p e below T11 (mkF m 24 #[vR a1, vI p2, vI (p6 >>> (w7 &&& 31))] [(.int p2), (.ref a1), (.ref w3), (.ref a1)]) _
   refine st12.trans ?_
   show SG p e below T12 (mkF m 27 #[vR a1, vI p2, vI (p6 >>> (w7 &&& 31))] [(.int ((p6 + (p6 + ((2 : Int32) <<< (w7 &&& 31)))) >>> (w7 &&& 31))), (.ref w3), (.ref a1)]) _
   refine XS.aloadN X12.here hx rfl (hb hby d11_27) rfl rfl ?_
   show SG p e below T12 (mkF m 28 #[vR a1, vI p2, vI (p6 >>> (w7 &&& 31))] [(.ref a1), (.int ((p6 + (p6 + ((2 : Int32) <<< (w7 &&& 31)))) >>> (w7 &&& 31))), (.ref w3), (.ref a1)]) _
   refine st13 _ ?_
   show SG p e below T13 (mkF m 31 #[vR a1, vI p2, vI (p6 >>> (w7 &&& 31))] [(.int w7), (.int ((p6 + (p6 + ((2 : Int32) <<< (w7 &&& 31)))) >>> (w7 &&& 31))), (.ref w3), (.ref a1)]) _
   refine XS.ishl X13.here hx rfl (hb hby d11_31) rfl ?_
   show SG p e below T13 (mkF m 32 #[vR a1, vI p2, vI (p6 >>> (w7 &&& 31))] [(.int (((p6 + (p6 + ((2 : Int32) <<< (w7 &&& 31)))) >>> (w7 &&& 31)) <<< (w7 &&& 31))), (.ref w3), (.ref a1)]) _
   refine st14 _ ?_
   show SG p e below T14 (mkF m 35 #[vR a1, vI p2, vI (p6 >>> (w7 &&& 31))] [(.ref b14_0), (.ref a1)]) _
   refine st17 _ ?_
   show SG p e below T17 (mkF m 38 #[vR a1, vI p2, vI (p6 >>> (w7 &&& 31))] []) _
   exact X17.returnOut hx Bd.returns (hb hby d11_38) hr
 · show Qr11_2 Z a1 p2 w3 k4 u5 p6 w7 h0 n0 _ T17.heap _
   rw [e17]
   exact ⟨N17, b14_0, k14_0, rfl, (Nat.le_trans (KSx.refl h0 [(a1, Jvm.RoadKit.slotOf Z sK2 "value" "[B")] []).1 ge_b14_0), KC17, f18, Fw17, f20⟩
def Qr16_2 (Z : State) (a1 : Addr) (q2 : Int64) (w3 : Int32) (w4 : Addr) (k5 : ClassId) (u6 : Nat → Int32) (p7 : Int32) (w8 : Int32) (w9 : Int32) (w10 : Addr) (w11 : Addr) (k12 : ClassId) (u13 : Nat → Int32) (k14 : ClassId) (u15 : Nat → Int32) (h0 : Heap) (n0 : Nat) (v : Option Value) (h : Heap) (L : List Loc) : Prop := Fr n0 L ∧ ∃ b16_0 : Addr, ∃ k16_0 : ClassId, v = some (.ref a1) ∧ h0.size ≤ b16_0 ∧ KSx h0 h [(a1, Jvm.RoadKit.slotOf Z sK2 "value" "[B"), (a1, Jvm.RoadKit.slotOf Z sK2 "count" "I")] [] ∧ Exa Z h b16_0 "[B" ∧ Fld Z h a1 sK2 "count" "I" (.int (w3 + (SBG.strSizeOfL q2))) ∧ Fld Z h a1 sK2 "value" "[B" (.ref b16_0) ∧ BA Z h b16_0 k16_0 .byte (((p7 + (p7 + ((2 : Int32) <<< (w8 &&& 31)))) >>> (w8 &&& 31)) <<< (w8 &&& 31)) (SBG.ogc (decide (q2 < 0)) (q2).toInt.natAbs (SBG.digitsL (q2).toInt.natAbs) ((w3 + (SBG.strSizeOfL q2))).toNatClampNeg (fun i => if ((0 : Int32)).toNatClampNeg ≤ i ∧ i < ((0 : Int32)).toNatClampNeg + (p7).toNatClampNeg then u6 (((0 : Int32)).toNatClampNeg + (i - ((0 : Int32)).toNatClampNeg)) else (fun _ => (0 : Int32)) i))
theorem r16_2 (l : Launch) (Z : State) (a0 : Array Value) (hw : TW a0 Z) (a1 : Addr) (q2 : Int64) (w3 : Int32) (w4 : Addr) (k5 : ClassId) (u6 : Nat → Int32) (p7 : Int32) (w8 : Int32) (w9 : Int32) (w10 : Addr) (w11 : Addr) (k12 : ClassId) (u13 : Nat → Int32) (k14 : ClassId) (u15 : Nat → Int32) (h0 : Heap) (n0 : Nat) (Z0 : n0 ≤ h0.size) (H0 : Fld Z h0 a1 sK2 "count" "I" (.int w3)) (H1 : Fld Z h0 a1 sK2 "value" "[B" (.ref w4)) (H2 : BA Z h0 w4 k5 .byte p7 u6) (H3 : Fld Z h0 a1 sK2 "coder" "B" (.int w8)) (H4 : (0 : Int32) < ((w3 + (SBG.strSizeOfL q2)) - (p7 >>> (w8 &&& 31)))) (H5 : (((w3 + (SBG.strSizeOfL q2)) <<< (w8 &&& 31)) - p7) < (p7 + ((2 : Int32) <<< (w8 &&& 31)))) (H6 : (0 : Int32) < (p7 + (p7 + ((2 : Int32) <<< (w8 &&& 31))))) (H7 : ¬ ((2147483639 : Int32) < (p7 + (p7 + ((2 : Int32) <<< (w8 &&& 31)))))) (H8 : ¬ ((p7 + (p7 + ((2 : Int32) <<< (w8 &&& 31)))) = 2147483647)) (H9 : Exa Z h0 a1 sK4) (H10 : ¬ ((((p7 + (p7 + ((2 : Int32) <<< (w8 &&& 31)))) >>> (w8 &&& 31)) <<< (w8 &&& 31)) = p7)) (H11 : ¬ ((((p7 + (p7 + ((2 : Int32) <<< (w8 &&& 31)))) >>> (w8 &&& 31)) <<< (w8 &&& 31)) < 0)) (H12 : ¬ ((70 : Int32) < (((p7 + (p7 + ((2 : Int32) <<< (w8 &&& 31)))) >>> (w8 &&& 31)) <<< (w8 &&& 31)))) (H13 : ¬ ((((p7 + (p7 + ((2 : Int32) <<< (w8 &&& 31)))) >>> (w8 &&& 31)) <<< (w8 &&& 31)) < p7)) (H14 : ¬ (p7 < 0)) (H15 : ((0 : Int32)).toNatClampNeg + (p7).toNatClampNeg ≤ (p7).toNatClampNeg) (H16 : ((0 : Int32)).toNatClampNeg + (p7).toNatClampNeg ≤ ((((p7 + (p7 + ((2 : Int32) <<< (w8 &&& 31)))) >>> (w8 &&& 31)) <<< (w8 &&& 31))).toNatClampNeg) (H17 : n0 ≤ a1) (H18 : Sta Z h0 sK1 sK3 "Z" (.int w9)) (H19 : ¬ (w9 = 0)) (H20 : w8 = 0) (H21 : Sta Z h0 sK5 sK11 "[B" (.ref w10)) (H22 : Sta Z h0 sK5 sK12 "[B" (.ref w11)) (H23 : BA Z h0 w10 k12 .byte (100 : Int32) u13) (H24 : w10 ≠ a1) (H25 : BA Z h0 w11 k14 .byte (100 : Int32) u15) (H26 : w11 ≠ a1) (H27 : ¬ ((w3 + (SBG.strSizeOfL q2)) < 0)) (H28 : ((w3 + (SBG.strSizeOfL q2))).toNatClampNeg ≤ ((((p7 + (p7 + ((2 : Int32) <<< (w8 &&& 31)))) >>> (w8 &&& 31)) <<< (w8 &&& 31))).toNatClampNeg) (H29 : SBG.digitsL (q2).toInt.natAbs + (if q2 < 0 then 1 else 0) ≤ ((w3 + (SBG.strSizeOfL q2))).toNatClampNeg) (H30 : u13 = (fun r => Int32.ofNat (48 + r % 10))) (H31 : u15 = (fun r => Int32.ofNat (48 + r / 10))) (H32 : (Jvm.Cond.laysStatic sK5 sK11 "[B").before a0 Z = true) (H33 : (Jvm.Cond.laysStatic sK5 sK12 "[B").before a0 Z = true) :
   OMet l Z mN20 jdk_68_method_33_code 5 (some (.object sK2)) [] (Rm 4 1 70 102) h0 #[(.ref a1), (.long q2)] (Qr16_2 Z a1 q2 w3 w4 k5 u6 p7 w8 w9 w10 w11 k12 u13 k14 u15 h0 n0) := by
 refine MetFree.of_bodySF (plainFor_of_name pn_java_lang_AbstractStringBuilder) hisR ?_
 intro p e s m args below meth c s₁ Bd hml0 hP hK
 obtain ⟨rfl, hZ, hh⟩ := hP
 have hx := Bd.exec
 have hby := Bd.bytes
 have hml : c.maxLocals = 5 := hml0
 have hown : s.vm.findClass sK2 = some m.cls := findClass_of_methodNamed Bd.named
 have X0 := own_X0 Bd
 have e0 : s₁.heap = h0 := by rw [← hh, Bd.state]; rfl
 have N0 := Fr.nil n0
 have pre0 : ∀ t, Steps p.tables e below (s₁.setTop (mkF m 0 #[vR a1, vJ q2, vS, .unset, .unset] [])) t → Steps p.tables e below (s₁.setTop (entryFrame m #[(.ref a1), (.long q2)] 5)) t := fun t k => castTop (ef_16_vv m a1 q2) k
 obtain ⟨T16, X16, e16, st16⟩ := getF X0 hx hZ hown (host := "") (Or.inl (tw hw 77 rfl)) Via.refl e0 H0 (g := (mkF m 1 #[vR a1, vJ q2, vS, vU, vU] [(.ref a1)])) rfl rfl (hb hby d16_1)
 obtain ⟨_, _, ⟨T17, _, _, _⟩, -, X17, ⟨_, hQ, lq, yq, zq⟩, st17⟩ := Jvm.LawKit.callS X16 hx (y := mN18) hown (mvT hZ (tw hw 113 rfl)) (mvT hZ (tw hw 114 rfl)) (mvT hZ (tw hw 115 rfl)) (mvT hZ (tw hw 116 rfl)) (by decide) (backOf (W := 1) (own_ssL (l := l) (h0 := h0) (n0 := n0) (x := q2) (tw hw 116 rfl) (tw hw 117 rfl) (tw hw 177 rfl)) hZ (tw hw 116 rfl) (tw hw 115 rfl) (by decide) (by decide)) (g := (mkF m 7 #[vR a1, vJ q2, vS, vI w3, vU] [(.long q2), (.int w3)])) rfl (by rw [hml]; rfl) (argsL := [(.long q2)]) (rest := [(.int w3)]) (lenOf pd_10 rfl) rfl (own_w _) (hb hby d16_7) (fun _ _ => ⟨rfl, e16, (by decide : 0 + 0 ≤ _), (by decide : 0 + 0 ≤ _)⟩)
 dsimp only [Pt.U, Pt.locs, Pt.cells, Pt.slots] at X17 lq yq zq st17 hQ
 replace X17 := own_mvX X17 (a := 0) (b := 0) yq zq
 obtain ⟨rfl, Nq, e17⟩ := hQ
 have N17 := own_mvN lq N0 Nq
 obtain ⟨cq18, kq18, q18a, q18b, q18c⟩ := isOf hZ e17 H9
 obtain ⟨_, _, ⟨T18, _, _, _⟩, -, X18, ⟨_, hQ, lq, yq, zq⟩, st18⟩ := X17.virtualBack hx (y := mN8) (z := mN8) hown (mvT hZ (tw hw 79 rfl)) (own_decl (mvT hZ (tw hw 80 rfl)) (mvT hZ (tw hw 83 rfl))) (notFace_of_selects (args := #[]) (mvT hZ (tw hw 82 rfl))) (mvT hZ (tw hw 82 rfl)) (mvT hZ (tw hw 80 rfl)) (by decide) (backOf (W := 0) (r11_2 l Z a0 hw a1 (w3 + (SBG.strSizeOfL q2)) w4 k5 u6 p7 w8 h0 n0 Z0 H1 H2 H3 H4 H5 H6 H7 H8 H9 H10 H11 H12 H13 H14 H15 H16 H17) hZ (tw hw 83 rfl) (tw hw 38 rfl) (by decide) (by decide)) q18a q18c (g := (mkF m 16 (la0 a1 q2 w3) [(.int (w3 + (SBG.strSizeOfL q2))), (.ref a1)])) rfl (by rw [hml]; rfl) (Steps.refl _) (argsL := [(.int (w3 + (SBG.strSizeOfL q2)))]) (rest := []) (lenOf pd_11 rfl) rfl (own_w _) (hb hby d16_16) (fun _ _ => ⟨rfl, e17, (by decide : 0 + 1 ≤ _), (by decide : 0 + 70 ≤ _)⟩)
 dsimp only [Pt.U, Pt.locs, Pt.cells, Pt.slots] at X18 lq yq zq st18 hQ
 replace X18 := own_mvX X18 (a := 1) (b := 70) yq zq
 obtain ⟨Nq, b18_0, k18_0, rfl, ge_b18_0, K18, o18_0, o18_1, o18_2⟩ := hQ
 have N18 := own_mvN lq N17 Nq
 have KC18 := KSx.trans (KSx.refl h0 [(a1, Jvm.RoadKit.slotOf Z sK2 "value" "[B"), (a1, Jvm.RoadKit.slotOf Z sK2 "count" "I")] []) K18 (ksS (Or.inl (List.mem_of_getElem? (i := 0) rfl)) ks0) all0
 have f19 := (H18.ks K18)
 have f20 := (H3.ks K18 (ksS (Or.inr (slot_ne (Or.inl (tw hw 47 rfl)) (Or.inl (tw hw 45 rfl)) (by decide) (t := .byte) (t' := (.array .byte)) (by decide) (by decide))) ks0) all0)
 have Z18 : n0 ≤ T18.heap.size := Nat.le_trans Z0 K18.1
 have f21 := (H9.ks K18)
 obtain ⟨cq22, kq22, q22a, q22b, q22c⟩ := isOf hZ rfl f21
 obtain ⟨_, _, ⟨T22, _, _, _⟩, -, X22, ⟨_, hQ, lq, yq, zq⟩, st22⟩ := X18.virtualBack hx (y := mN10) (z := mN10) hown (mvT hZ (tw hw 118 rfl)) (mvT hZ (tw hw 119 rfl)) (notFace_of_selects (args := #[]) (mvT hZ (tw hw 121 rfl))) (mvT hZ (tw hw 121 rfl)) (mvT hZ (tw hw 120 rfl)) (by decide) (backOf (W := 0) (r18_1 l Z a0 hw a1 w9 w8 T18.heap n0 Z18 f19 H19 f20 H20) hZ (tw hw 122 rfl) (tw hw 38 rfl) (by decide) (by decide)) q22a q22c (g := (mkF m 20 (la0 a1 q2 w3) [(.ref a1)])) rfl (by rw [hml]; rfl) (Steps.refl _) (argsL := []) (rest := []) (lenOf pd_0 rfl) rfl (own_w _) (hb hby d16_20) (fun _ _ => ⟨rfl, rfl, (by decide : 1 + 0 ≤ _), (by decide : 70 + 0 ≤ _)⟩)
 dsimp only [Pt.U, Pt.locs, Pt.cells, Pt.slots] at X22 lq yq zq st22 hQ
 replace X22 := own_mvX X22 (a := 1) (b := 70) yq zq
 obtain ⟨rfl, Nq, e22⟩ := hQ
 have N22 := own_mvN lq N18 Nq
 obtain ⟨T23, X23, e23, st23⟩ := getF X22 hx hZ hown (host := "") (Or.inl (tw hw 44 rfl)) Via.refl e22 o18_1 (g := (mkF m 30 (la0 a1 q2 w3) [(.ref a1), (.int (w3 + (SBG.strSizeOfL q2))), (.long q2)])) rfl rfl (hb hby d16_30)
 have f24 := (H21.ks K18)
 have f25 := (H22.ks K18)
 have f26 := (H23.ks K18 (ksS H24 ks0) all0)
 have f27 := (H25.ks K18 (ksS H26 ks0) all0)
 have ne28 : w10 ≠ b18_0 := (Nat.ne_of_lt (Nat.lt_of_lt_of_le (H23).lt ge_b18_0))
 have ne29 : w11 ≠ b18_0 := (Nat.ne_of_lt (Nat.lt_of_lt_of_le (H25).lt ge_b18_0))
 have g30 : n0 ≤ b18_0 := Nat.le_trans Z0 ge_b18_0
 obtain ⟨_, _, ⟨T31, _, _, _⟩, -, X31, ⟨_, hQ, lq, yq, zq⟩, st31⟩ := Jvm.LawKit.callS X23 hx (y := mN19) hown (mvT hZ (tw hw 123 rfl)) (mvT hZ (tw hw 124 rfl)) (mvT hZ (tw hw 115 rfl)) (mvT hZ (tw hw 125 rfl)) (by decide) (backOf (W := 0) (own_gcL2 (l := l) (h0 := T18.heap) (n0 := n0) (x := q2) (j := (w3 + (SBG.strSizeOfL q2))) (tw hw 125 rfl) (tw hw 127 rfl) (tw hw 196 rfl) (tw hw 126 rfl) (tw hw 195 rfl) f24 f25 H32 H33 H30 f26 H31 f27 o18_2 (Ne.symm ne28) (Ne.symm ne29) g30 H27 H28 H29) hZ (tw hw 125 rfl) (tw hw 115 rfl) (by decide) (by decide)) (g := (mkF m 33 (la0 a1 q2 w3) [(.ref b18_0), (.int (w3 + (SBG.strSizeOfL q2))), (.long q2)])) rfl (by rw [hml]; rfl) (argsL := [(.long q2), (.int (w3 + (SBG.strSizeOfL q2))), (.ref b18_0)]) (rest := []) (lenOf pd_12 rfl) rfl (own_w _) (hb hby d16_33) (fun _ _ => ⟨rfl, e23, (by decide : 1 + 0 ≤ _), (by decide : 70 + 0 ≤ _)⟩)
 dsimp only [Pt.U, Pt.locs, Pt.cells, Pt.slots] at X31 lq yq zq st31 hQ
 replace X31 := own_mvX X31 (a := 1) (b := 70) yq zq
 obtain ⟨Nq, rfl, K31, o31_0⟩ := hQ
 have N31 := own_mvN lq N22 Nq
 have z32 : h0.size ≤ b18_0 := Nat.le_trans (KSx.refl h0 [(a1, Jvm.RoadKit.slotOf Z sK2 "value" "[B"), (a1, Jvm.RoadKit.slotOf Z sK2 "count" "I")] []).1 ge_b18_0
 have KC31 := KSx.trans KC18 K31 ks0 (allS (Or.inr z32) all0)
 have f33 := (f21.ks K31)
 have ne34 : a1 ≠ b18_0 := (Nat.ne_of_lt (Nat.lt_of_lt_of_le (H0).lt ge_b18_0))
 have f35 := ((H0.ks K18 (ksS (Or.inr (slot_ne (Or.inl (tw hw 78 rfl)) (Or.inl (tw hw 45 rfl)) (by decide) (t := .int) (t' := (.array .byte)) (by decide) (by decide))) ks0) all0).ks K31 ks0 (allS ne34 all0))
 obtain ⟨T36, h36, X36, e36, W36, st36⟩ := putF X31 hx hZ hown (host := "") (Or.inl (tw hw 77 rfl)) Via.refl rfl f35 f33 (Or.inl (tw hw 78 rfl)) (tw hw 29 rfl) (ty := .int) (by decide) rfl rfl (g := (mkF m 55 (la0 a1 q2 w3) [(.int (w3 + (SBG.strSizeOfL q2))), (.ref a1)])) rfl rfl (hb hby d16_55)
 have Fw36 := Fld.same W36 f35
 have KC36 := KSx.wr KC31 W36 (Or.inl (List.mem_of_getElem? (i := 1) rfl))
 have N36 := Fr.snoc X36 N31 H17
 have f37 := ((o18_0.ks K31).wr W36)
 have f38 := ((o18_1.ks K31 ks0 (allS ne34 all0)).other W36 (Or.inr (slot_ne (Or.inl (tw hw 45 rfl)) (Or.inl (tw hw 78 rfl)) (by decide) (t := (.array .byte)) (t' := .int) (by decide) (by decide))))
 have f39 := (o31_0.other W36 (Ne.symm ne34))
 obtain ⟨fs, hr, hrun, hended, hW, hsame⟩ := X36.leave (v := some (.ref a1)) (fun h => by rw [Bd.returns] at h; cases h)
 refine ⟨_, _, pre0 _ ?_, hrun, hended, _, _, rfl, ?_, ⟨_, rfl⟩, hW, hsame.mono (by decide) (by decide)⟩
 · show SG p e below s₁ (mkF m 0 #[vR a1, vJ q2, vS, vU, vU] []) _
   refine XS.aloadN X0.here hx rfl (hb hby d16_0) rfl rfl ?_
   show SG p e below s₁ (mkF m 1 #[vR a1, vJ q2, vS, vU, vU] [(.ref a1)]) _
   refine st16 _ ?_
   show SG p e below T16 (mkF m 4 #[vR a1, vJ q2, vS, vU, vU] [(.int w3)]) _
   refine XS.istoreN X16.here hx rfl (hb hby d16_4) rfl (l' := #[vR a1, vJ q2, vS, vI w3, vU]) rfl ?_
   show SG p e below T16 (mkF m 5 #[vR a1, vJ q2, vS, vI w3, vU] []) _
   refine XS.iloadN X16.here hx rfl (hb hby d16_5) rfl ?_
   refine XS.lloadN X16.here hx rfl (hb hby d16_6) rfl ?_
   show SG p e below T16 (mkF m 7 #[vR a1, vJ q2, vS, vI w3, vU] [(.long q2), (.int w3)]) _
   refine st17 _ ?_
   show SG p e below T17 (mkF m 10 #[vR a1, vJ q2, vS, vI w3, vU] [(.int (SBG.strSizeOfL q2)), (.int w3)]) _
   refine XS.iadd X17.here hx rfl (hb hby d16_10) rfl ?_
   show SG p e below T17 (mkF m 11 #[vR a1, vJ q2, vS, vI w3, vU] [(.int (w3 + (SBG.strSizeOfL q2)))]) _
   refine XS.istore X17.here hx rfl (hb hby d16_11) rfl (l' := #[vR a1, vJ q2, vS, vI w3, vI (w3 + (SBG.strSizeOfL q2))]) rfl ?_
   show SG p e below T17 (mkF m 13 (la0 a1 q2 w3) []) _
   refine XS.aloadN X17.here hx rfl (hb hby d16_13) rfl rfl ?_
   refine XS.iload X17.here hx rfl (hb hby d16_14) rfl ?_
   show SG p e below T17 (mkF m 16 (la0 a1 q2 w3) [(.int (w3 + (SBG.strSizeOfL q2))), (.ref a1)]) _
   refine st18.trans ?_
   show SG p e below T18 (mkF m 19 (la0 a1 q2 w3) []) _
   refine XS.aloadN X18.here hx rfl (hb hby d16_19) rfl rfl ?_
   show SG p e below T18 (mkF m 20 (la0 a1 q2 w3) [(.ref a1)]) _
   refine st22.trans ?_
   show SG p e below T22 (mkF m 23 (la0 a1 q2 w3) [(.int 1)]) _
   refine XS.ifNo X22.here hx rfl (hb hby d16_23) rfl ((if0 _ _).trans (feq (by decide : ¬ ((1 : Int32) = 0))).1) ?_
   show SG p e below T22 (mkF m 26 (la0 a1 q2 w3) []) _
   refine XS.lloadN X22.here hx rfl (hb hby d16_26) rfl ?_
   refine XS.iload X22.here hx rfl (hb hby d16_27) rfl ?_
   show SG p e below T22 (mkF m 29 (la0 a1 q2 w3) [(.int (w3 + (SBG.strSizeOfL q2))), (.long q2)]) _
   refine XS.aloadN X22.here hx rfl (hb hby d16_29) rfl rfl ?_
   show SG p e below T22 (mkF m 30 (la0 a1 q2 w3) [(.ref a1), (.int (w3 + (SBG.strSizeOfL q2))), (.long q2)]) _
   refine st23 _ ?_
   show SG p e below T23 (mkF m 33 (la0 a1 q2 w3) [(.ref b18_0), (.int (w3 + (SBG.strSizeOfL q2))), (.long q2)]) _
   refine st31 _ ?_
   show SG p e below T31 (mkF m 36 (la0 a1 q2 w3) [(.int (Int32.ofNat (((w3 + (SBG.strSizeOfL q2))).toNatClampNeg - (SBG.digitsL (q2).toInt.natAbs + (if q2 < 0 then 1 else 0)))))]) _
   refine XS.pop X31.here hx rfl (hb hby d16_36) rfl rfl ?_
   show SG p e below T31 (mkF m 37 (la0 a1 q2 w3) []) _
   refine XS.goto X31.here hx rfl (pc0 := 37) (pc' := 52) rfl (hb hby d16_37) (by decide) (by decide) ?_
   show SG p e below T31 (mkF m 52 (la0 a1 q2 w3) []) _
   refine XS.aloadN X31.here hx rfl (hb hby d16_52) rfl rfl ?_
   refine XS.iload X31.here hx rfl (hb hby d16_53) rfl ?_
   show SG p e below T31 (mkF m 55 (la0 a1 q2 w3) [(.int (w3 + (SBG.strSizeOfL q2))), (.ref a1)]) _
   refine st36 _ ?_
   show SG p e below T36 (mkF m 58 (la0 a1 q2 w3) []) _
   refine XS.aloadN X36.here hx rfl (hb hby d16_58) rfl rfl ?_
   show SG p e below T36 (mkF m 59 (la0 a1 q2 w3) [(.ref a1)]) _
   jvm_step X36.here [X36.here.top, hx, (hb hby d16_59), X36.method', Bd.returns, Value.isRef, FieldType.isReference]
   first | (intro acts; rw [hr _ acts rfl rfl rfl]) | rw [hr _ _ rfl rfl rfl]
   exact Steps.refl _
 · show Qr16_2 Z a1 q2 w3 w4 k5 u6 p7 w8 w9 w10 w11 k12 u13 k14 u15 h0 n0 _ T36.heap _
   rw [e36]
   exact ⟨N36, b18_0, k18_0, rfl, z32, KC36, f37, Fw36, f38, f39⟩
def Qr15_2 (Z : State) (a1 : Addr) (q2 : Int64) (w3 : Int32) (w4 : Addr) (k5 : ClassId) (u6 : Nat → Int32) (p7 : Int32) (w8 : Int32) (w9 : Int32) (w10 : Addr) (w11 : Addr) (k12 : ClassId) (u13 : Nat → Int32) (k14 : ClassId) (u15 : Nat → Int32) (h0 : Heap) (n0 : Nat) (v : Option Value) (h : Heap) (L : List Loc) : Prop := Fr n0 L ∧ ∃ b16_0 : Addr, ∃ k16_0 : ClassId, v = some (.ref a1) ∧ h0.size ≤ b16_0 ∧ KSx h0 h [(a1, Jvm.RoadKit.slotOf Z sK2 "count" "I"), (a1, Jvm.RoadKit.slotOf Z sK2 "value" "[B")] [] ∧ Exa Z h b16_0 "[B" ∧ Fld Z h a1 sK2 "count" "I" (.int (w3 + (SBG.strSizeOfL q2))) ∧ Fld Z h a1 sK2 "value" "[B" (.ref b16_0) ∧ BA Z h b16_0 k16_0 .byte (((p7 + (p7 + ((2 : Int32) <<< (w8 &&& 31)))) >>> (w8 &&& 31)) <<< (w8 &&& 31)) (SBG.ogc (decide (q2 < 0)) (q2).toInt.natAbs (SBG.digitsL (q2).toInt.natAbs) ((w3 + (SBG.strSizeOfL q2))).toNatClampNeg (fun i => if ((0 : Int32)).toNatClampNeg ≤ i ∧ i < ((0 : Int32)).toNatClampNeg + (p7).toNatClampNeg then u6 (((0 : Int32)).toNatClampNeg + (i - ((0 : Int32)).toNatClampNeg)) else (fun _ => (0 : Int32)) i))
theorem r15_2 (l : Launch) (Z : State) (a0 : Array Value) (hw : TW a0 Z) (a1 : Addr) (q2 : Int64) (w3 : Int32) (w4 : Addr) (k5 : ClassId) (u6 : Nat → Int32) (p7 : Int32) (w8 : Int32) (w9 : Int32) (w10 : Addr) (w11 : Addr) (k12 : ClassId) (u13 : Nat → Int32) (k14 : ClassId) (u15 : Nat → Int32) (h0 : Heap) (n0 : Nat) (Z0 : n0 ≤ h0.size) (H0 : Fld Z h0 a1 sK2 "count" "I" (.int w3)) (H1 : Fld Z h0 a1 sK2 "value" "[B" (.ref w4)) (H2 : BA Z h0 w4 k5 .byte p7 u6) (H3 : Fld Z h0 a1 sK2 "coder" "B" (.int w8)) (H4 : (0 : Int32) < ((w3 + (SBG.strSizeOfL q2)) - (p7 >>> (w8 &&& 31)))) (H5 : (((w3 + (SBG.strSizeOfL q2)) <<< (w8 &&& 31)) - p7) < (p7 + ((2 : Int32) <<< (w8 &&& 31)))) (H6 : (0 : Int32) < (p7 + (p7 + ((2 : Int32) <<< (w8 &&& 31))))) (H7 : ¬ ((2147483639 : Int32) < (p7 + (p7 + ((2 : Int32) <<< (w8 &&& 31)))))) (H8 : ¬ ((p7 + (p7 + ((2 : Int32) <<< (w8 &&& 31)))) = 2147483647)) (H9 : Exa Z h0 a1 sK4) (H10 : ¬ ((((p7 + (p7 + ((2 : Int32) <<< (w8 &&& 31)))) >>> (w8 &&& 31)) <<< (w8 &&& 31)) = p7)) (H11 : ¬ ((((p7 + (p7 + ((2 : Int32) <<< (w8 &&& 31)))) >>> (w8 &&& 31)) <<< (w8 &&& 31)) < 0)) (H12 : ¬ ((70 : Int32) < (((p7 + (p7 + ((2 : Int32) <<< (w8 &&& 31)))) >>> (w8 &&& 31)) <<< (w8 &&& 31)))) (H13 : ¬ ((((p7 + (p7 + ((2 : Int32) <<< (w8 &&& 31)))) >>> (w8 &&& 31)) <<< (w8 &&& 31)) < p7)) (H14 : ¬ (p7 < 0)) (H15 : ((0 : Int32)).toNatClampNeg + (p7).toNatClampNeg ≤ (p7).toNatClampNeg) (H16 : ((0 : Int32)).toNatClampNeg + (p7).toNatClampNeg ≤ ((((p7 + (p7 + ((2 : Int32) <<< (w8 &&& 31)))) >>> (w8 &&& 31)) <<< (w8 &&& 31))).toNatClampNeg) (H17 : n0 ≤ a1) (H18 : Sta Z h0 sK1 sK3 "Z" (.int w9)) (H19 : ¬ (w9 = 0)) (H20 : w8 = 0) (H21 : Sta Z h0 sK5 sK11 "[B" (.ref w10)) (H22 : Sta Z h0 sK5 sK12 "[B" (.ref w11)) (H23 : BA Z h0 w10 k12 .byte (100 : Int32) u13) (H24 : w10 ≠ a1) (H25 : BA Z h0 w11 k14 .byte (100 : Int32) u15) (H26 : w11 ≠ a1) (H27 : ¬ ((w3 + (SBG.strSizeOfL q2)) < 0)) (H28 : ((w3 + (SBG.strSizeOfL q2))).toNatClampNeg ≤ ((((p7 + (p7 + ((2 : Int32) <<< (w8 &&& 31)))) >>> (w8 &&& 31)) <<< (w8 &&& 31))).toNatClampNeg) (H29 : SBG.digitsL (q2).toInt.natAbs + (if q2 < 0 then 1 else 0) ≤ ((w3 + (SBG.strSizeOfL q2))).toNatClampNeg) (H30 : u13 = (fun r => Int32.ofNat (48 + r % 10))) (H31 : u15 = (fun r => Int32.ofNat (48 + r / 10))) (H32 : (Jvm.Cond.laysStatic sK5 sK11 "[B").before a0 Z = true) (H33 : (Jvm.Cond.laysStatic sK5 sK12 "[B").before a0 Z = true) :
   OMet l Z mN21 jdk_67_method_16_code 3 (some (.object sK4)) [] (Rm 5 1 70 118) h0 #[(.ref a1), (.long q2)] (Qr15_2 Z a1 q2 w3 w4 k5 u6 p7 w8 w9 w10 w11 k12 u13 k14 u15 h0 n0) := by
 refine MetFree.of_bodySF (plainFor_of_name pn_java_lang_StringBuilder) hisR ?_
 intro p e s m args below meth c s₁ Bd hml0 hP hK
 obtain ⟨rfl, hZ, hh⟩ := hP
 have hx := Bd.exec
 have hby := Bd.bytes
 have hml : c.maxLocals = 3 := hml0
 have hown : s.vm.findClass sK4 = some m.cls := findClass_of_methodNamed Bd.named
 have X0 := own_X0 Bd
 have e0 : s₁.heap = h0 := by rw [← hh, Bd.state]; rfl
 have N0 := Fr.nil n0
 have pre0 : ∀ t, Steps p.tables e below (s₁.setTop (mkF m 0 #[vR a1, vJ q2, vS] [])) t → Steps p.tables e below (s₁.setTop (entryFrame m #[(.ref a1), (.long q2)] 3)) t := fun t k => castTop (ef_15_vv m a1 q2) k
 obtain ⟨_, _, ⟨T16, _, _, _⟩, -, X16, ⟨_, hQ, lq, yq, zq⟩, st16⟩ := superBack X0 hx hZ (y := mN20) hown (tw hw 109 rfl) (own_same (y := mN20) (by decide) (tw hw 110 rfl) (own_nf (args := a0) (w := mN8) rfl (tw hw 82 rfl))) (tw hw 110 rfl) (tw hw 61 rfl) (by decide) (backOf (W := 0) (r16_2 l Z a0 hw a1 q2 w3 w4 k5 u6 p7 w8 w9 w10 w11 k12 u13 k14 u15 h0 n0 Z0 H0 H1 H2 H3 H4 H5 H6 H7 H8 H9 H10 H11 H12 H13 H14 H15 H16 H17 H18 H19 H20 H21 H22 H23 H24 H25 H26 H27 H28 H29 H30 H31 H32 H33) hZ (tw hw 112 rfl) (tw hw 38 rfl) (by decide) (by decide)) e0 (Ins.self H9) (g := (mkF m 2 #[vR a1, vJ q2, vS] [(.long q2), (.ref a1)])) rfl (by rw [hml]; rfl) (tw hw 112 rfl) (argsL := [(.long q2)]) (rest := []) (lenOf pd_13 rfl) rfl (own_w _) (hb hby d15_2) (fun _ _ => ⟨rfl, e0, (by decide : 0 + 1 ≤ _), (by decide : 0 + 70 ≤ _)⟩)
 dsimp only [Pt.U, Pt.locs, Pt.cells, Pt.slots] at X16 lq yq zq st16 hQ
 replace X16 := own_mvX X16 (a := 1) (b := 70) yq zq
 obtain ⟨Nq, b16_0, k16_0, rfl, ge_b16_0, K16, o16_0, o16_1, o16_2, o16_3⟩ := hQ
 have N16 := own_mvN lq N0 Nq
 have KC16 := KSx.trans (KSx.refl h0 [(a1, Jvm.RoadKit.slotOf Z sK2 "count" "I"), (a1, Jvm.RoadKit.slotOf Z sK2 "value" "[B")] []) K16 (ksS (Or.inl (List.mem_of_getElem? (i := 1) rfl)) (ksS (Or.inl (List.mem_of_getElem? (i := 0) rfl)) ks0)) all0
 obtain ⟨fs, hr, hrun, hended, hW, hsame⟩ := X16.leave (v := some (.ref a1)) (fun h => by rw [Bd.returns] at h; cases h)
 refine ⟨_, _, pre0 _ ?_, hrun, hended, _, _, rfl, ?_, ⟨_, rfl⟩, hW, hsame.mono (by decide) (by decide)⟩
 · show SG p e below s₁ (mkF m 0 #[vR a1, vJ q2, vS] []) _
   refine XS.aloadN X0.here hx rfl (hb hby d15_0) rfl rfl ?_
   refine XS.lloadN X0.here hx rfl (hb hby d15_1) rfl ?_
   show SG p e below s₁ (mkF m 2 #[vR a1, vJ q2, vS] [(.long q2), (.ref a1)]) _
   refine st16.trans ?_
   show SG p e below T16 (mkF m 5 #[vR a1, vJ q2, vS] [(.ref a1)]) _
   refine XS.pop X16.here hx rfl (hb hby d15_5) rfl rfl ?_
   show SG p e below T16 (mkF m 6 #[vR a1, vJ q2, vS] []) _
   refine XS.aloadN X16.here hx rfl (hb hby d15_6) rfl rfl ?_
   show SG p e below T16 (mkF m 7 #[vR a1, vJ q2, vS] [(.ref a1)]) _
   jvm_step X16.here [X16.here.top, hx, (hb hby d15_7), X16.method', Bd.returns, Value.isRef, FieldType.isReference]
   first | (intro acts; rw [hr _ acts rfl rfl rfl]) | rw [hr _ _ rfl rfl rfl]
   exact Steps.refl _
 · show Qr15_2 Z a1 q2 w3 w4 k5 u6 p7 w8 w9 w10 w11 k12 u13 k14 u15 h0 n0 _ T16.heap _
   exact ⟨N16, b16_0, k16_0, rfl, (Nat.le_trans (KSx.refl h0 [(a1, Jvm.RoadKit.slotOf Z sK2 "count" "I"), (a1, Jvm.RoadKit.slotOf Z sK2 "value" "[B")] []).1 ge_b16_0), KC16, o16_0, o16_1, o16_2, o16_3⟩
def OQa (Z : State) (a b : Addr) (v : Int64) (n : Int32) (f : Nat → Int32) (h0 : Heap) (n0 : Nat) (v' : Option Value) (h : Heap) (L : List Loc) : Prop := Fr n0 L ∧ ∃ b' : Addr, ∃ k' : ClassId, v' = some (.ref a) ∧ (b' = b ∨ h0.size ≤ b') ∧ KSx h0 h [(a, Jvm.RoadKit.slotOf Z sK2 "count" "I"), (a, Jvm.RoadKit.slotOf Z sK2 "value" "[B")] [b] ∧ Exa Z h b' "[B" ∧ Fld Z h a sK2 "count" "I" (.int (n + (SBG.strSizeOfL v))) ∧ Fld Z h a sK2 "value" "[B" (.ref b') ∧ BA Z h b' k' .byte (oz16 n v) (SBG.ogc (decide (v < 0)) (v).toInt.natAbs (SBG.digitsL (v).toInt.natAbs) ((n + (SBG.strSizeOfL v))).toNatClampNeg (fun i => if i < 16 then f i else 0))
theorem own_apJ (l : Launch) (Z : State) (a0 : Array Value) (hw : TW a0 Z) (a : Addr) (v : Int64) (n : Int32) (b : Addr) (k : ClassId) (f : Nat → Int32) (wc wS : Int32) (d1 d2 : Addr) (k1 : ClassId) (u1 : Nat → Int32) (k2 : ClassId) (u2 : Nat → Int32) (h0 : Heap) (n0 : Nat) (Z0 : n0 ≤ h0.size) (H0 : Fld Z h0 a sK2 "count" "I" (.int n)) (H1 : Fld Z h0 a sK2 "value" "[B" (.ref b)) (H2 : BA Z h0 b k .byte (16 : Int32) f) (H3 : Fld Z h0 a sK2 "coder" "B" (.int wc)) (H4 : Exa Z h0 a sK4) (H5 : Sta Z h0 sK1 sK3 "Z" (.int wS)) (H6 : ¬ (wS = 0)) (H7 : wc = 0) (H8 : Sta Z h0 sK5 sK11 "[B" (.ref d1)) (H9 : Sta Z h0 sK5 sK12 "[B" (.ref d2)) (H10 : BA Z h0 d1 k1 .byte (100 : Int32) u1) (H11 : BA Z h0 d2 k2 .byte (100 : Int32) u2) (H12 : b ≠ d1) (H13 : b ≠ d2) (H14 : n0 ≤ b) (H15 : u1 = (fun r => Int32.ofNat (48 + r % 10))) (H16 : u2 = (fun r => Int32.ofNat (48 + r / 10))) (H17 : (Jvm.Cond.laysStatic sK5 sK11 "[B").before a0 Z = true) (H18 : (Jvm.Cond.laysStatic sK5 sK12 "[B").before a0 Z = true) (H19 : a ≠ b) (H20 : n0 ≤ a) (H21 : d1 ≠ a) (H22 : d2 ≠ a) (H23 : Exa Z h0 b "[B") (H24 : ¬ (n < 0)) (H25 : (n).toNatClampNeg ≤ 12) :
   OMet l Z mN21 jdk_67_method_16_code 3 (some (.object sK4)) [] (Rm 5 1 70 118) h0 #[(.ref a), (.long v)] (OQa Z a b v n f h0 n0) := by
 have hsz := oszL_le v
 have en : n = Int32.ofNat n.toNatClampNeg := own_ofNat H24
 have es : n + SBG.strSizeOfL v = Int32.ofNat (n.toNatClampNeg + oszL v) := by rw [own_ssxL, ← own_add, ← en]
 have hcl : (n + SBG.strSizeOfL v).toNatClampNeg = n.toNatClampNeg + oszL v := by rw [es, own_cl (by omega)]
 have hx := H25
 have hosz : SBG.digitsL (v).toInt.natAbs + (if v < 0 then 1 else 0) = oszL v := rfl
 have hc0 := H7
 subst hc0
 by_cases hg : n.toNatClampNeg + oszL v ≤ 16
 · refine own_imp (r15_1 l Z a0 hw a v n b k f (16 : Int32) (0 : Int32) wS d1 d2 k1 u1 k2 u2 h0 n0 Z0 H0 H1 H2 H3 (by rw [own_ishr0, es]; exact own_g1 hg) H4 H5 H6 (by decide) H8 H9 H10 H11 H12 H13 H14 (by rw [es]; exact own_n0 (by omega)) (by rw [hcl]; exact hg) (by rw [hcl, hosz]; omega) H15 H16 H17 H18 H19 H20 (Ne.symm H19)) fun v' h L q => ?_
   obtain ⟨N, e, K, Fc, B⟩ := q
   exact ⟨N, b, k, e, Or.inl rfl, KSx.more K (fun p hp => List.mem_cons.mpr (Or.inl (List.mem_singleton.mp hp))) (fun p hp => hp), (H23).ks K, Fc, (H1).ks K (ksS (Or.inr (slot_ne (Or.inl (tw hw 45 rfl)) (Or.inl (tw hw 78 rfl)) (by decide) (t := .array .byte) (t' := .int) (by decide) (by decide))) ks0) (allS H19 all0), by
     rw [show oz16 n v = 16 from if_pos hg]
     refine B.congr fun i hi => ?_
     exact own_gcc (if_pos hi).symm⟩
 · refine own_imp (r15_2 l Z a0 hw a v n b k f (16 : Int32) (0 : Int32) wS d1 d2 k1 u1 k2 u2 h0 n0 Z0 H0 H1 H2 H3 (by rw [own_ishr0, es]; exact own_g5 (by omega) (by omega)) (by rw [own_ishl0, own_ishl0, es]; exact own_g6 (by omega) (by omega)) (by decide) (by decide) (by decide) H4 (by decide) (by decide) (by decide) (by decide) (by decide) (by decide) (by decide) H20 H5 H6 (by decide) H8 H9 H10 H21 H11 H22 (by rw [es]; exact own_n0 (by omega)) (by rw [hcl]; show _ ≤ (34 : Int32).toNatClampNeg; show _ ≤ 34; omega) (by rw [hcl, hosz]; omega) H15 H16 H17 H18) fun v' h L q => ?_
   obtain ⟨N, b', k', e, ge, K, Eb, Fc, Fv, B⟩ := q
   exact ⟨N, b', k', e, Or.inr ge, KSx.more K (fun p hp => hp) (fun p hp => nomatch hp), Eb, Fc, Fv, by
     rw [show oz16 n v = 34 from if_neg hg]
     refine (own_bz (show _ = (34 : Int32) from by decide) B).congr fun i hi => ?_
     refine own_gcc ?_
     simp only [own_c0', own_c16', Nat.zero_le, Nat.zero_add, Nat.sub_zero, true_and]⟩
def OQab (Z : State) (a b : Addr) (v : Int64) (n : Int32) (f : Nat → Int32) (h0 : Heap) (n0 : Nat) (v' : Option Value) (h : Heap) (L : List Loc) : Prop := Fr n0 L ∧ ∃ b' : Addr, ∃ k' : ClassId, v' = some (.ref a) ∧ (b' = b ∨ h0.size ≤ b') ∧ KSx h0 h [(a, Jvm.RoadKit.slotOf Z sK2 "count" "I"), (a, Jvm.RoadKit.slotOf Z sK2 "value" "[B")] [b] ∧ Exa Z h b' "[B" ∧ Fld Z h a sK2 "count" "I" (.int (n + (SBG.strSizeOfL v))) ∧ Fld Z h a sK2 "value" "[B" (.ref b') ∧ BA Z h b' k' .byte (oz34 n v) (SBG.ogc (decide (v < 0)) (v).toInt.natAbs (SBG.digitsL (v).toInt.natAbs) ((n + (SBG.strSizeOfL v))).toNatClampNeg (fun i => if i < 34 then f i else 0))
theorem own_apJb (l : Launch) (Z : State) (a0 : Array Value) (hw : TW a0 Z) (a : Addr) (v : Int64) (n : Int32) (b : Addr) (k : ClassId) (f : Nat → Int32) (wc wS : Int32) (d1 d2 : Addr) (k1 : ClassId) (u1 : Nat → Int32) (k2 : ClassId) (u2 : Nat → Int32) (h0 : Heap) (n0 : Nat) (Z0 : n0 ≤ h0.size) (H0 : Fld Z h0 a sK2 "count" "I" (.int n)) (H1 : Fld Z h0 a sK2 "value" "[B" (.ref b)) (H2 : BA Z h0 b k .byte (34 : Int32) f) (H3 : Fld Z h0 a sK2 "coder" "B" (.int wc)) (H4 : Exa Z h0 a sK4) (H5 : Sta Z h0 sK1 sK3 "Z" (.int wS)) (H6 : ¬ (wS = 0)) (H7 : wc = 0) (H8 : Sta Z h0 sK5 sK11 "[B" (.ref d1)) (H9 : Sta Z h0 sK5 sK12 "[B" (.ref d2)) (H10 : BA Z h0 d1 k1 .byte (100 : Int32) u1) (H11 : BA Z h0 d2 k2 .byte (100 : Int32) u2) (H12 : b ≠ d1) (H13 : b ≠ d2) (H14 : n0 ≤ b) (H15 : u1 = (fun r => Int32.ofNat (48 + r % 10))) (H16 : u2 = (fun r => Int32.ofNat (48 + r / 10))) (H17 : (Jvm.Cond.laysStatic sK5 sK11 "[B").before a0 Z = true) (H18 : (Jvm.Cond.laysStatic sK5 sK12 "[B").before a0 Z = true) (H19 : a ≠ b) (H20 : n0 ≤ a) (H21 : d1 ≠ a) (H22 : d2 ≠ a) (H23 : Exa Z h0 b "[B") (H24 : ¬ (n < 0)) (H25 : (n).toNatClampNeg ≤ 17) :
   OMet l Z mN21 jdk_67_method_16_code 3 (some (.object sK4)) [] (Rm 5 1 70 118) h0 #[(.ref a), (.long v)] (OQab Z a b v n f h0 n0) := by
 have hsz := oszL_le v
 have en : n = Int32.ofNat n.toNatClampNeg := own_ofNat H24
 have es : n + SBG.strSizeOfL v = Int32.ofNat (n.toNatClampNeg + oszL v) := by rw [own_ssxL, ← own_add, ← en]
 have hcl : (n + SBG.strSizeOfL v).toNatClampNeg = n.toNatClampNeg + oszL v := by rw [es, own_cl (by omega)]
 have hx := H25
 have hosz : SBG.digitsL (v).toInt.natAbs + (if v < 0 then 1 else 0) = oszL v := rfl
 have hc0 := H7
 subst hc0
 by_cases hg : n.toNatClampNeg + oszL v ≤ 34
 · refine own_imp (r15_1 l Z a0 hw a v n b k f (34 : Int32) (0 : Int32) wS d1 d2 k1 u1 k2 u2 h0 n0 Z0 H0 H1 H2 H3 (by rw [own_ishr0, es]; exact own_g1b hg) H4 H5 H6 (by decide) H8 H9 H10 H11 H12 H13 H14 (by rw [es]; exact own_n0 (by omega)) (by rw [hcl]; exact hg) (by rw [hcl, hosz]; omega) H15 H16 H17 H18 H19 H20 (Ne.symm H19)) fun v' h L q => ?_
   obtain ⟨N, e, K, Fc, B⟩ := q
   exact ⟨N, b, k, e, Or.inl rfl, KSx.more K (fun p hp => List.mem_cons.mpr (Or.inl (List.mem_singleton.mp hp))) (fun p hp => hp), (H23).ks K, Fc, (H1).ks K (ksS (Or.inr (slot_ne (Or.inl (tw hw 45 rfl)) (Or.inl (tw hw 78 rfl)) (by decide) (t := .array .byte) (t' := .int) (by decide) (by decide))) ks0) (allS H19 all0), by
     rw [show oz34 n v = 34 from if_pos hg]
     refine B.congr fun i hi => ?_
     exact own_gcc (if_pos hi).symm⟩
 · refine own_imp (r15_2 l Z a0 hw a v n b k f (34 : Int32) (0 : Int32) wS d1 d2 k1 u1 k2 u2 h0 n0 Z0 H0 H1 H2 H3 (by rw [own_ishr0, es]; exact own_g5b (by omega) (by omega)) (by rw [own_ishl0, own_ishl0, es]; exact own_g6b (by omega) (by omega)) (by decide) (by decide) (by decide) H4 (by decide) (by decide) (by decide) (by decide) (by decide) (by decide) (by decide) H20 H5 H6 (by decide) H8 H9 H10 H21 H11 H22 (by rw [es]; exact own_n0 (by omega)) (by rw [hcl]; show _ ≤ (70 : Int32).toNatClampNeg; show _ ≤ 70; omega) (by rw [hcl, hosz]; omega) H15 H16 H17 H18) fun v' h L q => ?_
   obtain ⟨N, b', k', e, ge, K, Eb, Fc, Fv, B⟩ := q
   exact ⟨N, b', k', e, Or.inr ge, KSx.more K (fun p hp => hp) (fun p hp => nomatch hp), Eb, Fc, Fv, by
     rw [show oz34 n v = 70 from if_neg hg]
     refine (own_bz (show _ = (70 : Int32) from by decide) B).congr fun i hi => ?_
     refine own_gcc ?_
     simp only [own_c0', own_c34', Nat.zero_le, Nat.zero_add, Nat.sub_zero, true_and]⟩
theorem d30_0 : Dc rev24 0 (.lload_n 2) 1 := by decide +kernel
theorem d30_1 : Dc rev24 1 (.lconst 0) 1 := by decide +kernel
theorem d30_2 : Dc rev24 2 .lcmp 1 := by decide +kernel
theorem d30_3 : Dc rev24 3 (.ifCond .ne 7) 3 := by decide +kernel
theorem d30_6 : Dc rev24 6 (.lconst 0) 1 := by decide +kernel
theorem d30_7 : Dc rev24 7 (.goto 10) 3 := by decide +kernel
theorem d30_17 : Dc rev24 17 .lreturn 1 := by decide +kernel
theorem pn_com_example_eta4_eta4_bench_ThroughputFigures : plainName "com/example/eta4/eta4/bench/ThroughputFigures" = true := by first | (simp [plainName, overriddenIn]; done) | decide +kernel
theorem ef_30_vv (m : MethodId) (x0 : Int64) (x1 : Int64) : entryFrame m #[(.long x0), (.long x1)] 4 = mkF m 0 #[.val (.long x0), .second, .val (.long x1), .second] [] := by first | (simp [entryFrame, mkF, argsToLocals, Value.category]; done) | rfl
theorem r30_1 (l : Launch) (Z : State) (a0 : Array Value) (hw : TW a0 Z) (q1 : Int64) (q2 : Int64) (h0 : Heap) (n0 : Nat) (Z0 : n0 ≤ h0.size) (H0 : (lcmpW q2 (0 : Int64)) = 0) :
   OMet l Z mN26 prog_5_method_3_code 4 (some .long) [] (Rm 0 0 0 0) h0 #[(.long q1), (.long q2)] (OQp (some (.long 0)) h0 n0) := by
 refine MetFree.of_bodySF (plainFor_of_name pn_com_example_eta4_eta4_bench_ThroughputFigures) hisR ?_
 intro p e s m args below meth c s₁ Bd hml0 hP hK
 obtain ⟨rfl, hZ, hh⟩ := hP
 have hx := Bd.exec
 have hby := Bd.bytes
 have hml : c.maxLocals = 4 := hml0
 have hown : s.vm.findClass sK6 = some m.cls := findClass_of_methodNamed Bd.named
 have X0 := own_X0 Bd
 have e0 : s₁.heap = h0 := by rw [← hh, Bd.state]; rfl
 have N0 := Fr.nil n0
 have pre0 : ∀ t, Steps p.tables e below (s₁.setTop (mkF m 0 #[vJ q1, vS, vJ q2, vS] [])) t → Steps p.tables e below (s₁.setTop (entryFrame m #[(.long q1), (.long q2)] 4)) t := fun t k => castTop (ef_30_vv m q1 q2) k

 obtain ⟨fs, hr, hrun, hended, hW, hsame⟩ := X0.leave (v := some (.long 0)) (fun h => by rw [Bd.returns] at h; cases h)
 refine ⟨_, _, pre0 _ ?_, hrun, hended, _, _, rfl, ?_, ⟨_, rfl⟩, hW, hsame.mono (by decide) (by decide)⟩
 · show SG p e below s₁ (mkF m 0 #[vJ q1, vS, vJ q2, vS] []) _
   refine XS.lloadN X0.here hx rfl (hb hby d30_0) rfl ?_
   refine XS.lconst X0.here hx rfl (hb hby d30_1) ?_
   show SG p e below s₁ (mkF m 2 #[vJ q1, vS, vJ q2, vS] [(.long 0), (.long q2)]) _
   refine XS.lcmp X0.here hx rfl (hb hby d30_2) rfl ?_
   show SG p e below s₁ (mkF m 3 #[vJ q1, vS, vJ q2, vS] [(.int (lcmpW q2 (0 : Int64)))]) _
   refine XS.ifNo X0.here hx rfl (hb hby d30_3) rfl ((if0 _ _).trans (teq H0).2) ?_
   show SG p e below s₁ (mkF m 6 #[vJ q1, vS, vJ q2, vS] []) _
   refine XS.lconst X0.here hx rfl (hb hby d30_6) ?_
   refine XS.goto X0.here hx rfl (pc0 := 7) (pc' := 17) rfl (hb hby d30_7) (by decide) (by decide) ?_
   show SG p e below s₁ (mkF m 17 #[vJ q1, vS, vJ q2, vS] [(.long 0)]) _
   jvm_step X0.here [X0.here.top, hx, (hb hby d30_17), X0.method', Bd.returns, narrow]
   first | (intro acts; rw [hr _ acts rfl rfl rfl]) | rw [hr _ _ rfl rfl rfl]
   exact Steps.refl _
 · show OQp (some (.long 0)) h0 n0 _ s₁.heap _
   rw [e0]
   exact ⟨rfl, N0, rfl⟩
theorem d30_10 : Dc rev24 10 (.lload_n 0) 1 := by decide +kernel
theorem d30_11 : Dc rev24 11 (.ldc2_w 54) 3 := by decide +kernel
theorem d30_14 : Dc rev24 14 .lmul 1 := by decide +kernel
theorem d30_15 : Dc rev24 15 (.lload_n 2) 1 := by decide +kernel
theorem d30_16 : Dc rev24 16 .ldiv 1 := by decide +kernel
theorem r30_2 (l : Launch) (Z : State) (a0 : Array Value) (hw : TW a0 Z) (q1 : Int64) (q2 : Int64) (h0 : Heap) (n0 : Nat) (Z0 : n0 ≤ h0.size) (H0 : ¬ ((lcmpW q2 (0 : Int64)) = 0)) (H1 : ¬ (q2 = 0)) :
   OMet l Z mN26 prog_5_method_3_code 4 (some .long) [] (Rm 0 0 0 0) h0 #[(.long q1), (.long q2)] (OQp (some (.long ((q1 * 1000000000) / q2))) h0 n0) := by
 refine MetFree.of_bodySF (plainFor_of_name pn_com_example_eta4_eta4_bench_ThroughputFigures) hisR ?_
 intro p e s m args below meth c s₁ Bd hml0 hP hK
 obtain ⟨rfl, hZ, hh⟩ := hP
 have hx := Bd.exec
 have hby := Bd.bytes
 have hml : c.maxLocals = 4 := hml0
 have hown : s.vm.findClass sK6 = some m.cls := findClass_of_methodNamed Bd.named
 have X0 := own_X0 Bd
 have e0 : s₁.heap = h0 := by rw [← hh, Bd.state]; rfl
 have N0 := Fr.nil n0
 have pre0 : ∀ t, Steps p.tables e below (s₁.setTop (mkF m 0 #[vJ q1, vS, vJ q2, vS] [])) t → Steps p.tables e below (s₁.setTop (entryFrame m #[(.long q1), (.long q2)] 4)) t := fun t k => castTop (ef_30_vv m q1 q2) k

 obtain ⟨fs, hr, hrun, hended, hW, hsame⟩ := X0.leave (v := some (.long ((q1 * 1000000000) / q2))) (fun h => by rw [Bd.returns] at h; cases h)
 refine ⟨_, _, pre0 _ ?_, hrun, hended, _, _, rfl, ?_, ⟨_, rfl⟩, hW, hsame.mono (by decide) (by decide)⟩
 · show SG p e below s₁ (mkF m 0 #[vJ q1, vS, vJ q2, vS] []) _
   refine XS.lloadN X0.here hx rfl (hb hby d30_0) rfl ?_
   refine XS.lconst X0.here hx rfl (hb hby d30_1) ?_
   show SG p e below s₁ (mkF m 2 #[vJ q1, vS, vJ q2, vS] [(.long 0), (.long q2)]) _
   refine XS.lcmp X0.here hx rfl (hb hby d30_2) rfl ?_
   show SG p e below s₁ (mkF m 3 #[vJ q1, vS, vJ q2, vS] [(.int (lcmpW q2 (0 : Int64)))]) _
   refine XS.ifYes X0.here hx rfl (pc0 := 3) (pc' := 10) rfl (hb hby d30_3) rfl ((if0 _ _).trans (feq H0).2) (by decide) (by decide) ?_
   show SG p e below s₁ (mkF m 10 #[vJ q1, vS, vJ q2, vS] []) _
   refine XS.lloadN X0.here hx rfl (hb hby d30_10) rfl ?_
   show SG p e below s₁ (mkF m 11 #[vJ q1, vS, vJ q2, vS] [(.long q1)]) _
   refine X0.ldc2Long hx hown (mvT hZ (tw hw 313 rfl)) (g := (mkF m 11 #[vJ q1, vS, vJ q2, vS] [(.long q1)])) rfl (hb hby d30_11) _ ?_
   show SG p e below s₁ (mkF m 14 #[vJ q1, vS, vJ q2, vS] [(.long 1000000000), (.long q1)]) _
   refine XS.lmul X0.here hx rfl (hb hby d30_14) rfl ?_
   show SG p e below s₁ (mkF m 15 #[vJ q1, vS, vJ q2, vS] [(.long (q1 * 1000000000))]) _
   refine XS.lloadN X0.here hx rfl (hb hby d30_15) rfl ?_
   refine XS.ldiv X0.here hx rfl (hb hby d30_16) rfl H1 ?_
   show SG p e below s₁ (mkF m 17 #[vJ q1, vS, vJ q2, vS] [(.long ((q1 * 1000000000) / q2))]) _
   jvm_step X0.here [X0.here.top, hx, (hb hby d30_17), X0.method', Bd.returns, narrow]
   first | (intro acts; rw [hr _ acts rfl rfl rfl]) | rw [hr _ _ rfl rfl rfl]
   exact Steps.refl _
 · show OQp (some (.long ((q1 * 1000000000) / q2))) h0 n0 _ s₁.heap _
   rw [e0]
   exact ⟨rfl, N0, rfl⟩
theorem own_ps (l : Launch) (Z : State) (a0 : Array Value) (hw : TW a0 Z) (c n : Int64) (h0 : Heap) (n0 : Nat) (Z0 : n0 ≤ h0.size) :
   OMet l Z mN26 prog_5_method_3_code 4 (some .long) [] (Rm 0 0 0 0) h0 #[(.long c), (.long n)] (OQp (some (.long (ops c n))) h0 n0) := by
 unfold ops
 by_cases hn : n = 0
 · rw [if_pos hn]
   exact r30_1 l Z a0 hw c n h0 n0 Z0 ((lw_eq n 0).mpr hn)
 · rw [if_neg hn]
   exact r30_2 l Z a0 hw c n h0 n0 Z0 (fun k => hn ((lw_eq n 0).mp k)) hn
theorem d47_0 : Dc rev25 0 (.iload_n 2) 1 := by decide +kernel
theorem d47_1 : Dc rev25 1 (.aload_n 1) 1 := by decide +kernel
theorem d47_2 : Dc rev25 2 (.invokevirtual 64) 3 := by decide +kernel
theorem d9_0 : Dc rev26 0 (.aload_n 0) 1 := by decide +kernel
theorem d9_1 : Dc rev26 1 (.getfield 9) 3 := by decide +kernel
theorem d9_4 : Dc rev26 4 .arraylength 1 := by decide +kernel
theorem d9_5 : Dc rev26 5 (.aload_n 0) 1 := by decide +kernel
theorem d9_6 : Dc rev26 6 (.invokevirtual 335) 3 := by decide +kernel
theorem d10_0 : Dc rev27 0 (.getstatic 38) 3 := by decide +kernel
theorem d10_3 : Dc rev27 3 (.ifCond .eq 10) 3 := by decide +kernel
theorem d10_6 : Dc rev27 6 (.aload_n 0) 1 := by decide +kernel
theorem d10_7 : Dc rev27 7 (.getfield 15) 3 := by decide +kernel
theorem d10_10 : Dc rev27 10 (.goto 4) 3 := by decide +kernel
theorem d10_14 : Dc rev27 14 .ireturn 1 := by decide +kernel
theorem ef_10_v (m : MethodId) (x0 : Addr) : entryFrame m #[(.ref x0)] 1 = mkF m 0 #[.val (.ref x0)] [] := by first | (simp [entryFrame, mkF, argsToLocals, Value.category]; done) | rfl
theorem r10_1 (l : Launch) (Z : State) (a0 : Array Value) (hw : TW a0 Z) (a1 : Addr) (w2 : Int32) (w3 : Int32) (h0 : Heap) (n0 : Nat) (Z0 : n0 ≤ h0.size) (H0 : Sta Z h0 sK1 sK3 "Z" (.int w2)) (H1 : ¬ (w2 = 0)) (H2 : Fld Z h0 a1 sK1 "coder" "B" (.int w3)) (H3 : nar .byte w3 = w3) :
   OMet l Z mN27 jdk_42_method_152_code 1 (some .byte) [] (Rm 0 0 0 0) h0 #[(.ref a1)] (OQp (some (.int w3)) h0 n0) := by
 refine MetFree.of_bodySF (plainFor_of_name pn_java_lang_String) hisR ?_
 intro p e s m args below meth c s₁ Bd hml0 hP hK
 obtain ⟨rfl, hZ, hh⟩ := hP
 have hx := Bd.exec
 have hby := Bd.bytes
 have hml : c.maxLocals = 1 := hml0
 have hown : s.vm.findClass sK1 = some m.cls := findClass_of_methodNamed Bd.named
 have X0 := own_X0 Bd
 have e0 : s₁.heap = h0 := by rw [← hh, Bd.state]; rfl
 have N0 := Fr.nil n0
 have pre0 : ∀ t, Steps p.tables e below (s₁.setTop (mkF m 0 #[vR a1] [])) t → Steps p.tables e below (s₁.setTop (entryFrame m #[(.ref a1)] 1)) t := fun t k => castTop (ef_10_v m a1) k
 obtain ⟨T4, X4, e4, st4⟩ := getS2 X0 hx hZ hown (host := "") (Or.inl (tw hw 75 rfl)) Via.refl e0 H0 (g := (mkF m 0 #[vR a1] [])) rfl (hb hby d10_0)
 obtain ⟨T5, X5, e5, st5⟩ := getF X4 hx hZ hown (host := "") (Or.inl (tw hw 76 rfl)) Via.refl e4 H2 (g := (mkF m 7 #[vR a1] [(.ref a1)])) rfl rfl (hb hby d10_7)
 obtain ⟨fs, hr, hrun, hended, hW, hsame⟩ := X5.leave (v := some (.int w3)) (fun h => by rw [Bd.returns] at h; cases h)
 refine ⟨_, _, pre0 _ ?_, hrun, hended, _, _, rfl, ?_, ⟨_, rfl⟩, hW, hsame.mono (by decide) (by decide)⟩
 · show SG p e below s₁ (mkF m 0 #[vR a1] []) _
   refine st4 _ ?_
   show SG p e below T4 (mkF m 3 #[vR a1] [(.int w2)]) _
   refine XS.ifNo X4.here hx rfl (hb hby d10_3) rfl ((if0 _ _).trans (feq H1).1) ?_
   show SG p e below T4 (mkF m 6 #[vR a1] []) _
   refine XS.aloadN X4.here hx rfl (hb hby d10_6) rfl rfl ?_
   show SG p e below T4 (mkF m 7 #[vR a1] [(.ref a1)]) _
   refine st5 _ ?_
   show SG p e below T5 (mkF m 10 #[vR a1] [(.int w3)]) _
   refine XS.goto X5.here hx rfl (pc0 := 10) (pc' := 14) rfl (hb hby d10_10) (by decide) (by decide) ?_
   show SG p e below T5 (mkF m 14 #[vR a1] [(.int w3)]) _
   exact retN X5 hx (t := .byte) Bd.returns (by simp) (hb hby d10_14) (by rw [H3]; exact hr)
 · show OQp (some (.int w3)) h0 n0 _ T5.heap _
   rw [e5]
   exact ⟨rfl, N0, rfl⟩
theorem pd_17 : parseMethodDescriptor "()B" = some ⟨[], some .byte⟩ := by decide +kernel
theorem d9_9 : Dc rev26 9 .ishr 1 := by decide +kernel
theorem d9_10 : Dc rev26 10 .ireturn 1 := by decide +kernel
theorem ef_9_v (m : MethodId) (x0 : Addr) : entryFrame m #[(.ref x0)] 1 = mkF m 0 #[.val (.ref x0)] [] := by first | (simp [entryFrame, mkF, argsToLocals, Value.category]; done) | rfl
theorem r9_1 (l : Launch) (Z : State) (a0 : Array Value) (hw : TW a0 Z) (a1 : Addr) (w2 : Addr) (k3 : ClassId) (u4 : Nat → Int32) (p5 : Int32) (w6 : Int32) (w7 : Int32) (h0 : Heap) (n0 : Nat) (Z0 : n0 ≤ h0.size) (H0 : Fld Z h0 a1 sK1 "value" "[B" (.ref w2)) (H1 : BA Z h0 w2 k3 .byte p5 u4) (H2 : Sta Z h0 sK1 sK3 "Z" (.int w6)) (H3 : ¬ (w6 = 0)) (H4 : Fld Z h0 a1 sK1 "coder" "B" (.int w7)) (H5 : nar .byte w7 = w7) (H6 : Exa Z h0 a1 sK1) :
   OMet l Z mN28 jdk_42_method_54_code 1 (some .int) [] (Rm 1 0 0 13) h0 #[(.ref a1)] (OQp (some (.int (p5 >>> (w7 &&& 31)))) h0 n0) := by
 refine MetFree.of_bodySF (plainFor_of_name pn_java_lang_String) hisR ?_
 intro p e s m args below meth c s₁ Bd hml0 hP hK
 obtain ⟨rfl, hZ, hh⟩ := hP
 have hx := Bd.exec
 have hby := Bd.bytes
 have hml : c.maxLocals = 1 := hml0
 have hown : s.vm.findClass sK1 = some m.cls := findClass_of_methodNamed Bd.named
 have X0 := own_X0 Bd
 have e0 : s₁.heap = h0 := by rw [← hh, Bd.state]; rfl
 have N0 := Fr.nil n0
 have pre0 : ∀ t, Steps p.tables e below (s₁.setTop (mkF m 0 #[vR a1] [])) t → Steps p.tables e below (s₁.setTop (entryFrame m #[(.ref a1)] 1)) t := fun t k => castTop (ef_9_v m a1) k
 obtain ⟨T8, X8, e8, st8⟩ := getF X0 hx hZ hown (host := "") (Or.inl (tw hw 69 rfl)) Via.refl e0 H0 (g := (mkF m 1 #[vR a1] [(.ref a1)])) rfl rfl (hb hby d9_1)
 have vc9 := H1
 obtain ⟨cl9, Ar9, q9, S9, N9, Hh9, G9⟩ := vc9
 obtain ⟨cq10, kq10, q10a, q10b, q10c⟩ := isOf hZ e8 H6
 obtain ⟨_, _, ⟨T10, _, _, _⟩, -, X10, ⟨_, hQ, lq, yq, zq⟩, st10⟩ := X8.virtualBack hx (y := mN27) (z := mN27) hown (mvT hZ (tw hw 70 rfl)) (mvT hZ (tw hw 71 rfl)) (notFace_of_selects (args := #[]) (mvT hZ (tw hw 73 rfl))) (mvT hZ (tw hw 73 rfl)) (mvT hZ (tw hw 72 rfl)) (by decide) (backOf (W := 1) (r10_1 l Z a0 hw a1 w6 w7 h0 n0 Z0 H2 H3 H4 H5) hZ (tw hw 74 rfl) (tw hw 42 rfl) (by decide) (by decide)) q10a q10c (g := (mkF m 6 #[vR a1] [(.ref a1), (.int p5)])) rfl (by rw [hml]; rfl) (Steps.refl _) (argsL := []) (rest := [(.int p5)]) (lenOf pd_17 rfl) rfl (own_w _) (hb hby d9_6) (fun _ _ => ⟨rfl, e8, (by decide : 0 + 0 ≤ _), (by decide : 0 + 0 ≤ _)⟩)
 dsimp only [Pt.U, Pt.locs, Pt.cells, Pt.slots] at X10 lq yq zq st10 hQ
 replace X10 := own_mvX X10 (a := 0) (b := 0) yq zq
 obtain ⟨rfl, Nq, e10⟩ := hQ
 have N10 := own_mvN lq N0 Nq
 obtain ⟨fs, hr, hrun, hended, hW, hsame⟩ := X10.leave (v := some (.int (p5 >>> (w7 &&& 31)))) (fun h => by rw [Bd.returns] at h; cases h)
 refine ⟨_, _, pre0 _ ?_, hrun, hended, _, _, rfl, ?_, ⟨_, rfl⟩, hW, hsame.mono (by decide) (by decide)⟩
 · show SG p e below s₁ (mkF m 0 #[vR a1] []) _
   refine XS.aloadN X0.here hx rfl (hb hby d9_0) rfl rfl ?_
   show SG p e below s₁ (mkF m 1 #[vR a1] [(.ref a1)]) _
   refine st8 _ ?_
   show SG p e below T8 (mkF m 4 #[vR a1] [(.ref w2)]) _
   refine X8.arraylength hx (by rw [e8]; exact Ar9.1) (State.isArrayOf_alike hZ.alike Ar9.2.1) (g := (mkF m 4 #[vR a1] [(.ref w2)])) rfl rfl (hb hby d9_4) _ ?_
   rw [len_of S9 N9]
   show SG p e below T8 (mkF m 5 #[vR a1] [(.int p5)]) _
   refine XS.aloadN X8.here hx rfl (hb hby d9_5) rfl rfl ?_
   show SG p e below T8 (mkF m 6 #[vR a1] [(.ref a1), (.int p5)]) _
   refine st10.trans ?_
   show SG p e below T10 (mkF m 9 #[vR a1] [(.int w7), (.int p5)]) _
   refine XS.ishr X10.here hx rfl (hb hby d9_9) rfl ?_
   show SG p e below T10 (mkF m 10 #[vR a1] [(.int (p5 >>> (w7 &&& 31)))]) _
   exact retI X10 hx Bd.returns (hb hby d9_10) hr
 · show OQp (some (.int (p5 >>> (w7 &&& 31)))) h0 n0 _ T10.heap _
   rw [e10]
   exact ⟨rfl, N10, rfl⟩
theorem d47_5 : Dc rev25 5 (.if_icmp .ge 16) 3 := by decide +kernel
theorem d47_8 : Dc rev25 8 (.aload_n 0) 1 := by decide +kernel
theorem d47_9 : Dc rev25 9 (.iload_n 2) 1 := by decide +kernel
theorem d47_10 : Dc rev25 10 (.invokevirtual 71) 3 := by decide +kernel
theorem pd_18 : parseMethodDescriptor "(I)C" = some ⟨[.int], some .char⟩ := by decide +kernel
theorem d47_13 : Dc rev25 13 (.aload_n 1) 1 := by decide +kernel
theorem d47_14 : Dc rev25 14 (.iload_n 2) 1 := by decide +kernel
theorem d47_15 : Dc rev25 15 (.invokevirtual 71) 3 := by decide +kernel
theorem d47_18 : Dc rev25 18 (.if_icmp .ne 7) 3 := by decide +kernel
theorem d47_21 : Dc rev25 21 (.iconst 1) 1 := by decide +kernel
theorem d47_22 : Dc rev25 22 (.goto 4) 3 := by decide +kernel
theorem d47_26 : Dc rev25 26 .ireturn 1 := by decide +kernel
theorem pn_com_example_eta4_eta4_bench_ThroughputFiguresLinesPinLaw : plainName "com/example/eta4/eta4/bench/ThroughputFiguresLinesPinLaw" = true := by first | (simp [plainName, overriddenIn]; done) | decide +kernel
theorem ef_47_vvv (m : MethodId) (x0 : Addr) (x1 : Addr) (x2 : Int32) : entryFrame m #[(.ref x0), (.ref x1), (.int x2)] 3 = mkF m 0 #[.val (.ref x0), .val (.ref x1), .val (.int x2)] [] := by first | (simp [entryFrame, mkF, argsToLocals, Value.category]; done) | rfl
theorem r47_1 (l : Launch) (Z : State) (a0 : Array Value) (hw : TW a0 Z) (a1 : Addr) (a2 : Addr) (p3 : Int32) (w4 : Addr) (k5 : ClassId) (u6 : Nat → Int32) (p7 : Int32) (w8 : Int32) (w9 : Int32) (w10 : Int32) (w11 : Addr) (k12 : ClassId) (u13 : Nat → Int32) (p14 : Int32) (x15 : Value) (h0 : Heap) (n0 : Nat) (Z0 : n0 ≤ h0.size) (H0 : Fld Z h0 a2 sK1 "value" "[B" (.ref w4)) (H1 : BA Z h0 w4 k5 .byte p7 u6) (H2 : Sta Z h0 sK1 sK3 "Z" (.int w8)) (H3 : ¬ (w8 = 0)) (H4 : Fld Z h0 a2 sK1 "coder" "B" (.int w9)) (H5 : nar .byte w9 = w9) (H6 : Exa Z h0 a2 sK1) (H7 : p3 < (p7 >>> (w9 &&& 31))) (H8 : Fld Z h0 a1 sK1 "coder" "B" (.int w10)) (H9 : w10 = 0) (H10 : Exa Z h0 a1 sK1) (H11 : Fld Z h0 a1 sK1 "value" "[B" (.ref w11)) (H12 : BA Z h0 w11 k12 .byte p14 u13) (H13 : Sta Z h0 sK7 sK9 sK10 x15) (H14 : (x15).isRef = true) (H15 : ¬ (p3 < 0)) (H16 : p3 < p14) (H17 : w9 = 0) (H18 : p3 < p7) (H19 : (oc8 (u13 (p3).toNatClampNeg)) = (oc8 (u6 (p3).toNatClampNeg))) :
   OMet l Z mN29 method_6_code 3 (some .boolean) [] (Rm 4 0 0 54) h0 #[(.ref a1), (.ref a2), (.int p3)] (OQp (some (.int 1)) h0 n0) := by
 refine MetFree.of_bodySF (plainFor_of_name pn_com_example_eta4_eta4_bench_ThroughputFiguresLinesPinLaw) hisR ?_
 intro p e s m args below meth c s₁ Bd hml0 hP hK
 obtain ⟨rfl, hZ, hh⟩ := hP
 have hx := Bd.exec
 have hby := Bd.bytes
 have hml : c.maxLocals = 3 := hml0
 have hown : s.vm.findClass sK14 = some m.cls := findClass_of_methodNamed Bd.named
 have X0 := own_X0 Bd
 have e0 : s₁.heap = h0 := by rw [← hh, Bd.state]; rfl
 have N0 := Fr.nil n0
 have pre0 : ∀ t, Steps p.tables e below (s₁.setTop (mkF m 0 #[vR a1, vR a2, vI p3] [])) t → Steps p.tables e below (s₁.setTop (entryFrame m #[(.ref a1), (.ref a2), (.int p3)] 3)) t := fun t k => castTop (ef_47_vvv m a1 a2 p3) k
 obtain ⟨cq16, kq16, q16a, q16b, q16c⟩ := isOf hZ e0 H6
 obtain ⟨_, _, ⟨T16, _, _, _⟩, -, X16, ⟨_, hQ, lq, yq, zq⟩, st16⟩ := X0.virtualBack hx (y := mN28) (z := mN28) hown (mvT hZ (tw hw 273 rfl)) (mvT hZ (tw hw 65 rfl)) (notFace_of_selects (args := #[]) (mvT hZ (tw hw 67 rfl))) (mvT hZ (tw hw 67 rfl)) (mvT hZ (tw hw 66 rfl)) (by decide) (backOf (W := 1) (r9_1 l Z a0 hw a2 w4 k5 u6 p7 w8 w9 h0 n0 Z0 H0 H1 H2 H3 H4 H5 H6) hZ (tw hw 68 rfl) (tw hw 42 rfl) (by decide) (by decide)) q16a q16c (g := (mkF m 2 #[vR a1, vR a2, vI p3] [(.ref a2), (.int p3)])) rfl (by rw [hml]; rfl) (Steps.refl _) (argsL := []) (rest := [(.int p3)]) (lenOf pd_5 rfl) rfl (own_w _) (hb hby d47_2) (fun _ _ => ⟨rfl, e0, (by decide : 0 + 0 ≤ _), (by decide : 0 + 0 ≤ _)⟩)
 dsimp only [Pt.U, Pt.locs, Pt.cells, Pt.slots] at X16 lq yq zq st16 hQ
 replace X16 := own_mvX X16 (a := 0) (b := 0) yq zq
 obtain ⟨rfl, Nq, e16⟩ := hQ
 have N16 := own_mvN lq N0 Nq
 obtain ⟨cq17, kq17, q17a, q17b, q17c⟩ := isOf hZ e16 H10
 obtain ⟨_, _, ⟨T17, _, _, _⟩, -, X17, ⟨_, hQ, lq, yq, zq⟩, st17⟩ := X16.virtualBack hx (y := mN5) (z := mN5) hown (mvT hZ (tw hw 277 rfl)) (mvT hZ (tw hw 278 rfl)) (notFace_of_selects (args := #[]) (mvT hZ (tw hw 280 rfl))) (mvT hZ (tw hw 280 rfl)) (mvT hZ (tw hw 279 rfl)) (by decide) (backOf (W := 0) (own_ch l Z a0 hw a1 w8 w10 w11 k12 p14 u13 x15 p3 h0 n0 Z0 H2 H3 H8 H9 H10 H11 H12 H13 H14 H15 H16) hZ (tw hw 281 rfl) (tw hw 42 rfl) (by decide) (by decide)) q17a q17c (g := (mkF m 10 #[vR a1, vR a2, vI p3] [(.int p3), (.ref a1)])) rfl (by rw [hml]; rfl) (Steps.refl _) (argsL := [(.int p3)]) (rest := []) (lenOf pd_18 rfl) rfl (own_w _) (hb hby d47_10) (fun _ _ => ⟨rfl, e16, (by decide : 0 + 0 ≤ _), (by decide : 0 + 0 ≤ _)⟩)
 dsimp only [Pt.U, Pt.locs, Pt.cells, Pt.slots] at X17 lq yq zq st17 hQ
 replace X17 := own_mvX X17 (a := 0) (b := 0) yq zq
 obtain ⟨rfl, Nq, e17⟩ := hQ
 have N17 := own_mvN lq N16 Nq
 obtain ⟨cq18, kq18, q18a, q18b, q18c⟩ := isOf hZ e17 H6
 obtain ⟨_, _, ⟨T18, _, _, _⟩, -, X18, ⟨_, hQ, lq, yq, zq⟩, st18⟩ := X17.virtualBack hx (y := mN5) (z := mN5) hown (mvT hZ (tw hw 277 rfl)) (mvT hZ (tw hw 278 rfl)) (notFace_of_selects (args := #[]) (mvT hZ (tw hw 280 rfl))) (mvT hZ (tw hw 280 rfl)) (mvT hZ (tw hw 279 rfl)) (by decide) (backOf (W := 1) (own_ch l Z a0 hw a2 w8 w9 w4 k5 p7 u6 x15 p3 h0 n0 Z0 H2 H3 H4 H17 H6 H0 H1 H13 H14 H15 H18) hZ (tw hw 281 rfl) (tw hw 42 rfl) (by decide) (by decide)) q18a q18c (g := (mkF m 15 #[vR a1, vR a2, vI p3] [(.int p3), (.ref a2), (.int (oc8 (u13 (p3).toNatClampNeg)))])) rfl (by rw [hml]; rfl) (Steps.refl _) (argsL := [(.int p3)]) (rest := [(.int (oc8 (u13 (p3).toNatClampNeg)))]) (lenOf pd_18 rfl) rfl (own_w _) (hb hby d47_15) (fun _ _ => ⟨rfl, e17, (by decide : 0 + 0 ≤ _), (by decide : 0 + 0 ≤ _)⟩)
 dsimp only [Pt.U, Pt.locs, Pt.cells, Pt.slots] at X18 lq yq zq st18 hQ
 replace X18 := own_mvX X18 (a := 0) (b := 0) yq zq
 obtain ⟨rfl, Nq, e18⟩ := hQ
 have N18 := own_mvN lq N17 Nq
 obtain ⟨fs, hr, hrun, hended, hW, hsame⟩ := X18.leave (v := some (.int 1)) (fun h => by rw [Bd.returns] at h; cases h)
 refine ⟨_, _, pre0 _ ?_, hrun, hended, _, _, rfl, ?_, ⟨_, rfl⟩, hW, hsame.mono (by decide) (by decide)⟩
 · show SG p e below s₁ (mkF m 0 #[vR a1, vR a2, vI p3] []) _
   refine XS.iloadN X0.here hx rfl (hb hby d47_0) rfl ?_
   refine XS.aloadN X0.here hx rfl (hb hby d47_1) rfl rfl ?_
   show SG p e below s₁ (mkF m 2 #[vR a1, vR a2, vI p3] [(.ref a2), (.int p3)]) _
   refine st16.trans ?_
   show SG p e below T16 (mkF m 5 #[vR a1, vR a2, vI p3] [(.int (p7 >>> (w9 &&& 31))), (.int p3)]) _
   refine XS.icmpNo X16.here hx rfl (hb hby d47_5) rfl (tlt H7).2.1 ?_
   show SG p e below T16 (mkF m 8 #[vR a1, vR a2, vI p3] []) _
   refine XS.aloadN X16.here hx rfl (hb hby d47_8) rfl rfl ?_
   refine XS.iloadN X16.here hx rfl (hb hby d47_9) rfl ?_
   show SG p e below T16 (mkF m 10 #[vR a1, vR a2, vI p3] [(.int p3), (.ref a1)]) _
   refine st17.trans ?_
   show SG p e below T17 (mkF m 13 #[vR a1, vR a2, vI p3] [(.int (oc8 (u13 (p3).toNatClampNeg)))]) _
   refine XS.aloadN X17.here hx rfl (hb hby d47_13) rfl rfl ?_
   refine XS.iloadN X17.here hx rfl (hb hby d47_14) rfl ?_
   show SG p e below T17 (mkF m 15 #[vR a1, vR a2, vI p3] [(.int p3), (.ref a2), (.int (oc8 (u13 (p3).toNatClampNeg)))]) _
   refine st18.trans ?_
   show SG p e below T18 (mkF m 18 #[vR a1, vR a2, vI p3] [(.int (oc8 (u6 (p3).toNatClampNeg))), (.int (oc8 (u13 (p3).toNatClampNeg)))]) _
   refine XS.icmpNo X18.here hx rfl (hb hby d47_18) rfl (teq H19).2 ?_
   show SG p e below T18 (mkF m 21 #[vR a1, vR a2, vI p3] []) _
   refine XS.iconst X18.here hx rfl (hb hby d47_21) ?_
   refine XS.goto X18.here hx rfl (pc0 := 22) (pc' := 26) rfl (hb hby d47_22) (by decide) (by decide) ?_
   show SG p e below T18 (mkF m 26 #[vR a1, vR a2, vI p3] [(.int 1)]) _
   exact retN X18 hx (t := .boolean) Bd.returns (by simp) (hb hby d47_26) hr
 · show OQp (some (.int 1)) h0 n0 _ T18.heap _
   rw [e18]
   exact ⟨rfl, N18, rfl⟩
theorem r47_2 (l : Launch) (Z : State) (a0 : Array Value) (hw : TW a0 Z) (a1 : Addr) (a2 : Addr) (p3 : Int32) (w4 : Addr) (k5 : ClassId) (u6 : Nat → Int32) (p7 : Int32) (w8 : Int32) (w9 : Int32) (h0 : Heap) (n0 : Nat) (Z0 : n0 ≤ h0.size) (H0 : Fld Z h0 a2 sK1 "value" "[B" (.ref w4)) (H1 : BA Z h0 w4 k5 .byte p7 u6) (H2 : Sta Z h0 sK1 sK3 "Z" (.int w8)) (H3 : ¬ (w8 = 0)) (H4 : Fld Z h0 a2 sK1 "coder" "B" (.int w9)) (H5 : nar .byte w9 = w9) (H6 : Exa Z h0 a2 sK1) (H7 : ¬ (p3 < (p7 >>> (w9 &&& 31)))) :
   OMet l Z mN29 method_6_code 3 (some .boolean) [] (Rm 4 0 0 54) h0 #[(.ref a1), (.ref a2), (.int p3)] (OQp (some (.int 1)) h0 n0) := by
 refine MetFree.of_bodySF (plainFor_of_name pn_com_example_eta4_eta4_bench_ThroughputFiguresLinesPinLaw) hisR ?_
 intro p e s m args below meth c s₁ Bd hml0 hP hK
 obtain ⟨rfl, hZ, hh⟩ := hP
 have hx := Bd.exec
 have hby := Bd.bytes
 have hml : c.maxLocals = 3 := hml0
 have hown : s.vm.findClass sK14 = some m.cls := findClass_of_methodNamed Bd.named
 have X0 := own_X0 Bd
 have e0 : s₁.heap = h0 := by rw [← hh, Bd.state]; rfl
 have N0 := Fr.nil n0
 have pre0 : ∀ t, Steps p.tables e below (s₁.setTop (mkF m 0 #[vR a1, vR a2, vI p3] [])) t → Steps p.tables e below (s₁.setTop (entryFrame m #[(.ref a1), (.ref a2), (.int p3)] 3)) t := fun t k => castTop (ef_47_vvv m a1 a2 p3) k
 obtain ⟨cq10, kq10, q10a, q10b, q10c⟩ := isOf hZ e0 H6
 obtain ⟨_, _, ⟨T10, _, _, _⟩, -, X10, ⟨_, hQ, lq, yq, zq⟩, st10⟩ := X0.virtualBack hx (y := mN28) (z := mN28) hown (mvT hZ (tw hw 273 rfl)) (mvT hZ (tw hw 65 rfl)) (notFace_of_selects (args := #[]) (mvT hZ (tw hw 67 rfl))) (mvT hZ (tw hw 67 rfl)) (mvT hZ (tw hw 66 rfl)) (by decide) (backOf (W := 1) (r9_1 l Z a0 hw a2 w4 k5 u6 p7 w8 w9 h0 n0 Z0 H0 H1 H2 H3 H4 H5 H6) hZ (tw hw 68 rfl) (tw hw 42 rfl) (by decide) (by decide)) q10a q10c (g := (mkF m 2 #[vR a1, vR a2, vI p3] [(.ref a2), (.int p3)])) rfl (by rw [hml]; rfl) (Steps.refl _) (argsL := []) (rest := [(.int p3)]) (lenOf pd_5 rfl) rfl (own_w _) (hb hby d47_2) (fun _ _ => ⟨rfl, e0, (by decide : 0 + 0 ≤ _), (by decide : 0 + 0 ≤ _)⟩)
 dsimp only [Pt.U, Pt.locs, Pt.cells, Pt.slots] at X10 lq yq zq st10 hQ
 replace X10 := own_mvX X10 (a := 0) (b := 0) yq zq
 obtain ⟨rfl, Nq, e10⟩ := hQ
 have N10 := own_mvN lq N0 Nq
 obtain ⟨fs, hr, hrun, hended, hW, hsame⟩ := X10.leave (v := some (.int 1)) (fun h => by rw [Bd.returns] at h; cases h)
 refine ⟨_, _, pre0 _ ?_, hrun, hended, _, _, rfl, ?_, ⟨_, rfl⟩, hW, hsame.mono (by decide) (by decide)⟩
 · show SG p e below s₁ (mkF m 0 #[vR a1, vR a2, vI p3] []) _
   refine XS.iloadN X0.here hx rfl (hb hby d47_0) rfl ?_
   refine XS.aloadN X0.here hx rfl (hb hby d47_1) rfl rfl ?_
   show SG p e below s₁ (mkF m 2 #[vR a1, vR a2, vI p3] [(.ref a2), (.int p3)]) _
   refine st10.trans ?_
   show SG p e below T10 (mkF m 5 #[vR a1, vR a2, vI p3] [(.int (p7 >>> (w9 &&& 31))), (.int p3)]) _
   refine XS.icmpYes X10.here hx rfl (pc0 := 5) (pc' := 21) rfl (hb hby d47_5) rfl (flt H7).2.1 (by decide) (by decide) ?_
   show SG p e below T10 (mkF m 21 #[vR a1, vR a2, vI p3] []) _
   refine XS.iconst X10.here hx rfl (hb hby d47_21) ?_
   refine XS.goto X10.here hx rfl (pc0 := 22) (pc' := 26) rfl (hb hby d47_22) (by decide) (by decide) ?_
   show SG p e below T10 (mkF m 26 #[vR a1, vR a2, vI p3] [(.int 1)]) _
   exact retN X10 hx (t := .boolean) Bd.returns (by simp) (hb hby d47_26) hr
 · show OQp (some (.int 1)) h0 n0 _ T10.heap _
   rw [e10]
   exact ⟨rfl, N10, rfl⟩
theorem own_sm (l : Launch) (Z : State) (a0 : Array Value) (hw : TW a0 Z) (a : Addr) (wS wc : Int32) (b : Addr) (k : ClassId) (z : Int32) (f : Nat → Int32) (o : Value) (a2 : Addr) (wc2 : Int32) (b2 : Addr) (k2 : ClassId) (z2 : Int32) (f2 : Nat → Int32) (kk : Int32) (h0 : Heap) (n0 : Nat) (Z0 : n0 ≤ h0.size) (H1 : Sta Z h0 sK1 sK3 "Z" (.int wS)) (H2 : ¬ (wS = 0)) (H3 : Fld Z h0 a sK1 "coder" "B" (.int wc)) (H4 : wc = 0) (H5 : Exa Z h0 a sK1) (H6 : Fld Z h0 a sK1 "value" "[B" (.ref b)) (H7 : BA Z h0 b k .byte z f) (H8 : Sta Z h0 sK7 sK9 sK10 o) (H9 : o.isRef = true) (G3 : Fld Z h0 a2 sK1 "coder" "B" (.int wc2)) (G4 : wc2 = 0) (G5 : Exa Z h0 a2 sK1) (G6 : Fld Z h0 a2 sK1 "value" "[B" (.ref b2)) (G7 : BA Z h0 b2 k2 .byte z2 f2) (H10 : ¬ (kk < 0)) (H11 : (z2).toNatClampNeg ≤ (z).toNatClampNeg) (H12 : ∀ i, i < (z2).toNatClampNeg → (f) i = f2 i) :
   OMet l Z mN29 method_6_code 3 (some .boolean) [] (Rm 4 0 0 54) h0 #[(.ref a), (.ref a2), (.int kk)] (OQp (some (.int 1)) h0 n0) := by
 subst H4 G4
 by_cases hk : kk < z2
 · exact r47_1 l Z a0 hw a a2 kk b2 k2 f2 z2 wS (0 : Int32) (0 : Int32) b k f z o h0 n0 Z0 G6 G7 H1 H2 G3 (by decide) G5 (by rw [own_ishr0]; exact hk) H3 (by decide) H5 H6 H7 H8 H9 H10 (own_ltz H10 hk H11) (by decide) hk (congrArg oc8 (H12 _ (own_ltn H10 hk)))
 · exact r47_2 l Z a0 hw a a2 kk b2 k2 f2 z2 wS (0 : Int32) h0 n0 Z0 G6 G7 H1 H2 G3 (by decide) G5 (by rw [own_ishr0]; exact hk)
theorem d54_0 : Dc rev28 0 (.lload_n 0) 1 := by decide +kernel
theorem d54_1 : Dc rev28 1 (.lconst 0) 1 := by decide +kernel
theorem d54_2 : Dc rev28 2 .lcmp 1 := by decide +kernel
theorem d54_3 : Dc rev28 3 (.ifCond .lt 10) 3 := by decide +kernel
theorem d54_6 : Dc rev28 6 (.iload 4) 2 := by decide +kernel
theorem d54_8 : Dc rev28 8 (.iload 5) 2 := by decide +kernel
theorem d54_10 : Dc rev28 10 (.if_icmp .lt 5) 3 := by decide +kernel
theorem d54_15 : Dc rev28 15 (.aload_n 2) 1 := by decide +kernel
theorem d54_16 : Dc rev28 16 (.iload_n 3) 1 := by decide +kernel
theorem d54_17 : Dc rev28 17 (.iload 4) 2 := by decide +kernel
theorem d54_19 : Dc rev28 19 .iadd 1 := by decide +kernel
theorem d54_20 : Dc rev28 20 (.invokevirtual 71) 3 := by decide +kernel
theorem d54_23 : Dc rev28 23 (.istore 6) 2 := by decide +kernel
theorem d54_25 : Dc rev28 25 (.iload 6) 2 := by decide +kernel
abbrev la10 (q1 : Int64) (a2 : Addr) (p3 : Int32) (p4 : Int32) (p5 : Int32) (u6 : Nat → Int32) : Array Slot := #[vJ q1, vS, vR a2, vI p3, vI p4, vI p5, vI (oc8 (u6 ((p3 + p4)).toNatClampNeg))]
theorem d54_27 : Dc rev28 27 (.bipush 48) 2 := by decide +kernel
theorem d54_29 : Dc rev28 29 (.if_icmp .lt 10) 3 := by decide +kernel
theorem d54_32 : Dc rev28 32 (.iload 6) 2 := by decide +kernel
theorem d54_34 : Dc rev28 34 (.bipush 57) 2 := by decide +kernel
theorem d54_36 : Dc rev28 36 (.if_icmp .le 7) 3 := by decide +kernel
theorem d54_43 : Dc rev28 43 (.lload_n 0) 1 := by decide +kernel
theorem d54_44 : Dc rev28 44 (.ldc2_w 79) 3 := by decide +kernel
theorem d54_47 : Dc rev28 47 .lmul 1 := by decide +kernel
theorem d54_48 : Dc rev28 48 (.iload 6) 2 := by decide +kernel
theorem d54_50 : Dc rev28 50 (.bipush 48) 2 := by decide +kernel
theorem d54_52 : Dc rev28 52 .isub 1 := by decide +kernel
theorem d54_53 : Dc rev28 53 .i2l 1 := by decide +kernel
theorem d54_54 : Dc rev28 54 .ladd 1 := by decide +kernel
theorem d54_55 : Dc rev28 55 .lreturn 1 := by decide +kernel
theorem ef_54_vvvvv (m : MethodId) (x0 : Int64) (x1 : Addr) (x2 : Int32) (x3 : Int32) (x4 : Int32) : entryFrame m #[(.long x0), (.ref x1), (.int x2), (.int x3), (.int x4)] 7 = mkF m 0 #[.val (.long x0), .second, .val (.ref x1), .val (.int x2), .val (.int x3), .val (.int x4), .unset] [] := by first | (simp [entryFrame, mkF, argsToLocals, Value.category]; done) | rfl
theorem r54_1 (l : Launch) (Z : State) (a0 : Array Value) (hw : TW a0 Z) (q1 : Int64) (a2 : Addr) (p3 : Int32) (p4 : Int32) (p5 : Int32) (w6 : Int32) (w7 : Int32) (w8 : Addr) (k9 : ClassId) (u10 : Nat → Int32) (p11 : Int32) (x12 : Value) (h0 : Heap) (n0 : Nat) (Z0 : n0 ≤ h0.size) (H0 : ¬ ((lcmpW q1 (0 : Int64)) < 0)) (H1 : p4 < p5) (H2 : Sta Z h0 sK1 sK3 "Z" (.int w6)) (H3 : ¬ (w6 = 0)) (H4 : Fld Z h0 a2 sK1 "coder" "B" (.int w7)) (H5 : w7 = 0) (H6 : Exa Z h0 a2 sK1) (H7 : Fld Z h0 a2 sK1 "value" "[B" (.ref w8)) (H8 : BA Z h0 w8 k9 .byte p11 u10) (H9 : Sta Z h0 sK7 sK9 sK10 x12) (H10 : (x12).isRef = true) (H11 : ¬ ((p3 + p4) < 0)) (H12 : (p3 + p4) < p11) (H13 : ¬ ((oc8 (u10 ((p3 + p4)).toNatClampNeg)) < 48)) (H14 : ¬ ((57 : Int32) < (oc8 (u10 ((p3 + p4)).toNatClampNeg)))) :
   OMet l Z mN30 method_8_code 7 (some .long) [] (Rm 4 0 0 60) h0 #[(.long q1), (.ref a2), (.int p3), (.int p4), (.int p5)] (OQp (some (.long ((q1 * 10) + (((oc8 (u10 ((p3 + p4)).toNatClampNeg)) - 48).toInt64)))) h0 n0) := by
 refine MetFree.of_bodySF (plainFor_of_name pn_com_example_eta4_eta4_bench_ThroughputFiguresLinesPinLaw) hisR ?_
 intro p e s m args below meth c s₁ Bd hml0 hP hK
 obtain ⟨rfl, hZ, hh⟩ := hP
 have hx := Bd.exec
 have hby := Bd.bytes
 have hml : c.maxLocals = 7 := hml0
 have hown : s.vm.findClass sK14 = some m.cls := findClass_of_methodNamed Bd.named
 have X0 := own_X0 Bd
 have e0 : s₁.heap = h0 := by rw [← hh, Bd.state]; rfl
 have N0 := Fr.nil n0
 have pre0 : ∀ t, Steps p.tables e below (s₁.setTop (mkF m 0 #[vJ q1, vS, vR a2, vI p3, vI p4, vI p5, .unset] [])) t → Steps p.tables e below (s₁.setTop (entryFrame m #[(.long q1), (.ref a2), (.int p3), (.int p4), (.int p5)] 7)) t := fun t k => castTop (ef_54_vvvvv m q1 a2 p3 p4 p5) k
 obtain ⟨cq13, kq13, q13a, q13b, q13c⟩ := isOf hZ e0 H6
 obtain ⟨_, _, ⟨T13, _, _, _⟩, -, X13, ⟨_, hQ, lq, yq, zq⟩, st13⟩ := X0.virtualBack hx (y := mN5) (z := mN5) hown (mvT hZ (tw hw 277 rfl)) (mvT hZ (tw hw 278 rfl)) (notFace_of_selects (args := #[]) (mvT hZ (tw hw 280 rfl))) (mvT hZ (tw hw 280 rfl)) (mvT hZ (tw hw 279 rfl)) (by decide) (backOf (W := 0) (own_ch l Z a0 hw a2 w6 w7 w8 k9 p11 u10 x12 (p3 + p4) h0 n0 Z0 H2 H3 H4 H5 H6 H7 H8 H9 H10 H11 H12) hZ (tw hw 281 rfl) (tw hw 42 rfl) (by decide) (by decide)) q13a q13c (g := (mkF m 20 #[vJ q1, vS, vR a2, vI p3, vI p4, vI p5, vU] [(.int (p3 + p4)), (.ref a2)])) rfl (by rw [hml]; rfl) (Steps.refl _) (argsL := [(.int (p3 + p4))]) (rest := []) (lenOf pd_18 rfl) rfl (own_w _) (hb hby d54_20) (fun _ _ => ⟨rfl, e0, (by decide : 0 + 0 ≤ _), (by decide : 0 + 0 ≤ _)⟩)
 dsimp only [Pt.U, Pt.locs, Pt.cells, Pt.slots] at X13 lq yq zq st13 hQ
 replace X13 := own_mvX X13 (a := 0) (b := 0) yq zq
 obtain ⟨rfl, Nq, e13⟩ := hQ
 have N13 := own_mvN lq N0 Nq
 obtain ⟨fs, hr, hrun, hended, hW, hsame⟩ := X13.leave (v := some (.long ((q1 * 10) + (((oc8 (u10 ((p3 + p4)).toNatClampNeg)) - 48).toInt64)))) (fun h => by rw [Bd.returns] at h; cases h)
 refine ⟨_, _, pre0 _ ?_, hrun, hended, _, _, rfl, ?_, ⟨_, rfl⟩, hW, hsame.mono (by decide) (by decide)⟩
 · show SG p e below s₁ (mkF m 0 #[vJ q1, vS, vR a2, vI p3, vI p4, vI p5, vU] []) _
   refine XS.lloadN X0.here hx rfl (hb hby d54_0) rfl ?_
   refine XS.lconst X0.here hx rfl (hb hby d54_1) ?_
   show SG p e below s₁ (mkF m 2 #[vJ q1, vS, vR a2, vI p3, vI p4, vI p5, vU] [(.long 0), (.long q1)]) _
   refine XS.lcmp X0.here hx rfl (hb hby d54_2) rfl ?_
   show SG p e below s₁ (mkF m 3 #[vJ q1, vS, vR a2, vI p3, vI p4, vI p5, vU] [(.int (lcmpW q1 (0 : Int64)))]) _
   refine XS.ifNo X0.here hx rfl (hb hby d54_3) rfl ((if0 _ _).trans (flt H0).1) ?_
   show SG p e below s₁ (mkF m 6 #[vJ q1, vS, vR a2, vI p3, vI p4, vI p5, vU] []) _
   refine XS.iload X0.here hx rfl (hb hby d54_6) rfl ?_
   refine XS.iload X0.here hx rfl (hb hby d54_8) rfl ?_
   show SG p e below s₁ (mkF m 10 #[vJ q1, vS, vR a2, vI p3, vI p4, vI p5, vU] [(.int p5), (.int p4)]) _
   refine XS.icmpYes X0.here hx rfl (pc0 := 10) (pc' := 15) rfl (hb hby d54_10) rfl (tlt H1).1 (by decide) (by decide) ?_
   show SG p e below s₁ (mkF m 15 #[vJ q1, vS, vR a2, vI p3, vI p4, vI p5, vU] []) _
   refine XS.aloadN X0.here hx rfl (hb hby d54_15) rfl rfl ?_
   refine XS.iloadN X0.here hx rfl (hb hby d54_16) rfl ?_
   show SG p e below s₁ (mkF m 17 #[vJ q1, vS, vR a2, vI p3, vI p4, vI p5, vU] [(.int p3), (.ref a2)]) _
   refine XS.iload X0.here hx rfl (hb hby d54_17) rfl ?_
   refine XS.iadd X0.here hx rfl (hb hby d54_19) rfl ?_
   show SG p e below s₁ (mkF m 20 #[vJ q1, vS, vR a2, vI p3, vI p4, vI p5, vU] [(.int (p3 + p4)), (.ref a2)]) _
   refine st13.trans ?_
   show SG p e below T13 (mkF m 23 #[vJ q1, vS, vR a2, vI p3, vI p4, vI p5, vU] [(.int (oc8 (u10 ((p3 + p4)).toNatClampNeg)))]) _
   refine XS.istore X13.here hx rfl (hb hby d54_23) rfl (l' := #[vJ q1, vS, vR a2, vI p3, vI p4, vI p5, vI (oc8 (u10 ((p3 + p4)).toNatClampNeg))]) rfl ?_
   show SG p e below T13 (mkF m 25 (la10 q1 a2 p3 p4 p5 u10) []) _
   refine XS.iload X13.here hx rfl (hb hby d54_25) rfl ?_
   refine XS.bipush X13.here hx rfl (hb hby d54_27) ?_
   show SG p e below T13 (mkF m 29 (la10 q1 a2 p3 p4 p5 u10) [(.int 48), (.int (oc8 (u10 ((p3 + p4)).toNatClampNeg)))]) _
   refine XS.icmpNo X13.here hx rfl (hb hby d54_29) rfl (flt H13).1 ?_
   show SG p e below T13 (mkF m 32 (la10 q1 a2 p3 p4 p5 u10) []) _
   refine XS.iload X13.here hx rfl (hb hby d54_32) rfl ?_
   refine XS.bipush X13.here hx rfl (hb hby d54_34) ?_
   show SG p e below T13 (mkF m 36 (la10 q1 a2 p3 p4 p5 u10) [(.int 57), (.int (oc8 (u10 ((p3 + p4)).toNatClampNeg)))]) _
   refine XS.icmpYes X13.here hx rfl (pc0 := 36) (pc' := 43) rfl (hb hby d54_36) rfl (flt H14).2.2.2 (by decide) (by decide) ?_
   show SG p e below T13 (mkF m 43 (la10 q1 a2 p3 p4 p5 u10) []) _
   refine XS.lloadN X13.here hx rfl (hb hby d54_43) rfl ?_
   show SG p e below T13 (mkF m 44 (la10 q1 a2 p3 p4 p5 u10) [(.long q1)]) _
   refine X13.ldc2Long hx hown (mvT hZ (tw hw 305 rfl)) (g := (mkF m 44 (la10 q1 a2 p3 p4 p5 u10) [(.long q1)])) rfl (hb hby d54_44) _ ?_
   show SG p e below T13 (mkF m 47 (la10 q1 a2 p3 p4 p5 u10) [(.long 10), (.long q1)]) _
   refine XS.lmul X13.here hx rfl (hb hby d54_47) rfl ?_
   show SG p e below T13 (mkF m 48 (la10 q1 a2 p3 p4 p5 u10) [(.long (q1 * 10))]) _
   refine XS.iload X13.here hx rfl (hb hby d54_48) rfl ?_
   refine XS.bipush X13.here hx rfl (hb hby d54_50) ?_
   show SG p e below T13 (mkF m 52 (la10 q1 a2 p3 p4 p5 u10) [(.int 48), (.int (oc8 (u10 ((p3 + p4)).toNatClampNeg))), (.long (q1 * 10))]) _
   refine XS.isub X13.here hx rfl (hb hby d54_52) rfl ?_
   show SG p e below T13 (mkF m 53 (la10 q1 a2 p3 p4 p5 u10) [(.int ((oc8 (u10 ((p3 + p4)).toNatClampNeg)) - 48)), (.long (q1 * 10))]) _
   refine XS.i2l X13.here hx rfl (hb hby d54_53) rfl ?_
   show SG p e below T13 (mkF m 54 (la10 q1 a2 p3 p4 p5 u10) [(.long (((oc8 (u10 ((p3 + p4)).toNatClampNeg)) - 48).toInt64)), (.long (q1 * 10))]) _
   refine XS.ladd X13.here hx rfl (hb hby d54_54) rfl ?_
   show SG p e below T13 (mkF m 55 (la10 q1 a2 p3 p4 p5 u10) [(.long ((q1 * 10) + (((oc8 (u10 ((p3 + p4)).toNatClampNeg)) - 48).toInt64)))]) _
   jvm_step X13.here [X13.here.top, hx, (hb hby d54_55), X13.method', Bd.returns, narrow]
   first | (intro acts; rw [hr _ acts rfl rfl rfl]) | rw [hr _ _ rfl rfl rfl]
   exact Steps.refl _
 · show OQp (some (.long ((q1 * 10) + (((oc8 (u10 ((p3 + p4)).toNatClampNeg)) - 48).toInt64)))) h0 n0 _ T13.heap _
   rw [e13]
   exact ⟨rfl, N13, rfl⟩
theorem d54_13 : Dc rev28 13 (.lload_n 0) 1 := by decide +kernel
theorem d54_14 : Dc rev28 14 .lreturn 1 := by decide +kernel
theorem r54_2 (l : Launch) (Z : State) (a0 : Array Value) (hw : TW a0 Z) (q1 : Int64) (a2 : Addr) (p3 : Int32) (p4 : Int32) (p5 : Int32) (h0 : Heap) (n0 : Nat) (Z0 : n0 ≤ h0.size) (H0 : ¬ ((lcmpW q1 (0 : Int64)) < 0)) (H1 : ¬ (p4 < p5)) :
   OMet l Z mN30 method_8_code 7 (some .long) [] (Rm 4 0 0 60) h0 #[(.long q1), (.ref a2), (.int p3), (.int p4), (.int p5)] (OQp (some (.long q1)) h0 n0) := by
 refine MetFree.of_bodySF (plainFor_of_name pn_com_example_eta4_eta4_bench_ThroughputFiguresLinesPinLaw) hisR ?_
 intro p e s m args below meth c s₁ Bd hml0 hP hK
 obtain ⟨rfl, hZ, hh⟩ := hP
 have hx := Bd.exec
 have hby := Bd.bytes
 have hml : c.maxLocals = 7 := hml0
 have hown : s.vm.findClass sK14 = some m.cls := findClass_of_methodNamed Bd.named
 have X0 := own_X0 Bd
 have e0 : s₁.heap = h0 := by rw [← hh, Bd.state]; rfl
 have N0 := Fr.nil n0
 have pre0 : ∀ t, Steps p.tables e below (s₁.setTop (mkF m 0 #[vJ q1, vS, vR a2, vI p3, vI p4, vI p5, .unset] [])) t → Steps p.tables e below (s₁.setTop (entryFrame m #[(.long q1), (.ref a2), (.int p3), (.int p4), (.int p5)] 7)) t := fun t k => castTop (ef_54_vvvvv m q1 a2 p3 p4 p5) k

 obtain ⟨fs, hr, hrun, hended, hW, hsame⟩ := X0.leave (v := some (.long q1)) (fun h => by rw [Bd.returns] at h; cases h)
 refine ⟨_, _, pre0 _ ?_, hrun, hended, _, _, rfl, ?_, ⟨_, rfl⟩, hW, hsame.mono (by decide) (by decide)⟩
 · show SG p e below s₁ (mkF m 0 #[vJ q1, vS, vR a2, vI p3, vI p4, vI p5, vU] []) _
   refine XS.lloadN X0.here hx rfl (hb hby d54_0) rfl ?_
   refine XS.lconst X0.here hx rfl (hb hby d54_1) ?_
   show SG p e below s₁ (mkF m 2 #[vJ q1, vS, vR a2, vI p3, vI p4, vI p5, vU] [(.long 0), (.long q1)]) _
   refine XS.lcmp X0.here hx rfl (hb hby d54_2) rfl ?_
   show SG p e below s₁ (mkF m 3 #[vJ q1, vS, vR a2, vI p3, vI p4, vI p5, vU] [(.int (lcmpW q1 (0 : Int64)))]) _
   refine XS.ifNo X0.here hx rfl (hb hby d54_3) rfl ((if0 _ _).trans (flt H0).1) ?_
   show SG p e below s₁ (mkF m 6 #[vJ q1, vS, vR a2, vI p3, vI p4, vI p5, vU] []) _
   refine XS.iload X0.here hx rfl (hb hby d54_6) rfl ?_
   refine XS.iload X0.here hx rfl (hb hby d54_8) rfl ?_
   show SG p e below s₁ (mkF m 10 #[vJ q1, vS, vR a2, vI p3, vI p4, vI p5, vU] [(.int p5), (.int p4)]) _
   refine XS.icmpNo X0.here hx rfl (hb hby d54_10) rfl (flt H1).1 ?_
   show SG p e below s₁ (mkF m 13 #[vJ q1, vS, vR a2, vI p3, vI p4, vI p5, vU] []) _
   refine XS.lloadN X0.here hx rfl (hb hby d54_13) rfl ?_
   show SG p e below s₁ (mkF m 14 #[vJ q1, vS, vR a2, vI p3, vI p4, vI p5, vU] [(.long q1)]) _
   jvm_step X0.here [X0.here.top, hx, (hb hby d54_14), X0.method', Bd.returns, narrow]
   first | (intro acts; rw [hr _ acts rfl rfl rfl]) | rw [hr _ _ rfl rfl rfl]
   exact Steps.refl _
 · show OQp (some (.long q1)) h0 n0 _ s₁.heap _
   rw [e0]
   exact ⟨rfl, N0, rfl⟩
theorem own_acc (l : Launch) (Z : State) (a0 : Array Value) (hw : TW a0 Z) (a : Addr) (wS wc : Int32) (b : Addr) (k : ClassId) (z : Int32) (f : Nat → Int32) (o : Value) (v x : Int64) (st n : Int32) (K : Nat) (h0 : Heap) (n0 : Nat) (Z0 : n0 ≤ h0.size) (H1 : Sta Z h0 sK1 sK3 "Z" (.int wS)) (H2 : ¬ (wS = 0)) (H3 : Fld Z h0 a sK1 "coder" "B" (.int wc)) (H4 : wc = 0) (H5 : Exa Z h0 a sK1) (H6 : Fld Z h0 a sK1 "value" "[B" (.ref b)) (H7 : BA Z h0 b k .byte z f) (H8 : Sta Z h0 sK7 sK9 sK10 o) (H9 : o.isRef = true) (H10 : K < 19) (H11 : ¬ (x < 0)) (H12 : ¬ (st < 0)) (H13 : (st).toNatClampNeg ≤ 100) (H14 : z = Int32.ofNat ((st).toNatClampNeg + oszL x)) (H15 : n = Int32.ofNat (oszL x)) (H16 : ∀ j, j < oszL x → (f) ((st).toNatClampNeg + j) = SBG.odg (x).toInt.natAbs (oszL x - 1 - j)) (H17 : v = opv x K) :
   OMet l Z mN30 method_8_code 7 (some .long) [] (Rm 4 0 0 60) h0 #[(.long v), (.ref a), (.int st), (.int (Int32.ofNat K)), (.int n)] (OQp (some (.long (opv x (K + 1)))) h0 n0) := by
 subst H4 H14 H15 H17
 have hs := oszL_le x
 have e1 := own_stk H12 H13 H10
 by_cases hk : K < oszL x
 · have ei : (st + (Int32.ofNat K)).toNatClampNeg = (st).toNatClampNeg + K := by rw [e1, own_cl (by omega)]
   have ef := H16 K hk
   rw [show opv x (K + 1) = (((opv x K) * 10) + (((oc8 (f ((st + (Int32.ofNat K))).toNatClampNeg)) - 48).toInt64)) from by rw [ei, ef]; exact (own_pvS hk).symm]
   exact r54_1 l Z a0 hw (opv x K) a st (Int32.ofNat K) (Int32.ofNat (oszL x)) wS (0 : Int32) b k f (Int32.ofNat ((st).toNatClampNeg + oszL x)) o h0 n0 Z0 (own_pvN H11 K) ((own_lt (by omega) (by omega)).mpr hk) H1 H2 H3 (by decide) H5 H6 H7 H8 H9 (by rw [e1]; exact own_n0 (by omega)) (by rw [e1]; exact (own_lt (by omega) (by omega)).mpr (by omega)) (by rw [ei, ef]; exact (own_dgB _ _).2.1) (by rw [ei, ef]; exact (own_dgB _ _).2.2.1)
 · rw [← own_pvE (by omega)]
   exact r54_2 l Z a0 hw (opv x K) a st (Int32.ofNat K) (Int32.ofNat (oszL x)) h0 n0 Z0 (own_pvN H11 K) (fun q => hk ((own_lt (by omega) (by omega)).mp q))
theorem d53_0 : Dc rev29 0 (.aload_n 0) 1 := by decide +kernel
theorem d53_1 : Dc rev29 1 (.invokevirtual 64) 3 := by decide +kernel
theorem d53_4 : Dc rev29 4 (.iload_n 1) 1 := by decide +kernel
theorem d53_5 : Dc rev29 5 .isub 1 := by decide +kernel
theorem d53_6 : Dc rev29 6 (.istore_n 2) 1 := by decide +kernel
theorem d53_7 : Dc rev29 7 (.iload_n 2) 1 := by decide +kernel
abbrev la11 (a1 : Addr) (p2 : Int32) (p3 : Int32) (w4 : Int32) : Array Slot := #[vR a1, vI p2, vI ((p3 >>> (w4 &&& 31)) - p2), vU, vU]
theorem d53_8 : Dc rev29 8 (.iconst 1) 1 := by decide +kernel
theorem d53_9 : Dc rev29 9 (.if_icmp .lt 9) 3 := by decide +kernel
theorem d53_12 : Dc rev29 12 (.iload_n 2) 1 := by decide +kernel
theorem d53_13 : Dc rev29 13 (.bipush 19) 2 := by decide +kernel
theorem d53_15 : Dc rev29 15 (.if_icmp .le 7) 3 := by decide +kernel
theorem d53_22 : Dc rev29 22 (.iload_n 2) 1 := by decide +kernel
theorem d53_23 : Dc rev29 23 (.iconst 1) 1 := by decide +kernel
theorem d53_24 : Dc rev29 24 (.if_icmp .le 17) 3 := by decide +kernel
theorem d53_27 : Dc rev29 27 (.aload_n 0) 1 := by decide +kernel
theorem d53_28 : Dc rev29 28 (.iload_n 1) 1 := by decide +kernel
theorem d53_29 : Dc rev29 29 (.invokevirtual 71) 3 := by decide +kernel
theorem d53_32 : Dc rev29 32 (.bipush 48) 2 := by decide +kernel
theorem d53_34 : Dc rev29 34 (.if_icmp .ne 7) 3 := by decide +kernel
theorem d53_41 : Dc rev29 41 (.lconst 0) 1 := by decide +kernel
theorem d53_42 : Dc rev29 42 (.lstore_n 3) 1 := by decide +kernel
theorem d53_43 : Dc rev29 43 (.lload_n 3) 1 := by decide +kernel
abbrev la12 (a1 : Addr) (p2 : Int32) (p3 : Int32) (w4 : Int32) : Array Slot := #[vR a1, vI p2, vI ((p3 >>> (w4 &&& 31)) - p2), vJ 0, vS]
theorem d53_44 : Dc rev29 44 (.aload_n 0) 1 := by decide +kernel
theorem d53_45 : Dc rev29 45 (.iload_n 1) 1 := by decide +kernel
theorem d53_46 : Dc rev29 46 (.iconst 0) 1 := by decide +kernel
theorem d53_47 : Dc rev29 47 (.iload_n 2) 1 := by decide +kernel
theorem d53_48 : Dc rev29 48 (.invokestatic 81) 3 := by decide +kernel
theorem pd_19 : parseMethodDescriptor "(JLjava/lang/String;III)J" = some ⟨[.long, (.object "java/lang/String"), .int, .int, .int], some .long⟩ := by decide +kernel
theorem d53_51 : Dc rev29 51 (.lstore_n 3) 1 := by decide +kernel
theorem d53_52 : Dc rev29 52 (.lload_n 3) 1 := by decide +kernel
abbrev la13 (a1 : Addr) (p2 : Int32) (p3 : Int32) (w4 : Int32) (q5 : Int64) : Array Slot := #[vR a1, vI p2, vI ((p3 >>> (w4 &&& 31)) - p2), vJ (opv q5 1), vS]
theorem d53_53 : Dc rev29 53 (.aload_n 0) 1 := by decide +kernel
theorem d53_54 : Dc rev29 54 (.iload_n 1) 1 := by decide +kernel
theorem d53_55 : Dc rev29 55 (.iconst 1) 1 := by decide +kernel
theorem d53_56 : Dc rev29 56 (.iload_n 2) 1 := by decide +kernel
theorem d53_57 : Dc rev29 57 (.invokestatic 81) 3 := by decide +kernel
theorem d53_60 : Dc rev29 60 (.lstore_n 3) 1 := by decide +kernel
theorem d53_61 : Dc rev29 61 (.lload_n 3) 1 := by decide +kernel
abbrev la14 (a1 : Addr) (p2 : Int32) (p3 : Int32) (w4 : Int32) (q5 : Int64) : Array Slot := #[vR a1, vI p2, vI ((p3 >>> (w4 &&& 31)) - p2), vJ (opv q5 2), vS]
theorem d53_62 : Dc rev29 62 (.aload_n 0) 1 := by decide +kernel
theorem d53_63 : Dc rev29 63 (.iload_n 1) 1 := by decide +kernel
theorem d53_64 : Dc rev29 64 (.iconst 2) 1 := by decide +kernel
theorem d53_65 : Dc rev29 65 (.iload_n 2) 1 := by decide +kernel
theorem d53_66 : Dc rev29 66 (.invokestatic 81) 3 := by decide +kernel
theorem d53_69 : Dc rev29 69 (.lstore_n 3) 1 := by decide +kernel
theorem d53_70 : Dc rev29 70 (.lload_n 3) 1 := by decide +kernel
abbrev la15 (a1 : Addr) (p2 : Int32) (p3 : Int32) (w4 : Int32) (q5 : Int64) : Array Slot := #[vR a1, vI p2, vI ((p3 >>> (w4 &&& 31)) - p2), vJ (opv q5 3), vS]
theorem d53_71 : Dc rev29 71 (.aload_n 0) 1 := by decide +kernel
theorem d53_72 : Dc rev29 72 (.iload_n 1) 1 := by decide +kernel
theorem d53_73 : Dc rev29 73 (.iconst 3) 1 := by decide +kernel
theorem d53_74 : Dc rev29 74 (.iload_n 2) 1 := by decide +kernel
theorem d53_75 : Dc rev29 75 (.invokestatic 81) 3 := by decide +kernel
theorem d53_78 : Dc rev29 78 (.lstore_n 3) 1 := by decide +kernel
theorem d53_79 : Dc rev29 79 (.lload_n 3) 1 := by decide +kernel
abbrev la16 (a1 : Addr) (p2 : Int32) (p3 : Int32) (w4 : Int32) (q5 : Int64) : Array Slot := #[vR a1, vI p2, vI ((p3 >>> (w4 &&& 31)) - p2), vJ (opv q5 4), vS]
theorem d53_80 : Dc rev29 80 (.aload_n 0) 1 := by decide +kernel
theorem d53_81 : Dc rev29 81 (.iload_n 1) 1 := by decide +kernel
theorem d53_82 : Dc rev29 82 (.iconst 4) 1 := by decide +kernel
theorem d53_83 : Dc rev29 83 (.iload_n 2) 1 := by decide +kernel
theorem d53_84 : Dc rev29 84 (.invokestatic 81) 3 := by decide +kernel
theorem d53_87 : Dc rev29 87 (.lstore_n 3) 1 := by decide +kernel
theorem d53_88 : Dc rev29 88 (.lload_n 3) 1 := by decide +kernel
abbrev la17 (a1 : Addr) (p2 : Int32) (p3 : Int32) (w4 : Int32) (q5 : Int64) : Array Slot := #[vR a1, vI p2, vI ((p3 >>> (w4 &&& 31)) - p2), vJ (opv q5 5), vS]
theorem d53_89 : Dc rev29 89 (.aload_n 0) 1 := by decide +kernel
theorem d53_90 : Dc rev29 90 (.iload_n 1) 1 := by decide +kernel
theorem d53_91 : Dc rev29 91 (.iconst 5) 1 := by decide +kernel
theorem d53_92 : Dc rev29 92 (.iload_n 2) 1 := by decide +kernel
theorem d53_93 : Dc rev29 93 (.invokestatic 81) 3 := by decide +kernel
theorem d53_96 : Dc rev29 96 (.lstore_n 3) 1 := by decide +kernel
theorem d53_97 : Dc rev29 97 (.lload_n 3) 1 := by decide +kernel
abbrev la18 (a1 : Addr) (p2 : Int32) (p3 : Int32) (w4 : Int32) (q5 : Int64) : Array Slot := #[vR a1, vI p2, vI ((p3 >>> (w4 &&& 31)) - p2), vJ (opv q5 6), vS]
theorem d53_98 : Dc rev29 98 (.aload_n 0) 1 := by decide +kernel
theorem d53_99 : Dc rev29 99 (.iload_n 1) 1 := by decide +kernel
theorem d53_100 : Dc rev29 100 (.bipush 6) 2 := by decide +kernel
theorem d53_102 : Dc rev29 102 (.iload_n 2) 1 := by decide +kernel
theorem d53_103 : Dc rev29 103 (.invokestatic 81) 3 := by decide +kernel
theorem d53_106 : Dc rev29 106 (.lstore_n 3) 1 := by decide +kernel
theorem d53_107 : Dc rev29 107 (.lload_n 3) 1 := by decide +kernel
abbrev la19 (a1 : Addr) (p2 : Int32) (p3 : Int32) (w4 : Int32) (q5 : Int64) : Array Slot := #[vR a1, vI p2, vI ((p3 >>> (w4 &&& 31)) - p2), vJ (opv q5 7), vS]
theorem d53_108 : Dc rev29 108 (.aload_n 0) 1 := by decide +kernel
theorem d53_109 : Dc rev29 109 (.iload_n 1) 1 := by decide +kernel
theorem d53_110 : Dc rev29 110 (.bipush 7) 2 := by decide +kernel
theorem d53_112 : Dc rev29 112 (.iload_n 2) 1 := by decide +kernel
theorem d53_113 : Dc rev29 113 (.invokestatic 81) 3 := by decide +kernel
theorem d53_116 : Dc rev29 116 (.lstore_n 3) 1 := by decide +kernel
theorem d53_117 : Dc rev29 117 (.lload_n 3) 1 := by decide +kernel
abbrev la20 (a1 : Addr) (p2 : Int32) (p3 : Int32) (w4 : Int32) (q5 : Int64) : Array Slot := #[vR a1, vI p2, vI ((p3 >>> (w4 &&& 31)) - p2), vJ (opv q5 8), vS]
theorem d53_118 : Dc rev29 118 (.aload_n 0) 1 := by decide +kernel
theorem d53_119 : Dc rev29 119 (.iload_n 1) 1 := by decide +kernel
theorem d53_120 : Dc rev29 120 (.bipush 8) 2 := by decide +kernel
theorem d53_122 : Dc rev29 122 (.iload_n 2) 1 := by decide +kernel
theorem d53_123 : Dc rev29 123 (.invokestatic 81) 3 := by decide +kernel
theorem d53_126 : Dc rev29 126 (.lstore_n 3) 1 := by decide +kernel
theorem d53_127 : Dc rev29 127 (.lload_n 3) 1 := by decide +kernel
abbrev la21 (a1 : Addr) (p2 : Int32) (p3 : Int32) (w4 : Int32) (q5 : Int64) : Array Slot := #[vR a1, vI p2, vI ((p3 >>> (w4 &&& 31)) - p2), vJ (opv q5 9), vS]
theorem d53_128 : Dc rev29 128 (.aload_n 0) 1 := by decide +kernel
theorem d53_129 : Dc rev29 129 (.iload_n 1) 1 := by decide +kernel
theorem d53_130 : Dc rev29 130 (.bipush 9) 2 := by decide +kernel
theorem d53_132 : Dc rev29 132 (.iload_n 2) 1 := by decide +kernel
theorem d53_133 : Dc rev29 133 (.invokestatic 81) 3 := by decide +kernel
theorem d53_136 : Dc rev29 136 (.lstore_n 3) 1 := by decide +kernel
theorem d53_137 : Dc rev29 137 (.lload_n 3) 1 := by decide +kernel
abbrev la22 (a1 : Addr) (p2 : Int32) (p3 : Int32) (w4 : Int32) (q5 : Int64) : Array Slot := #[vR a1, vI p2, vI ((p3 >>> (w4 &&& 31)) - p2), vJ (opv q5 10), vS]
theorem d53_138 : Dc rev29 138 (.aload_n 0) 1 := by decide +kernel
theorem d53_139 : Dc rev29 139 (.iload_n 1) 1 := by decide +kernel
theorem d53_140 : Dc rev29 140 (.bipush 10) 2 := by decide +kernel
theorem d53_142 : Dc rev29 142 (.iload_n 2) 1 := by decide +kernel
theorem d53_143 : Dc rev29 143 (.invokestatic 81) 3 := by decide +kernel
theorem d53_146 : Dc rev29 146 (.lstore_n 3) 1 := by decide +kernel
theorem d53_147 : Dc rev29 147 (.lload_n 3) 1 := by decide +kernel
abbrev la23 (a1 : Addr) (p2 : Int32) (p3 : Int32) (w4 : Int32) (q5 : Int64) : Array Slot := #[vR a1, vI p2, vI ((p3 >>> (w4 &&& 31)) - p2), vJ (opv q5 11), vS]
theorem d53_148 : Dc rev29 148 (.aload_n 0) 1 := by decide +kernel
theorem d53_149 : Dc rev29 149 (.iload_n 1) 1 := by decide +kernel
theorem d53_150 : Dc rev29 150 (.bipush 11) 2 := by decide +kernel
theorem d53_152 : Dc rev29 152 (.iload_n 2) 1 := by decide +kernel
theorem d53_153 : Dc rev29 153 (.invokestatic 81) 3 := by decide +kernel
theorem d53_156 : Dc rev29 156 (.lstore_n 3) 1 := by decide +kernel
theorem d53_157 : Dc rev29 157 (.lload_n 3) 1 := by decide +kernel
abbrev la24 (a1 : Addr) (p2 : Int32) (p3 : Int32) (w4 : Int32) (q5 : Int64) : Array Slot := #[vR a1, vI p2, vI ((p3 >>> (w4 &&& 31)) - p2), vJ (opv q5 12), vS]
theorem d53_158 : Dc rev29 158 (.aload_n 0) 1 := by decide +kernel
theorem d53_159 : Dc rev29 159 (.iload_n 1) 1 := by decide +kernel
theorem d53_160 : Dc rev29 160 (.bipush 12) 2 := by decide +kernel
theorem d53_162 : Dc rev29 162 (.iload_n 2) 1 := by decide +kernel
theorem d53_163 : Dc rev29 163 (.invokestatic 81) 3 := by decide +kernel
theorem d53_166 : Dc rev29 166 (.lstore_n 3) 1 := by decide +kernel
theorem d53_167 : Dc rev29 167 (.lload_n 3) 1 := by decide +kernel
abbrev la25 (a1 : Addr) (p2 : Int32) (p3 : Int32) (w4 : Int32) (q5 : Int64) : Array Slot := #[vR a1, vI p2, vI ((p3 >>> (w4 &&& 31)) - p2), vJ (opv q5 13), vS]
theorem d53_168 : Dc rev29 168 (.aload_n 0) 1 := by decide +kernel
theorem d53_169 : Dc rev29 169 (.iload_n 1) 1 := by decide +kernel
theorem d53_170 : Dc rev29 170 (.bipush 13) 2 := by decide +kernel
theorem d53_172 : Dc rev29 172 (.iload_n 2) 1 := by decide +kernel
theorem d53_173 : Dc rev29 173 (.invokestatic 81) 3 := by decide +kernel
theorem d53_176 : Dc rev29 176 (.lstore_n 3) 1 := by decide +kernel
theorem d53_177 : Dc rev29 177 (.lload_n 3) 1 := by decide +kernel
abbrev la26 (a1 : Addr) (p2 : Int32) (p3 : Int32) (w4 : Int32) (q5 : Int64) : Array Slot := #[vR a1, vI p2, vI ((p3 >>> (w4 &&& 31)) - p2), vJ (opv q5 14), vS]
theorem d53_178 : Dc rev29 178 (.aload_n 0) 1 := by decide +kernel
theorem d53_179 : Dc rev29 179 (.iload_n 1) 1 := by decide +kernel
theorem d53_180 : Dc rev29 180 (.bipush 14) 2 := by decide +kernel
theorem d53_182 : Dc rev29 182 (.iload_n 2) 1 := by decide +kernel
theorem d53_183 : Dc rev29 183 (.invokestatic 81) 3 := by decide +kernel
theorem d53_186 : Dc rev29 186 (.lstore_n 3) 1 := by decide +kernel
theorem d53_187 : Dc rev29 187 (.lload_n 3) 1 := by decide +kernel
abbrev la27 (a1 : Addr) (p2 : Int32) (p3 : Int32) (w4 : Int32) (q5 : Int64) : Array Slot := #[vR a1, vI p2, vI ((p3 >>> (w4 &&& 31)) - p2), vJ (opv q5 15), vS]
theorem d53_188 : Dc rev29 188 (.aload_n 0) 1 := by decide +kernel
theorem d53_189 : Dc rev29 189 (.iload_n 1) 1 := by decide +kernel
theorem d53_190 : Dc rev29 190 (.bipush 15) 2 := by decide +kernel
theorem d53_192 : Dc rev29 192 (.iload_n 2) 1 := by decide +kernel
theorem d53_193 : Dc rev29 193 (.invokestatic 81) 3 := by decide +kernel
theorem d53_196 : Dc rev29 196 (.lstore_n 3) 1 := by decide +kernel
theorem d53_197 : Dc rev29 197 (.lload_n 3) 1 := by decide +kernel
abbrev la28 (a1 : Addr) (p2 : Int32) (p3 : Int32) (w4 : Int32) (q5 : Int64) : Array Slot := #[vR a1, vI p2, vI ((p3 >>> (w4 &&& 31)) - p2), vJ (opv q5 16), vS]
theorem d53_198 : Dc rev29 198 (.aload_n 0) 1 := by decide +kernel
theorem d53_199 : Dc rev29 199 (.iload_n 1) 1 := by decide +kernel
theorem d53_200 : Dc rev29 200 (.bipush 16) 2 := by decide +kernel
theorem d53_202 : Dc rev29 202 (.iload_n 2) 1 := by decide +kernel
theorem d53_203 : Dc rev29 203 (.invokestatic 81) 3 := by decide +kernel
theorem d53_206 : Dc rev29 206 (.lstore_n 3) 1 := by decide +kernel
theorem d53_207 : Dc rev29 207 (.lload_n 3) 1 := by decide +kernel
abbrev la29 (a1 : Addr) (p2 : Int32) (p3 : Int32) (w4 : Int32) (q5 : Int64) : Array Slot := #[vR a1, vI p2, vI ((p3 >>> (w4 &&& 31)) - p2), vJ (opv q5 17), vS]
theorem d53_208 : Dc rev29 208 (.aload_n 0) 1 := by decide +kernel
theorem d53_209 : Dc rev29 209 (.iload_n 1) 1 := by decide +kernel
theorem d53_210 : Dc rev29 210 (.bipush 17) 2 := by decide +kernel
theorem d53_212 : Dc rev29 212 (.iload_n 2) 1 := by decide +kernel
theorem d53_213 : Dc rev29 213 (.invokestatic 81) 3 := by decide +kernel
theorem d53_216 : Dc rev29 216 (.lstore_n 3) 1 := by decide +kernel
theorem d53_217 : Dc rev29 217 (.lload_n 3) 1 := by decide +kernel
abbrev la30 (a1 : Addr) (p2 : Int32) (p3 : Int32) (w4 : Int32) (q5 : Int64) : Array Slot := #[vR a1, vI p2, vI ((p3 >>> (w4 &&& 31)) - p2), vJ (opv q5 18), vS]
theorem d53_218 : Dc rev29 218 (.aload_n 0) 1 := by decide +kernel
theorem d53_219 : Dc rev29 219 (.iload_n 1) 1 := by decide +kernel
theorem d53_220 : Dc rev29 220 (.bipush 18) 2 := by decide +kernel
theorem d53_222 : Dc rev29 222 (.iload_n 2) 1 := by decide +kernel
theorem d53_223 : Dc rev29 223 (.invokestatic 81) 3 := by decide +kernel
theorem d53_226 : Dc rev29 226 (.lstore_n 3) 1 := by decide +kernel
theorem d53_227 : Dc rev29 227 (.lload_n 3) 1 := by decide +kernel
abbrev la31 (a1 : Addr) (p2 : Int32) (p3 : Int32) (w4 : Int32) (q5 : Int64) : Array Slot := #[vR a1, vI p2, vI ((p3 >>> (w4 &&& 31)) - p2), vJ (opv q5 19), vS]
theorem d53_228 : Dc rev29 228 .lreturn 1 := by decide +kernel
theorem ef_53_vv (m : MethodId) (x0 : Addr) (x1 : Int32) : entryFrame m #[(.ref x0), (.int x1)] 5 = mkF m 0 #[.val (.ref x0), .val (.int x1), .unset, .unset, .unset] [] := by first | (simp [entryFrame, mkF, argsToLocals, Value.category]; done) | rfl
theorem r53_1 (l : Launch) (Z : State) (a0 : Array Value) (hw : TW a0 Z) (a1 : Addr) (p2 : Int32) (w3 : Addr) (k4 : ClassId) (u5 : Nat → Int32) (p6 : Int32) (w7 : Int32) (w8 : Int32) (x9 : Value) (q10 : Int64) (h0 : Heap) (n0 : Nat) (Z0 : n0 ≤ h0.size) (H0 : Fld Z h0 a1 sK1 "value" "[B" (.ref w3)) (H1 : BA Z h0 w3 k4 .byte p6 u5) (H2 : Sta Z h0 sK1 sK3 "Z" (.int w7)) (H3 : ¬ (w7 = 0)) (H4 : Fld Z h0 a1 sK1 "coder" "B" (.int w8)) (H5 : nar .byte w8 = w8) (H6 : Exa Z h0 a1 sK1) (H7 : ¬ (((p6 >>> (w8 &&& 31)) - p2) < 1)) (H8 : ¬ ((19 : Int32) < ((p6 >>> (w8 &&& 31)) - p2))) (H9 : (1 : Int32) < ((p6 >>> (w8 &&& 31)) - p2)) (H10 : w8 = 0) (H11 : Sta Z h0 sK7 sK9 sK10 x9) (H12 : (x9).isRef = true) (H13 : ¬ (p2 < 0)) (H14 : p2 < p6) (H15 : ¬ ((oc8 (u5 (p2).toNatClampNeg)) = 48)) (H16 : ¬ (q10 < 0)) (H17 : (p2).toNatClampNeg ≤ 100) (H18 : p6 = Int32.ofNat ((p2).toNatClampNeg + oszL q10)) (H19 : ((p6 >>> (w8 &&& 31)) - p2) = Int32.ofNat (oszL q10)) (H20 : ∀ j, j < oszL q10 → (u5) ((p2).toNatClampNeg + j) = SBG.odg (q10).toInt.natAbs (oszL q10 - 1 - j)) (H21 : (0 : Int64) = (opv q10 0)) :
   OMet l Z mN31 method_9_code 5 (some .long) [] (Rm 5 0 0 78) h0 #[(.ref a1), (.int p2)] (OQp (some (.long (opv q10 19))) h0 n0) := by
 refine MetFree.of_bodySF (plainFor_of_name pn_com_example_eta4_eta4_bench_ThroughputFiguresLinesPinLaw) hisR ?_
 intro p e s m args below meth c s₁ Bd hml0 hP hK
 obtain ⟨rfl, hZ, hh⟩ := hP
 have hx := Bd.exec
 have hby := Bd.bytes
 have hml : c.maxLocals = 5 := hml0
 have hown : s.vm.findClass sK14 = some m.cls := findClass_of_methodNamed Bd.named
 have X0 := own_X0 Bd
 have e0 : s₁.heap = h0 := by rw [← hh, Bd.state]; rfl
 have N0 := Fr.nil n0
 have pre0 : ∀ t, Steps p.tables e below (s₁.setTop (mkF m 0 #[vR a1, vI p2, .unset, .unset, .unset] [])) t → Steps p.tables e below (s₁.setTop (entryFrame m #[(.ref a1), (.int p2)] 5)) t := fun t k => castTop (ef_53_vv m a1 p2) k
 obtain ⟨cq11, kq11, q11a, q11b, q11c⟩ := isOf hZ e0 H6
 obtain ⟨_, _, ⟨T11, _, _, _⟩, -, X11, ⟨_, hQ, lq, yq, zq⟩, st11⟩ := X0.virtualBack hx (y := mN28) (z := mN28) hown (mvT hZ (tw hw 273 rfl)) (mvT hZ (tw hw 65 rfl)) (notFace_of_selects (args := #[]) (mvT hZ (tw hw 67 rfl))) (mvT hZ (tw hw 67 rfl)) (mvT hZ (tw hw 66 rfl)) (by decide) (backOf (W := 0) (r9_1 l Z a0 hw a1 w3 k4 u5 p6 w7 w8 h0 n0 Z0 H0 H1 H2 H3 H4 H5 H6) hZ (tw hw 68 rfl) (tw hw 42 rfl) (by decide) (by decide)) q11a q11c (g := (mkF m 1 #[vR a1, vI p2, vU, vU, vU] [(.ref a1)])) rfl (by rw [hml]; rfl) (Steps.refl _) (argsL := []) (rest := []) (lenOf pd_5 rfl) rfl (own_w _) (hb hby d53_1) (fun _ _ => ⟨rfl, e0, (by decide : 0 + 0 ≤ _), (by decide : 0 + 0 ≤ _)⟩)
 dsimp only [Pt.U, Pt.locs, Pt.cells, Pt.slots] at X11 lq yq zq st11 hQ
 replace X11 := own_mvX X11 (a := 0) (b := 0) yq zq
 obtain ⟨rfl, Nq, e11⟩ := hQ
 have N11 := own_mvN lq N0 Nq
 obtain ⟨cq12, kq12, q12a, q12b, q12c⟩ := isOf hZ e11 H6
 obtain ⟨_, _, ⟨T12, _, _, _⟩, -, X12, ⟨_, hQ, lq, yq, zq⟩, st12⟩ := X11.virtualBack hx (y := mN5) (z := mN5) hown (mvT hZ (tw hw 277 rfl)) (mvT hZ (tw hw 278 rfl)) (notFace_of_selects (args := #[]) (mvT hZ (tw hw 280 rfl))) (mvT hZ (tw hw 280 rfl)) (mvT hZ (tw hw 279 rfl)) (by decide) (backOf (W := 0) (own_ch l Z a0 hw a1 w7 w8 w3 k4 p6 u5 x9 p2 h0 n0 Z0 H2 H3 H4 H10 H6 H0 H1 H11 H12 H13 H14) hZ (tw hw 281 rfl) (tw hw 42 rfl) (by decide) (by decide)) q12a q12c (g := (mkF m 29 (la11 a1 p2 p6 w8) [(.int p2), (.ref a1)])) rfl (by rw [hml]; rfl) (Steps.refl _) (argsL := [(.int p2)]) (rest := []) (lenOf pd_18 rfl) rfl (own_w _) (hb hby d53_29) (fun _ _ => ⟨rfl, e11, (by decide : 0 + 0 ≤ _), (by decide : 0 + 0 ≤ _)⟩)
 dsimp only [Pt.U, Pt.locs, Pt.cells, Pt.slots] at X12 lq yq zq st12 hQ
 replace X12 := own_mvX X12 (a := 0) (b := 0) yq zq
 obtain ⟨rfl, Nq, e12⟩ := hQ
 have N12 := own_mvN lq N11 Nq
 obtain ⟨_, _, ⟨T13, _, _, _⟩, -, X13, ⟨_, hQ, lq, yq, zq⟩, st13⟩ := Jvm.LawKit.callS X12 hx (y := mN30) hown (mvT hZ (tw hw 302 rfl)) (mvT hZ (tw hw 303 rfl)) (mvT hZ (tw hw 265 rfl)) (mvT hZ (tw hw 304 rfl)) (by decide) (backOf (W := 0) (own_acc l Z a0 hw a1 w7 w8 w3 k4 p6 u5 x9 (0 : Int64) q10 p2 ((p6 >>> (w8 &&& 31)) - p2) 0 h0 n0 Z0 H2 H3 H4 H10 H6 H0 H1 H11 H12 (by decide) H16 H13 H17 H18 H19 H20 H21) hZ (tw hw 304 rfl) (tw hw 265 rfl) (by decide) (by decide)) (g := (mkF m 48 (la12 a1 p2 p6 w8) [(.int ((p6 >>> (w8 &&& 31)) - p2)), (.int 0), (.int p2), (.ref a1), (.long 0)])) rfl (by rw [hml]; rfl) (argsL := [(.long 0), (.ref a1), (.int p2), (.int 0), (.int ((p6 >>> (w8 &&& 31)) - p2))]) (rest := []) (lenOf pd_19 rfl) rfl (own_w _) (hb hby d53_48) (fun _ _ => ⟨rfl, e12, (by decide : 0 + 0 ≤ _), (by decide : 0 + 0 ≤ _)⟩)
 dsimp only [Pt.U, Pt.locs, Pt.cells, Pt.slots] at X13 lq yq zq st13 hQ
 replace X13 := own_mvX X13 (a := 0) (b := 0) yq zq
 obtain ⟨rfl, Nq, e13⟩ := hQ
 have N13 := own_mvN lq N12 Nq
 obtain ⟨_, _, ⟨T14, _, _, _⟩, -, X14, ⟨_, hQ, lq, yq, zq⟩, st14⟩ := Jvm.LawKit.callS X13 hx (y := mN30) hown (mvT hZ (tw hw 302 rfl)) (mvT hZ (tw hw 303 rfl)) (mvT hZ (tw hw 265 rfl)) (mvT hZ (tw hw 304 rfl)) (by decide) (backOf (W := 0) (own_acc l Z a0 hw a1 w7 w8 w3 k4 p6 u5 x9 (opv q10 1) q10 p2 ((p6 >>> (w8 &&& 31)) - p2) 1 h0 n0 Z0 H2 H3 H4 H10 H6 H0 H1 H11 H12 (by decide) H16 H13 H17 H18 H19 H20 rfl) hZ (tw hw 304 rfl) (tw hw 265 rfl) (by decide) (by decide)) (g := (mkF m 57 (la13 a1 p2 p6 w8 q10) [(.int ((p6 >>> (w8 &&& 31)) - p2)), (.int 1), (.int p2), (.ref a1), (.long (opv q10 1))])) rfl (by rw [hml]; rfl) (argsL := [(.long (opv q10 1)), (.ref a1), (.int p2), (.int 1), (.int ((p6 >>> (w8 &&& 31)) - p2))]) (rest := []) (lenOf pd_19 rfl) rfl (own_w _) (hb hby d53_57) (fun _ _ => ⟨rfl, e13, (by decide : 0 + 0 ≤ _), (by decide : 0 + 0 ≤ _)⟩)
 dsimp only [Pt.U, Pt.locs, Pt.cells, Pt.slots] at X14 lq yq zq st14 hQ
 replace X14 := own_mvX X14 (a := 0) (b := 0) yq zq
 obtain ⟨rfl, Nq, e14⟩ := hQ
 have N14 := own_mvN lq N13 Nq
 obtain ⟨_, _, ⟨T15, _, _, _⟩, -, X15, ⟨_, hQ, lq, yq, zq⟩, st15⟩ := Jvm.LawKit.callS X14 hx (y := mN30) hown (mvT hZ (tw hw 302 rfl)) (mvT hZ (tw hw 303 rfl)) (mvT hZ (tw hw 265 rfl)) (mvT hZ (tw hw 304 rfl)) (by decide) (backOf (W := 0) (own_acc l Z a0 hw a1 w7 w8 w3 k4 p6 u5 x9 (opv q10 2) q10 p2 ((p6 >>> (w8 &&& 31)) - p2) 2 h0 n0 Z0 H2 H3 H4 H10 H6 H0 H1 H11 H12 (by decide) H16 H13 H17 H18 H19 H20 rfl) hZ (tw hw 304 rfl) (tw hw 265 rfl) (by decide) (by decide)) (g := (mkF m 66 (la14 a1 p2 p6 w8 q10) [(.int ((p6 >>> (w8 &&& 31)) - p2)), (.int 2), (.int p2), (.ref a1), (.long (opv q10 2))])) rfl (by rw [hml]; rfl) (argsL := [(.long (opv q10 2)), (.ref a1), (.int p2), (.int 2), (.int ((p6 >>> (w8 &&& 31)) - p2))]) (rest := []) (lenOf pd_19 rfl) rfl (own_w _) (hb hby d53_66) (fun _ _ => ⟨rfl, e14, (by decide : 0 + 0 ≤ _), (by decide : 0 + 0 ≤ _)⟩)
 dsimp only [Pt.U, Pt.locs, Pt.cells, Pt.slots] at X15 lq yq zq st15 hQ
 replace X15 := own_mvX X15 (a := 0) (b := 0) yq zq
 obtain ⟨rfl, Nq, e15⟩ := hQ
 have N15 := own_mvN lq N14 Nq
 obtain ⟨_, _, ⟨T16, _, _, _⟩, -, X16, ⟨_, hQ, lq, yq, zq⟩, st16⟩ := Jvm.LawKit.callS X15 hx (y := mN30) hown (mvT hZ (tw hw 302 rfl)) (mvT hZ (tw hw 303 rfl)) (mvT hZ (tw hw 265 rfl)) (mvT hZ (tw hw 304 rfl)) (by decide) (backOf (W := 0) (own_acc l Z a0 hw a1 w7 w8 w3 k4 p6 u5 x9 (opv q10 3) q10 p2 ((p6 >>> (w8 &&& 31)) - p2) 3 h0 n0 Z0 H2 H3 H4 H10 H6 H0 H1 H11 H12 (by decide) H16 H13 H17 H18 H19 H20 rfl) hZ (tw hw 304 rfl) (tw hw 265 rfl) (by decide) (by decide)) (g := (mkF m 75 (la15 a1 p2 p6 w8 q10) [(.int ((p6 >>> (w8 &&& 31)) - p2)), (.int 3), (.int p2), (.ref a1), (.long (opv q10 3))])) rfl (by rw [hml]; rfl) (argsL := [(.long (opv q10 3)), (.ref a1), (.int p2), (.int 3), (.int ((p6 >>> (w8 &&& 31)) - p2))]) (rest := []) (lenOf pd_19 rfl) rfl (own_w _) (hb hby d53_75) (fun _ _ => ⟨rfl, e15, (by decide : 0 + 0 ≤ _), (by decide : 0 + 0 ≤ _)⟩)
 dsimp only [Pt.U, Pt.locs, Pt.cells, Pt.slots] at X16 lq yq zq st16 hQ
 replace X16 := own_mvX X16 (a := 0) (b := 0) yq zq
 obtain ⟨rfl, Nq, e16⟩ := hQ
 have N16 := own_mvN lq N15 Nq
 obtain ⟨_, _, ⟨T17, _, _, _⟩, -, X17, ⟨_, hQ, lq, yq, zq⟩, st17⟩ := Jvm.LawKit.callS X16 hx (y := mN30) hown (mvT hZ (tw hw 302 rfl)) (mvT hZ (tw hw 303 rfl)) (mvT hZ (tw hw 265 rfl)) (mvT hZ (tw hw 304 rfl)) (by decide) (backOf (W := 0) (own_acc l Z a0 hw a1 w7 w8 w3 k4 p6 u5 x9 (opv q10 4) q10 p2 ((p6 >>> (w8 &&& 31)) - p2) 4 h0 n0 Z0 H2 H3 H4 H10 H6 H0 H1 H11 H12 (by decide) H16 H13 H17 H18 H19 H20 rfl) hZ (tw hw 304 rfl) (tw hw 265 rfl) (by decide) (by decide)) (g := (mkF m 84 (la16 a1 p2 p6 w8 q10) [(.int ((p6 >>> (w8 &&& 31)) - p2)), (.int 4), (.int p2), (.ref a1), (.long (opv q10 4))])) rfl (by rw [hml]; rfl) (argsL := [(.long (opv q10 4)), (.ref a1), (.int p2), (.int 4), (.int ((p6 >>> (w8 &&& 31)) - p2))]) (rest := []) (lenOf pd_19 rfl) rfl (own_w _) (hb hby d53_84) (fun _ _ => ⟨rfl, e16, (by decide : 0 + 0 ≤ _), (by decide : 0 + 0 ≤ _)⟩)
 dsimp only [Pt.U, Pt.locs, Pt.cells, Pt.slots] at X17 lq yq zq st17 hQ
 replace X17 := own_mvX X17 (a := 0) (b := 0) yq zq
 obtain ⟨rfl, Nq, e17⟩ := hQ
 have N17 := own_mvN lq N16 Nq
 obtain ⟨_, _, ⟨T18, _, _, _⟩, -, X18, ⟨_, hQ, lq, yq, zq⟩, st18⟩ := Jvm.LawKit.callS X17 hx (y := mN30) hown (mvT hZ (tw hw 302 rfl)) (mvT hZ (tw hw 303 rfl)) (mvT hZ (tw hw 265 rfl)) (mvT hZ (tw hw 304 rfl)) (by decide) (backOf (W := 0) (own_acc l Z a0 hw a1 w7 w8 w3 k4 p6 u5 x9 (opv q10 5) q10 p2 ((p6 >>> (w8 &&& 31)) - p2) 5 h0 n0 Z0 H2 H3 H4 H10 H6 H0 H1 H11 H12 (by decide) H16 H13 H17 H18 H19 H20 rfl) hZ (tw hw 304 rfl) (tw hw 265 rfl) (by decide) (by decide)) (g := (mkF m 93 (la17 a1 p2 p6 w8 q10) [(.int ((p6 >>> (w8 &&& 31)) - p2)), (.int 5), (.int p2), (.ref a1), (.long (opv q10 5))])) rfl (by rw [hml]; rfl) (argsL := [(.long (opv q10 5)), (.ref a1), (.int p2), (.int 5), (.int ((p6 >>> (w8 &&& 31)) - p2))]) (rest := []) (lenOf pd_19 rfl) rfl (own_w _) (hb hby d53_93) (fun _ _ => ⟨rfl, e17, (by decide : 0 + 0 ≤ _), (by decide : 0 + 0 ≤ _)⟩)
 dsimp only [Pt.U, Pt.locs, Pt.cells, Pt.slots] at X18 lq yq zq st18 hQ
 replace X18 := own_mvX X18 (a := 0) (b := 0) yq zq
 obtain ⟨rfl, Nq, e18⟩ := hQ
 have N18 := own_mvN lq N17 Nq
 obtain ⟨_, _, ⟨T19, _, _, _⟩, -, X19, ⟨_, hQ, lq, yq, zq⟩, st19⟩ := Jvm.LawKit.callS X18 hx (y := mN30) hown (mvT hZ (tw hw 302 rfl)) (mvT hZ (tw hw 303 rfl)) (mvT hZ (tw hw 265 rfl)) (mvT hZ (tw hw 304 rfl)) (by decide) (backOf (W := 0) (own_acc l Z a0 hw a1 w7 w8 w3 k4 p6 u5 x9 (opv q10 6) q10 p2 ((p6 >>> (w8 &&& 31)) - p2) 6 h0 n0 Z0 H2 H3 H4 H10 H6 H0 H1 H11 H12 (by decide) H16 H13 H17 H18 H19 H20 rfl) hZ (tw hw 304 rfl) (tw hw 265 rfl) (by decide) (by decide)) (g := (mkF m 103 (la18 a1 p2 p6 w8 q10) [(.int ((p6 >>> (w8 &&& 31)) - p2)), (.int 6), (.int p2), (.ref a1), (.long (opv q10 6))])) rfl (by rw [hml]; rfl) (argsL := [(.long (opv q10 6)), (.ref a1), (.int p2), (.int 6), (.int ((p6 >>> (w8 &&& 31)) - p2))]) (rest := []) (lenOf pd_19 rfl) rfl (own_w _) (hb hby d53_103) (fun _ _ => ⟨rfl, e18, (by decide : 0 + 0 ≤ _), (by decide : 0 + 0 ≤ _)⟩)
 dsimp only [Pt.U, Pt.locs, Pt.cells, Pt.slots] at X19 lq yq zq st19 hQ
 replace X19 := own_mvX X19 (a := 0) (b := 0) yq zq
 obtain ⟨rfl, Nq, e19⟩ := hQ
 have N19 := own_mvN lq N18 Nq
 obtain ⟨_, _, ⟨T20, _, _, _⟩, -, X20, ⟨_, hQ, lq, yq, zq⟩, st20⟩ := Jvm.LawKit.callS X19 hx (y := mN30) hown (mvT hZ (tw hw 302 rfl)) (mvT hZ (tw hw 303 rfl)) (mvT hZ (tw hw 265 rfl)) (mvT hZ (tw hw 304 rfl)) (by decide) (backOf (W := 0) (own_acc l Z a0 hw a1 w7 w8 w3 k4 p6 u5 x9 (opv q10 7) q10 p2 ((p6 >>> (w8 &&& 31)) - p2) 7 h0 n0 Z0 H2 H3 H4 H10 H6 H0 H1 H11 H12 (by decide) H16 H13 H17 H18 H19 H20 rfl) hZ (tw hw 304 rfl) (tw hw 265 rfl) (by decide) (by decide)) (g := (mkF m 113 (la19 a1 p2 p6 w8 q10) [(.int ((p6 >>> (w8 &&& 31)) - p2)), (.int 7), (.int p2), (.ref a1), (.long (opv q10 7))])) rfl (by rw [hml]; rfl) (argsL := [(.long (opv q10 7)), (.ref a1), (.int p2), (.int 7), (.int ((p6 >>> (w8 &&& 31)) - p2))]) (rest := []) (lenOf pd_19 rfl) rfl (own_w _) (hb hby d53_113) (fun _ _ => ⟨rfl, e19, (by decide : 0 + 0 ≤ _), (by decide : 0 + 0 ≤ _)⟩)
 dsimp only [Pt.U, Pt.locs, Pt.cells, Pt.slots] at X20 lq yq zq st20 hQ
 replace X20 := own_mvX X20 (a := 0) (b := 0) yq zq
 obtain ⟨rfl, Nq, e20⟩ := hQ
 have N20 := own_mvN lq N19 Nq
 obtain ⟨_, _, ⟨T21, _, _, _⟩, -, X21, ⟨_, hQ, lq, yq, zq⟩, st21⟩ := Jvm.LawKit.callS X20 hx (y := mN30) hown (mvT hZ (tw hw 302 rfl)) (mvT hZ (tw hw 303 rfl)) (mvT hZ (tw hw 265 rfl)) (mvT hZ (tw hw 304 rfl)) (by decide) (backOf (W := 0) (own_acc l Z a0 hw a1 w7 w8 w3 k4 p6 u5 x9 (opv q10 8) q10 p2 ((p6 >>> (w8 &&& 31)) - p2) 8 h0 n0 Z0 H2 H3 H4 H10 H6 H0 H1 H11 H12 (by decide) H16 H13 H17 H18 H19 H20 rfl) hZ (tw hw 304 rfl) (tw hw 265 rfl) (by decide) (by decide)) (g := (mkF m 123 (la20 a1 p2 p6 w8 q10) [(.int ((p6 >>> (w8 &&& 31)) - p2)), (.int 8), (.int p2), (.ref a1), (.long (opv q10 8))])) rfl (by rw [hml]; rfl) (argsL := [(.long (opv q10 8)), (.ref a1), (.int p2), (.int 8), (.int ((p6 >>> (w8 &&& 31)) - p2))]) (rest := []) (lenOf pd_19 rfl) rfl (own_w _) (hb hby d53_123) (fun _ _ => ⟨rfl, e20, (by decide : 0 + 0 ≤ _), (by decide : 0 + 0 ≤ _)⟩)
 dsimp only [Pt.U, Pt.locs, Pt.cells, Pt.slots] at X21 lq yq zq st21 hQ
 replace X21 := own_mvX X21 (a := 0) (b := 0) yq zq
 obtain ⟨rfl, Nq, e21⟩ := hQ
 have N21 := own_mvN lq N20 Nq
 obtain ⟨_, _, ⟨T22, _, _, _⟩, -, X22, ⟨_, hQ, lq, yq, zq⟩, st22⟩ := Jvm.LawKit.callS X21 hx (y := mN30) hown (mvT hZ (tw hw 302 rfl)) (mvT hZ (tw hw 303 rfl)) (mvT hZ (tw hw 265 rfl)) (mvT hZ (tw hw 304 rfl)) (by decide) (backOf (W := 0) (own_acc l Z a0 hw a1 w7 w8 w3 k4 p6 u5 x9 (opv q10 9) q10 p2 ((p6 >>> (w8 &&& 31)) - p2) 9 h0 n0 Z0 H2 H3 H4 H10 H6 H0 H1 H11 H12 (by decide) H16 H13 H17 H18 H19 H20 rfl) hZ (tw hw 304 rfl) (tw hw 265 rfl) (by decide) (by decide)) (g := (mkF m 133 (la21 a1 p2 p6 w8 q10) [(.int ((p6 >>> (w8 &&& 31)) - p2)), (.int 9), (.int p2), (.ref a1), (.long (opv q10 9))])) rfl (by rw [hml]; rfl) (argsL := [(.long (opv q10 9)), (.ref a1), (.int p2), (.int 9), (.int ((p6 >>> (w8 &&& 31)) - p2))]) (rest := []) (lenOf pd_19 rfl) rfl (own_w _) (hb hby d53_133) (fun _ _ => ⟨rfl, e21, (by decide : 0 + 0 ≤ _), (by decide : 0 + 0 ≤ _)⟩)
 dsimp only [Pt.U, Pt.locs, Pt.cells, Pt.slots] at X22 lq yq zq st22 hQ
 replace X22 := own_mvX X22 (a := 0) (b := 0) yq zq
 obtain ⟨rfl, Nq, e22⟩ := hQ
 have N22 := own_mvN lq N21 Nq
 obtain ⟨_, _, ⟨T23, _, _, _⟩, -, X23, ⟨_, hQ, lq, yq, zq⟩, st23⟩ := Jvm.LawKit.callS X22 hx (y := mN30) hown (mvT hZ (tw hw 302 rfl)) (mvT hZ (tw hw 303 rfl)) (mvT hZ (tw hw 265 rfl)) (mvT hZ (tw hw 304 rfl)) (by decide) (backOf (W := 0) (own_acc l Z a0 hw a1 w7 w8 w3 k4 p6 u5 x9 (opv q10 10) q10 p2 ((p6 >>> (w8 &&& 31)) - p2) 10 h0 n0 Z0 H2 H3 H4 H10 H6 H0 H1 H11 H12 (by decide) H16 H13 H17 H18 H19 H20 rfl) hZ (tw hw 304 rfl) (tw hw 265 rfl) (by decide) (by decide)) (g := (mkF m 143 (la22 a1 p2 p6 w8 q10) [(.int ((p6 >>> (w8 &&& 31)) - p2)), (.int 10), (.int p2), (.ref a1), (.long (opv q10 10))])) rfl (by rw [hml]; rfl) (argsL := [(.long (opv q10 10)), (.ref a1), (.int p2), (.int 10), (.int ((p6 >>> (w8 &&& 31)) - p2))]) (rest := []) (lenOf pd_19 rfl) rfl (own_w _) (hb hby d53_143) (fun _ _ => ⟨rfl, e22, (by decide : 0 + 0 ≤ _), (by decide : 0 + 0 ≤ _)⟩)
 dsimp only [Pt.U, Pt.locs, Pt.cells, Pt.slots] at X23 lq yq zq st23 hQ
 replace X23 := own_mvX X23 (a := 0) (b := 0) yq zq
 obtain ⟨rfl, Nq, e23⟩ := hQ
 have N23 := own_mvN lq N22 Nq
 obtain ⟨_, _, ⟨T24, _, _, _⟩, -, X24, ⟨_, hQ, lq, yq, zq⟩, st24⟩ := Jvm.LawKit.callS X23 hx (y := mN30) hown (mvT hZ (tw hw 302 rfl)) (mvT hZ (tw hw 303 rfl)) (mvT hZ (tw hw 265 rfl)) (mvT hZ (tw hw 304 rfl)) (by decide) (backOf (W := 0) (own_acc l Z a0 hw a1 w7 w8 w3 k4 p6 u5 x9 (opv q10 11) q10 p2 ((p6 >>> (w8 &&& 31)) - p2) 11 h0 n0 Z0 H2 H3 H4 H10 H6 H0 H1 H11 H12 (by decide) H16 H13 H17 H18 H19 H20 rfl) hZ (tw hw 304 rfl) (tw hw 265 rfl) (by decide) (by decide)) (g := (mkF m 153 (la23 a1 p2 p6 w8 q10) [(.int ((p6 >>> (w8 &&& 31)) - p2)), (.int 11), (.int p2), (.ref a1), (.long (opv q10 11))])) rfl (by rw [hml]; rfl) (argsL := [(.long (opv q10 11)), (.ref a1), (.int p2), (.int 11), (.int ((p6 >>> (w8 &&& 31)) - p2))]) (rest := []) (lenOf pd_19 rfl) rfl (own_w _) (hb hby d53_153) (fun _ _ => ⟨rfl, e23, (by decide : 0 + 0 ≤ _), (by decide : 0 + 0 ≤ _)⟩)
 dsimp only [Pt.U, Pt.locs, Pt.cells, Pt.slots] at X24 lq yq zq st24 hQ
 replace X24 := own_mvX X24 (a := 0) (b := 0) yq zq
 obtain ⟨rfl, Nq, e24⟩ := hQ
 have N24 := own_mvN lq N23 Nq
 obtain ⟨_, _, ⟨T25, _, _, _⟩, -, X25, ⟨_, hQ, lq, yq, zq⟩, st25⟩ := Jvm.LawKit.callS X24 hx (y := mN30) hown (mvT hZ (tw hw 302 rfl)) (mvT hZ (tw hw 303 rfl)) (mvT hZ (tw hw 265 rfl)) (mvT hZ (tw hw 304 rfl)) (by decide) (backOf (W := 0) (own_acc l Z a0 hw a1 w7 w8 w3 k4 p6 u5 x9 (opv q10 12) q10 p2 ((p6 >>> (w8 &&& 31)) - p2) 12 h0 n0 Z0 H2 H3 H4 H10 H6 H0 H1 H11 H12 (by decide) H16 H13 H17 H18 H19 H20 rfl) hZ (tw hw 304 rfl) (tw hw 265 rfl) (by decide) (by decide)) (g := (mkF m 163 (la24 a1 p2 p6 w8 q10) [(.int ((p6 >>> (w8 &&& 31)) - p2)), (.int 12), (.int p2), (.ref a1), (.long (opv q10 12))])) rfl (by rw [hml]; rfl) (argsL := [(.long (opv q10 12)), (.ref a1), (.int p2), (.int 12), (.int ((p6 >>> (w8 &&& 31)) - p2))]) (rest := []) (lenOf pd_19 rfl) rfl (own_w _) (hb hby d53_163) (fun _ _ => ⟨rfl, e24, (by decide : 0 + 0 ≤ _), (by decide : 0 + 0 ≤ _)⟩)
 dsimp only [Pt.U, Pt.locs, Pt.cells, Pt.slots] at X25 lq yq zq st25 hQ
 replace X25 := own_mvX X25 (a := 0) (b := 0) yq zq
 obtain ⟨rfl, Nq, e25⟩ := hQ
 have N25 := own_mvN lq N24 Nq
 obtain ⟨_, _, ⟨T26, _, _, _⟩, -, X26, ⟨_, hQ, lq, yq, zq⟩, st26⟩ := Jvm.LawKit.callS X25 hx (y := mN30) hown (mvT hZ (tw hw 302 rfl)) (mvT hZ (tw hw 303 rfl)) (mvT hZ (tw hw 265 rfl)) (mvT hZ (tw hw 304 rfl)) (by decide) (backOf (W := 0) (own_acc l Z a0 hw a1 w7 w8 w3 k4 p6 u5 x9 (opv q10 13) q10 p2 ((p6 >>> (w8 &&& 31)) - p2) 13 h0 n0 Z0 H2 H3 H4 H10 H6 H0 H1 H11 H12 (by decide) H16 H13 H17 H18 H19 H20 rfl) hZ (tw hw 304 rfl) (tw hw 265 rfl) (by decide) (by decide)) (g := (mkF m 173 (la25 a1 p2 p6 w8 q10) [(.int ((p6 >>> (w8 &&& 31)) - p2)), (.int 13), (.int p2), (.ref a1), (.long (opv q10 13))])) rfl (by rw [hml]; rfl) (argsL := [(.long (opv q10 13)), (.ref a1), (.int p2), (.int 13), (.int ((p6 >>> (w8 &&& 31)) - p2))]) (rest := []) (lenOf pd_19 rfl) rfl (own_w _) (hb hby d53_173) (fun _ _ => ⟨rfl, e25, (by decide : 0 + 0 ≤ _), (by decide : 0 + 0 ≤ _)⟩)
 dsimp only [Pt.U, Pt.locs, Pt.cells, Pt.slots] at X26 lq yq zq st26 hQ
 replace X26 := own_mvX X26 (a := 0) (b := 0) yq zq
 obtain ⟨rfl, Nq, e26⟩ := hQ
 have N26 := own_mvN lq N25 Nq
 obtain ⟨_, _, ⟨T27, _, _, _⟩, -, X27, ⟨_, hQ, lq, yq, zq⟩, st27⟩ := Jvm.LawKit.callS X26 hx (y := mN30) hown (mvT hZ (tw hw 302 rfl)) (mvT hZ (tw hw 303 rfl)) (mvT hZ (tw hw 265 rfl)) (mvT hZ (tw hw 304 rfl)) (by decide) (backOf (W := 0) (own_acc l Z a0 hw a1 w7 w8 w3 k4 p6 u5 x9 (opv q10 14) q10 p2 ((p6 >>> (w8 &&& 31)) - p2) 14 h0 n0 Z0 H2 H3 H4 H10 H6 H0 H1 H11 H12 (by decide) H16 H13 H17 H18 H19 H20 rfl) hZ (tw hw 304 rfl) (tw hw 265 rfl) (by decide) (by decide)) (g := (mkF m 183 (la26 a1 p2 p6 w8 q10) [(.int ((p6 >>> (w8 &&& 31)) - p2)), (.int 14), (.int p2), (.ref a1), (.long (opv q10 14))])) rfl (by rw [hml]; rfl) (argsL := [(.long (opv q10 14)), (.ref a1), (.int p2), (.int 14), (.int ((p6 >>> (w8 &&& 31)) - p2))]) (rest := []) (lenOf pd_19 rfl) rfl (own_w _) (hb hby d53_183) (fun _ _ => ⟨rfl, e26, (by decide : 0 + 0 ≤ _), (by decide : 0 + 0 ≤ _)⟩)
 dsimp only [Pt.U, Pt.locs, Pt.cells, Pt.slots] at X27 lq yq zq st27 hQ
 replace X27 := own_mvX X27 (a := 0) (b := 0) yq zq
 obtain ⟨rfl, Nq, e27⟩ := hQ
 have N27 := own_mvN lq N26 Nq
 obtain ⟨_, _, ⟨T28, _, _, _⟩, -, X28, ⟨_, hQ, lq, yq, zq⟩, st28⟩ := Jvm.LawKit.callS X27 hx (y := mN30) hown (mvT hZ (tw hw 302 rfl)) (mvT hZ (tw hw 303 rfl)) (mvT hZ (tw hw 265 rfl)) (mvT hZ (tw hw 304 rfl)) (by decide) (backOf (W := 0) (own_acc l Z a0 hw a1 w7 w8 w3 k4 p6 u5 x9 (opv q10 15) q10 p2 ((p6 >>> (w8 &&& 31)) - p2) 15 h0 n0 Z0 H2 H3 H4 H10 H6 H0 H1 H11 H12 (by decide) H16 H13 H17 H18 H19 H20 rfl) hZ (tw hw 304 rfl) (tw hw 265 rfl) (by decide) (by decide)) (g := (mkF m 193 (la27 a1 p2 p6 w8 q10) [(.int ((p6 >>> (w8 &&& 31)) - p2)), (.int 15), (.int p2), (.ref a1), (.long (opv q10 15))])) rfl (by rw [hml]; rfl) (argsL := [(.long (opv q10 15)), (.ref a1), (.int p2), (.int 15), (.int ((p6 >>> (w8 &&& 31)) - p2))]) (rest := []) (lenOf pd_19 rfl) rfl (own_w _) (hb hby d53_193) (fun _ _ => ⟨rfl, e27, (by decide : 0 + 0 ≤ _), (by decide : 0 + 0 ≤ _)⟩)
 dsimp only [Pt.U, Pt.locs, Pt.cells, Pt.slots] at X28 lq yq zq st28 hQ
 replace X28 := own_mvX X28 (a := 0) (b := 0) yq zq
 obtain ⟨rfl, Nq, e28⟩ := hQ
 have N28 := own_mvN lq N27 Nq
 obtain ⟨_, _, ⟨T29, _, _, _⟩, -, X29, ⟨_, hQ, lq, yq, zq⟩, st29⟩ := Jvm.LawKit.callS X28 hx (y := mN30) hown (mvT hZ (tw hw 302 rfl)) (mvT hZ (tw hw 303 rfl)) (mvT hZ (tw hw 265 rfl)) (mvT hZ (tw hw 304 rfl)) (by decide) (backOf (W := 0) (own_acc l Z a0 hw a1 w7 w8 w3 k4 p6 u5 x9 (opv q10 16) q10 p2 ((p6 >>> (w8 &&& 31)) - p2) 16 h0 n0 Z0 H2 H3 H4 H10 H6 H0 H1 H11 H12 (by decide) H16 H13 H17 H18 H19 H20 rfl) hZ (tw hw 304 rfl) (tw hw 265 rfl) (by decide) (by decide)) (g := (mkF m 203 (la28 a1 p2 p6 w8 q10) [(.int ((p6 >>> (w8 &&& 31)) - p2)), (.int 16), (.int p2), (.ref a1), (.long (opv q10 16))])) rfl (by rw [hml]; rfl) (argsL := [(.long (opv q10 16)), (.ref a1), (.int p2), (.int 16), (.int ((p6 >>> (w8 &&& 31)) - p2))]) (rest := []) (lenOf pd_19 rfl) rfl (own_w _) (hb hby d53_203) (fun _ _ => ⟨rfl, e28, (by decide : 0 + 0 ≤ _), (by decide : 0 + 0 ≤ _)⟩)
 dsimp only [Pt.U, Pt.locs, Pt.cells, Pt.slots] at X29 lq yq zq st29 hQ
 replace X29 := own_mvX X29 (a := 0) (b := 0) yq zq
 obtain ⟨rfl, Nq, e29⟩ := hQ
 have N29 := own_mvN lq N28 Nq
 obtain ⟨_, _, ⟨T30, _, _, _⟩, -, X30, ⟨_, hQ, lq, yq, zq⟩, st30⟩ := Jvm.LawKit.callS X29 hx (y := mN30) hown (mvT hZ (tw hw 302 rfl)) (mvT hZ (tw hw 303 rfl)) (mvT hZ (tw hw 265 rfl)) (mvT hZ (tw hw 304 rfl)) (by decide) (backOf (W := 0) (own_acc l Z a0 hw a1 w7 w8 w3 k4 p6 u5 x9 (opv q10 17) q10 p2 ((p6 >>> (w8 &&& 31)) - p2) 17 h0 n0 Z0 H2 H3 H4 H10 H6 H0 H1 H11 H12 (by decide) H16 H13 H17 H18 H19 H20 rfl) hZ (tw hw 304 rfl) (tw hw 265 rfl) (by decide) (by decide)) (g := (mkF m 213 (la29 a1 p2 p6 w8 q10) [(.int ((p6 >>> (w8 &&& 31)) - p2)), (.int 17), (.int p2), (.ref a1), (.long (opv q10 17))])) rfl (by rw [hml]; rfl) (argsL := [(.long (opv q10 17)), (.ref a1), (.int p2), (.int 17), (.int ((p6 >>> (w8 &&& 31)) - p2))]) (rest := []) (lenOf pd_19 rfl) rfl (own_w _) (hb hby d53_213) (fun _ _ => ⟨rfl, e29, (by decide : 0 + 0 ≤ _), (by decide : 0 + 0 ≤ _)⟩)
 dsimp only [Pt.U, Pt.locs, Pt.cells, Pt.slots] at X30 lq yq zq st30 hQ
 replace X30 := own_mvX X30 (a := 0) (b := 0) yq zq
 obtain ⟨rfl, Nq, e30⟩ := hQ
 have N30 := own_mvN lq N29 Nq
 obtain ⟨_, _, ⟨T31, _, _, _⟩, -, X31, ⟨_, hQ, lq, yq, zq⟩, st31⟩ := Jvm.LawKit.callS X30 hx (y := mN30) hown (mvT hZ (tw hw 302 rfl)) (mvT hZ (tw hw 303 rfl)) (mvT hZ (tw hw 265 rfl)) (mvT hZ (tw hw 304 rfl)) (by decide) (backOf (W := 0) (own_acc l Z a0 hw a1 w7 w8 w3 k4 p6 u5 x9 (opv q10 18) q10 p2 ((p6 >>> (w8 &&& 31)) - p2) 18 h0 n0 Z0 H2 H3 H4 H10 H6 H0 H1 H11 H12 (by decide) H16 H13 H17 H18 H19 H20 rfl) hZ (tw hw 304 rfl) (tw hw 265 rfl) (by decide) (by decide)) (g := (mkF m 223 (la30 a1 p2 p6 w8 q10) [(.int ((p6 >>> (w8 &&& 31)) - p2)), (.int 18), (.int p2), (.ref a1), (.long (opv q10 18))])) rfl (by rw [hml]; rfl) (argsL := [(.long (opv q10 18)), (.ref a1), (.int p2), (.int 18), (.int ((p6 >>> (w8 &&& 31)) - p2))]) (rest := []) (lenOf pd_19 rfl) rfl (own_w _) (hb hby d53_223) (fun _ _ => ⟨rfl, e30, (by decide : 0 + 0 ≤ _), (by decide : 0 + 0 ≤ _)⟩)
 dsimp only [Pt.U, Pt.locs, Pt.cells, Pt.slots] at X31 lq yq zq st31 hQ
 replace X31 := own_mvX X31 (a := 0) (b := 0) yq zq
 obtain ⟨rfl, Nq, e31⟩ := hQ
 have N31 := own_mvN lq N30 Nq
 obtain ⟨fs, hr, hrun, hended, hW, hsame⟩ := X31.leave (v := some (.long (opv q10 19))) (fun h => by rw [Bd.returns] at h; cases h)
 refine ⟨_, _, pre0 _ ?_, hrun, hended, _, _, rfl, ?_, ⟨_, rfl⟩, hW, hsame.mono (by decide) (by decide)⟩
 · show SG p e below s₁ (mkF m 0 #[vR a1, vI p2, vU, vU, vU] []) _
   refine XS.aloadN X0.here hx rfl (hb hby d53_0) rfl rfl ?_
   show SG p e below s₁ (mkF m 1 #[vR a1, vI p2, vU, vU, vU] [(.ref a1)]) _
   refine st11.trans ?_
   show SG p e below T11 (mkF m 4 #[vR a1, vI p2, vU, vU, vU] [(.int (p6 >>> (w8 &&& 31)))]) _
   refine XS.iloadN X11.here hx rfl (hb hby d53_4) rfl ?_
   refine XS.isub X11.here hx rfl (hb hby d53_5) rfl ?_
   show SG p e below T11 (mkF m 6 #[vR a1, vI p2, vU, vU, vU] [(.int ((p6 >>> (w8 &&& 31)) - p2))]) _
   refine XS.istoreN X11.here hx rfl (hb hby d53_6) rfl (l' := #[vR a1, vI p2, vI ((p6 >>> (w8 &&& 31)) - p2), vU, vU]) rfl ?_
   show SG p e below T11 (mkF m 7 (la11 a1 p2 p6 w8) []) _
   refine XS.iloadN X11.here hx rfl (hb hby d53_7) rfl ?_
   refine XS.iconst X11.here hx rfl (hb hby d53_8) ?_
   show SG p e below T11 (mkF m 9 (la11 a1 p2 p6 w8) [(.int 1), (.int ((p6 >>> (w8 &&& 31)) - p2))]) _
   refine XS.icmpNo X11.here hx rfl (hb hby d53_9) rfl (flt H7).1 ?_
   show SG p e below T11 (mkF m 12 (la11 a1 p2 p6 w8) []) _
   refine XS.iloadN X11.here hx rfl (hb hby d53_12) rfl ?_
   refine XS.bipush X11.here hx rfl (hb hby d53_13) ?_
   show SG p e below T11 (mkF m 15 (la11 a1 p2 p6 w8) [(.int 19), (.int ((p6 >>> (w8 &&& 31)) - p2))]) _
   refine XS.icmpYes X11.here hx rfl (pc0 := 15) (pc' := 22) rfl (hb hby d53_15) rfl (flt H8).2.2.2 (by decide) (by decide) ?_
   show SG p e below T11 (mkF m 22 (la11 a1 p2 p6 w8) []) _
   refine XS.iloadN X11.here hx rfl (hb hby d53_22) rfl ?_
   refine XS.iconst X11.here hx rfl (hb hby d53_23) ?_
   show SG p e below T11 (mkF m 24 (la11 a1 p2 p6 w8) [(.int 1), (.int ((p6 >>> (w8 &&& 31)) - p2))]) _
   refine XS.icmpNo X11.here hx rfl (hb hby d53_24) rfl (tlt H9).2.2.2 ?_
   show SG p e below T11 (mkF m 27 (la11 a1 p2 p6 w8) []) _
   refine XS.aloadN X11.here hx rfl (hb hby d53_27) rfl rfl ?_
   refine XS.iloadN X11.here hx rfl (hb hby d53_28) rfl ?_
   show SG p e below T11 (mkF m 29 (la11 a1 p2 p6 w8) [(.int p2), (.ref a1)]) _
   refine st12.trans ?_
   show SG p e below T12 (mkF m 32 (la11 a1 p2 p6 w8) [(.int (oc8 (u5 (p2).toNatClampNeg)))]) _
   refine XS.bipush X12.here hx rfl (hb hby d53_32) ?_
   refine XS.icmpYes X12.here hx rfl (pc0 := 34) (pc' := 41) rfl (hb hby d53_34) rfl (feq H15).2 (by decide) (by decide) ?_
   show SG p e below T12 (mkF m 41 (la11 a1 p2 p6 w8) []) _
   refine XS.lconst X12.here hx rfl (hb hby d53_41) ?_
   refine XS.lstoreN X12.here hx rfl (hb hby d53_42) rfl (l' := #[vR a1, vI p2, vI ((p6 >>> (w8 &&& 31)) - p2), vJ 0, vS]) rfl ?_
   show SG p e below T12 (mkF m 43 (la12 a1 p2 p6 w8) []) _
   refine XS.lloadN X12.here hx rfl (hb hby d53_43) rfl ?_
   refine XS.aloadN X12.here hx rfl (hb hby d53_44) rfl rfl ?_
   show SG p e below T12 (mkF m 45 (la12 a1 p2 p6 w8) [(.ref a1), (.long 0)]) _
   refine XS.iloadN X12.here hx rfl (hb hby d53_45) rfl ?_
   refine XS.iconst X12.here hx rfl (hb hby d53_46) ?_
   show SG p e below T12 (mkF m 47 (la12 a1 p2 p6 w8) [(.int 0), (.int p2), (.ref a1), (.long 0)]) _
   refine XS.iloadN X12.here hx rfl (hb hby d53_47) rfl ?_
   show SG p e below T12 (mkF m 48 (la12 a1 p2 p6 w8) [(.int ((p6 >>> (w8 &&& 31)) - p2)), (.int 0), (.int p2), (.ref a1), (.long 0)]) _
   refine st13 _ ?_
   show SG p e below T13 (mkF m 51 (la12 a1 p2 p6 w8) [(.long (opv q10 1))]) _
   refine XS.lstoreN X13.here hx rfl (hb hby d53_51) rfl (l' := #[vR a1, vI p2, vI ((p6 >>> (w8 &&& 31)) - p2), vJ (opv q10 1), vS]) rfl ?_
   show SG p e below T13 (mkF m 52 (la13 a1 p2 p6 w8 q10) []) _
   refine XS.lloadN X13.here hx rfl (hb hby d53_52) rfl ?_
   refine XS.aloadN X13.here hx rfl (hb hby d53_53) rfl rfl ?_
   show SG p e below T13 (mkF m 54 (la13 a1 p2 p6 w8 q10) [(.ref a1), (.long (opv q10 1))]) _
   refine XS.iloadN X13.here hx rfl (hb hby d53_54) rfl ?_
   refine XS.iconst X13.here hx rfl (hb hby d53_55) ?_
   show SG p e below T13 (mkF m 56 (la13 a1 p2 p6 w8 q10) [(.int 1), (.int p2), (.ref a1), (.long (opv q10 1))]) _
   refine XS.iloadN X13.here hx rfl (hb hby d53_56) rfl ?_
   show SG p e below T13 (mkF m 57 (la13 a1 p2 p6 w8 q10) [(.int ((p6 >>> (w8 &&& 31)) - p2)), (.int 1), (.int p2), (.ref a1), (.long (opv q10 1))]) _
   refine st14 _ ?_
   show SG p e below T14 (mkF m 60 (la13 a1 p2 p6 w8 q10) [(.long (opv q10 2))]) _
   refine XS.lstoreN X14.here hx rfl (hb hby d53_60) rfl (l' := #[vR a1, vI p2, vI ((p6 >>> (w8 &&& 31)) - p2), vJ (opv q10 2), vS]) rfl ?_
   show SG p e below T14 (mkF m 61 (la14 a1 p2 p6 w8 q10) []) _
   refine XS.lloadN X14.here hx rfl (hb hby d53_61) rfl ?_
   refine XS.aloadN X14.here hx rfl (hb hby d53_62) rfl rfl ?_
   show SG p e below T14 (mkF m 63 (la14 a1 p2 p6 w8 q10) [(.ref a1), (.long (opv q10 2))]) _
   refine XS.iloadN X14.here hx rfl (hb hby d53_63) rfl ?_
   refine XS.iconst X14.here hx rfl (hb hby d53_64) ?_
   show SG p e below T14 (mkF m 65 (la14 a1 p2 p6 w8 q10) [(.int 2), (.int p2), (.ref a1), (.long (opv q10 2))]) _
   refine XS.iloadN X14.here hx rfl (hb hby d53_65) rfl ?_
   show SG p e below T14 (mkF m 66 (la14 a1 p2 p6 w8 q10) [(.int ((p6 >>> (w8 &&& 31)) - p2)), (.int 2), (.int p2), (.ref a1), (.long (opv q10 2))]) _
   refine st15 _ ?_
   show SG p e below T15 (mkF m 69 (la14 a1 p2 p6 w8 q10) [(.long (opv q10 3))]) _
   refine XS.lstoreN X15.here hx rfl (hb hby d53_69) rfl (l' := #[vR a1, vI p2, vI ((p6 >>> (w8 &&& 31)) - p2), vJ (opv q10 3), vS]) rfl ?_
   show SG p e below T15 (mkF m 70 (la15 a1 p2 p6 w8 q10) []) _
   refine XS.lloadN X15.here hx rfl (hb hby d53_70) rfl ?_
   refine XS.aloadN X15.here hx rfl (hb hby d53_71) rfl rfl ?_
   show SG p e below T15 (mkF m 72 (la15 a1 p2 p6 w8 q10) [(.ref a1), (.long (opv q10 3))]) _
   refine XS.iloadN X15.here hx rfl (hb hby d53_72) rfl ?_
   refine XS.iconst X15.here hx rfl (hb hby d53_73) ?_
   show SG p e below T15 (mkF m 74 (la15 a1 p2 p6 w8 q10) [(.int 3), (.int p2), (.ref a1), (.long (opv q10 3))]) _
   refine XS.iloadN X15.here hx rfl (hb hby d53_74) rfl ?_
   show SG p e below T15 (mkF m 75 (la15 a1 p2 p6 w8 q10) [(.int ((p6 >>> (w8 &&& 31)) - p2)), (.int 3), (.int p2), (.ref a1), (.long (opv q10 3))]) _
   refine st16 _ ?_
   show SG p e below T16 (mkF m 78 (la15 a1 p2 p6 w8 q10) [(.long (opv q10 4))]) _
   refine XS.lstoreN X16.here hx rfl (hb hby d53_78) rfl (l' := #[vR a1, vI p2, vI ((p6 >>> (w8 &&& 31)) - p2), vJ (opv q10 4), vS]) rfl ?_
   show SG p e below T16 (mkF m 79 (la16 a1 p2 p6 w8 q10) []) _
   refine XS.lloadN X16.here hx rfl (hb hby d53_79) rfl ?_
   refine XS.aloadN X16.here hx rfl (hb hby d53_80) rfl rfl ?_
   show SG p e below T16 (mkF m 81 (la16 a1 p2 p6 w8 q10) [(.ref a1), (.long (opv q10 4))]) _
   refine XS.iloadN X16.here hx rfl (hb hby d53_81) rfl ?_
   refine XS.iconst X16.here hx rfl (hb hby d53_82) ?_
   show SG p e below T16 (mkF m 83 (la16 a1 p2 p6 w8 q10) [(.int 4), (.int p2), (.ref a1), (.long (opv q10 4))]) _
   refine XS.iloadN X16.here hx rfl (hb hby d53_83) rfl ?_
   show SG p e below T16 (mkF m 84 (la16 a1 p2 p6 w8 q10) [(.int ((p6 >>> (w8 &&& 31)) - p2)), (.int 4), (.int p2), (.ref a1), (.long (opv q10 4))]) _
   refine st17 _ ?_
   show SG p e below T17 (mkF m 87 (la16 a1 p2 p6 w8 q10) [(.long (opv q10 5))]) _
   refine XS.lstoreN X17.here hx rfl (hb hby d53_87) rfl (l' := #[vR a1, vI p2, vI ((p6 >>> (w8 &&& 31)) - p2), vJ (opv q10 5), vS]) rfl ?_
   show SG p e below T17 (mkF m 88 (la17 a1 p2 p6 w8 q10) []) _
   refine XS.lloadN X17.here hx rfl (hb hby d53_88) rfl ?_
   refine XS.aloadN X17.here hx rfl (hb hby d53_89) rfl rfl ?_
   show SG p e below T17 (mkF m 90 (la17 a1 p2 p6 w8 q10) [(.ref a1), (.long (opv q10 5))]) _
   refine XS.iloadN X17.here hx rfl (hb hby d53_90) rfl ?_
   refine XS.iconst X17.here hx rfl (hb hby d53_91) ?_
   show SG p e below T17 (mkF m 92 (la17 a1 p2 p6 w8 q10) [(.int 5), (.int p2), (.ref a1), (.long (opv q10 5))]) _
   refine XS.iloadN X17.here hx rfl (hb hby d53_92) rfl ?_
   show SG p e below T17 (mkF m 93 (la17 a1 p2 p6 w8 q10) [(.int ((p6 >>> (w8 &&& 31)) - p2)), (.int 5), (.int p2), (.ref a1), (.long (opv q10 5))]) _
   refine st18 _ ?_
   show SG p e below T18 (mkF m 96 (la17 a1 p2 p6 w8 q10) [(.long (opv q10 6))]) _
   refine XS.lstoreN X18.here hx rfl (hb hby d53_96) rfl (l' := #[vR a1, vI p2, vI ((p6 >>> (w8 &&& 31)) - p2), vJ (opv q10 6), vS]) rfl ?_
   show SG p e below T18 (mkF m 97 (la18 a1 p2 p6 w8 q10) []) _
   refine XS.lloadN X18.here hx rfl (hb hby d53_97) rfl ?_
   refine XS.aloadN X18.here hx rfl (hb hby d53_98) rfl rfl ?_
   show SG p e below T18 (mkF m 99 (la18 a1 p2 p6 w8 q10) [(.ref a1), (.long (opv q10 6))]) _
   refine XS.iloadN X18.here hx rfl (hb hby d53_99) rfl ?_
   refine XS.bipush X18.here hx rfl (hb hby d53_100) ?_
   show SG p e below T18 (mkF m 102 (la18 a1 p2 p6 w8 q10) [(.int 6), (.int p2), (.ref a1), (.long (opv q10 6))]) _
   refine XS.iloadN X18.here hx rfl (hb hby d53_102) rfl ?_
   show SG p e below T18 (mkF m 103 (la18 a1 p2 p6 w8 q10) [(.int ((p6 >>> (w8 &&& 31)) - p2)), (.int 6), (.int p2), (.ref a1), (.long (opv q10 6))]) _
   refine st19 _ ?_
   show SG p e below T19 (mkF m 106 (la18 a1 p2 p6 w8 q10) [(.long (opv q10 7))]) _
   refine XS.lstoreN X19.here hx rfl (hb hby d53_106) rfl (l' := #[vR a1, vI p2, vI ((p6 >>> (w8 &&& 31)) - p2), vJ (opv q10 7), vS]) rfl ?_
   show SG p e below T19 (mkF m 107 (la19 a1 p2 p6 w8 q10) []) _
   refine XS.lloadN X19.here hx rfl (hb hby d53_107) rfl ?_
   refine XS.aloadN X19.here hx rfl (hb hby d53_108) rfl rfl ?_
   show SG p e below T19 (mkF m 109 (la19 a1 p2 p6 w8 q10) [(.ref a1), (.long (opv q10 7))]) _
   refine XS.iloadN X19.here hx rfl (hb hby d53_109) rfl ?_
   refine XS.bipush X19.here hx rfl (hb hby d53_110) ?_
   show SG p e below T19 (mkF m 112 (la19 a1 p2 p6 w8 q10) [(.int 7), (.int p2), (.ref a1), (.long (opv q10 7))]) _
   refine XS.iloadN X19.here hx rfl (hb hby d53_112) rfl ?_
   show SG p e below T19 (mkF m 113 (la19 a1 p2 p6 w8 q10) [(.int ((p6 >>> (w8 &&& 31)) - p2)), (.int 7), (.int p2), (.ref a1), (.long (opv q10 7))]) _
   refine st20 _ ?_
   show SG p e below T20 (mkF m 116 (la19 a1 p2 p6 w8 q10) [(.long (opv q10 8))]) _
   refine XS.lstoreN X20.here hx rfl (hb hby d53_116) rfl (l' := #[vR a1, vI p2, vI ((p6 >>> (w8 &&& 31)) - p2), vJ (opv q10 8), vS]) rfl ?_
   show SG p e below T20 (mkF m 117 (la20 a1 p2 p6 w8 q10) []) _
   refine XS.lloadN X20.here hx rfl (hb hby d53_117) rfl ?_
   refine XS.aloadN X20.here hx rfl (hb hby d53_118) rfl rfl ?_
   show SG p e below T20 (mkF m 119 (la20 a1 p2 p6 w8 q10) [(.ref a1), (.long (opv q10 8))]) _
   refine XS.iloadN X20.here hx rfl (hb hby d53_119) rfl ?_
   refine XS.bipush X20.here hx rfl (hb hby d53_120) ?_
   show SG p e below T20 (mkF m 122 (la20 a1 p2 p6 w8 q10) [(.int 8), (.int p2), (.ref a1), (.long (opv q10 8))]) _
   refine XS.iloadN X20.here hx rfl (hb hby d53_122) rfl ?_
   show SG p e below T20 (mkF m 123 (la20 a1 p2 p6 w8 q10) [(.int ((p6 >>> (w8 &&& 31)) - p2)), (.int 8), (.int p2), (.ref a1), (.long (opv q10 8))]) _
   refine st21 _ ?_
   show SG p e below T21 (mkF m 126 (la20 a1 p2 p6 w8 q10) [(.long (opv q10 9))]) _
   refine XS.lstoreN X21.here hx rfl (hb hby d53_126) rfl (l' := #[vR a1, vI p2, vI ((p6 >>> (w8 &&& 31)) - p2), vJ (opv q10 9), vS]) rfl ?_
   show SG p e below T21 (mkF m 127 (la21 a1 p2 p6 w8 q10) []) _
   refine XS.lloadN X21.here hx rfl (hb hby d53_127) rfl ?_
   refine XS.aloadN X21.here hx rfl (hb hby d53_128) rfl rfl ?_
   show SG p e below T21 (mkF m 129 (la21 a1 p2 p6 w8 q10) [(.ref a1), (.long (opv q10 9))]) _
   refine XS.iloadN X21.here hx rfl (hb hby d53_129) rfl ?_
   refine XS.bipush X21.here hx rfl (hb hby d53_130) ?_
   show SG p e below T21 (mkF m 132 (la21 a1 p2 p6 w8 q10) [(.int 9), (.int p2), (.ref a1), (.long (opv q10 9))]) _
   refine XS.iloadN X21.here hx rfl (hb hby d53_132) rfl ?_
   show SG p e below T21 (mkF m 133 (la21 a1 p2 p6 w8 q10) [(.int ((p6 >>> (w8 &&& 31)) - p2)), (.int 9), (.int p2), (.ref a1), (.long (opv q10 9))]) _
   refine st22 _ ?_
   show SG p e below T22 (mkF m 136 (la21 a1 p2 p6 w8 q10) [(.long (opv q10 10))]) _
   refine XS.lstoreN X22.here hx rfl (hb hby d53_136) rfl (l' := #[vR a1, vI p2, vI ((p6 >>> (w8 &&& 31)) - p2), vJ (opv q10 10), vS]) rfl ?_
   show SG p e below T22 (mkF m 137 (la22 a1 p2 p6 w8 q10) []) _
   refine XS.lloadN X22.here hx rfl (hb hby d53_137) rfl ?_
   refine XS.aloadN X22.here hx rfl (hb hby d53_138) rfl rfl ?_
   show SG p e below T22 (mkF m 139 (la22 a1 p2 p6 w8 q10) [(.ref a1), (.long (opv q10 10))]) _
   refine XS.iloadN X22.here hx rfl (hb hby d53_139) rfl ?_
   refine XS.bipush X22.here hx rfl (hb hby d53_140) ?_
   show SG p e below T22 (mkF m 142 (la22 a1 p2 p6 w8 q10) [(.int 10), (.int p2), (.ref a1), (.long (opv q10 10))]) _
   refine XS.iloadN X22.here hx rfl (hb hby d53_142) rfl ?_
   show SG p e below T22 (mkF m 143 (la22 a1 p2 p6 w8 q10) [(.int ((p6 >>> (w8 &&& 31)) - p2)), (.int 10), (.int p2), (.ref a1), (.long (opv q10 10))]) _
   refine st23 _ ?_
   show SG p e below T23 (mkF m 146 (la22 a1 p2 p6 w8 q10) [(.long (opv q10 11))]) _
   refine XS.lstoreN X23.here hx rfl (hb hby d53_146) rfl (l' := #[vR a1, vI p2, vI ((p6 >>> (w8 &&& 31)) - p2), vJ (opv q10 11), vS]) rfl ?_
   show SG p e below T23 (mkF m 147 (la23 a1 p2 p6 w8 q10) []) _
   refine XS.lloadN X23.here hx rfl (hb hby d53_147) rfl ?_
   refine XS.aloadN X23.here hx rfl (hb hby d53_148) rfl rfl ?_
   show SG p e below T23 (mkF m 149 (la23 a1 p2 p6 w8 q10) [(.ref a1), (.long (opv q10 11))]) _
   refine XS.iloadN X23.here hx rfl (hb hby d53_149) rfl ?_
   refine XS.bipush X23.here hx rfl (hb hby d53_150) ?_
   show SG p e below T23 (mkF m 152 (la23 a1 p2 p6 w8 q10) [(.int 11), (.int p2), (.ref a1), (.long (opv q10 11))]) _
   refine XS.iloadN X23.here hx rfl (hb hby d53_152) rfl ?_
   show SG p e below T23 (mkF m 153 (la23 a1 p2 p6 w8 q10) [(.int ((p6 >>> (w8 &&& 31)) - p2)), (.int 11), (.int p2), (.ref a1), (.long (opv q10 11))]) _
   refine st24 _ ?_
   show SG p e below T24 (mkF m 156 (la23 a1 p2 p6 w8 q10) [(.long (opv q10 12))]) _
   refine XS.lstoreN X24.here hx rfl (hb hby d53_156) rfl (l' := #[vR a1, vI p2, vI ((p6 >>> (w8 &&& 31)) - p2), vJ (opv q10 12), vS]) rfl ?_
   show SG p e below T24 (mkF m 157 (la24 a1 p2 p6 w8 q10) []) _
   refine XS.lloadN X24.here hx rfl (hb hby d53_157) rfl ?_
   refine XS.aloadN X24.here hx rfl (hb hby d53_158) rfl rfl ?_
   show SG p e below T24 (mkF m 159 (la24 a1 p2 p6 w8 q10) [(.ref a1), (.long (opv q10 12))]) _
   refine XS.iloadN X24.here hx rfl (hb hby d53_159) rfl ?_
   refine XS.bipush X24.here hx rfl (hb hby d53_160) ?_
   show SG p e below T24 (mkF m 162 (la24 a1 p2 p6 w8 q10) [(.int 12), (.int p2), (.ref a1), (.long (opv q10 12))]) _
   refine XS.iloadN X24.here hx rfl (hb hby d53_162) rfl ?_
   show SG p e below T24 (mkF m 163 (la24 a1 p2 p6 w8 q10) [(.int ((p6 >>> (w8 &&& 31)) - p2)), (.int 12), (.int p2), (.ref a1), (.long (opv q10 12))]) _
   refine st25 _ ?_
   show SG p e below T25 (mkF m 166 (la24 a1 p2 p6 w8 q10) [(.long (opv q10 13))]) _
   refine XS.lstoreN X25.here hx rfl (hb hby d53_166) rfl (l' := #[vR a1, vI p2, vI ((p6 >>> (w8 &&& 31)) - p2), vJ (opv q10 13), vS]) rfl ?_
   show SG p e below T25 (mkF m 167 (la25 a1 p2 p6 w8 q10) []) _
   refine XS.lloadN X25.here hx rfl (hb hby d53_167) rfl ?_
   refine XS.aloadN X25.here hx rfl (hb hby d53_168) rfl rfl ?_
   show SG p e below T25 (mkF m 169 (la25 a1 p2 p6 w8 q10) [(.ref a1), (.long (opv q10 13))]) _
   refine XS.iloadN X25.here hx rfl (hb hby d53_169) rfl ?_
   refine XS.bipush X25.here hx rfl (hb hby d53_170) ?_
   show SG p e below T25 (mkF m 172 (la25 a1 p2 p6 w8 q10) [(.int 13), (.int p2), (.ref a1), (.long (opv q10 13))]) _
   refine XS.iloadN X25.here hx rfl (hb hby d53_172) rfl ?_
   show SG p e below T25 (mkF m 173 (la25 a1 p2 p6 w8 q10) [(.int ((p6 >>> (w8 &&& 31)) - p2)), (.int 13), (.int p2), (.ref a1), (.long (opv q10 13))]) _
   refine st26 _ ?_
   show SG p e below T26 (mkF m 176 (la25 a1 p2 p6 w8 q10) [(.long (opv q10 14))]) _
   refine XS.lstoreN X26.here hx rfl (hb hby d53_176) rfl (l' := #[vR a1, vI p2, vI ((p6 >>> (w8 &&& 31)) - p2), vJ (opv q10 14), vS]) rfl ?_
   show SG p e below T26 (mkF m 177 (la26 a1 p2 p6 w8 q10) []) _
   refine XS.lloadN X26.here hx rfl (hb hby d53_177) rfl ?_
   refine XS.aloadN X26.here hx rfl (hb hby d53_178) rfl rfl ?_
   show SG p e below T26 (mkF m 179 (la26 a1 p2 p6 w8 q10) [(.ref a1), (.long (opv q10 14))]) _
   refine XS.iloadN X26.here hx rfl (hb hby d53_179) rfl ?_
   refine XS.bipush X26.here hx rfl (hb hby d53_180) ?_
   show SG p e below T26 (mkF m 182 (la26 a1 p2 p6 w8 q10) [(.int 14), (.int p2), (.ref a1), (.long (opv q10 14))]) _
   refine XS.iloadN X26.here hx rfl (hb hby d53_182) rfl ?_
   show SG p e below T26 (mkF m 183 (la26 a1 p2 p6 w8 q10) [(.int ((p6 >>> (w8 &&& 31)) - p2)), (.int 14), (.int p2), (.ref a1), (.long (opv q10 14))]) _
   refine st27 _ ?_
   show SG p e below T27 (mkF m 186 (la26 a1 p2 p6 w8 q10) [(.long (opv q10 15))]) _
   refine XS.lstoreN X27.here hx rfl (hb hby d53_186) rfl (l' := #[vR a1, vI p2, vI ((p6 >>> (w8 &&& 31)) - p2), vJ (opv q10 15), vS]) rfl ?_
   show SG p e below T27 (mkF m 187 (la27 a1 p2 p6 w8 q10) []) _
   refine XS.lloadN X27.here hx rfl (hb hby d53_187) rfl ?_
   refine XS.aloadN X27.here hx rfl (hb hby d53_188) rfl rfl ?_
   show SG p e below T27 (mkF m 189 (la27 a1 p2 p6 w8 q10) [(.ref a1), (.long (opv q10 15))]) _
   refine XS.iloadN X27.here hx rfl (hb hby d53_189) rfl ?_
   refine XS.bipush X27.here hx rfl (hb hby d53_190) ?_
   show SG p e below T27 (mkF m 192 (la27 a1 p2 p6 w8 q10) [(.int 15), (.int p2), (.ref a1), (.long (opv q10 15))]) _
   refine XS.iloadN X27.here hx rfl (hb hby d53_192) rfl ?_
   show SG p e below T27 (mkF m 193 (la27 a1 p2 p6 w8 q10) [(.int ((p6 >>> (w8 &&& 31)) - p2)), (.int 15), (.int p2), (.ref a1), (.long (opv q10 15))]) _
   refine st28 _ ?_
   show SG p e below T28 (mkF m 196 (la27 a1 p2 p6 w8 q10) [(.long (opv q10 16))]) _
   refine XS.lstoreN X28.here hx rfl (hb hby d53_196) rfl (l' := #[vR a1, vI p2, vI ((p6 >>> (w8 &&& 31)) - p2), vJ (opv q10 16), vS]) rfl ?_
   show SG p e below T28 (mkF m 197 (la28 a1 p2 p6 w8 q10) []) _
   refine XS.lloadN X28.here hx rfl (hb hby d53_197) rfl ?_
   refine XS.aloadN X28.here hx rfl (hb hby d53_198) rfl rfl ?_
   show SG p e below T28 (mkF m 199 (la28 a1 p2 p6 w8 q10) [(.ref a1), (.long (opv q10 16))]) _
   refine XS.iloadN X28.here hx rfl (hb hby d53_199) rfl ?_
   refine XS.bipush X28.here hx rfl (hb hby d53_200) ?_
   show SG p e below T28 (mkF m 202 (la28 a1 p2 p6 w8 q10) [(.int 16), (.int p2), (.ref a1), (.long (opv q10 16))]) _
   refine XS.iloadN X28.here hx rfl (hb hby d53_202) rfl ?_
   show SG p e below T28 (mkF m 203 (la28 a1 p2 p6 w8 q10) [(.int ((p6 >>> (w8 &&& 31)) - p2)), (.int 16), (.int p2), (.ref a1), (.long (opv q10 16))]) _
   refine st29 _ ?_
   show SG p e below T29 (mkF m 206 (la28 a1 p2 p6 w8 q10) [(.long (opv q10 17))]) _
   refine XS.lstoreN X29.here hx rfl (hb hby d53_206) rfl (l' := #[vR a1, vI p2, vI ((p6 >>> (w8 &&& 31)) - p2), vJ (opv q10 17), vS]) rfl ?_
   show SG p e below T29 (mkF m 207 (la29 a1 p2 p6 w8 q10) []) _
   refine XS.lloadN X29.here hx rfl (hb hby d53_207) rfl ?_
   refine XS.aloadN X29.here hx rfl (hb hby d53_208) rfl rfl ?_
   show SG p e below T29 (mkF m 209 (la29 a1 p2 p6 w8 q10) [(.ref a1), (.long (opv q10 17))]) _
   refine XS.iloadN X29.here hx rfl (hb hby d53_209) rfl ?_
   refine XS.bipush X29.here hx rfl (hb hby d53_210) ?_
   show SG p e below T29 (mkF m 212 (la29 a1 p2 p6 w8 q10) [(.int 17), (.int p2), (.ref a1), (.long (opv q10 17))]) _
   refine XS.iloadN X29.here hx rfl (hb hby d53_212) rfl ?_
   show SG p e below T29 (mkF m 213 (la29 a1 p2 p6 w8 q10) [(.int ((p6 >>> (w8 &&& 31)) - p2)), (.int 17), (.int p2), (.ref a1), (.long (opv q10 17))]) _
   refine st30 _ ?_
   show SG p e below T30 (mkF m 216 (la29 a1 p2 p6 w8 q10) [(.long (opv q10 18))]) _
   refine XS.lstoreN X30.here hx rfl (hb hby d53_216) rfl (l' := #[vR a1, vI p2, vI ((p6 >>> (w8 &&& 31)) - p2), vJ (opv q10 18), vS]) rfl ?_
   show SG p e below T30 (mkF m 217 (la30 a1 p2 p6 w8 q10) []) _
   refine XS.lloadN X30.here hx rfl (hb hby d53_217) rfl ?_
   refine XS.aloadN X30.here hx rfl (hb hby d53_218) rfl rfl ?_
   show SG p e below T30 (mkF m 219 (la30 a1 p2 p6 w8 q10) [(.ref a1), (.long (opv q10 18))]) _
   refine XS.iloadN X30.here hx rfl (hb hby d53_219) rfl ?_
   refine XS.bipush X30.here hx rfl (hb hby d53_220) ?_
   show SG p e below T30 (mkF m 222 (la30 a1 p2 p6 w8 q10) [(.int 18), (.int p2), (.ref a1), (.long (opv q10 18))]) _
   refine XS.iloadN X30.here hx rfl (hb hby d53_222) rfl ?_
   show SG p e below T30 (mkF m 223 (la30 a1 p2 p6 w8 q10) [(.int ((p6 >>> (w8 &&& 31)) - p2)), (.int 18), (.int p2), (.ref a1), (.long (opv q10 18))]) _
   refine st31 _ ?_
   show SG p e below T31 (mkF m 226 (la30 a1 p2 p6 w8 q10) [(.long (opv q10 19))]) _
   refine XS.lstoreN X31.here hx rfl (hb hby d53_226) rfl (l' := #[vR a1, vI p2, vI ((p6 >>> (w8 &&& 31)) - p2), vJ (opv q10 19), vS]) rfl ?_
   show SG p e below T31 (mkF m 227 (la31 a1 p2 p6 w8 q10) []) _
   refine XS.lloadN X31.here hx rfl (hb hby d53_227) rfl ?_
   show SG p e below T31 (mkF m 228 (la31 a1 p2 p6 w8 q10) [(.long (opv q10 19))]) _
   jvm_step X31.here [X31.here.top, hx, (hb hby d53_228), X31.method', Bd.returns, narrow]
   first | (intro acts; rw [hr _ acts rfl rfl rfl]) | rw [hr _ _ rfl rfl rfl]
   exact Steps.refl _
 · show OQp (some (.long (opv q10 19))) h0 n0 _ T31.heap _
   rw [e31]
   exact ⟨rfl, N31, rfl⟩
theorem r53_2 (l : Launch) (Z : State) (a0 : Array Value) (hw : TW a0 Z) (a1 : Addr) (p2 : Int32) (w3 : Addr) (k4 : ClassId) (u5 : Nat → Int32) (p6 : Int32) (w7 : Int32) (w8 : Int32) (q9 : Int64) (x10 : Value) (h0 : Heap) (n0 : Nat) (Z0 : n0 ≤ h0.size) (H0 : Fld Z h0 a1 sK1 "value" "[B" (.ref w3)) (H1 : BA Z h0 w3 k4 .byte p6 u5) (H2 : Sta Z h0 sK1 sK3 "Z" (.int w7)) (H3 : ¬ (w7 = 0)) (H4 : Fld Z h0 a1 sK1 "coder" "B" (.int w8)) (H5 : nar .byte w8 = w8) (H6 : Exa Z h0 a1 sK1) (H7 : ¬ (((p6 >>> (w8 &&& 31)) - p2) < 1)) (H8 : ¬ ((19 : Int32) < ((p6 >>> (w8 &&& 31)) - p2))) (H9 : ¬ ((1 : Int32) < ((p6 >>> (w8 &&& 31)) - p2))) (H10 : w8 = 0) (H11 : Sta Z h0 sK7 sK9 sK10 x10) (H12 : (x10).isRef = true) (H13 : ¬ (q9 < 0)) (H14 : ¬ (p2 < 0)) (H15 : (p2).toNatClampNeg ≤ 100) (H16 : p6 = Int32.ofNat ((p2).toNatClampNeg + oszL q9)) (H17 : ((p6 >>> (w8 &&& 31)) - p2) = Int32.ofNat (oszL q9)) (H18 : ∀ j, j < oszL q9 → (u5) ((p2).toNatClampNeg + j) = SBG.odg (q9).toInt.natAbs (oszL q9 - 1 - j)) (H19 : (0 : Int64) = (opv q9 0)) :
   OMet l Z mN31 method_9_code 5 (some .long) [] (Rm 5 0 0 78) h0 #[(.ref a1), (.int p2)] (OQp (some (.long (opv q9 19))) h0 n0) := by
 refine MetFree.of_bodySF (plainFor_of_name pn_com_example_eta4_eta4_bench_ThroughputFiguresLinesPinLaw) hisR ?_
 intro p e s m args below meth c s₁ Bd hml0 hP hK
 obtain ⟨rfl, hZ, hh⟩ := hP
 have hx := Bd.exec
 have hby := Bd.bytes
 have hml : c.maxLocals = 5 := hml0
 have hown : s.vm.findClass sK14 = some m.cls := findClass_of_methodNamed Bd.named
 have X0 := own_X0 Bd
 have e0 : s₁.heap = h0 := by rw [← hh, Bd.state]; rfl
 have N0 := Fr.nil n0
 have pre0 : ∀ t, Steps p.tables e below (s₁.setTop (mkF m 0 #[vR a1, vI p2, .unset, .unset, .unset] [])) t → Steps p.tables e below (s₁.setTop (entryFrame m #[(.ref a1), (.int p2)] 5)) t := fun t k => castTop (ef_53_vv m a1 p2) k
 obtain ⟨cq11, kq11, q11a, q11b, q11c⟩ := isOf hZ e0 H6
 obtain ⟨_, _, ⟨T11, _, _, _⟩, -, X11, ⟨_, hQ, lq, yq, zq⟩, st11⟩ := X0.virtualBack hx (y := mN28) (z := mN28) hown (mvT hZ (tw hw 273 rfl)) (mvT hZ (tw hw 65 rfl)) (notFace_of_selects (args := #[]) (mvT hZ (tw hw 67 rfl))) (mvT hZ (tw hw 67 rfl)) (mvT hZ (tw hw 66 rfl)) (by decide) (backOf (W := 0) (r9_1 l Z a0 hw a1 w3 k4 u5 p6 w7 w8 h0 n0 Z0 H0 H1 H2 H3 H4 H5 H6) hZ (tw hw 68 rfl) (tw hw 42 rfl) (by decide) (by decide)) q11a q11c (g := (mkF m 1 #[vR a1, vI p2, vU, vU, vU] [(.ref a1)])) rfl (by rw [hml]; rfl) (Steps.refl _) (argsL := []) (rest := []) (lenOf pd_5 rfl) rfl (own_w _) (hb hby d53_1) (fun _ _ => ⟨rfl, e0, (by decide : 0 + 0 ≤ _), (by decide : 0 + 0 ≤ _)⟩)
 dsimp only [Pt.U, Pt.locs, Pt.cells, Pt.slots] at X11 lq yq zq st11 hQ
 replace X11 := own_mvX X11 (a := 0) (b := 0) yq zq
 obtain ⟨rfl, Nq, e11⟩ := hQ
 have N11 := own_mvN lq N0 Nq
 obtain ⟨_, _, ⟨T12, _, _, _⟩, -, X12, ⟨_, hQ, lq, yq, zq⟩, st12⟩ := Jvm.LawKit.callS X11 hx (y := mN30) hown (mvT hZ (tw hw 302 rfl)) (mvT hZ (tw hw 303 rfl)) (mvT hZ (tw hw 265 rfl)) (mvT hZ (tw hw 304 rfl)) (by decide) (backOf (W := 0) (own_acc l Z a0 hw a1 w7 w8 w3 k4 p6 u5 x10 (0 : Int64) q9 p2 ((p6 >>> (w8 &&& 31)) - p2) 0 h0 n0 Z0 H2 H3 H4 H10 H6 H0 H1 H11 H12 (by decide) H13 H14 H15 H16 H17 H18 H19) hZ (tw hw 304 rfl) (tw hw 265 rfl) (by decide) (by decide)) (g := (mkF m 48 (la12 a1 p2 p6 w8) [(.int ((p6 >>> (w8 &&& 31)) - p2)), (.int 0), (.int p2), (.ref a1), (.long 0)])) rfl (by rw [hml]; rfl) (argsL := [(.long 0), (.ref a1), (.int p2), (.int 0), (.int ((p6 >>> (w8 &&& 31)) - p2))]) (rest := []) (lenOf pd_19 rfl) rfl (own_w _) (hb hby d53_48) (fun _ _ => ⟨rfl, e11, (by decide : 0 + 0 ≤ _), (by decide : 0 + 0 ≤ _)⟩)
 dsimp only [Pt.U, Pt.locs, Pt.cells, Pt.slots] at X12 lq yq zq st12 hQ
 replace X12 := own_mvX X12 (a := 0) (b := 0) yq zq
 obtain ⟨rfl, Nq, e12⟩ := hQ
 have N12 := own_mvN lq N11 Nq
 obtain ⟨_, _, ⟨T13, _, _, _⟩, -, X13, ⟨_, hQ, lq, yq, zq⟩, st13⟩ := Jvm.LawKit.callS X12 hx (y := mN30) hown (mvT hZ (tw hw 302 rfl)) (mvT hZ (tw hw 303 rfl)) (mvT hZ (tw hw 265 rfl)) (mvT hZ (tw hw 304 rfl)) (by decide) (backOf (W := 0) (own_acc l Z a0 hw a1 w7 w8 w3 k4 p6 u5 x10 (opv q9 1) q9 p2 ((p6 >>> (w8 &&& 31)) - p2) 1 h0 n0 Z0 H2 H3 H4 H10 H6 H0 H1 H11 H12 (by decide) H13 H14 H15 H16 H17 H18 rfl) hZ (tw hw 304 rfl) (tw hw 265 rfl) (by decide) (by decide)) (g := (mkF m 57 (la13 a1 p2 p6 w8 q9) [(.int ((p6 >>> (w8 &&& 31)) - p2)), (.int 1), (.int p2), (.ref a1), (.long (opv q9 1))])) rfl (by rw [hml]; rfl) (argsL := [(.long (opv q9 1)), (.ref a1), (.int p2), (.int 1), (.int ((p6 >>> (w8 &&& 31)) - p2))]) (rest := []) (lenOf pd_19 rfl) rfl (own_w _) (hb hby d53_57) (fun _ _ => ⟨rfl, e12, (by decide : 0 + 0 ≤ _), (by decide : 0 + 0 ≤ _)⟩)
 dsimp only [Pt.U, Pt.locs, Pt.cells, Pt.slots] at X13 lq yq zq st13 hQ
 replace X13 := own_mvX X13 (a := 0) (b := 0) yq zq
 obtain ⟨rfl, Nq, e13⟩ := hQ
 have N13 := own_mvN lq N12 Nq
 obtain ⟨_, _, ⟨T14, _, _, _⟩, -, X14, ⟨_, hQ, lq, yq, zq⟩, st14⟩ := Jvm.LawKit.callS X13 hx (y := mN30) hown (mvT hZ (tw hw 302 rfl)) (mvT hZ (tw hw 303 rfl)) (mvT hZ (tw hw 265 rfl)) (mvT hZ (tw hw 304 rfl)) (by decide) (backOf (W := 0) (own_acc l Z a0 hw a1 w7 w8 w3 k4 p6 u5 x10 (opv q9 2) q9 p2 ((p6 >>> (w8 &&& 31)) - p2) 2 h0 n0 Z0 H2 H3 H4 H10 H6 H0 H1 H11 H12 (by decide) H13 H14 H15 H16 H17 H18 rfl) hZ (tw hw 304 rfl) (tw hw 265 rfl) (by decide) (by decide)) (g := (mkF m 66 (la14 a1 p2 p6 w8 q9) [(.int ((p6 >>> (w8 &&& 31)) - p2)), (.int 2), (.int p2), (.ref a1), (.long (opv q9 2))])) rfl (by rw [hml]; rfl) (argsL := [(.long (opv q9 2)), (.ref a1), (.int p2), (.int 2), (.int ((p6 >>> (w8 &&& 31)) - p2))]) (rest := []) (lenOf pd_19 rfl) rfl (own_w _) (hb hby d53_66) (fun _ _ => ⟨rfl, e13, (by decide : 0 + 0 ≤ _), (by decide : 0 + 0 ≤ _)⟩)
 dsimp only [Pt.U, Pt.locs, Pt.cells, Pt.slots] at X14 lq yq zq st14 hQ
 replace X14 := own_mvX X14 (a := 0) (b := 0) yq zq
 obtain ⟨rfl, Nq, e14⟩ := hQ
 have N14 := own_mvN lq N13 Nq
 obtain ⟨_, _, ⟨T15, _, _, _⟩, -, X15, ⟨_, hQ, lq, yq, zq⟩, st15⟩ := Jvm.LawKit.callS X14 hx (y := mN30) hown (mvT hZ (tw hw 302 rfl)) (mvT hZ (tw hw 303 rfl)) (mvT hZ (tw hw 265 rfl)) (mvT hZ (tw hw 304 rfl)) (by decide) (backOf (W := 0) (own_acc l Z a0 hw a1 w7 w8 w3 k4 p6 u5 x10 (opv q9 3) q9 p2 ((p6 >>> (w8 &&& 31)) - p2) 3 h0 n0 Z0 H2 H3 H4 H10 H6 H0 H1 H11 H12 (by decide) H13 H14 H15 H16 H17 H18 rfl) hZ (tw hw 304 rfl) (tw hw 265 rfl) (by decide) (by decide)) (g := (mkF m 75 (la15 a1 p2 p6 w8 q9) [(.int ((p6 >>> (w8 &&& 31)) - p2)), (.int 3), (.int p2), (.ref a1), (.long (opv q9 3))])) rfl (by rw [hml]; rfl) (argsL := [(.long (opv q9 3)), (.ref a1), (.int p2), (.int 3), (.int ((p6 >>> (w8 &&& 31)) - p2))]) (rest := []) (lenOf pd_19 rfl) rfl (own_w _) (hb hby d53_75) (fun _ _ => ⟨rfl, e14, (by decide : 0 + 0 ≤ _), (by decide : 0 + 0 ≤ _)⟩)
 dsimp only [Pt.U, Pt.locs, Pt.cells, Pt.slots] at X15 lq yq zq st15 hQ
 replace X15 := own_mvX X15 (a := 0) (b := 0) yq zq
 obtain ⟨rfl, Nq, e15⟩ := hQ
 have N15 := own_mvN lq N14 Nq
 obtain ⟨_, _, ⟨T16, _, _, _⟩, -, X16, ⟨_, hQ, lq, yq, zq⟩, st16⟩ := Jvm.LawKit.callS X15 hx (y := mN30) hown (mvT hZ (tw hw 302 rfl)) (mvT hZ (tw hw 303 rfl)) (mvT hZ (tw hw 265 rfl)) (mvT hZ (tw hw 304 rfl)) (by decide) (backOf (W := 0) (own_acc l Z a0 hw a1 w7 w8 w3 k4 p6 u5 x10 (opv q9 4) q9 p2 ((p6 >>> (w8 &&& 31)) - p2) 4 h0 n0 Z0 H2 H3 H4 H10 H6 H0 H1 H11 H12 (by decide) H13 H14 H15 H16 H17 H18 rfl) hZ (tw hw 304 rfl) (tw hw 265 rfl) (by decide) (by decide)) (g := (mkF m 84 (la16 a1 p2 p6 w8 q9) [(.int ((p6 >>> (w8 &&& 31)) - p2)), (.int 4), (.int p2), (.ref a1), (.long (opv q9 4))])) rfl (by rw [hml]; rfl) (argsL := [(.long (opv q9 4)), (.ref a1), (.int p2), (.int 4), (.int ((p6 >>> (w8 &&& 31)) - p2))]) (rest := []) (lenOf pd_19 rfl) rfl (own_w _) (hb hby d53_84) (fun _ _ => ⟨rfl, e15, (by decide : 0 + 0 ≤ _), (by decide : 0 + 0 ≤ _)⟩)
 dsimp only [Pt.U, Pt.locs, Pt.cells, Pt.slots] at X16 lq yq zq st16 hQ
 replace X16 := own_mvX X16 (a := 0) (b := 0) yq zq
 obtain ⟨rfl, Nq, e16⟩ := hQ
 have N16 := own_mvN lq N15 Nq
 obtain ⟨_, _, ⟨T17, _, _, _⟩, -, X17, ⟨_, hQ, lq, yq, zq⟩, st17⟩ := Jvm.LawKit.callS X16 hx (y := mN30) hown (mvT hZ (tw hw 302 rfl)) (mvT hZ (tw hw 303 rfl)) (mvT hZ (tw hw 265 rfl)) (mvT hZ (tw hw 304 rfl)) (by decide) (backOf (W := 0) (own_acc l Z a0 hw a1 w7 w8 w3 k4 p6 u5 x10 (opv q9 5) q9 p2 ((p6 >>> (w8 &&& 31)) - p2) 5 h0 n0 Z0 H2 H3 H4 H10 H6 H0 H1 H11 H12 (by decide) H13 H14 H15 H16 H17 H18 rfl) hZ (tw hw 304 rfl) (tw hw 265 rfl) (by decide) (by decide)) (g := (mkF m 93 (la17 a1 p2 p6 w8 q9) [(.int ((p6 >>> (w8 &&& 31)) - p2)), (.int 5), (.int p2), (.ref a1), (.long (opv q9 5))])) rfl (by rw [hml]; rfl) (argsL := [(.long (opv q9 5)), (.ref a1), (.int p2), (.int 5), (.int ((p6 >>> (w8 &&& 31)) - p2))]) (rest := []) (lenOf pd_19 rfl) rfl (own_w _) (hb hby d53_93) (fun _ _ => ⟨rfl, e16, (by decide : 0 + 0 ≤ _), (by decide : 0 + 0 ≤ _)⟩)
 dsimp only [Pt.U, Pt.locs, Pt.cells, Pt.slots] at X17 lq yq zq st17 hQ
 replace X17 := own_mvX X17 (a := 0) (b := 0) yq zq
 obtain ⟨rfl, Nq, e17⟩ := hQ
 have N17 := own_mvN lq N16 Nq
 obtain ⟨_, _, ⟨T18, _, _, _⟩, -, X18, ⟨_, hQ, lq, yq, zq⟩, st18⟩ := Jvm.LawKit.callS X17 hx (y := mN30) hown (mvT hZ (tw hw 302 rfl)) (mvT hZ (tw hw 303 rfl)) (mvT hZ (tw hw 265 rfl)) (mvT hZ (tw hw 304 rfl)) (by decide) (backOf (W := 0) (own_acc l Z a0 hw a1 w7 w8 w3 k4 p6 u5 x10 (opv q9 6) q9 p2 ((p6 >>> (w8 &&& 31)) - p2) 6 h0 n0 Z0 H2 H3 H4 H10 H6 H0 H1 H11 H12 (by decide) H13 H14 H15 H16 H17 H18 rfl) hZ (tw hw 304 rfl) (tw hw 265 rfl) (by decide) (by decide)) (g := (mkF m 103 (la18 a1 p2 p6 w8 q9) [(.int ((p6 >>> (w8 &&& 31)) - p2)), (.int 6), (.int p2), (.ref a1), (.long (opv q9 6))])) rfl (by rw [hml]; rfl) (argsL := [(.long (opv q9 6)), (.ref a1), (.int p2), (.int 6), (.int ((p6 >>> (w8 &&& 31)) - p2))]) (rest := []) (lenOf pd_19 rfl) rfl (own_w _) (hb hby d53_103) (fun _ _ => ⟨rfl, e17, (by decide : 0 + 0 ≤ _), (by decide : 0 + 0 ≤ _)⟩)
 dsimp only [Pt.U, Pt.locs, Pt.cells, Pt.slots] at X18 lq yq zq st18 hQ
 replace X18 := own_mvX X18 (a := 0) (b := 0) yq zq
 obtain ⟨rfl, Nq, e18⟩ := hQ
 have N18 := own_mvN lq N17 Nq
 obtain ⟨_, _, ⟨T19, _, _, _⟩, -, X19, ⟨_, hQ, lq, yq, zq⟩, st19⟩ := Jvm.LawKit.callS X18 hx (y := mN30) hown (mvT hZ (tw hw 302 rfl)) (mvT hZ (tw hw 303 rfl)) (mvT hZ (tw hw 265 rfl)) (mvT hZ (tw hw 304 rfl)) (by decide) (backOf (W := 0) (own_acc l Z a0 hw a1 w7 w8 w3 k4 p6 u5 x10 (opv q9 7) q9 p2 ((p6 >>> (w8 &&& 31)) - p2) 7 h0 n0 Z0 H2 H3 H4 H10 H6 H0 H1 H11 H12 (by decide) H13 H14 H15 H16 H17 H18 rfl) hZ (tw hw 304 rfl) (tw hw 265 rfl) (by decide) (by decide)) (g := (mkF m 113 (la19 a1 p2 p6 w8 q9) [(.int ((p6 >>> (w8 &&& 31)) - p2)), (.int 7), (.int p2), (.ref a1), (.long (opv q9 7))])) rfl (by rw [hml]; rfl) (argsL := [(.long (opv q9 7)), (.ref a1), (.int p2), (.int 7), (.int ((p6 >>> (w8 &&& 31)) - p2))]) (rest := []) (lenOf pd_19 rfl) rfl (own_w _) (hb hby d53_113) (fun _ _ => ⟨rfl, e18, (by decide : 0 + 0 ≤ _), (by decide : 0 + 0 ≤ _)⟩)
 dsimp only [Pt.U, Pt.locs, Pt.cells, Pt.slots] at X19 lq yq zq st19 hQ
 replace X19 := own_mvX X19 (a := 0) (b := 0) yq zq
 obtain ⟨rfl, Nq, e19⟩ := hQ
 have N19 := own_mvN lq N18 Nq
 obtain ⟨_, _, ⟨T20, _, _, _⟩, -, X20, ⟨_, hQ, lq, yq, zq⟩, st20⟩ := Jvm.LawKit.callS X19 hx (y := mN30) hown (mvT hZ (tw hw 302 rfl)) (mvT hZ (tw hw 303 rfl)) (mvT hZ (tw hw 265 rfl)) (mvT hZ (tw hw 304 rfl)) (by decide) (backOf (W := 0) (own_acc l Z a0 hw a1 w7 w8 w3 k4 p6 u5 x10 (opv q9 8) q9 p2 ((p6 >>> (w8 &&& 31)) - p2) 8 h0 n0 Z0 H2 H3 H4 H10 H6 H0 H1 H11 H12 (by decide) H13 H14 H15 H16 H17 H18 rfl) hZ (tw hw 304 rfl) (tw hw 265 rfl) (by decide) (by decide)) (g := (mkF m 123 (la20 a1 p2 p6 w8 q9) [(.int ((p6 >>> (w8 &&& 31)) - p2)), (.int 8), (.int p2), (.ref a1), (.long (opv q9 8))])) rfl (by rw [hml]; rfl) (argsL := [(.long (opv q9 8)), (.ref a1), (.int p2), (.int 8), (.int ((p6 >>> (w8 &&& 31)) - p2))]) (rest := []) (lenOf pd_19 rfl) rfl (own_w _) (hb hby d53_123) (fun _ _ => ⟨rfl, e19, (by decide : 0 + 0 ≤ _), (by decide : 0 + 0 ≤ _)⟩)
 dsimp only [Pt.U, Pt.locs, Pt.cells, Pt.slots] at X20 lq yq zq st20 hQ
 replace X20 := own_mvX X20 (a := 0) (b := 0) yq zq
 obtain ⟨rfl, Nq, e20⟩ := hQ
 have N20 := own_mvN lq N19 Nq
 obtain ⟨_, _, ⟨T21, _, _, _⟩, -, X21, ⟨_, hQ, lq, yq, zq⟩, st21⟩ := Jvm.LawKit.callS X20 hx (y := mN30) hown (mvT hZ (tw hw 302 rfl)) (mvT hZ (tw hw 303 rfl)) (mvT hZ (tw hw 265 rfl)) (mvT hZ (tw hw 304 rfl)) (by decide) (backOf (W := 0) (own_acc l Z a0 hw a1 w7 w8 w3 k4 p6 u5 x10 (opv q9 9) q9 p2 ((p6 >>> (w8 &&& 31)) - p2) 9 h0 n0 Z0 H2 H3 H4 H10 H6 H0 H1 H11 H12 (by decide) H13 H14 H15 H16 H17 H18 rfl) hZ (tw hw 304 rfl) (tw hw 265 rfl) (by decide) (by decide)) (g := (mkF m 133 (la21 a1 p2 p6 w8 q9) [(.int ((p6 >>> (w8 &&& 31)) - p2)), (.int 9), (.int p2), (.ref a1), (.long (opv q9 9))])) rfl (by rw [hml]; rfl) (argsL := [(.long (opv q9 9)), (.ref a1), (.int p2), (.int 9), (.int ((p6 >>> (w8 &&& 31)) - p2))]) (rest := []) (lenOf pd_19 rfl) rfl (own_w _) (hb hby d53_133) (fun _ _ => ⟨rfl, e20, (by decide : 0 + 0 ≤ _), (by decide : 0 + 0 ≤ _)⟩)
 dsimp only [Pt.U, Pt.locs, Pt.cells, Pt.slots] at X21 lq yq zq st21 hQ
 replace X21 := own_mvX X21 (a := 0) (b := 0) yq zq
 obtain ⟨rfl, Nq, e21⟩ := hQ
 have N21 := own_mvN lq N20 Nq
 obtain ⟨_, _, ⟨T22, _, _, _⟩, -, X22, ⟨_, hQ, lq, yq, zq⟩, st22⟩ := Jvm.LawKit.callS X21 hx (y := mN30) hown (mvT hZ (tw hw 302 rfl)) (mvT hZ (tw hw 303 rfl)) (mvT hZ (tw hw 265 rfl)) (mvT hZ (tw hw 304 rfl)) (by decide) (backOf (W := 0) (own_acc l Z a0 hw a1 w7 w8 w3 k4 p6 u5 x10 (opv q9 10) q9 p2 ((p6 >>> (w8 &&& 31)) - p2) 10 h0 n0 Z0 H2 H3 H4 H10 H6 H0 H1 H11 H12 (by decide) H13 H14 H15 H16 H17 H18 rfl) hZ (tw hw 304 rfl) (tw hw 265 rfl) (by decide) (by decide)) (g := (mkF m 143 (la22 a1 p2 p6 w8 q9) [(.int ((p6 >>> (w8 &&& 31)) - p2)), (.int 10), (.int p2), (.ref a1), (.long (opv q9 10))])) rfl (by rw [hml]; rfl) (argsL := [(.long (opv q9 10)), (.ref a1), (.int p2), (.int 10), (.int ((p6 >>> (w8 &&& 31)) - p2))]) (rest := []) (lenOf pd_19 rfl) rfl (own_w _) (hb hby d53_143) (fun _ _ => ⟨rfl, e21, (by decide : 0 + 0 ≤ _), (by decide : 0 + 0 ≤ _)⟩)
 dsimp only [Pt.U, Pt.locs, Pt.cells, Pt.slots] at X22 lq yq zq st22 hQ
 replace X22 := own_mvX X22 (a := 0) (b := 0) yq zq
 obtain ⟨rfl, Nq, e22⟩ := hQ
 have N22 := own_mvN lq N21 Nq
 obtain ⟨_, _, ⟨T23, _, _, _⟩, -, X23, ⟨_, hQ, lq, yq, zq⟩, st23⟩ := Jvm.LawKit.callS X22 hx (y := mN30) hown (mvT hZ (tw hw 302 rfl)) (mvT hZ (tw hw 303 rfl)) (mvT hZ (tw hw 265 rfl)) (mvT hZ (tw hw 304 rfl)) (by decide) (backOf (W := 0) (own_acc l Z a0 hw a1 w7 w8 w3 k4 p6 u5 x10 (opv q9 11) q9 p2 ((p6 >>> (w8 &&& 31)) - p2) 11 h0 n0 Z0 H2 H3 H4 H10 H6 H0 H1 H11 H12 (by decide) H13 H14 H15 H16 H17 H18 rfl) hZ (tw hw 304 rfl) (tw hw 265 rfl) (by decide) (by decide)) (g := (mkF m 153 (la23 a1 p2 p6 w8 q9) [(.int ((p6 >>> (w8 &&& 31)) - p2)), (.int 11), (.int p2), (.ref a1), (.long (opv q9 11))])) rfl (by rw [hml]; rfl) (argsL := [(.long (opv q9 11)), (.ref a1), (.int p2), (.int 11), (.int ((p6 >>> (w8 &&& 31)) - p2))]) (rest := []) (lenOf pd_19 rfl) rfl (own_w _) (hb hby d53_153) (fun _ _ => ⟨rfl, e22, (by decide : 0 + 0 ≤ _), (by decide : 0 + 0 ≤ _)⟩)
 dsimp only [Pt.U, Pt.locs, Pt.cells, Pt.slots] at X23 lq yq zq st23 hQ
 replace X23 := own_mvX X23 (a := 0) (b := 0) yq zq
 obtain ⟨rfl, Nq, e23⟩ := hQ
 have N23 := own_mvN lq N22 Nq
 obtain ⟨_, _, ⟨T24, _, _, _⟩, -, X24, ⟨_, hQ, lq, yq, zq⟩, st24⟩ := Jvm.LawKit.callS X23 hx (y := mN30) hown (mvT hZ (tw hw 302 rfl)) (mvT hZ (tw hw 303 rfl)) (mvT hZ (tw hw 265 rfl)) (mvT hZ (tw hw 304 rfl)) (by decide) (backOf (W := 0) (own_acc l Z a0 hw a1 w7 w8 w3 k4 p6 u5 x10 (opv q9 12) q9 p2 ((p6 >>> (w8 &&& 31)) - p2) 12 h0 n0 Z0 H2 H3 H4 H10 H6 H0 H1 H11 H12 (by decide) H13 H14 H15 H16 H17 H18 rfl) hZ (tw hw 304 rfl) (tw hw 265 rfl) (by decide) (by decide)) (g := (mkF m 163 (la24 a1 p2 p6 w8 q9) [(.int ((p6 >>> (w8 &&& 31)) - p2)), (.int 12), (.int p2), (.ref a1), (.long (opv q9 12))])) rfl (by rw [hml]; rfl) (argsL := [(.long (opv q9 12)), (.ref a1), (.int p2), (.int 12), (.int ((p6 >>> (w8 &&& 31)) - p2))]) (rest := []) (lenOf pd_19 rfl) rfl (own_w _) (hb hby d53_163) (fun _ _ => ⟨rfl, e23, (by decide : 0 + 0 ≤ _), (by decide : 0 + 0 ≤ _)⟩)
 dsimp only [Pt.U, Pt.locs, Pt.cells, Pt.slots] at X24 lq yq zq st24 hQ
 replace X24 := own_mvX X24 (a := 0) (b := 0) yq zq
 obtain ⟨rfl, Nq, e24⟩ := hQ
 have N24 := own_mvN lq N23 Nq
 obtain ⟨_, _, ⟨T25, _, _, _⟩, -, X25, ⟨_, hQ, lq, yq, zq⟩, st25⟩ := Jvm.LawKit.callS X24 hx (y := mN30) hown (mvT hZ (tw hw 302 rfl)) (mvT hZ (tw hw 303 rfl)) (mvT hZ (tw hw 265 rfl)) (mvT hZ (tw hw 304 rfl)) (by decide) (backOf (W := 0) (own_acc l Z a0 hw a1 w7 w8 w3 k4 p6 u5 x10 (opv q9 13) q9 p2 ((p6 >>> (w8 &&& 31)) - p2) 13 h0 n0 Z0 H2 H3 H4 H10 H6 H0 H1 H11 H12 (by decide) H13 H14 H15 H16 H17 H18 rfl) hZ (tw hw 304 rfl) (tw hw 265 rfl) (by decide) (by decide)) (g := (mkF m 173 (la25 a1 p2 p6 w8 q9) [(.int ((p6 >>> (w8 &&& 31)) - p2)), (.int 13), (.int p2), (.ref a1), (.long (opv q9 13))])) rfl (by rw [hml]; rfl) (argsL := [(.long (opv q9 13)), (.ref a1), (.int p2), (.int 13), (.int ((p6 >>> (w8 &&& 31)) - p2))]) (rest := []) (lenOf pd_19 rfl) rfl (own_w _) (hb hby d53_173) (fun _ _ => ⟨rfl, e24, (by decide : 0 + 0 ≤ _), (by decide : 0 + 0 ≤ _)⟩)
 dsimp only [Pt.U, Pt.locs, Pt.cells, Pt.slots] at X25 lq yq zq st25 hQ
 replace X25 := own_mvX X25 (a := 0) (b := 0) yq zq
 obtain ⟨rfl, Nq, e25⟩ := hQ
 have N25 := own_mvN lq N24 Nq
 obtain ⟨_, _, ⟨T26, _, _, _⟩, -, X26, ⟨_, hQ, lq, yq, zq⟩, st26⟩ := Jvm.LawKit.callS X25 hx (y := mN30) hown (mvT hZ (tw hw 302 rfl)) (mvT hZ (tw hw 303 rfl)) (mvT hZ (tw hw 265 rfl)) (mvT hZ (tw hw 304 rfl)) (by decide) (backOf (W := 0) (own_acc l Z a0 hw a1 w7 w8 w3 k4 p6 u5 x10 (opv q9 14) q9 p2 ((p6 >>> (w8 &&& 31)) - p2) 14 h0 n0 Z0 H2 H3 H4 H10 H6 H0 H1 H11 H12 (by decide) H13 H14 H15 H16 H17 H18 rfl) hZ (tw hw 304 rfl) (tw hw 265 rfl) (by decide) (by decide)) (g := (mkF m 183 (la26 a1 p2 p6 w8 q9) [(.int ((p6 >>> (w8 &&& 31)) - p2)), (.int 14), (.int p2), (.ref a1), (.long (opv q9 14))])) rfl (by rw [hml]; rfl) (argsL := [(.long (opv q9 14)), (.ref a1), (.int p2), (.int 14), (.int ((p6 >>> (w8 &&& 31)) - p2))]) (rest := []) (lenOf pd_19 rfl) rfl (own_w _) (hb hby d53_183) (fun _ _ => ⟨rfl, e25, (by decide : 0 + 0 ≤ _), (by decide : 0 + 0 ≤ _)⟩)
 dsimp only [Pt.U, Pt.locs, Pt.cells, Pt.slots] at X26 lq yq zq st26 hQ
 replace X26 := own_mvX X26 (a := 0) (b := 0) yq zq
 obtain ⟨rfl, Nq, e26⟩ := hQ
 have N26 := own_mvN lq N25 Nq
 obtain ⟨_, _, ⟨T27, _, _, _⟩, -, X27, ⟨_, hQ, lq, yq, zq⟩, st27⟩ := Jvm.LawKit.callS X26 hx (y := mN30) hown (mvT hZ (tw hw 302 rfl)) (mvT hZ (tw hw 303 rfl)) (mvT hZ (tw hw 265 rfl)) (mvT hZ (tw hw 304 rfl)) (by decide) (backOf (W := 0) (own_acc l Z a0 hw a1 w7 w8 w3 k4 p6 u5 x10 (opv q9 15) q9 p2 ((p6 >>> (w8 &&& 31)) - p2) 15 h0 n0 Z0 H2 H3 H4 H10 H6 H0 H1 H11 H12 (by decide) H13 H14 H15 H16 H17 H18 rfl) hZ (tw hw 304 rfl) (tw hw 265 rfl) (by decide) (by decide)) (g := (mkF m 193 (la27 a1 p2 p6 w8 q9) [(.int ((p6 >>> (w8 &&& 31)) - p2)), (.int 15), (.int p2), (.ref a1), (.long (opv q9 15))])) rfl (by rw [hml]; rfl) (argsL := [(.long (opv q9 15)), (.ref a1), (.int p2), (.int 15), (.int ((p6 >>> (w8 &&& 31)) - p2))]) (rest := []) (lenOf pd_19 rfl) rfl (own_w _) (hb hby d53_193) (fun _ _ => ⟨rfl, e26, (by decide : 0 + 0 ≤ _), (by decide : 0 + 0 ≤ _)⟩)
 dsimp only [Pt.U, Pt.locs, Pt.cells, Pt.slots] at X27 lq yq zq st27 hQ
 replace X27 := own_mvX X27 (a := 0) (b := 0) yq zq
 obtain ⟨rfl, Nq, e27⟩ := hQ
 have N27 := own_mvN lq N26 Nq
 obtain ⟨_, _, ⟨T28, _, _, _⟩, -, X28, ⟨_, hQ, lq, yq, zq⟩, st28⟩ := Jvm.LawKit.callS X27 hx (y := mN30) hown (mvT hZ (tw hw 302 rfl)) (mvT hZ (tw hw 303 rfl)) (mvT hZ (tw hw 265 rfl)) (mvT hZ (tw hw 304 rfl)) (by decide) (backOf (W := 0) (own_acc l Z a0 hw a1 w7 w8 w3 k4 p6 u5 x10 (opv q9 16) q9 p2 ((p6 >>> (w8 &&& 31)) - p2) 16 h0 n0 Z0 H2 H3 H4 H10 H6 H0 H1 H11 H12 (by decide) H13 H14 H15 H16 H17 H18 rfl) hZ (tw hw 304 rfl) (tw hw 265 rfl) (by decide) (by decide)) (g := (mkF m 203 (la28 a1 p2 p6 w8 q9) [(.int ((p6 >>> (w8 &&& 31)) - p2)), (.int 16), (.int p2), (.ref a1), (.long (opv q9 16))])) rfl (by rw [hml]; rfl) (argsL := [(.long (opv q9 16)), (.ref a1), (.int p2), (.int 16), (.int ((p6 >>> (w8 &&& 31)) - p2))]) (rest := []) (lenOf pd_19 rfl) rfl (own_w _) (hb hby d53_203) (fun _ _ => ⟨rfl, e27, (by decide : 0 + 0 ≤ _), (by decide : 0 + 0 ≤ _)⟩)
 dsimp only [Pt.U, Pt.locs, Pt.cells, Pt.slots] at X28 lq yq zq st28 hQ
 replace X28 := own_mvX X28 (a := 0) (b := 0) yq zq
 obtain ⟨rfl, Nq, e28⟩ := hQ
 have N28 := own_mvN lq N27 Nq
 obtain ⟨_, _, ⟨T29, _, _, _⟩, -, X29, ⟨_, hQ, lq, yq, zq⟩, st29⟩ := Jvm.LawKit.callS X28 hx (y := mN30) hown (mvT hZ (tw hw 302 rfl)) (mvT hZ (tw hw 303 rfl)) (mvT hZ (tw hw 265 rfl)) (mvT hZ (tw hw 304 rfl)) (by decide) (backOf (W := 0) (own_acc l Z a0 hw a1 w7 w8 w3 k4 p6 u5 x10 (opv q9 17) q9 p2 ((p6 >>> (w8 &&& 31)) - p2) 17 h0 n0 Z0 H2 H3 H4 H10 H6 H0 H1 H11 H12 (by decide) H13 H14 H15 H16 H17 H18 rfl) hZ (tw hw 304 rfl) (tw hw 265 rfl) (by decide) (by decide)) (g := (mkF m 213 (la29 a1 p2 p6 w8 q9) [(.int ((p6 >>> (w8 &&& 31)) - p2)), (.int 17), (.int p2), (.ref a1), (.long (opv q9 17))])) rfl (by rw [hml]; rfl) (argsL := [(.long (opv q9 17)), (.ref a1), (.int p2), (.int 17), (.int ((p6 >>> (w8 &&& 31)) - p2))]) (rest := []) (lenOf pd_19 rfl) rfl (own_w _) (hb hby d53_213) (fun _ _ => ⟨rfl, e28, (by decide : 0 + 0 ≤ _), (by decide : 0 + 0 ≤ _)⟩)
 dsimp only [Pt.U, Pt.locs, Pt.cells, Pt.slots] at X29 lq yq zq st29 hQ
 replace X29 := own_mvX X29 (a := 0) (b := 0) yq zq
 obtain ⟨rfl, Nq, e29⟩ := hQ
 have N29 := own_mvN lq N28 Nq
 obtain ⟨_, _, ⟨T30, _, _, _⟩, -, X30, ⟨_, hQ, lq, yq, zq⟩, st30⟩ := Jvm.LawKit.callS X29 hx (y := mN30) hown (mvT hZ (tw hw 302 rfl)) (mvT hZ (tw hw 303 rfl)) (mvT hZ (tw hw 265 rfl)) (mvT hZ (tw hw 304 rfl)) (by decide) (backOf (W := 0) (own_acc l Z a0 hw a1 w7 w8 w3 k4 p6 u5 x10 (opv q9 18) q9 p2 ((p6 >>> (w8 &&& 31)) - p2) 18 h0 n0 Z0 H2 H3 H4 H10 H6 H0 H1 H11 H12 (by decide) H13 H14 H15 H16 H17 H18 rfl) hZ (tw hw 304 rfl) (tw hw 265 rfl) (by decide) (by decide)) (g := (mkF m 223 (la30 a1 p2 p6 w8 q9) [(.int ((p6 >>> (w8 &&& 31)) - p2)), (.int 18), (.int p2), (.ref a1), (.long (opv q9 18))])) rfl (by rw [hml]; rfl) (argsL := [(.long (opv q9 18)), (.ref a1), (.int p2), (.int 18), (.int ((p6 >>> (w8 &&& 31)) - p2))]) (rest := []) (lenOf pd_19 rfl) rfl (own_w _) (hb hby d53_223) (fun _ _ => ⟨rfl, e29, (by decide : 0 + 0 ≤ _), (by decide : 0 + 0 ≤ _)⟩)
 dsimp only [Pt.U, Pt.locs, Pt.cells, Pt.slots] at X30 lq yq zq st30 hQ
 replace X30 := own_mvX X30 (a := 0) (b := 0) yq zq
 obtain ⟨rfl, Nq, e30⟩ := hQ
 have N30 := own_mvN lq N29 Nq
 obtain ⟨fs, hr, hrun, hended, hW, hsame⟩ := X30.leave (v := some (.long (opv q9 19))) (fun h => by rw [Bd.returns] at h; cases h)
 refine ⟨_, _, pre0 _ ?_, hrun, hended, _, _, rfl, ?_, ⟨_, rfl⟩, hW, hsame.mono (by decide) (by decide)⟩
 · show SG p e below s₁ (mkF m 0 #[vR a1, vI p2, vU, vU, vU] []) _
   refine XS.aloadN X0.here hx rfl (hb hby d53_0) rfl rfl ?_
   show SG p e below s₁ (mkF m 1 #[vR a1, vI p2, vU, vU, vU] [(.ref a1)]) _
   refine st11.trans ?_
   show SG p e below T11 (mkF m 4 #[vR a1, vI p2, vU, vU, vU] [(.int (p6 >>> (w8 &&& 31)))]) _
   refine XS.iloadN X11.here hx rfl (hb hby d53_4) rfl ?_
   refine XS.isub X11.here hx rfl (hb hby d53_5) rfl ?_
   show SG p e below T11 (mkF m 6 #[vR a1, vI p2, vU, vU, vU] [(.int ((p6 >>> (w8 &&& 31)) - p2))]) _
   refine XS.istoreN X11.here hx rfl (hb hby d53_6) rfl (l' := #[vR a1, vI p2, vI ((p6 >>> (w8 &&& 31)) - p2), vU, vU]) rfl ?_
   show SG p e below T11 (mkF m 7 (la11 a1 p2 p6 w8) []) _
   refine XS.iloadN X11.here hx rfl (hb hby d53_7) rfl ?_
   refine XS.iconst X11.here hx rfl (hb hby d53_8) ?_
   show SG p e below T11 (mkF m 9 (la11 a1 p2 p6 w8) [(.int 1), (.int ((p6 >>> (w8 &&& 31)) - p2))]) _
   refine XS.icmpNo X11.here hx rfl (hb hby d53_9) rfl (flt H7).1 ?_
   show SG p e below T11 (mkF m 12 (la11 a1 p2 p6 w8) []) _
   refine XS.iloadN X11.here hx rfl (hb hby d53_12) rfl ?_
   refine XS.bipush X11.here hx rfl (hb hby d53_13) ?_
   show SG p e below T11 (mkF m 15 (la11 a1 p2 p6 w8) [(.int 19), (.int ((p6 >>> (w8 &&& 31)) - p2))]) _
   refine XS.icmpYes X11.here hx rfl (pc0 := 15) (pc' := 22) rfl (hb hby d53_15) rfl (flt H8).2.2.2 (by decide) (by decide) ?_
   show SG p e below T11 (mkF m 22 (la11 a1 p2 p6 w8) []) _
   refine XS.iloadN X11.here hx rfl (hb hby d53_22) rfl ?_
   refine XS.iconst X11.here hx rfl (hb hby d53_23) ?_
   show SG p e below T11 (mkF m 24 (la11 a1 p2 p6 w8) [(.int 1), (.int ((p6 >>> (w8 &&& 31)) - p2))]) _
   refine XS.icmpYes X11.here hx rfl (pc0 := 24) (pc' := 41) rfl (hb hby d53_24) rfl (flt H9).2.2.2 (by decide) (by decide) ?_
   show SG p e below T11 (mkF m 41 (la11 a1 p2 p6 w8) []) _
   refine XS.lconst X11.here hx rfl (hb hby d53_41) ?_
   refine XS.lstoreN X11.here hx rfl (hb hby d53_42) rfl (l' := #[vR a1, vI p2, vI ((p6 >>> (w8 &&& 31)) - p2), vJ 0, vS]) rfl ?_
   show SG p e below T11 (mkF m 43 (la12 a1 p2 p6 w8) []) _
   refine XS.lloadN X11.here hx rfl (hb hby d53_43) rfl ?_
   refine XS.aloadN X11.here hx rfl (hb hby d53_44) rfl rfl ?_
   show SG p e below T11 (mkF m 45 (la12 a1 p2 p6 w8) [(.ref a1), (.long 0)]) _
   refine XS.iloadN X11.here hx rfl (hb hby d53_45) rfl ?_
   refine XS.iconst X11.here hx rfl (hb hby d53_46) ?_
   show SG p e below T11 (mkF m 47 (la12 a1 p2 p6 w8) [(.int 0), (.int p2), (.ref a1), (.long 0)]) _
   refine XS.iloadN X11.here hx rfl (hb hby d53_47) rfl ?_
   show SG p e below T11 (mkF m 48 (la12 a1 p2 p6 w8) [(.int ((p6 >>> (w8 &&& 31)) - p2)), (.int 0), (.int p2), (.ref a1), (.long 0)]) _
   refine st12 _ ?_
   show SG p e below T12 (mkF m 51 (la12 a1 p2 p6 w8) [(.long (opv q9 1))]) _
   refine XS.lstoreN X12.here hx rfl (hb hby d53_51) rfl (l' := #[vR a1, vI p2, vI ((p6 >>> (w8 &&& 31)) - p2), vJ (opv q9 1), vS]) rfl ?_
   show SG p e below T12 (mkF m 52 (la13 a1 p2 p6 w8 q9) []) _
   refine XS.lloadN X12.here hx rfl (hb hby d53_52) rfl ?_
   refine XS.aloadN X12.here hx rfl (hb hby d53_53) rfl rfl ?_
   show SG p e below T12 (mkF m 54 (la13 a1 p2 p6 w8 q9) [(.ref a1), (.long (opv q9 1))]) _
   refine XS.iloadN X12.here hx rfl (hb hby d53_54) rfl ?_
   refine XS.iconst X12.here hx rfl (hb hby d53_55) ?_
   show SG p e below T12 (mkF m 56 (la13 a1 p2 p6 w8 q9) [(.int 1), (.int p2), (.ref a1), (.long (opv q9 1))]) _
   refine XS.iloadN X12.here hx rfl (hb hby d53_56) rfl ?_
   show SG p e below T12 (mkF m 57 (la13 a1 p2 p6 w8 q9) [(.int ((p6 >>> (w8 &&& 31)) - p2)), (.int 1), (.int p2), (.ref a1), (.long (opv q9 1))]) _
   refine st13 _ ?_
   show SG p e below T13 (mkF m 60 (la13 a1 p2 p6 w8 q9) [(.long (opv q9 2))]) _
   refine XS.lstoreN X13.here hx rfl (hb hby d53_60) rfl (l' := #[vR a1, vI p2, vI ((p6 >>> (w8 &&& 31)) - p2), vJ (opv q9 2), vS]) rfl ?_
   show SG p e below T13 (mkF m 61 (la14 a1 p2 p6 w8 q9) []) _
   refine XS.lloadN X13.here hx rfl (hb hby d53_61) rfl ?_
   refine XS.aloadN X13.here hx rfl (hb hby d53_62) rfl rfl ?_
   show SG p e below T13 (mkF m 63 (la14 a1 p2 p6 w8 q9) [(.ref a1), (.long (opv q9 2))]) _
   refine XS.iloadN X13.here hx rfl (hb hby d53_63) rfl ?_
   refine XS.iconst X13.here hx rfl (hb hby d53_64) ?_
   show SG p e below T13 (mkF m 65 (la14 a1 p2 p6 w8 q9) [(.int 2), (.int p2), (.ref a1), (.long (opv q9 2))]) _
   refine XS.iloadN X13.here hx rfl (hb hby d53_65) rfl ?_
   show SG p e below T13 (mkF m 66 (la14 a1 p2 p6 w8 q9) [(.int ((p6 >>> (w8 &&& 31)) - p2)), (.int 2), (.int p2), (.ref a1), (.long (opv q9 2))]) _
   refine st14 _ ?_
   show SG p e below T14 (mkF m 69 (la14 a1 p2 p6 w8 q9) [(.long (opv q9 3))]) _
   refine XS.lstoreN X14.here hx rfl (hb hby d53_69) rfl (l' := #[vR a1, vI p2, vI ((p6 >>> (w8 &&& 31)) - p2), vJ (opv q9 3), vS]) rfl ?_
   show SG p e below T14 (mkF m 70 (la15 a1 p2 p6 w8 q9) []) _
   refine XS.lloadN X14.here hx rfl (hb hby d53_70) rfl ?_
   refine XS.aloadN X14.here hx rfl (hb hby d53_71) rfl rfl ?_
   show SG p e below T14 (mkF m 72 (la15 a1 p2 p6 w8 q9) [(.ref a1), (.long (opv q9 3))]) _
   refine XS.iloadN X14.here hx rfl (hb hby d53_72) rfl ?_
   refine XS.iconst X14.here hx rfl (hb hby d53_73) ?_
   show SG p e below T14 (mkF m 74 (la15 a1 p2 p6 w8 q9) [(.int 3), (.int p2), (.ref a1), (.long (opv q9 3))]) _
   refine XS.iloadN X14.here hx rfl (hb hby d53_74) rfl ?_
   show SG p e below T14 (mkF m 75 (la15 a1 p2 p6 w8 q9) [(.int ((p6 >>> (w8 &&& 31)) - p2)), (.int 3), (.int p2), (.ref a1), (.long (opv q9 3))]) _
   refine st15 _ ?_
   show SG p e below T15 (mkF m 78 (la15 a1 p2 p6 w8 q9) [(.long (opv q9 4))]) _
   refine XS.lstoreN X15.here hx rfl (hb hby d53_78) rfl (l' := #[vR a1, vI p2, vI ((p6 >>> (w8 &&& 31)) - p2), vJ (opv q9 4), vS]) rfl ?_
   show SG p e below T15 (mkF m 79 (la16 a1 p2 p6 w8 q9) []) _
   refine XS.lloadN X15.here hx rfl (hb hby d53_79) rfl ?_
   refine XS.aloadN X15.here hx rfl (hb hby d53_80) rfl rfl ?_
   show SG p e below T15 (mkF m 81 (la16 a1 p2 p6 w8 q9) [(.ref a1), (.long (opv q9 4))]) _
   refine XS.iloadN X15.here hx rfl (hb hby d53_81) rfl ?_
   refine XS.iconst X15.here hx rfl (hb hby d53_82) ?_
   show SG p e below T15 (mkF m 83 (la16 a1 p2 p6 w8 q9) [(.int 4), (.int p2), (.ref a1), (.long (opv q9 4))]) _
   refine XS.iloadN X15.here hx rfl (hb hby d53_83) rfl ?_
   show SG p e below T15 (mkF m 84 (la16 a1 p2 p6 w8 q9) [(.int ((p6 >>> (w8 &&& 31)) - p2)), (.int 4), (.int p2), (.ref a1), (.long (opv q9 4))]) _
   refine st16 _ ?_
   show SG p e below T16 (mkF m 87 (la16 a1 p2 p6 w8 q9) [(.long (opv q9 5))]) _
   refine XS.lstoreN X16.here hx rfl (hb hby d53_87) rfl (l' := #[vR a1, vI p2, vI ((p6 >>> (w8 &&& 31)) - p2), vJ (opv q9 5), vS]) rfl ?_
   show SG p e below T16 (mkF m 88 (la17 a1 p2 p6 w8 q9) []) _
   refine XS.lloadN X16.here hx rfl (hb hby d53_88) rfl ?_
   refine XS.aloadN X16.here hx rfl (hb hby d53_89) rfl rfl ?_
   show SG p e below T16 (mkF m 90 (la17 a1 p2 p6 w8 q9) [(.ref a1), (.long (opv q9 5))]) _
   refine XS.iloadN X16.here hx rfl (hb hby d53_90) rfl ?_
   refine XS.iconst X16.here hx rfl (hb hby d53_91) ?_
   show SG p e below T16 (mkF m 92 (la17 a1 p2 p6 w8 q9) [(.int 5), (.int p2), (.ref a1), (.long (opv q9 5))]) _
   refine XS.iloadN X16.here hx rfl (hb hby d53_92) rfl ?_
   show SG p e below T16 (mkF m 93 (la17 a1 p2 p6 w8 q9) [(.int ((p6 >>> (w8 &&& 31)) - p2)), (.int 5), (.int p2), (.ref a1), (.long (opv q9 5))]) _
   refine st17 _ ?_
   show SG p e below T17 (mkF m 96 (la17 a1 p2 p6 w8 q9) [(.long (opv q9 6))]) _
   refine XS.lstoreN X17.here hx rfl (hb hby d53_96) rfl (l' := #[vR a1, vI p2, vI ((p6 >>> (w8 &&& 31)) - p2), vJ (opv q9 6), vS]) rfl ?_
   show SG p e below T17 (mkF m 97 (la18 a1 p2 p6 w8 q9) []) _
   refine XS.lloadN X17.here hx rfl (hb hby d53_97) rfl ?_
   refine XS.aloadN X17.here hx rfl (hb hby d53_98) rfl rfl ?_
   show SG p e below T17 (mkF m 99 (la18 a1 p2 p6 w8 q9) [(.ref a1), (.long (opv q9 6))]) _
   refine XS.iloadN X17.here hx rfl (hb hby d53_99) rfl ?_
   refine XS.bipush X17.here hx rfl (hb hby d53_100) ?_
   show SG p e below T17 (mkF m 102 (la18 a1 p2 p6 w8 q9) [(.int 6), (.int p2), (.ref a1), (.long (opv q9 6))]) _
   refine XS.iloadN X17.here hx rfl (hb hby d53_102) rfl ?_
   show SG p e below T17 (mkF m 103 (la18 a1 p2 p6 w8 q9) [(.int ((p6 >>> (w8 &&& 31)) - p2)), (.int 6), (.int p2), (.ref a1), (.long (opv q9 6))]) _
   refine st18 _ ?_
   show SG p e below T18 (mkF m 106 (la18 a1 p2 p6 w8 q9) [(.long (opv q9 7))]) _
   refine XS.lstoreN X18.here hx rfl (hb hby d53_106) rfl (l' := #[vR a1, vI p2, vI ((p6 >>> (w8 &&& 31)) - p2), vJ (opv q9 7), vS]) rfl ?_
   show SG p e below T18 (mkF m 107 (la19 a1 p2 p6 w8 q9) []) _
   refine XS.lloadN X18.here hx rfl (hb hby d53_107) rfl ?_
   refine XS.aloadN X18.here hx rfl (hb hby d53_108) rfl rfl ?_
   show SG p e below T18 (mkF m 109 (la19 a1 p2 p6 w8 q9) [(.ref a1), (.long (opv q9 7))]) _
   refine XS.iloadN X18.here hx rfl (hb hby d53_109) rfl ?_
   refine XS.bipush X18.here hx rfl (hb hby d53_110) ?_
   show SG p e below T18 (mkF m 112 (la19 a1 p2 p6 w8 q9) [(.int 7), (.int p2), (.ref a1), (.long (opv q9 7))]) _
   refine XS.iloadN X18.here hx rfl (hb hby d53_112) rfl ?_
   show SG p e below T18 (mkF m 113 (la19 a1 p2 p6 w8 q9) [(.int ((p6 >>> (w8 &&& 31)) - p2)), (.int 7), (.int p2), (.ref a1), (.long (opv q9 7))]) _
   refine st19 _ ?_
   show SG p e below T19 (mkF m 116 (la19 a1 p2 p6 w8 q9) [(.long (opv q9 8))]) _
   refine XS.lstoreN X19.here hx rfl (hb hby d53_116) rfl (l' := #[vR a1, vI p2, vI ((p6 >>> (w8 &&& 31)) - p2), vJ (opv q9 8), vS]) rfl ?_
   show SG p e below T19 (mkF m 117 (la20 a1 p2 p6 w8 q9) []) _
   refine XS.lloadN X19.here hx rfl (hb hby d53_117) rfl ?_
   refine XS.aloadN X19.here hx rfl (hb hby d53_118) rfl rfl ?_
   show SG p e below T19 (mkF m 119 (la20 a1 p2 p6 w8 q9) [(.ref a1), (.long (opv q9 8))]) _
   refine XS.iloadN X19.here hx rfl (hb hby d53_119) rfl ?_
   refine XS.bipush X19.here hx rfl (hb hby d53_120) ?_
   show SG p e below T19 (mkF m 122 (la20 a1 p2 p6 w8 q9) [(.int 8), (.int p2), (.ref a1), (.long (opv q9 8))]) _
   refine XS.iloadN X19.here hx rfl (hb hby d53_122) rfl ?_
   show SG p e below T19 (mkF m 123 (la20 a1 p2 p6 w8 q9) [(.int ((p6 >>> (w8 &&& 31)) - p2)), (.int 8), (.int p2), (.ref a1), (.long (opv q9 8))]) _
   refine st20 _ ?_
   show SG p e below T20 (mkF m 126 (la20 a1 p2 p6 w8 q9) [(.long (opv q9 9))]) _
   refine XS.lstoreN X20.here hx rfl (hb hby d53_126) rfl (l' := #[vR a1, vI p2, vI ((p6 >>> (w8 &&& 31)) - p2), vJ (opv q9 9), vS]) rfl ?_
   show SG p e below T20 (mkF m 127 (la21 a1 p2 p6 w8 q9) []) _
   refine XS.lloadN X20.here hx rfl (hb hby d53_127) rfl ?_
   refine XS.aloadN X20.here hx rfl (hb hby d53_128) rfl rfl ?_
   show SG p e below T20 (mkF m 129 (la21 a1 p2 p6 w8 q9) [(.ref a1), (.long (opv q9 9))]) _
   refine XS.iloadN X20.here hx rfl (hb hby d53_129) rfl ?_
   refine XS.bipush X20.here hx rfl (hb hby d53_130) ?_
   show SG p e below T20 (mkF m 132 (la21 a1 p2 p6 w8 q9) [(.int 9), (.int p2), (.ref a1), (.long (opv q9 9))]) _
   refine XS.iloadN X20.here hx rfl (hb hby d53_132) rfl ?_
   show SG p e below T20 (mkF m 133 (la21 a1 p2 p6 w8 q9) [(.int ((p6 >>> (w8 &&& 31)) - p2)), (.int 9), (.int p2), (.ref a1), (.long (opv q9 9))]) _
   refine st21 _ ?_
   show SG p e below T21 (mkF m 136 (la21 a1 p2 p6 w8 q9) [(.long (opv q9 10))]) _
   refine XS.lstoreN X21.here hx rfl (hb hby d53_136) rfl (l' := #[vR a1, vI p2, vI ((p6 >>> (w8 &&& 31)) - p2), vJ (opv q9 10), vS]) rfl ?_
   show SG p e below T21 (mkF m 137 (la22 a1 p2 p6 w8 q9) []) _
   refine XS.lloadN X21.here hx rfl (hb hby d53_137) rfl ?_
   refine XS.aloadN X21.here hx rfl (hb hby d53_138) rfl rfl ?_
   show SG p e below T21 (mkF m 139 (la22 a1 p2 p6 w8 q9) [(.ref a1), (.long (opv q9 10))]) _
   refine XS.iloadN X21.here hx rfl (hb hby d53_139) rfl ?_
   refine XS.bipush X21.here hx rfl (hb hby d53_140) ?_
   show SG p e below T21 (mkF m 142 (la22 a1 p2 p6 w8 q9) [(.int 10), (.int p2), (.ref a1), (.long (opv q9 10))]) _
   refine XS.iloadN X21.here hx rfl (hb hby d53_142) rfl ?_
   show SG p e below T21 (mkF m 143 (la22 a1 p2 p6 w8 q9) [(.int ((p6 >>> (w8 &&& 31)) - p2)), (.int 10), (.int p2), (.ref a1), (.long (opv q9 10))]) _
   refine st22 _ ?_
   show SG p e below T22 (mkF m 146 (la22 a1 p2 p6 w8 q9) [(.long (opv q9 11))]) _
   refine XS.lstoreN X22.here hx rfl (hb hby d53_146) rfl (l' := #[vR a1, vI p2, vI ((p6 >>> (w8 &&& 31)) - p2), vJ (opv q9 11), vS]) rfl ?_
   show SG p e below T22 (mkF m 147 (la23 a1 p2 p6 w8 q9) []) _
   refine XS.lloadN X22.here hx rfl (hb hby d53_147) rfl ?_
   refine XS.aloadN X22.here hx rfl (hb hby d53_148) rfl rfl ?_
   show SG p e below T22 (mkF m 149 (la23 a1 p2 p6 w8 q9) [(.ref a1), (.long (opv q9 11))]) _
   refine XS.iloadN X22.here hx rfl (hb hby d53_149) rfl ?_
   refine XS.bipush X22.here hx rfl (hb hby d53_150) ?_
   show SG p e below T22 (mkF m 152 (la23 a1 p2 p6 w8 q9) [(.int 11), (.int p2), (.ref a1), (.long (opv q9 11))]) _
   refine XS.iloadN X22.here hx rfl (hb hby d53_152) rfl ?_
   show SG p e below T22 (mkF m 153 (la23 a1 p2 p6 w8 q9) [(.int ((p6 >>> (w8 &&& 31)) - p2)), (.int 11), (.int p2), (.ref a1), (.long (opv q9 11))]) _
   refine st23 _ ?_
   show SG p e below T23 (mkF m 156 (la23 a1 p2 p6 w8 q9) [(.long (opv q9 12))]) _
   refine XS.lstoreN X23.here hx rfl (hb hby d53_156) rfl (l' := #[vR a1, vI p2, vI ((p6 >>> (w8 &&& 31)) - p2), vJ (opv q9 12), vS]) rfl ?_
   show SG p e below T23 (mkF m 157 (la24 a1 p2 p6 w8 q9) []) _
   refine XS.lloadN X23.here hx rfl (hb hby d53_157) rfl ?_
   refine XS.aloadN X23.here hx rfl (hb hby d53_158) rfl rfl ?_
   show SG p e below T23 (mkF m 159 (la24 a1 p2 p6 w8 q9) [(.ref a1), (.long (opv q9 12))]) _
   refine XS.iloadN X23.here hx rfl (hb hby d53_159) rfl ?_
   refine XS.bipush X23.here hx rfl (hb hby d53_160) ?_
   show SG p e below T23 (mkF m 162 (la24 a1 p2 p6 w8 q9) [(.int 12), (.int p2), (.ref a1), (.long (opv q9 12))]) _
   refine XS.iloadN X23.here hx rfl (hb hby d53_162) rfl ?_
   show SG p e below T23 (mkF m 163 (la24 a1 p2 p6 w8 q9) [(.int ((p6 >>> (w8 &&& 31)) - p2)), (.int 12), (.int p2), (.ref a1), (.long (opv q9 12))]) _
   refine st24 _ ?_
   show SG p e below T24 (mkF m 166 (la24 a1 p2 p6 w8 q9) [(.long (opv q9 13))]) _
   refine XS.lstoreN X24.here hx rfl (hb hby d53_166) rfl (l' := #[vR a1, vI p2, vI ((p6 >>> (w8 &&& 31)) - p2), vJ (opv q9 13), vS]) rfl ?_
   show SG p e below T24 (mkF m 167 (la25 a1 p2 p6 w8 q9) []) _
   refine XS.lloadN X24.here hx rfl (hb hby d53_167) rfl ?_
   refine XS.aloadN X24.here hx rfl (hb hby d53_168) rfl rfl ?_
   show SG p e below T24 (mkF m 169 (la25 a1 p2 p6 w8 q9) [(.ref a1), (.long (opv q9 13))]) _
   refine XS.iloadN X24.here hx rfl (hb hby d53_169) rfl ?_
   refine XS.bipush X24.here hx rfl (hb hby d53_170) ?_
   show SG p e below T24 (mkF m 172 (la25 a1 p2 p6 w8 q9) [(.int 13), (.int p2), (.ref a1), (.long (opv q9 13))]) _
   refine XS.iloadN X24.here hx rfl (hb hby d53_172) rfl ?_
   show SG p e below T24 (mkF m 173 (la25 a1 p2 p6 w8 q9) [(.int ((p6 >>> (w8 &&& 31)) - p2)), (.int 13), (.int p2), (.ref a1), (.long (opv q9 13))]) _
   refine st25 _ ?_
   show SG p e below T25 (mkF m 176 (la25 a1 p2 p6 w8 q9) [(.long (opv q9 14))]) _
   refine XS.lstoreN X25.here hx rfl (hb hby d53_176) rfl (l' := #[vR a1, vI p2, vI ((p6 >>> (w8 &&& 31)) - p2), vJ (opv q9 14), vS]) rfl ?_
   show SG p e below T25 (mkF m 177 (la26 a1 p2 p6 w8 q9) []) _
   refine XS.lloadN X25.here hx rfl (hb hby d53_177) rfl ?_
   refine XS.aloadN X25.here hx rfl (hb hby d53_178) rfl rfl ?_
   show SG p e below T25 (mkF m 179 (la26 a1 p2 p6 w8 q9) [(.ref a1), (.long (opv q9 14))]) _
   refine XS.iloadN X25.here hx rfl (hb hby d53_179) rfl ?_
   refine XS.bipush X25.here hx rfl (hb hby d53_180) ?_
   show SG p e below T25 (mkF m 182 (la26 a1 p2 p6 w8 q9) [(.int 14), (.int p2), (.ref a1), (.long (opv q9 14))]) _
   refine XS.iloadN X25.here hx rfl (hb hby d53_182) rfl ?_
   show SG p e below T25 (mkF m 183 (la26 a1 p2 p6 w8 q9) [(.int ((p6 >>> (w8 &&& 31)) - p2)), (.int 14), (.int p2), (.ref a1), (.long (opv q9 14))]) _
   refine st26 _ ?_
   show SG p e below T26 (mkF m 186 (la26 a1 p2 p6 w8 q9) [(.long (opv q9 15))]) _
   refine XS.lstoreN X26.here hx rfl (hb hby d53_186) rfl (l' := #[vR a1, vI p2, vI ((p6 >>> (w8 &&& 31)) - p2), vJ (opv q9 15), vS]) rfl ?_
   show SG p e below T26 (mkF m 187 (la27 a1 p2 p6 w8 q9) []) _
   refine XS.lloadN X26.here hx rfl (hb hby d53_187) rfl ?_
   refine XS.aloadN X26.here hx rfl (hb hby d53_188) rfl rfl ?_
   show SG p e below T26 (mkF m 189 (la27 a1 p2 p6 w8 q9) [(.ref a1), (.long (opv q9 15))]) _
   refine XS.iloadN X26.here hx rfl (hb hby d53_189) rfl ?_
   refine XS.bipush X26.here hx rfl (hb hby d53_190) ?_
   show SG p e below T26 (mkF m 192 (la27 a1 p2 p6 w8 q9) [(.int 15), (.int p2), (.ref a1), (.long (opv q9 15))]) _
   refine XS.iloadN X26.here hx rfl (hb hby d53_192) rfl ?_
   show SG p e below T26 (mkF m 193 (la27 a1 p2 p6 w8 q9) [(.int ((p6 >>> (w8 &&& 31)) - p2)), (.int 15), (.int p2), (.ref a1), (.long (opv q9 15))]) _
   refine st27 _ ?_
   show SG p e below T27 (mkF m 196 (la27 a1 p2 p6 w8 q9) [(.long (opv q9 16))]) _
   refine XS.lstoreN X27.here hx rfl (hb hby d53_196) rfl (l' := #[vR a1, vI p2, vI ((p6 >>> (w8 &&& 31)) - p2), vJ (opv q9 16), vS]) rfl ?_
   show SG p e below T27 (mkF m 197 (la28 a1 p2 p6 w8 q9) []) _
   refine XS.lloadN X27.here hx rfl (hb hby d53_197) rfl ?_
   refine XS.aloadN X27.here hx rfl (hb hby d53_198) rfl rfl ?_
   show SG p e below T27 (mkF m 199 (la28 a1 p2 p6 w8 q9) [(.ref a1), (.long (opv q9 16))]) _
   refine XS.iloadN X27.here hx rfl (hb hby d53_199) rfl ?_
   refine XS.bipush X27.here hx rfl (hb hby d53_200) ?_
   show SG p e below T27 (mkF m 202 (la28 a1 p2 p6 w8 q9) [(.int 16), (.int p2), (.ref a1), (.long (opv q9 16))]) _
   refine XS.iloadN X27.here hx rfl (hb hby d53_202) rfl ?_
   show SG p e below T27 (mkF m 203 (la28 a1 p2 p6 w8 q9) [(.int ((p6 >>> (w8 &&& 31)) - p2)), (.int 16), (.int p2), (.ref a1), (.long (opv q9 16))]) _
   refine st28 _ ?_
   show SG p e below T28 (mkF m 206 (la28 a1 p2 p6 w8 q9) [(.long (opv q9 17))]) _
   refine XS.lstoreN X28.here hx rfl (hb hby d53_206) rfl (l' := #[vR a1, vI p2, vI ((p6 >>> (w8 &&& 31)) - p2), vJ (opv q9 17), vS]) rfl ?_
   show SG p e below T28 (mkF m 207 (la29 a1 p2 p6 w8 q9) []) _
   refine XS.lloadN X28.here hx rfl (hb hby d53_207) rfl ?_
   refine XS.aloadN X28.here hx rfl (hb hby d53_208) rfl rfl ?_
   show SG p e below T28 (mkF m 209 (la29 a1 p2 p6 w8 q9) [(.ref a1), (.long (opv q9 17))]) _
   refine XS.iloadN X28.here hx rfl (hb hby d53_209) rfl ?_
   refine XS.bipush X28.here hx rfl (hb hby d53_210) ?_
   show SG p e below T28 (mkF m 212 (la29 a1 p2 p6 w8 q9) [(.int 17), (.int p2), (.ref a1), (.long (opv q9 17))]) _
   refine XS.iloadN X28.here hx rfl (hb hby d53_212) rfl ?_
   show SG p e below T28 (mkF m 213 (la29 a1 p2 p6 w8 q9) [(.int ((p6 >>> (w8 &&& 31)) - p2)), (.int 17), (.int p2), (.ref a1), (.long (opv q9 17))]) _
   refine st29 _ ?_
   show SG p e below T29 (mkF m 216 (la29 a1 p2 p6 w8 q9) [(.long (opv q9 18))]) _
   refine XS.lstoreN X29.here hx rfl (hb hby d53_216) rfl (l' := #[vR a1, vI p2, vI ((p6 >>> (w8 &&& 31)) - p2), vJ (opv q9 18), vS]) rfl ?_
   show SG p e below T29 (mkF m 217 (la30 a1 p2 p6 w8 q9) []) _
   refine XS.lloadN X29.here hx rfl (hb hby d53_217) rfl ?_
   refine XS.aloadN X29.here hx rfl (hb hby d53_218) rfl rfl ?_
   show SG p e below T29 (mkF m 219 (la30 a1 p2 p6 w8 q9) [(.ref a1), (.long (opv q9 18))]) _
   refine XS.iloadN X29.here hx rfl (hb hby d53_219) rfl ?_
   refine XS.bipush X29.here hx rfl (hb hby d53_220) ?_
   show SG p e below T29 (mkF m 222 (la30 a1 p2 p6 w8 q9) [(.int 18), (.int p2), (.ref a1), (.long (opv q9 18))]) _
   refine XS.iloadN X29.here hx rfl (hb hby d53_222) rfl ?_
   show SG p e below T29 (mkF m 223 (la30 a1 p2 p6 w8 q9) [(.int ((p6 >>> (w8 &&& 31)) - p2)), (.int 18), (.int p2), (.ref a1), (.long (opv q9 18))]) _
   refine st30 _ ?_
   show SG p e below T30 (mkF m 226 (la30 a1 p2 p6 w8 q9) [(.long (opv q9 19))]) _
   refine XS.lstoreN X30.here hx rfl (hb hby d53_226) rfl (l' := #[vR a1, vI p2, vI ((p6 >>> (w8 &&& 31)) - p2), vJ (opv q9 19), vS]) rfl ?_
   show SG p e below T30 (mkF m 227 (la31 a1 p2 p6 w8 q9) []) _
   refine XS.lloadN X30.here hx rfl (hb hby d53_227) rfl ?_
   show SG p e below T30 (mkF m 228 (la31 a1 p2 p6 w8 q9) [(.long (opv q9 19))]) _
   jvm_step X30.here [X30.here.top, hx, (hb hby d53_228), X30.method', Bd.returns, narrow]
   first | (intro acts; rw [hr _ acts rfl rfl rfl]) | rw [hr _ _ rfl rfl rfl]
   exact Steps.refl _
 · show OQp (some (.long (opv q9 19))) h0 n0 _ T30.heap _
   rw [e30]
   exact ⟨rfl, N30, rfl⟩
theorem own_prs (l : Launch) (Z : State) (a0 : Array Value) (hw : TW a0 Z) (a : Addr) (wS wc : Int32) (b : Addr) (k : ClassId) (z : Int32) (f : Nat → Int32) (o : Value) (x : Int64) (st : Int32) (h0 : Heap) (n0 : Nat) (Z0 : n0 ≤ h0.size) (H1 : Sta Z h0 sK1 sK3 "Z" (.int wS)) (H2 : ¬ (wS = 0)) (H3 : Fld Z h0 a sK1 "coder" "B" (.int wc)) (H4 : wc = 0) (H5 : Exa Z h0 a sK1) (H6 : Fld Z h0 a sK1 "value" "[B" (.ref b)) (H7 : BA Z h0 b k .byte z f) (H8 : Sta Z h0 sK7 sK9 sK10 o) (H9 : o.isRef = true) (H11 : ¬ (x < 0)) (H12 : ¬ (st < 0)) (H13 : (st).toNatClampNeg ≤ 100) (H14 : z = Int32.ofNat ((st).toNatClampNeg + oszL x)) (H16 : ∀ j, j < oszL x → (f) ((st).toNatClampNeg + j) = SBG.odg (x).toInt.natAbs (oszL x - 1 - j)) :
   OMet l Z mN31 method_9_code 5 (some .long) [] (Rm 5 0 0 78) h0 #[(.ref a), (.int st)] (OQp (some (.long x)) h0 n0) := by
 subst H4 H14
 have hs := own_pos H11
 have hd := own_D x
 have hq := oszL_le x
 have h19 : oszL x ≤ 19 := by rw [hs.1]; exact hd.2.1
 clear hs hd
 have e1 := own_len (x := x) H12 H13
 rw [show OQp (some (.long x)) h0 n0 = OQp (some (.long (opv x 19))) h0 n0 from by rw [own_pvF H11]]
 by_cases hk : 1 < oszL x
 · exact r53_1 l Z a0 hw a st b k f (Int32.ofNat ((st).toNatClampNeg + oszL x)) wS (0 : Int32) o x h0 n0 Z0 H6 H7 H1 H2 H3 (by decide) H5 (by rw [e1]; exact own_n1 (by omega) (by omega)) (by rw [e1]; exact own_n19 (by omega)) (by rw [e1]; exact (own_lt (a := 1) (by decide) (by omega)).mpr hk) (by decide) H8 H9 H12 (own_stz H12 H13 hq) (by rw [show f (st).toNatClampNeg = SBG.odg (x).toInt.natAbs (oszL x - 1) from by have q := H16 0 (by omega); rw [Nat.add_zero, Nat.sub_zero] at q; exact q]; exact own_ld H11 (by omega)) H11 H13 rfl e1 H16 (own_pv0 H11)
 · exact r53_2 l Z a0 hw a st b k f (Int32.ofNat ((st).toNatClampNeg + oszL x)) wS (0 : Int32) x o h0 n0 Z0 H6 H7 H1 H2 H3 (by decide) H5 (by rw [e1]; exact own_n1 (by omega) (by omega)) (by rw [e1]; exact own_n19 (by omega)) (by rw [e1]; exact fun q => hk ((own_lt (a := 1) (by decide) (by omega)).mp q)) (by decide) H8 H9 H11 H12 H13 rfl e1 H16 (own_pv0 H11)
theorem d45_0 : Dc rev30 0 (.aload_n 0) 1 := by decide +kernel
theorem d45_1 : Dc rev30 1 (.ifnonnull 7) 3 := by decide +kernel
theorem d45_8 : Dc rev30 8 (.aload_n 0) 1 := by decide +kernel
theorem d45_9 : Dc rev30 9 (.aload_n 1) 1 := by decide +kernel
theorem d45_10 : Dc rev30 10 (.invokestatic 60) 3 := by decide +kernel
theorem d46_0 : Dc rev31 0 (.aload_n 0) 1 := by decide +kernel
theorem d46_1 : Dc rev31 1 (.invokevirtual 64) 3 := by decide +kernel
theorem d46_4 : Dc rev31 4 (.aload_n 1) 1 := by decide +kernel
theorem d46_5 : Dc rev31 5 (.invokevirtual 64) 3 := by decide +kernel
theorem d46_8 : Dc rev31 8 (.if_icmp .ge 5) 3 := by decide +kernel
theorem d46_13 : Dc rev31 13 (.aload_n 0) 1 := by decide +kernel
theorem d46_14 : Dc rev31 14 (.aload_n 1) 1 := by decide +kernel
theorem d46_15 : Dc rev31 15 (.iconst 0) 1 := by decide +kernel
theorem d46_16 : Dc rev31 16 (.invokestatic 75) 3 := by decide +kernel
theorem pd_20 : parseMethodDescriptor "(Ljava/lang/String;Ljava/lang/String;I)Z" = some ⟨[(.object "java/lang/String"), (.object "java/lang/String"), .int], some .boolean⟩ := by decide +kernel
theorem d46_19 : Dc rev31 19 (.ifCond .eq 162) 3 := by decide +kernel
theorem d46_22 : Dc rev31 22 (.aload_n 0) 1 := by decide +kernel
theorem d46_23 : Dc rev31 23 (.aload_n 1) 1 := by decide +kernel
theorem d46_24 : Dc rev31 24 (.iconst 1) 1 := by decide +kernel
theorem d46_25 : Dc rev31 25 (.invokestatic 75) 3 := by decide +kernel
theorem d46_28 : Dc rev31 28 (.ifCond .eq 153) 3 := by decide +kernel
theorem d46_31 : Dc rev31 31 (.aload_n 0) 1 := by decide +kernel
theorem d46_32 : Dc rev31 32 (.aload_n 1) 1 := by decide +kernel
theorem d46_33 : Dc rev31 33 (.iconst 2) 1 := by decide +kernel
theorem d46_34 : Dc rev31 34 (.invokestatic 75) 3 := by decide +kernel
theorem d46_37 : Dc rev31 37 (.ifCond .eq 144) 3 := by decide +kernel
theorem d46_40 : Dc rev31 40 (.aload_n 0) 1 := by decide +kernel
theorem d46_41 : Dc rev31 41 (.aload_n 1) 1 := by decide +kernel
theorem d46_42 : Dc rev31 42 (.iconst 3) 1 := by decide +kernel
theorem d46_43 : Dc rev31 43 (.invokestatic 75) 3 := by decide +kernel
theorem d46_46 : Dc rev31 46 (.ifCond .eq 135) 3 := by decide +kernel
theorem d46_49 : Dc rev31 49 (.aload_n 0) 1 := by decide +kernel
theorem d46_50 : Dc rev31 50 (.aload_n 1) 1 := by decide +kernel
theorem d46_51 : Dc rev31 51 (.iconst 4) 1 := by decide +kernel
theorem d46_52 : Dc rev31 52 (.invokestatic 75) 3 := by decide +kernel
theorem d46_55 : Dc rev31 55 (.ifCond .eq 126) 3 := by decide +kernel
theorem d46_58 : Dc rev31 58 (.aload_n 0) 1 := by decide +kernel
theorem d46_59 : Dc rev31 59 (.aload_n 1) 1 := by decide +kernel
theorem d46_60 : Dc rev31 60 (.iconst 5) 1 := by decide +kernel
theorem d46_61 : Dc rev31 61 (.invokestatic 75) 3 := by decide +kernel
theorem d46_64 : Dc rev31 64 (.ifCond .eq 117) 3 := by decide +kernel
theorem d46_67 : Dc rev31 67 (.aload_n 0) 1 := by decide +kernel
theorem d46_68 : Dc rev31 68 (.aload_n 1) 1 := by decide +kernel
theorem d46_69 : Dc rev31 69 (.bipush 6) 2 := by decide +kernel
theorem d46_71 : Dc rev31 71 (.invokestatic 75) 3 := by decide +kernel
theorem d46_74 : Dc rev31 74 (.ifCond .eq 107) 3 := by decide +kernel
theorem d46_77 : Dc rev31 77 (.aload_n 0) 1 := by decide +kernel
theorem d46_78 : Dc rev31 78 (.aload_n 1) 1 := by decide +kernel
theorem d46_79 : Dc rev31 79 (.bipush 7) 2 := by decide +kernel
theorem d46_81 : Dc rev31 81 (.invokestatic 75) 3 := by decide +kernel
theorem d46_84 : Dc rev31 84 (.ifCond .eq 97) 3 := by decide +kernel
theorem d46_87 : Dc rev31 87 (.aload_n 0) 1 := by decide +kernel
theorem d46_88 : Dc rev31 88 (.aload_n 1) 1 := by decide +kernel
theorem d46_89 : Dc rev31 89 (.bipush 8) 2 := by decide +kernel
theorem d46_91 : Dc rev31 91 (.invokestatic 75) 3 := by decide +kernel
theorem d46_94 : Dc rev31 94 (.ifCond .eq 87) 3 := by decide +kernel
theorem d46_97 : Dc rev31 97 (.aload_n 0) 1 := by decide +kernel
theorem d46_98 : Dc rev31 98 (.aload_n 1) 1 := by decide +kernel
theorem d46_99 : Dc rev31 99 (.bipush 9) 2 := by decide +kernel
theorem d46_101 : Dc rev31 101 (.invokestatic 75) 3 := by decide +kernel
theorem d46_104 : Dc rev31 104 (.ifCond .eq 77) 3 := by decide +kernel
theorem d46_107 : Dc rev31 107 (.aload_n 0) 1 := by decide +kernel
theorem d46_108 : Dc rev31 108 (.aload_n 1) 1 := by decide +kernel
theorem d46_109 : Dc rev31 109 (.bipush 10) 2 := by decide +kernel
theorem d46_111 : Dc rev31 111 (.invokestatic 75) 3 := by decide +kernel
theorem d46_114 : Dc rev31 114 (.ifCond .eq 67) 3 := by decide +kernel
theorem d46_117 : Dc rev31 117 (.aload_n 0) 1 := by decide +kernel
theorem d46_118 : Dc rev31 118 (.aload_n 1) 1 := by decide +kernel
theorem d46_119 : Dc rev31 119 (.bipush 11) 2 := by decide +kernel
theorem d46_121 : Dc rev31 121 (.invokestatic 75) 3 := by decide +kernel
theorem d46_124 : Dc rev31 124 (.ifCond .eq 57) 3 := by decide +kernel
theorem d46_127 : Dc rev31 127 (.aload_n 0) 1 := by decide +kernel
theorem d46_128 : Dc rev31 128 (.aload_n 1) 1 := by decide +kernel
theorem d46_129 : Dc rev31 129 (.bipush 12) 2 := by decide +kernel
theorem d46_131 : Dc rev31 131 (.invokestatic 75) 3 := by decide +kernel
theorem d46_134 : Dc rev31 134 (.ifCond .eq 47) 3 := by decide +kernel
theorem d46_137 : Dc rev31 137 (.aload_n 0) 1 := by decide +kernel
theorem d46_138 : Dc rev31 138 (.aload_n 1) 1 := by decide +kernel
theorem d46_139 : Dc rev31 139 (.bipush 13) 2 := by decide +kernel
theorem d46_141 : Dc rev31 141 (.invokestatic 75) 3 := by decide +kernel
theorem d46_144 : Dc rev31 144 (.ifCond .eq 37) 3 := by decide +kernel
theorem d46_147 : Dc rev31 147 (.aload_n 0) 1 := by decide +kernel
theorem d46_148 : Dc rev31 148 (.aload_n 1) 1 := by decide +kernel
theorem d46_149 : Dc rev31 149 (.bipush 14) 2 := by decide +kernel
theorem d46_151 : Dc rev31 151 (.invokestatic 75) 3 := by decide +kernel
theorem d46_154 : Dc rev31 154 (.ifCond .eq 27) 3 := by decide +kernel
theorem d46_157 : Dc rev31 157 (.aload_n 0) 1 := by decide +kernel
theorem d46_158 : Dc rev31 158 (.aload_n 1) 1 := by decide +kernel
theorem d46_159 : Dc rev31 159 (.bipush 15) 2 := by decide +kernel
theorem d46_161 : Dc rev31 161 (.invokestatic 75) 3 := by decide +kernel
theorem d46_164 : Dc rev31 164 (.ifCond .eq 17) 3 := by decide +kernel
theorem d46_167 : Dc rev31 167 (.aload_n 0) 1 := by decide +kernel
theorem d46_168 : Dc rev31 168 (.aload_n 1) 1 := by decide +kernel
theorem d46_169 : Dc rev31 169 (.bipush 16) 2 := by decide +kernel
theorem d46_171 : Dc rev31 171 (.invokestatic 75) 3 := by decide +kernel
theorem d46_174 : Dc rev31 174 (.ifCond .eq 7) 3 := by decide +kernel
theorem d46_177 : Dc rev31 177 (.iconst 1) 1 := by decide +kernel
theorem d46_178 : Dc rev31 178 (.goto 4) 3 := by decide +kernel
theorem d46_182 : Dc rev31 182 .ireturn 1 := by decide +kernel
theorem ef_46_vv (m : MethodId) (x0 : Addr) (x1 : Addr) : entryFrame m #[(.ref x0), (.ref x1)] 2 = mkF m 0 #[.val (.ref x0), .val (.ref x1)] [] := by first | (simp [entryFrame, mkF, argsToLocals, Value.category]; done) | rfl
theorem r46_1 (l : Launch) (Z : State) (a0 : Array Value) (hw : TW a0 Z) (a1 : Addr) (a2 : Addr) (w3 : Addr) (k4 : ClassId) (u5 : Nat → Int32) (p6 : Int32) (w7 : Int32) (w8 : Int32) (w9 : Addr) (k10 : ClassId) (u11 : Nat → Int32) (p12 : Int32) (w13 : Int32) (x14 : Value) (h0 : Heap) (n0 : Nat) (Z0 : n0 ≤ h0.size) (H0 : Fld Z h0 a1 sK1 "value" "[B" (.ref w3)) (H1 : BA Z h0 w3 k4 .byte p6 u5) (H2 : Sta Z h0 sK1 sK3 "Z" (.int w7)) (H3 : ¬ (w7 = 0)) (H4 : Fld Z h0 a1 sK1 "coder" "B" (.int w8)) (H5 : nar .byte w8 = w8) (H6 : Exa Z h0 a1 sK1) (H7 : Fld Z h0 a2 sK1 "value" "[B" (.ref w9)) (H8 : BA Z h0 w9 k10 .byte p12 u11) (H9 : Fld Z h0 a2 sK1 "coder" "B" (.int w13)) (H10 : nar .byte w13 = w13) (H11 : Exa Z h0 a2 sK1) (H12 : ¬ ((p6 >>> (w8 &&& 31)) < (p12 >>> (w13 &&& 31)))) (H13 : w8 = 0) (H14 : Sta Z h0 sK7 sK9 sK10 x14) (H15 : (x14).isRef = true) (H16 : w13 = 0) (H17 : (p12).toNatClampNeg ≤ (p6).toNatClampNeg) (H18 : ∀ i, i < (p12).toNatClampNeg → (u5) i = u11 i) :
   OMet l Z mN32 method_7_code 2 (some .boolean) [] (Rm 5 0 0 68) h0 #[(.ref a1), (.ref a2)] (OQp (some (.int 1)) h0 n0) := by
 refine MetFree.of_bodySF (plainFor_of_name pn_com_example_eta4_eta4_bench_ThroughputFiguresLinesPinLaw) hisR ?_
 intro p e s m args below meth c s₁ Bd hml0 hP hK
 obtain ⟨rfl, hZ, hh⟩ := hP
 have hx := Bd.exec
 have hby := Bd.bytes
 have hml : c.maxLocals = 2 := hml0
 have hown : s.vm.findClass sK14 = some m.cls := findClass_of_methodNamed Bd.named
 have X0 := own_X0 Bd
 have e0 : s₁.heap = h0 := by rw [← hh, Bd.state]; rfl
 have N0 := Fr.nil n0
 have pre0 : ∀ t, Steps p.tables e below (s₁.setTop (mkF m 0 #[vR a1, vR a2] [])) t → Steps p.tables e below (s₁.setTop (entryFrame m #[(.ref a1), (.ref a2)] 2)) t := fun t k => castTop (ef_46_vv m a1 a2) k
 obtain ⟨cq15, kq15, q15a, q15b, q15c⟩ := isOf hZ e0 H6
 obtain ⟨_, _, ⟨T15, _, _, _⟩, -, X15, ⟨_, hQ, lq, yq, zq⟩, st15⟩ := X0.virtualBack hx (y := mN28) (z := mN28) hown (mvT hZ (tw hw 273 rfl)) (mvT hZ (tw hw 65 rfl)) (notFace_of_selects (args := #[]) (mvT hZ (tw hw 67 rfl))) (mvT hZ (tw hw 67 rfl)) (mvT hZ (tw hw 66 rfl)) (by decide) (backOf (W := 0) (r9_1 l Z a0 hw a1 w3 k4 u5 p6 w7 w8 h0 n0 Z0 H0 H1 H2 H3 H4 H5 H6) hZ (tw hw 68 rfl) (tw hw 42 rfl) (by decide) (by decide)) q15a q15c (g := (mkF m 1 #[vR a1, vR a2] [(.ref a1)])) rfl (by rw [hml]; rfl) (Steps.refl _) (argsL := []) (rest := []) (lenOf pd_5 rfl) rfl (own_w _) (hb hby d46_1) (fun _ _ => ⟨rfl, e0, (by decide : 0 + 0 ≤ _), (by decide : 0 + 0 ≤ _)⟩)
 dsimp only [Pt.U, Pt.locs, Pt.cells, Pt.slots] at X15 lq yq zq st15 hQ
 replace X15 := own_mvX X15 (a := 0) (b := 0) yq zq
 obtain ⟨rfl, Nq, e15⟩ := hQ
 have N15 := own_mvN lq N0 Nq
 obtain ⟨cq16, kq16, q16a, q16b, q16c⟩ := isOf hZ e15 H11
 obtain ⟨_, _, ⟨T16, _, _, _⟩, -, X16, ⟨_, hQ, lq, yq, zq⟩, st16⟩ := X15.virtualBack hx (y := mN28) (z := mN28) hown (mvT hZ (tw hw 273 rfl)) (mvT hZ (tw hw 65 rfl)) (notFace_of_selects (args := #[]) (mvT hZ (tw hw 67 rfl))) (mvT hZ (tw hw 67 rfl)) (mvT hZ (tw hw 66 rfl)) (by decide) (backOf (W := 1) (r9_1 l Z a0 hw a2 w9 k10 u11 p12 w7 w13 h0 n0 Z0 H7 H8 H2 H3 H9 H10 H11) hZ (tw hw 68 rfl) (tw hw 42 rfl) (by decide) (by decide)) q16a q16c (g := (mkF m 5 #[vR a1, vR a2] [(.ref a2), (.int (p6 >>> (w8 &&& 31)))])) rfl (by rw [hml]; rfl) (Steps.refl _) (argsL := []) (rest := [(.int (p6 >>> (w8 &&& 31)))]) (lenOf pd_5 rfl) rfl (own_w _) (hb hby d46_5) (fun _ _ => ⟨rfl, e15, (by decide : 0 + 0 ≤ _), (by decide : 0 + 0 ≤ _)⟩)
 dsimp only [Pt.U, Pt.locs, Pt.cells, Pt.slots] at X16 lq yq zq st16 hQ
 replace X16 := own_mvX X16 (a := 0) (b := 0) yq zq
 obtain ⟨rfl, Nq, e16⟩ := hQ
 have N16 := own_mvN lq N15 Nq
 obtain ⟨_, _, ⟨T17, _, _, _⟩, -, X17, ⟨_, hQ, lq, yq, zq⟩, st17⟩ := Jvm.LawKit.callS X16 hx (y := mN29) hown (mvT hZ (tw hw 274 rfl)) (mvT hZ (tw hw 275 rfl)) (mvT hZ (tw hw 265 rfl)) (mvT hZ (tw hw 276 rfl)) (by decide) (backOf (W := 0) (own_sm l Z a0 hw a1 w7 w8 w3 k4 p6 u5 x14 a2 w13 w9 k10 p12 u11 (0 : Int32) h0 n0 Z0 H2 H3 H4 H13 H6 H0 H1 H14 H15 H9 H16 H11 H7 H8 (by first | decide | rfl) H17 H18) hZ (tw hw 276 rfl) (tw hw 265 rfl) (by decide) (by decide)) (g := (mkF m 16 #[vR a1, vR a2] [(.int 0), (.ref a2), (.ref a1)])) rfl (by rw [hml]; rfl) (argsL := [(.ref a1), (.ref a2), (.int 0)]) (rest := []) (lenOf pd_20 rfl) rfl (own_w _) (hb hby d46_16) (fun _ _ => ⟨rfl, e16, (by decide : 0 + 0 ≤ _), (by decide : 0 + 0 ≤ _)⟩)
 dsimp only [Pt.U, Pt.locs, Pt.cells, Pt.slots] at X17 lq yq zq st17 hQ
 replace X17 := own_mvX X17 (a := 0) (b := 0) yq zq
 obtain ⟨rfl, Nq, e17⟩ := hQ
 have N17 := own_mvN lq N16 Nq
 obtain ⟨_, _, ⟨T18, _, _, _⟩, -, X18, ⟨_, hQ, lq, yq, zq⟩, st18⟩ := Jvm.LawKit.callS X17 hx (y := mN29) hown (mvT hZ (tw hw 274 rfl)) (mvT hZ (tw hw 275 rfl)) (mvT hZ (tw hw 265 rfl)) (mvT hZ (tw hw 276 rfl)) (by decide) (backOf (W := 0) (own_sm l Z a0 hw a1 w7 w8 w3 k4 p6 u5 x14 a2 w13 w9 k10 p12 u11 (1 : Int32) h0 n0 Z0 H2 H3 H4 H13 H6 H0 H1 H14 H15 H9 H16 H11 H7 H8 (by first | decide | rfl) H17 H18) hZ (tw hw 276 rfl) (tw hw 265 rfl) (by decide) (by decide)) (g := (mkF m 25 #[vR a1, vR a2] [(.int 1), (.ref a2), (.ref a1)])) rfl (by rw [hml]; rfl) (argsL := [(.ref a1), (.ref a2), (.int 1)]) (rest := []) (lenOf pd_20 rfl) rfl (own_w _) (hb hby d46_25) (fun _ _ => ⟨rfl, e17, (by decide : 0 + 0 ≤ _), (by decide : 0 + 0 ≤ _)⟩)
 dsimp only [Pt.U, Pt.locs, Pt.cells, Pt.slots] at X18 lq yq zq st18 hQ
 replace X18 := own_mvX X18 (a := 0) (b := 0) yq zq
 obtain ⟨rfl, Nq, e18⟩ := hQ
 have N18 := own_mvN lq N17 Nq
 obtain ⟨_, _, ⟨T19, _, _, _⟩, -, X19, ⟨_, hQ, lq, yq, zq⟩, st19⟩ := Jvm.LawKit.callS X18 hx (y := mN29) hown (mvT hZ (tw hw 274 rfl)) (mvT hZ (tw hw 275 rfl)) (mvT hZ (tw hw 265 rfl)) (mvT hZ (tw hw 276 rfl)) (by decide) (backOf (W := 0) (own_sm l Z a0 hw a1 w7 w8 w3 k4 p6 u5 x14 a2 w13 w9 k10 p12 u11 (2 : Int32) h0 n0 Z0 H2 H3 H4 H13 H6 H0 H1 H14 H15 H9 H16 H11 H7 H8 (by first | decide | rfl) H17 H18) hZ (tw hw 276 rfl) (tw hw 265 rfl) (by decide) (by decide)) (g := (mkF m 34 #[vR a1, vR a2] [(.int 2), (.ref a2), (.ref a1)])) rfl (by rw [hml]; rfl) (argsL := [(.ref a1), (.ref a2), (.int 2)]) (rest := []) (lenOf pd_20 rfl) rfl (own_w _) (hb hby d46_34) (fun _ _ => ⟨rfl, e18, (by decide : 0 + 0 ≤ _), (by decide : 0 + 0 ≤ _)⟩)
 dsimp only [Pt.U, Pt.locs, Pt.cells, Pt.slots] at X19 lq yq zq st19 hQ
 replace X19 := own_mvX X19 (a := 0) (b := 0) yq zq
 obtain ⟨rfl, Nq, e19⟩ := hQ
 have N19 := own_mvN lq N18 Nq
 obtain ⟨_, _, ⟨T20, _, _, _⟩, -, X20, ⟨_, hQ, lq, yq, zq⟩, st20⟩ := Jvm.LawKit.callS X19 hx (y := mN29) hown (mvT hZ (tw hw 274 rfl)) (mvT hZ (tw hw 275 rfl)) (mvT hZ (tw hw 265 rfl)) (mvT hZ (tw hw 276 rfl)) (by decide) (backOf (W := 0) (own_sm l Z a0 hw a1 w7 w8 w3 k4 p6 u5 x14 a2 w13 w9 k10 p12 u11 (3 : Int32) h0 n0 Z0 H2 H3 H4 H13 H6 H0 H1 H14 H15 H9 H16 H11 H7 H8 (by first | decide | rfl) H17 H18) hZ (tw hw 276 rfl) (tw hw 265 rfl) (by decide) (by decide)) (g := (mkF m 43 #[vR a1, vR a2] [(.int 3), (.ref a2), (.ref a1)])) rfl (by rw [hml]; rfl) (argsL := [(.ref a1), (.ref a2), (.int 3)]) (rest := []) (lenOf pd_20 rfl) rfl (own_w _) (hb hby d46_43) (fun _ _ => ⟨rfl, e19, (by decide : 0 + 0 ≤ _), (by decide : 0 + 0 ≤ _)⟩)
 dsimp only [Pt.U, Pt.locs, Pt.cells, Pt.slots] at X20 lq yq zq st20 hQ
 replace X20 := own_mvX X20 (a := 0) (b := 0) yq zq
 obtain ⟨rfl, Nq, e20⟩ := hQ
 have N20 := own_mvN lq N19 Nq
 obtain ⟨_, _, ⟨T21, _, _, _⟩, -, X21, ⟨_, hQ, lq, yq, zq⟩, st21⟩ := Jvm.LawKit.callS X20 hx (y := mN29) hown (mvT hZ (tw hw 274 rfl)) (mvT hZ (tw hw 275 rfl)) (mvT hZ (tw hw 265 rfl)) (mvT hZ (tw hw 276 rfl)) (by decide) (backOf (W := 0) (own_sm l Z a0 hw a1 w7 w8 w3 k4 p6 u5 x14 a2 w13 w9 k10 p12 u11 (4 : Int32) h0 n0 Z0 H2 H3 H4 H13 H6 H0 H1 H14 H15 H9 H16 H11 H7 H8 (by first | decide | rfl) H17 H18) hZ (tw hw 276 rfl) (tw hw 265 rfl) (by decide) (by decide)) (g := (mkF m 52 #[vR a1, vR a2] [(.int 4), (.ref a2), (.ref a1)])) rfl (by rw [hml]; rfl) (argsL := [(.ref a1), (.ref a2), (.int 4)]) (rest := []) (lenOf pd_20 rfl) rfl (own_w _) (hb hby d46_52) (fun _ _ => ⟨rfl, e20, (by decide : 0 + 0 ≤ _), (by decide : 0 + 0 ≤ _)⟩)
 dsimp only [Pt.U, Pt.locs, Pt.cells, Pt.slots] at X21 lq yq zq st21 hQ
 replace X21 := own_mvX X21 (a := 0) (b := 0) yq zq
 obtain ⟨rfl, Nq, e21⟩ := hQ
 have N21 := own_mvN lq N20 Nq
 obtain ⟨_, _, ⟨T22, _, _, _⟩, -, X22, ⟨_, hQ, lq, yq, zq⟩, st22⟩ := Jvm.LawKit.callS X21 hx (y := mN29) hown (mvT hZ (tw hw 274 rfl)) (mvT hZ (tw hw 275 rfl)) (mvT hZ (tw hw 265 rfl)) (mvT hZ (tw hw 276 rfl)) (by decide) (backOf (W := 0) (own_sm l Z a0 hw a1 w7 w8 w3 k4 p6 u5 x14 a2 w13 w9 k10 p12 u11 (5 : Int32) h0 n0 Z0 H2 H3 H4 H13 H6 H0 H1 H14 H15 H9 H16 H11 H7 H8 (by first | decide | rfl) H17 H18) hZ (tw hw 276 rfl) (tw hw 265 rfl) (by decide) (by decide)) (g := (mkF m 61 #[vR a1, vR a2] [(.int 5), (.ref a2), (.ref a1)])) rfl (by rw [hml]; rfl) (argsL := [(.ref a1), (.ref a2), (.int 5)]) (rest := []) (lenOf pd_20 rfl) rfl (own_w _) (hb hby d46_61) (fun _ _ => ⟨rfl, e21, (by decide : 0 + 0 ≤ _), (by decide : 0 + 0 ≤ _)⟩)
 dsimp only [Pt.U, Pt.locs, Pt.cells, Pt.slots] at X22 lq yq zq st22 hQ
 replace X22 := own_mvX X22 (a := 0) (b := 0) yq zq
 obtain ⟨rfl, Nq, e22⟩ := hQ
 have N22 := own_mvN lq N21 Nq
 obtain ⟨_, _, ⟨T23, _, _, _⟩, -, X23, ⟨_, hQ, lq, yq, zq⟩, st23⟩ := Jvm.LawKit.callS X22 hx (y := mN29) hown (mvT hZ (tw hw 274 rfl)) (mvT hZ (tw hw 275 rfl)) (mvT hZ (tw hw 265 rfl)) (mvT hZ (tw hw 276 rfl)) (by decide) (backOf (W := 0) (own_sm l Z a0 hw a1 w7 w8 w3 k4 p6 u5 x14 a2 w13 w9 k10 p12 u11 (6 : Int32) h0 n0 Z0 H2 H3 H4 H13 H6 H0 H1 H14 H15 H9 H16 H11 H7 H8 (by first | decide | rfl) H17 H18) hZ (tw hw 276 rfl) (tw hw 265 rfl) (by decide) (by decide)) (g := (mkF m 71 #[vR a1, vR a2] [(.int 6), (.ref a2), (.ref a1)])) rfl (by rw [hml]; rfl) (argsL := [(.ref a1), (.ref a2), (.int 6)]) (rest := []) (lenOf pd_20 rfl) rfl (own_w _) (hb hby d46_71) (fun _ _ => ⟨rfl, e22, (by decide : 0 + 0 ≤ _), (by decide : 0 + 0 ≤ _)⟩)
 dsimp only [Pt.U, Pt.locs, Pt.cells, Pt.slots] at X23 lq yq zq st23 hQ
 replace X23 := own_mvX X23 (a := 0) (b := 0) yq zq
 obtain ⟨rfl, Nq, e23⟩ := hQ
 have N23 := own_mvN lq N22 Nq
 obtain ⟨_, _, ⟨T24, _, _, _⟩, -, X24, ⟨_, hQ, lq, yq, zq⟩, st24⟩ := Jvm.LawKit.callS X23 hx (y := mN29) hown (mvT hZ (tw hw 274 rfl)) (mvT hZ (tw hw 275 rfl)) (mvT hZ (tw hw 265 rfl)) (mvT hZ (tw hw 276 rfl)) (by decide) (backOf (W := 0) (own_sm l Z a0 hw a1 w7 w8 w3 k4 p6 u5 x14 a2 w13 w9 k10 p12 u11 (7 : Int32) h0 n0 Z0 H2 H3 H4 H13 H6 H0 H1 H14 H15 H9 H16 H11 H7 H8 (by first | decide | rfl) H17 H18) hZ (tw hw 276 rfl) (tw hw 265 rfl) (by decide) (by decide)) (g := (mkF m 81 #[vR a1, vR a2] [(.int 7), (.ref a2), (.ref a1)])) rfl (by rw [hml]; rfl) (argsL := [(.ref a1), (.ref a2), (.int 7)]) (rest := []) (lenOf pd_20 rfl) rfl (own_w _) (hb hby d46_81) (fun _ _ => ⟨rfl, e23, (by decide : 0 + 0 ≤ _), (by decide : 0 + 0 ≤ _)⟩)
 dsimp only [Pt.U, Pt.locs, Pt.cells, Pt.slots] at X24 lq yq zq st24 hQ
 replace X24 := own_mvX X24 (a := 0) (b := 0) yq zq
 obtain ⟨rfl, Nq, e24⟩ := hQ
 have N24 := own_mvN lq N23 Nq
 obtain ⟨_, _, ⟨T25, _, _, _⟩, -, X25, ⟨_, hQ, lq, yq, zq⟩, st25⟩ := Jvm.LawKit.callS X24 hx (y := mN29) hown (mvT hZ (tw hw 274 rfl)) (mvT hZ (tw hw 275 rfl)) (mvT hZ (tw hw 265 rfl)) (mvT hZ (tw hw 276 rfl)) (by decide) (backOf (W := 0) (own_sm l Z a0 hw a1 w7 w8 w3 k4 p6 u5 x14 a2 w13 w9 k10 p12 u11 (8 : Int32) h0 n0 Z0 H2 H3 H4 H13 H6 H0 H1 H14 H15 H9 H16 H11 H7 H8 (by first | decide | rfl) H17 H18) hZ (tw hw 276 rfl) (tw hw 265 rfl) (by decide) (by decide)) (g := (mkF m 91 #[vR a1, vR a2] [(.int 8), (.ref a2), (.ref a1)])) rfl (by rw [hml]; rfl) (argsL := [(.ref a1), (.ref a2), (.int 8)]) (rest := []) (lenOf pd_20 rfl) rfl (own_w _) (hb hby d46_91) (fun _ _ => ⟨rfl, e24, (by decide : 0 + 0 ≤ _), (by decide : 0 + 0 ≤ _)⟩)
 dsimp only [Pt.U, Pt.locs, Pt.cells, Pt.slots] at X25 lq yq zq st25 hQ
 replace X25 := own_mvX X25 (a := 0) (b := 0) yq zq
 obtain ⟨rfl, Nq, e25⟩ := hQ
 have N25 := own_mvN lq N24 Nq
 obtain ⟨_, _, ⟨T26, _, _, _⟩, -, X26, ⟨_, hQ, lq, yq, zq⟩, st26⟩ := Jvm.LawKit.callS X25 hx (y := mN29) hown (mvT hZ (tw hw 274 rfl)) (mvT hZ (tw hw 275 rfl)) (mvT hZ (tw hw 265 rfl)) (mvT hZ (tw hw 276 rfl)) (by decide) (backOf (W := 0) (own_sm l Z a0 hw a1 w7 w8 w3 k4 p6 u5 x14 a2 w13 w9 k10 p12 u11 (9 : Int32) h0 n0 Z0 H2 H3 H4 H13 H6 H0 H1 H14 H15 H9 H16 H11 H7 H8 (by first | decide | rfl) H17 H18) hZ (tw hw 276 rfl) (tw hw 265 rfl) (by decide) (by decide)) (g := (mkF m 101 #[vR a1, vR a2] [(.int 9), (.ref a2), (.ref a1)])) rfl (by rw [hml]; rfl) (argsL := [(.ref a1), (.ref a2), (.int 9)]) (rest := []) (lenOf pd_20 rfl) rfl (own_w _) (hb hby d46_101) (fun _ _ => ⟨rfl, e25, (by decide : 0 + 0 ≤ _), (by decide : 0 + 0 ≤ _)⟩)
 dsimp only [Pt.U, Pt.locs, Pt.cells, Pt.slots] at X26 lq yq zq st26 hQ
 replace X26 := own_mvX X26 (a := 0) (b := 0) yq zq
 obtain ⟨rfl, Nq, e26⟩ := hQ
 have N26 := own_mvN lq N25 Nq
 obtain ⟨_, _, ⟨T27, _, _, _⟩, -, X27, ⟨_, hQ, lq, yq, zq⟩, st27⟩ := Jvm.LawKit.callS X26 hx (y := mN29) hown (mvT hZ (tw hw 274 rfl)) (mvT hZ (tw hw 275 rfl)) (mvT hZ (tw hw 265 rfl)) (mvT hZ (tw hw 276 rfl)) (by decide) (backOf (W := 0) (own_sm l Z a0 hw a1 w7 w8 w3 k4 p6 u5 x14 a2 w13 w9 k10 p12 u11 (10 : Int32) h0 n0 Z0 H2 H3 H4 H13 H6 H0 H1 H14 H15 H9 H16 H11 H7 H8 (by first | decide | rfl) H17 H18) hZ (tw hw 276 rfl) (tw hw 265 rfl) (by decide) (by decide)) (g := (mkF m 111 #[vR a1, vR a2] [(.int 10), (.ref a2), (.ref a1)])) rfl (by rw [hml]; rfl) (argsL := [(.ref a1), (.ref a2), (.int 10)]) (rest := []) (lenOf pd_20 rfl) rfl (own_w _) (hb hby d46_111) (fun _ _ => ⟨rfl, e26, (by decide : 0 + 0 ≤ _), (by decide : 0 + 0 ≤ _)⟩)
 dsimp only [Pt.U, Pt.locs, Pt.cells, Pt.slots] at X27 lq yq zq st27 hQ
 replace X27 := own_mvX X27 (a := 0) (b := 0) yq zq
 obtain ⟨rfl, Nq, e27⟩ := hQ
 have N27 := own_mvN lq N26 Nq
 obtain ⟨_, _, ⟨T28, _, _, _⟩, -, X28, ⟨_, hQ, lq, yq, zq⟩, st28⟩ := Jvm.LawKit.callS X27 hx (y := mN29) hown (mvT hZ (tw hw 274 rfl)) (mvT hZ (tw hw 275 rfl)) (mvT hZ (tw hw 265 rfl)) (mvT hZ (tw hw 276 rfl)) (by decide) (backOf (W := 0) (own_sm l Z a0 hw a1 w7 w8 w3 k4 p6 u5 x14 a2 w13 w9 k10 p12 u11 (11 : Int32) h0 n0 Z0 H2 H3 H4 H13 H6 H0 H1 H14 H15 H9 H16 H11 H7 H8 (by first | decide | rfl) H17 H18) hZ (tw hw 276 rfl) (tw hw 265 rfl) (by decide) (by decide)) (g := (mkF m 121 #[vR a1, vR a2] [(.int 11), (.ref a2), (.ref a1)])) rfl (by rw [hml]; rfl) (argsL := [(.ref a1), (.ref a2), (.int 11)]) (rest := []) (lenOf pd_20 rfl) rfl (own_w _) (hb hby d46_121) (fun _ _ => ⟨rfl, e27, (by decide : 0 + 0 ≤ _), (by decide : 0 + 0 ≤ _)⟩)
 dsimp only [Pt.U, Pt.locs, Pt.cells, Pt.slots] at X28 lq yq zq st28 hQ
 replace X28 := own_mvX X28 (a := 0) (b := 0) yq zq
 obtain ⟨rfl, Nq, e28⟩ := hQ
 have N28 := own_mvN lq N27 Nq
 obtain ⟨_, _, ⟨T29, _, _, _⟩, -, X29, ⟨_, hQ, lq, yq, zq⟩, st29⟩ := Jvm.LawKit.callS X28 hx (y := mN29) hown (mvT hZ (tw hw 274 rfl)) (mvT hZ (tw hw 275 rfl)) (mvT hZ (tw hw 265 rfl)) (mvT hZ (tw hw 276 rfl)) (by decide) (backOf (W := 0) (own_sm l Z a0 hw a1 w7 w8 w3 k4 p6 u5 x14 a2 w13 w9 k10 p12 u11 (12 : Int32) h0 n0 Z0 H2 H3 H4 H13 H6 H0 H1 H14 H15 H9 H16 H11 H7 H8 (by first | decide | rfl) H17 H18) hZ (tw hw 276 rfl) (tw hw 265 rfl) (by decide) (by decide)) (g := (mkF m 131 #[vR a1, vR a2] [(.int 12), (.ref a2), (.ref a1)])) rfl (by rw [hml]; rfl) (argsL := [(.ref a1), (.ref a2), (.int 12)]) (rest := []) (lenOf pd_20 rfl) rfl (own_w _) (hb hby d46_131) (fun _ _ => ⟨rfl, e28, (by decide : 0 + 0 ≤ _), (by decide : 0 + 0 ≤ _)⟩)
 dsimp only [Pt.U, Pt.locs, Pt.cells, Pt.slots] at X29 lq yq zq st29 hQ
 replace X29 := own_mvX X29 (a := 0) (b := 0) yq zq
 obtain ⟨rfl, Nq, e29⟩ := hQ
 have N29 := own_mvN lq N28 Nq
 obtain ⟨_, _, ⟨T30, _, _, _⟩, -, X30, ⟨_, hQ, lq, yq, zq⟩, st30⟩ := Jvm.LawKit.callS X29 hx (y := mN29) hown (mvT hZ (tw hw 274 rfl)) (mvT hZ (tw hw 275 rfl)) (mvT hZ (tw hw 265 rfl)) (mvT hZ (tw hw 276 rfl)) (by decide) (backOf (W := 0) (own_sm l Z a0 hw a1 w7 w8 w3 k4 p6 u5 x14 a2 w13 w9 k10 p12 u11 (13 : Int32) h0 n0 Z0 H2 H3 H4 H13 H6 H0 H1 H14 H15 H9 H16 H11 H7 H8 (by first | decide | rfl) H17 H18) hZ (tw hw 276 rfl) (tw hw 265 rfl) (by decide) (by decide)) (g := (mkF m 141 #[vR a1, vR a2] [(.int 13), (.ref a2), (.ref a1)])) rfl (by rw [hml]; rfl) (argsL := [(.ref a1), (.ref a2), (.int 13)]) (rest := []) (lenOf pd_20 rfl) rfl (own_w _) (hb hby d46_141) (fun _ _ => ⟨rfl, e29, (by decide : 0 + 0 ≤ _), (by decide : 0 + 0 ≤ _)⟩)
 dsimp only [Pt.U, Pt.locs, Pt.cells, Pt.slots] at X30 lq yq zq st30 hQ
 replace X30 := own_mvX X30 (a := 0) (b := 0) yq zq
 obtain ⟨rfl, Nq, e30⟩ := hQ
 have N30 := own_mvN lq N29 Nq
 obtain ⟨_, _, ⟨T31, _, _, _⟩, -, X31, ⟨_, hQ, lq, yq, zq⟩, st31⟩ := Jvm.LawKit.callS X30 hx (y := mN29) hown (mvT hZ (tw hw 274 rfl)) (mvT hZ (tw hw 275 rfl)) (mvT hZ (tw hw 265 rfl)) (mvT hZ (tw hw 276 rfl)) (by decide) (backOf (W := 0) (own_sm l Z a0 hw a1 w7 w8 w3 k4 p6 u5 x14 a2 w13 w9 k10 p12 u11 (14 : Int32) h0 n0 Z0 H2 H3 H4 H13 H6 H0 H1 H14 H15 H9 H16 H11 H7 H8 (by first | decide | rfl) H17 H18) hZ (tw hw 276 rfl) (tw hw 265 rfl) (by decide) (by decide)) (g := (mkF m 151 #[vR a1, vR a2] [(.int 14), (.ref a2), (.ref a1)])) rfl (by rw [hml]; rfl) (argsL := [(.ref a1), (.ref a2), (.int 14)]) (rest := []) (lenOf pd_20 rfl) rfl (own_w _) (hb hby d46_151) (fun _ _ => ⟨rfl, e30, (by decide : 0 + 0 ≤ _), (by decide : 0 + 0 ≤ _)⟩)
 dsimp only [Pt.U, Pt.locs, Pt.cells, Pt.slots] at X31 lq yq zq st31 hQ
 replace X31 := own_mvX X31 (a := 0) (b := 0) yq zq
 obtain ⟨rfl, Nq, e31⟩ := hQ
 have N31 := own_mvN lq N30 Nq
 obtain ⟨_, _, ⟨T32, _, _, _⟩, -, X32, ⟨_, hQ, lq, yq, zq⟩, st32⟩ := Jvm.LawKit.callS X31 hx (y := mN29) hown (mvT hZ (tw hw 274 rfl)) (mvT hZ (tw hw 275 rfl)) (mvT hZ (tw hw 265 rfl)) (mvT hZ (tw hw 276 rfl)) (by decide) (backOf (W := 0) (own_sm l Z a0 hw a1 w7 w8 w3 k4 p6 u5 x14 a2 w13 w9 k10 p12 u11 (15 : Int32) h0 n0 Z0 H2 H3 H4 H13 H6 H0 H1 H14 H15 H9 H16 H11 H7 H8 (by first | decide | rfl) H17 H18) hZ (tw hw 276 rfl) (tw hw 265 rfl) (by decide) (by decide)) (g := (mkF m 161 #[vR a1, vR a2] [(.int 15), (.ref a2), (.ref a1)])) rfl (by rw [hml]; rfl) (argsL := [(.ref a1), (.ref a2), (.int 15)]) (rest := []) (lenOf pd_20 rfl) rfl (own_w _) (hb hby d46_161) (fun _ _ => ⟨rfl, e31, (by decide : 0 + 0 ≤ _), (by decide : 0 + 0 ≤ _)⟩)
 dsimp only [Pt.U, Pt.locs, Pt.cells, Pt.slots] at X32 lq yq zq st32 hQ
 replace X32 := own_mvX X32 (a := 0) (b := 0) yq zq
 obtain ⟨rfl, Nq, e32⟩ := hQ
 have N32 := own_mvN lq N31 Nq
 obtain ⟨_, _, ⟨T33, _, _, _⟩, -, X33, ⟨_, hQ, lq, yq, zq⟩, st33⟩ := Jvm.LawKit.callS X32 hx (y := mN29) hown (mvT hZ (tw hw 274 rfl)) (mvT hZ (tw hw 275 rfl)) (mvT hZ (tw hw 265 rfl)) (mvT hZ (tw hw 276 rfl)) (by decide) (backOf (W := 0) (own_sm l Z a0 hw a1 w7 w8 w3 k4 p6 u5 x14 a2 w13 w9 k10 p12 u11 (16 : Int32) h0 n0 Z0 H2 H3 H4 H13 H6 H0 H1 H14 H15 H9 H16 H11 H7 H8 (by first | decide | rfl) H17 H18) hZ (tw hw 276 rfl) (tw hw 265 rfl) (by decide) (by decide)) (g := (mkF m 171 #[vR a1, vR a2] [(.int 16), (.ref a2), (.ref a1)])) rfl (by rw [hml]; rfl) (argsL := [(.ref a1), (.ref a2), (.int 16)]) (rest := []) (lenOf pd_20 rfl) rfl (own_w _) (hb hby d46_171) (fun _ _ => ⟨rfl, e32, (by decide : 0 + 0 ≤ _), (by decide : 0 + 0 ≤ _)⟩)
 dsimp only [Pt.U, Pt.locs, Pt.cells, Pt.slots] at X33 lq yq zq st33 hQ
 replace X33 := own_mvX X33 (a := 0) (b := 0) yq zq
 obtain ⟨rfl, Nq, e33⟩ := hQ
 have N33 := own_mvN lq N32 Nq
 obtain ⟨fs, hr, hrun, hended, hW, hsame⟩ := X33.leave (v := some (.int 1)) (fun h => by rw [Bd.returns] at h; cases h)
 refine ⟨_, _, pre0 _ ?_, hrun, hended, _, _, rfl, ?_, ⟨_, rfl⟩, hW, hsame.mono (by decide) (by decide)⟩
 · show SG p e below s₁ (mkF m 0 #[vR a1, vR a2] []) _
   refine XS.aloadN X0.here hx rfl (hb hby d46_0) rfl rfl ?_
   show SG p e below s₁ (mkF m 1 #[vR a1, vR a2] [(.ref a1)]) _
   refine st15.trans ?_
   show SG p e below T15 (mkF m 4 #[vR a1, vR a2] [(.int (p6 >>> (w8 &&& 31)))]) _
   refine XS.aloadN X15.here hx rfl (hb hby d46_4) rfl rfl ?_
   show SG p e below T15 (mkF m 5 #[vR a1, vR a2] [(.ref a2), (.int (p6 >>> (w8 &&& 31)))]) _
   refine st16.trans ?_
   show SG p e below T16 (mkF m 8 #[vR a1, vR a2] [(.int (p12 >>> (w13 &&& 31))), (.int (p6 >>> (w8 &&& 31)))]) _
   refine XS.icmpYes X16.here hx rfl (pc0 := 8) (pc' := 13) rfl (hb hby d46_8) rfl (flt H12).2.1 (by decide) (by decide) ?_
   show SG p e below T16 (mkF m 13 #[vR a1, vR a2] []) _
   refine XS.aloadN X16.here hx rfl (hb hby d46_13) rfl rfl ?_
   refine XS.aloadN X16.here hx rfl (hb hby d46_14) rfl rfl ?_
   show SG p e below T16 (mkF m 15 #[vR a1, vR a2] [(.ref a2), (.ref a1)]) _
   refine XS.iconst X16.here hx rfl (hb hby d46_15) ?_
   show SG p e below T16 (mkF m 16 #[vR a1, vR a2] [(.int 0), (.ref a2), (.ref a1)]) _
   refine st17 _ ?_
   show SG p e below T17 (mkF m 19 #[vR a1, vR a2] [(.int 1)]) _
   refine XS.ifNo X17.here hx rfl (hb hby d46_19) rfl ((if0 _ _).trans (feq (by decide : ¬ ((1 : Int32) = 0))).1) ?_
   show SG p e below T17 (mkF m 22 #[vR a1, vR a2] []) _
   refine XS.aloadN X17.here hx rfl (hb hby d46_22) rfl rfl ?_
   refine XS.aloadN X17.here hx rfl (hb hby d46_23) rfl rfl ?_
   show SG p e below T17 (mkF m 24 #[vR a1, vR a2] [(.ref a2), (.ref a1)]) _
   refine XS.iconst X17.here hx rfl (hb hby d46_24) ?_
   show SG p e below T17 (mkF m 25 #[vR a1, vR a2] [(.int 1), (.ref a2), (.ref a1)]) _
   refine st18 _ ?_
   show SG p e below T18 (mkF m 28 #[vR a1, vR a2] [(.int 1)]) _
   refine XS.ifNo X18.here hx rfl (hb hby d46_28) rfl ((if0 _ _).trans (feq (by decide : ¬ ((1 : Int32) = 0))).1) ?_
   show SG p e below T18 (mkF m 31 #[vR a1, vR a2] []) _
   refine XS.aloadN X18.here hx rfl (hb hby d46_31) rfl rfl ?_
   refine XS.aloadN X18.here hx rfl (hb hby d46_32) rfl rfl ?_
   show SG p e below T18 (mkF m 33 #[vR a1, vR a2] [(.ref a2), (.ref a1)]) _
   refine XS.iconst X18.here hx rfl (hb hby d46_33) ?_
   show SG p e below T18 (mkF m 34 #[vR a1, vR a2] [(.int 2), (.ref a2), (.ref a1)]) _
   refine st19 _ ?_
   show SG p e below T19 (mkF m 37 #[vR a1, vR a2] [(.int 1)]) _
   refine XS.ifNo X19.here hx rfl (hb hby d46_37) rfl ((if0 _ _).trans (feq (by decide : ¬ ((1 : Int32) = 0))).1) ?_
   show SG p e below T19 (mkF m 40 #[vR a1, vR a2] []) _
   refine XS.aloadN X19.here hx rfl (hb hby d46_40) rfl rfl ?_
   refine XS.aloadN X19.here hx rfl (hb hby d46_41) rfl rfl ?_
   show SG p e below T19 (mkF m 42 #[vR a1, vR a2] [(.ref a2), (.ref a1)]) _
   refine XS.iconst X19.here hx rfl (hb hby d46_42) ?_
   show SG p e below T19 (mkF m 43 #[vR a1, vR a2] [(.int 3), (.ref a2), (.ref a1)]) _
   refine st20 _ ?_
   show SG p e below T20 (mkF m 46 #[vR a1, vR a2] [(.int 1)]) _
   refine XS.ifNo X20.here hx rfl (hb hby d46_46) rfl ((if0 _ _).trans (feq (by decide : ¬ ((1 : Int32) = 0))).1) ?_
   show SG p e below T20 (mkF m 49 #[vR a1, vR a2] []) _
   refine XS.aloadN X20.here hx rfl (hb hby d46_49) rfl rfl ?_
   refine XS.aloadN X20.here hx rfl (hb hby d46_50) rfl rfl ?_
   show SG p e below T20 (mkF m 51 #[vR a1, vR a2] [(.ref a2), (.ref a1)]) _
   refine XS.iconst X20.here hx rfl (hb hby d46_51) ?_
   show SG p e below T20 (mkF m 52 #[vR a1, vR a2] [(.int 4), (.ref a2), (.ref a1)]) _
   refine st21 _ ?_
   show SG p e below T21 (mkF m 55 #[vR a1, vR a2] [(.int 1)]) _
   refine XS.ifNo X21.here hx rfl (hb hby d46_55) rfl ((if0 _ _).trans (feq (by decide : ¬ ((1 : Int32) = 0))).1) ?_
   show SG p e below T21 (mkF m 58 #[vR a1, vR a2] []) _
   refine XS.aloadN X21.here hx rfl (hb hby d46_58) rfl rfl ?_
   refine XS.aloadN X21.here hx rfl (hb hby d46_59) rfl rfl ?_
   show SG p e below T21 (mkF m 60 #[vR a1, vR a2] [(.ref a2), (.ref a1)]) _
   refine XS.iconst X21.here hx rfl (hb hby d46_60) ?_
   show SG p e below T21 (mkF m 61 #[vR a1, vR a2] [(.int 5), (.ref a2), (.ref a1)]) _
   refine st22 _ ?_
   show SG p e below T22 (mkF m 64 #[vR a1, vR a2] [(.int 1)]) _
   refine XS.ifNo X22.here hx rfl (hb hby d46_64) rfl ((if0 _ _).trans (feq (by decide : ¬ ((1 : Int32) = 0))).1) ?_
   show SG p e below T22 (mkF m 67 #[vR a1, vR a2] []) _
   refine XS.aloadN X22.here hx rfl (hb hby d46_67) rfl rfl ?_
   refine XS.aloadN X22.here hx rfl (hb hby d46_68) rfl rfl ?_
   show SG p e below T22 (mkF m 69 #[vR a1, vR a2] [(.ref a2), (.ref a1)]) _
   refine XS.bipush X22.here hx rfl (hb hby d46_69) ?_
   show SG p e below T22 (mkF m 71 #[vR a1, vR a2] [(.int 6), (.ref a2), (.ref a1)]) _
   refine st23 _ ?_
   show SG p e below T23 (mkF m 74 #[vR a1, vR a2] [(.int 1)]) _
   refine XS.ifNo X23.here hx rfl (hb hby d46_74) rfl ((if0 _ _).trans (feq (by decide : ¬ ((1 : Int32) = 0))).1) ?_
   show SG p e below T23 (mkF m 77 #[vR a1, vR a2] []) _
   refine XS.aloadN X23.here hx rfl (hb hby d46_77) rfl rfl ?_
   refine XS.aloadN X23.here hx rfl (hb hby d46_78) rfl rfl ?_
   show SG p e below T23 (mkF m 79 #[vR a1, vR a2] [(.ref a2), (.ref a1)]) _
   refine XS.bipush X23.here hx rfl (hb hby d46_79) ?_
   show SG p e below T23 (mkF m 81 #[vR a1, vR a2] [(.int 7), (.ref a2), (.ref a1)]) _
   refine st24 _ ?_
   show SG p e below T24 (mkF m 84 #[vR a1, vR a2] [(.int 1)]) _
   refine XS.ifNo X24.here hx rfl (hb hby d46_84) rfl ((if0 _ _).trans (feq (by decide : ¬ ((1 : Int32) = 0))).1) ?_
   show SG p e below T24 (mkF m 87 #[vR a1, vR a2] []) _
   refine XS.aloadN X24.here hx rfl (hb hby d46_87) rfl rfl ?_
   refine XS.aloadN X24.here hx rfl (hb hby d46_88) rfl rfl ?_
   show SG p e below T24 (mkF m 89 #[vR a1, vR a2] [(.ref a2), (.ref a1)]) _
   refine XS.bipush X24.here hx rfl (hb hby d46_89) ?_
   show SG p e below T24 (mkF m 91 #[vR a1, vR a2] [(.int 8), (.ref a2), (.ref a1)]) _
   refine st25 _ ?_
   show SG p e below T25 (mkF m 94 #[vR a1, vR a2] [(.int 1)]) _
   refine XS.ifNo X25.here hx rfl (hb hby d46_94) rfl ((if0 _ _).trans (feq (by decide : ¬ ((1 : Int32) = 0))).1) ?_
   show SG p e below T25 (mkF m 97 #[vR a1, vR a2] []) _
   refine XS.aloadN X25.here hx rfl (hb hby d46_97) rfl rfl ?_
   refine XS.aloadN X25.here hx rfl (hb hby d46_98) rfl rfl ?_
   show SG p e below T25 (mkF m 99 #[vR a1, vR a2] [(.ref a2), (.ref a1)]) _
   refine XS.bipush X25.here hx rfl (hb hby d46_99) ?_
   show SG p e below T25 (mkF m 101 #[vR a1, vR a2] [(.int 9), (.ref a2), (.ref a1)]) _
   refine st26 _ ?_
   show SG p e below T26 (mkF m 104 #[vR a1, vR a2] [(.int 1)]) _
   refine XS.ifNo X26.here hx rfl (hb hby d46_104) rfl ((if0 _ _).trans (feq (by decide : ¬ ((1 : Int32) = 0))).1) ?_
   show SG p e below T26 (mkF m 107 #[vR a1, vR a2] []) _
   refine XS.aloadN X26.here hx rfl (hb hby d46_107) rfl rfl ?_
   refine XS.aloadN X26.here hx rfl (hb hby d46_108) rfl rfl ?_
   show SG p e below T26 (mkF m 109 #[vR a1, vR a2] [(.ref a2), (.ref a1)]) _
   refine XS.bipush X26.here hx rfl (hb hby d46_109) ?_
   show SG p e below T26 (mkF m 111 #[vR a1, vR a2] [(.int 10), (.ref a2), (.ref a1)]) _
   refine st27 _ ?_
   show SG p e below T27 (mkF m 114 #[vR a1, vR a2] [(.int 1)]) _
   refine XS.ifNo X27.here hx rfl (hb hby d46_114) rfl ((if0 _ _).trans (feq (by decide : ¬ ((1 : Int32) = 0))).1) ?_
   show SG p e below T27 (mkF m 117 #[vR a1, vR a2] []) _
   refine XS.aloadN X27.here hx rfl (hb hby d46_117) rfl rfl ?_
   refine XS.aloadN X27.here hx rfl (hb hby d46_118) rfl rfl ?_
   show SG p e below T27 (mkF m 119 #[vR a1, vR a2] [(.ref a2), (.ref a1)]) _
   refine XS.bipush X27.here hx rfl (hb hby d46_119) ?_
   show SG p e below T27 (mkF m 121 #[vR a1, vR a2] [(.int 11), (.ref a2), (.ref a1)]) _
   refine st28 _ ?_
   show SG p e below T28 (mkF m 124 #[vR a1, vR a2] [(.int 1)]) _
   refine XS.ifNo X28.here hx rfl (hb hby d46_124) rfl ((if0 _ _).trans (feq (by decide : ¬ ((1 : Int32) = 0))).1) ?_
   show SG p e below T28 (mkF m 127 #[vR a1, vR a2] []) _
   refine XS.aloadN X28.here hx rfl (hb hby d46_127) rfl rfl ?_
   refine XS.aloadN X28.here hx rfl (hb hby d46_128) rfl rfl ?_
   show SG p e below T28 (mkF m 129 #[vR a1, vR a2] [(.ref a2), (.ref a1)]) _
   refine XS.bipush X28.here hx rfl (hb hby d46_129) ?_
   show SG p e below T28 (mkF m 131 #[vR a1, vR a2] [(.int 12), (.ref a2), (.ref a1)]) _
   refine st29 _ ?_
   show SG p e below T29 (mkF m 134 #[vR a1, vR a2] [(.int 1)]) _
   refine XS.ifNo X29.here hx rfl (hb hby d46_134) rfl ((if0 _ _).trans (feq (by decide : ¬ ((1 : Int32) = 0))).1) ?_
   show SG p e below T29 (mkF m 137 #[vR a1, vR a2] []) _
   refine XS.aloadN X29.here hx rfl (hb hby d46_137) rfl rfl ?_
   refine XS.aloadN X29.here hx rfl (hb hby d46_138) rfl rfl ?_
   show SG p e below T29 (mkF m 139 #[vR a1, vR a2] [(.ref a2), (.ref a1)]) _
   refine XS.bipush X29.here hx rfl (hb hby d46_139) ?_
   show SG p e below T29 (mkF m 141 #[vR a1, vR a2] [(.int 13), (.ref a2), (.ref a1)]) _
   refine st30 _ ?_
   show SG p e below T30 (mkF m 144 #[vR a1, vR a2] [(.int 1)]) _
   refine XS.ifNo X30.here hx rfl (hb hby d46_144) rfl ((if0 _ _).trans (feq (by decide : ¬ ((1 : Int32) = 0))).1) ?_
   show SG p e below T30 (mkF m 147 #[vR a1, vR a2] []) _
   refine XS.aloadN X30.here hx rfl (hb hby d46_147) rfl rfl ?_
   refine XS.aloadN X30.here hx rfl (hb hby d46_148) rfl rfl ?_
   show SG p e below T30 (mkF m 149 #[vR a1, vR a2] [(.ref a2), (.ref a1)]) _
   refine XS.bipush X30.here hx rfl (hb hby d46_149) ?_
   show SG p e below T30 (mkF m 151 #[vR a1, vR a2] [(.int 14), (.ref a2), (.ref a1)]) _
   refine st31 _ ?_
   show SG p e below T31 (mkF m 154 #[vR a1, vR a2] [(.int 1)]) _
   refine XS.ifNo X31.here hx rfl (hb hby d46_154) rfl ((if0 _ _).trans (feq (by decide : ¬ ((1 : Int32) = 0))).1) ?_
   show SG p e below T31 (mkF m 157 #[vR a1, vR a2] []) _
   refine XS.aloadN X31.here hx rfl (hb hby d46_157) rfl rfl ?_
   refine XS.aloadN X31.here hx rfl (hb hby d46_158) rfl rfl ?_
   show SG p e below T31 (mkF m 159 #[vR a1, vR a2] [(.ref a2), (.ref a1)]) _
   refine XS.bipush X31.here hx rfl (hb hby d46_159) ?_
   show SG p e below T31 (mkF m 161 #[vR a1, vR a2] [(.int 15), (.ref a2), (.ref a1)]) _
   refine st32 _ ?_
   show SG p e below T32 (mkF m 164 #[vR a1, vR a2] [(.int 1)]) _
   refine XS.ifNo X32.here hx rfl (hb hby d46_164) rfl ((if0 _ _).trans (feq (by decide : ¬ ((1 : Int32) = 0))).1) ?_
   show SG p e below T32 (mkF m 167 #[vR a1, vR a2] []) _
   refine XS.aloadN X32.here hx rfl (hb hby d46_167) rfl rfl ?_
   refine XS.aloadN X32.here hx rfl (hb hby d46_168) rfl rfl ?_
   show SG p e below T32 (mkF m 169 #[vR a1, vR a2] [(.ref a2), (.ref a1)]) _
   refine XS.bipush X32.here hx rfl (hb hby d46_169) ?_
   show SG p e below T32 (mkF m 171 #[vR a1, vR a2] [(.int 16), (.ref a2), (.ref a1)]) _
   refine st33 _ ?_
   show SG p e below T33 (mkF m 174 #[vR a1, vR a2] [(.int 1)]) _
   refine XS.ifNo X33.here hx rfl (hb hby d46_174) rfl ((if0 _ _).trans (feq (by decide : ¬ ((1 : Int32) = 0))).1) ?_
   show SG p e below T33 (mkF m 177 #[vR a1, vR a2] []) _
   refine XS.iconst X33.here hx rfl (hb hby d46_177) ?_
   refine XS.goto X33.here hx rfl (pc0 := 178) (pc' := 182) rfl (hb hby d46_178) (by decide) (by decide) ?_
   show SG p e below T33 (mkF m 182 #[vR a1, vR a2] [(.int 1)]) _
   exact retN X33 hx (t := .boolean) Bd.returns (by simp) (hb hby d46_182) hr
 · show OQp (some (.int 1)) h0 n0 _ T33.heap _
   rw [e33]
   exact ⟨rfl, N33, rfl⟩
theorem pd_21 : parseMethodDescriptor "(Ljava/lang/String;Ljava/lang/String;)Z" = some ⟨[(.object "java/lang/String"), (.object "java/lang/String")], some .boolean⟩ := by decide +kernel
theorem d45_13 : Dc rev30 13 (.ifCond .ne 7) 3 := by decide +kernel
theorem d45_20 : Dc rev30 20 (.aload_n 0) 1 := by decide +kernel
theorem d45_21 : Dc rev30 21 (.aload_n 1) 1 := by decide +kernel
theorem d45_22 : Dc rev30 22 (.invokevirtual 64) 3 := by decide +kernel
theorem d45_25 : Dc rev30 25 (.invokestatic 67) 3 := by decide +kernel
theorem pd_22 : parseMethodDescriptor "(Ljava/lang/String;I)J" = some ⟨[(.object "java/lang/String"), .int], some .long⟩ := by decide +kernel
theorem d45_28 : Dc rev30 28 .lreturn 1 := by decide +kernel
theorem ef_45_vv (m : MethodId) (x0 : Addr) (x1 : Addr) : entryFrame m #[(.ref x0), (.ref x1)] 2 = mkF m 0 #[.val (.ref x0), .val (.ref x1)] [] := by first | (simp [entryFrame, mkF, argsToLocals, Value.category]; done) | rfl
theorem r45_1 (l : Launch) (Z : State) (a0 : Array Value) (hw : TW a0 Z) (a1 : Addr) (a2 : Addr) (w3 : Addr) (k4 : ClassId) (u5 : Nat → Int32) (p6 : Int32) (w7 : Int32) (w8 : Int32) (w9 : Addr) (k10 : ClassId) (u11 : Nat → Int32) (p12 : Int32) (w13 : Int32) (x14 : Value) (q15 : Int64) (h0 : Heap) (n0 : Nat) (Z0 : n0 ≤ h0.size) (H0 : Fld Z h0 a1 sK1 "value" "[B" (.ref w3)) (H1 : BA Z h0 w3 k4 .byte p6 u5) (H2 : Sta Z h0 sK1 sK3 "Z" (.int w7)) (H3 : ¬ (w7 = 0)) (H4 : Fld Z h0 a1 sK1 "coder" "B" (.int w8)) (H5 : nar .byte w8 = w8) (H6 : Exa Z h0 a1 sK1) (H7 : Fld Z h0 a2 sK1 "value" "[B" (.ref w9)) (H8 : BA Z h0 w9 k10 .byte p12 u11) (H9 : Fld Z h0 a2 sK1 "coder" "B" (.int w13)) (H10 : nar .byte w13 = w13) (H11 : Exa Z h0 a2 sK1) (H12 : ¬ ((p6 >>> (w8 &&& 31)) < (p12 >>> (w13 &&& 31)))) (H13 : w8 = 0) (H14 : Sta Z h0 sK7 sK9 sK10 x14) (H15 : (x14).isRef = true) (H16 : w13 = 0) (H17 : (p12).toNatClampNeg ≤ (p6).toNatClampNeg) (H18 : ∀ i, i < (p12).toNatClampNeg → (u5) i = u11 i) (H19 : ¬ (q15 < 0)) (H20 : ¬ ((p12 >>> (w13 &&& 31)) < 0)) (H21 : ((p12 >>> (w13 &&& 31))).toNatClampNeg ≤ 100) (H22 : p6 = Int32.ofNat (((p12 >>> (w13 &&& 31))).toNatClampNeg + oszL q15)) (H23 : ∀ j, j < oszL q15 → (u5) (((p12 >>> (w13 &&& 31))).toNatClampNeg + j) = SBG.odg (q15).toInt.natAbs (oszL q15 - 1 - j)) :
   OMet l Z mN33 method_5_code 2 (some .long) [] (Rm 6 0 0 94) h0 #[(.ref a1), (.ref a2)] (OQp (some (.long q15)) h0 n0) := by
 refine MetFree.of_bodySF (plainFor_of_name pn_com_example_eta4_eta4_bench_ThroughputFiguresLinesPinLaw) hisR ?_
 intro p e s m args below meth c s₁ Bd hml0 hP hK
 obtain ⟨rfl, hZ, hh⟩ := hP
 have hx := Bd.exec
 have hby := Bd.bytes
 have hml : c.maxLocals = 2 := hml0
 have hown : s.vm.findClass sK14 = some m.cls := findClass_of_methodNamed Bd.named
 have X0 := own_X0 Bd
 have e0 : s₁.heap = h0 := by rw [← hh, Bd.state]; rfl
 have N0 := Fr.nil n0
 have pre0 : ∀ t, Steps p.tables e below (s₁.setTop (mkF m 0 #[vR a1, vR a2] [])) t → Steps p.tables e below (s₁.setTop (entryFrame m #[(.ref a1), (.ref a2)] 2)) t := fun t k => castTop (ef_45_vv m a1 a2) k
 obtain ⟨_, _, ⟨T16, _, _, _⟩, -, X16, ⟨_, hQ, lq, yq, zq⟩, st16⟩ := Jvm.LawKit.callS X0 hx (y := mN32) hown (mvT hZ (tw hw 270 rfl)) (mvT hZ (tw hw 271 rfl)) (mvT hZ (tw hw 265 rfl)) (mvT hZ (tw hw 272 rfl)) (by decide) (backOf (W := 0) (r46_1 l Z a0 hw a1 a2 w3 k4 u5 p6 w7 w8 w9 k10 u11 p12 w13 x14 h0 n0 Z0 H0 H1 H2 H3 H4 H5 H6 H7 H8 H9 H10 H11 H12 H13 H14 H15 H16 H17 H18) hZ (tw hw 272 rfl) (tw hw 265 rfl) (by decide) (by decide)) (g := (mkF m 10 #[vR a1, vR a2] [(.ref a2), (.ref a1)])) rfl (by rw [hml]; rfl) (argsL := [(.ref a1), (.ref a2)]) (rest := []) (lenOf pd_21 rfl) rfl (own_w _) (hb hby d45_10) (fun _ _ => ⟨rfl, e0, (by decide : 0 + 0 ≤ _), (by decide : 0 + 0 ≤ _)⟩)
 dsimp only [Pt.U, Pt.locs, Pt.cells, Pt.slots] at X16 lq yq zq st16 hQ
 replace X16 := own_mvX X16 (a := 0) (b := 0) yq zq
 obtain ⟨rfl, Nq, e16⟩ := hQ
 have N16 := own_mvN lq N0 Nq
 obtain ⟨cq17, kq17, q17a, q17b, q17c⟩ := isOf hZ e16 H11
 obtain ⟨_, _, ⟨T17, _, _, _⟩, -, X17, ⟨_, hQ, lq, yq, zq⟩, st17⟩ := X16.virtualBack hx (y := mN28) (z := mN28) hown (mvT hZ (tw hw 273 rfl)) (mvT hZ (tw hw 65 rfl)) (notFace_of_selects (args := #[]) (mvT hZ (tw hw 67 rfl))) (mvT hZ (tw hw 67 rfl)) (mvT hZ (tw hw 66 rfl)) (by decide) (backOf (W := 1) (r9_1 l Z a0 hw a2 w9 k10 u11 p12 w7 w13 h0 n0 Z0 H7 H8 H2 H3 H9 H10 H11) hZ (tw hw 68 rfl) (tw hw 42 rfl) (by decide) (by decide)) q17a q17c (g := (mkF m 22 #[vR a1, vR a2] [(.ref a2), (.ref a1)])) rfl (by rw [hml]; rfl) (Steps.refl _) (argsL := []) (rest := [(.ref a1)]) (lenOf pd_5 rfl) rfl (own_w _) (hb hby d45_22) (fun _ _ => ⟨rfl, e16, (by decide : 0 + 0 ≤ _), (by decide : 0 + 0 ≤ _)⟩)
 dsimp only [Pt.U, Pt.locs, Pt.cells, Pt.slots] at X17 lq yq zq st17 hQ
 replace X17 := own_mvX X17 (a := 0) (b := 0) yq zq
 obtain ⟨rfl, Nq, e17⟩ := hQ
 have N17 := own_mvN lq N16 Nq
 obtain ⟨_, _, ⟨T18, _, _, _⟩, -, X18, ⟨_, hQ, lq, yq, zq⟩, st18⟩ := Jvm.LawKit.callS X17 hx (y := mN31) hown (mvT hZ (tw hw 299 rfl)) (mvT hZ (tw hw 300 rfl)) (mvT hZ (tw hw 265 rfl)) (mvT hZ (tw hw 301 rfl)) (by decide) (backOf (W := 0) (own_prs l Z a0 hw a1 w7 w8 w3 k4 p6 u5 x14 q15 (p12 >>> (w13 &&& 31)) h0 n0 Z0 H2 H3 H4 H13 H6 H0 H1 H14 H15 H19 H20 H21 H22 H23) hZ (tw hw 301 rfl) (tw hw 265 rfl) (by decide) (by decide)) (g := (mkF m 25 #[vR a1, vR a2] [(.int (p12 >>> (w13 &&& 31))), (.ref a1)])) rfl (by rw [hml]; rfl) (argsL := [(.ref a1), (.int (p12 >>> (w13 &&& 31)))]) (rest := []) (lenOf pd_22 rfl) rfl (own_w _) (hb hby d45_25) (fun _ _ => ⟨rfl, e17, (by decide : 0 + 0 ≤ _), (by decide : 0 + 0 ≤ _)⟩)
 dsimp only [Pt.U, Pt.locs, Pt.cells, Pt.slots] at X18 lq yq zq st18 hQ
 replace X18 := own_mvX X18 (a := 0) (b := 0) yq zq
 obtain ⟨rfl, Nq, e18⟩ := hQ
 have N18 := own_mvN lq N17 Nq
 obtain ⟨fs, hr, hrun, hended, hW, hsame⟩ := X18.leave (v := some (.long q15)) (fun h => by rw [Bd.returns] at h; cases h)
 refine ⟨_, _, pre0 _ ?_, hrun, hended, _, _, rfl, ?_, ⟨_, rfl⟩, hW, hsame.mono (by decide) (by decide)⟩
 · show SG p e below s₁ (mkF m 0 #[vR a1, vR a2] []) _
   refine XS.aloadN X0.here hx rfl (hb hby d45_0) rfl rfl ?_
   refine XS.ifnonnullYes X0.here hx rfl (pc0 := 1) (pc' := 8) rfl (hb hby d45_1) rfl (by decide) (by decide) ?_
   show SG p e below s₁ (mkF m 8 #[vR a1, vR a2] []) _
   refine XS.aloadN X0.here hx rfl (hb hby d45_8) rfl rfl ?_
   refine XS.aloadN X0.here hx rfl (hb hby d45_9) rfl rfl ?_
   show SG p e below s₁ (mkF m 10 #[vR a1, vR a2] [(.ref a2), (.ref a1)]) _
   refine st16 _ ?_
   show SG p e below T16 (mkF m 13 #[vR a1, vR a2] [(.int 1)]) _
   refine XS.ifYes X16.here hx rfl (pc0 := 13) (pc' := 20) rfl (hb hby d45_13) rfl ((if0 _ _).trans (feq (by decide : ¬ ((1 : Int32) = 0))).2) (by decide) (by decide) ?_
   show SG p e below T16 (mkF m 20 #[vR a1, vR a2] []) _
   refine XS.aloadN X16.here hx rfl (hb hby d45_20) rfl rfl ?_
   refine XS.aloadN X16.here hx rfl (hb hby d45_21) rfl rfl ?_
   show SG p e below T16 (mkF m 22 #[vR a1, vR a2] [(.ref a2), (.ref a1)]) _
   refine st17.trans ?_
   show SG p e below T17 (mkF m 25 #[vR a1, vR a2] [(.int (p12 >>> (w13 &&& 31))), (.ref a1)]) _
   refine st18 _ ?_
   show SG p e below T18 (mkF m 28 #[vR a1, vR a2] [(.long q15)]) _
   jvm_step X18.here [X18.here.top, hx, (hb hby d45_28), X18.method', Bd.returns, narrow]
   first | (intro acts; rw [hr _ acts rfl rfl rfl]) | rw [hr _ _ rfl rfl rfl]
   exact Steps.refl _
 · show OQp (some (.long q15)) h0 n0 _ T18.heap _
   rw [e18]
   exact ⟨rfl, N18, rfl⟩
theorem own_val (l : Launch) (Z : State) (a0 : Array Value) (hw : TW a0 Z) (a : Addr) (wS wc : Int32) (b : Addr) (k : ClassId) (z : Int32) (f : Nat → Int32) (o : Value) (a2 : Addr) (wc2 : Int32) (b2 : Addr) (k2 : ClassId) (z2 : Int32) (f2 : Nat → Int32) (x : Int64) (h0 : Heap) (n0 : Nat) (Z0 : n0 ≤ h0.size) (H1 : Sta Z h0 sK1 sK3 "Z" (.int wS)) (H2 : ¬ (wS = 0)) (H3 : Fld Z h0 a sK1 "coder" "B" (.int wc)) (H4 : wc = 0) (H5 : Exa Z h0 a sK1) (H6 : Fld Z h0 a sK1 "value" "[B" (.ref b)) (H7 : BA Z h0 b k .byte z f) (H8 : Sta Z h0 sK7 sK9 sK10 o) (H9 : o.isRef = true) (G3 : Fld Z h0 a2 sK1 "coder" "B" (.int wc2)) (G4 : wc2 = 0) (G5 : Exa Z h0 a2 sK1) (G6 : Fld Z h0 a2 sK1 "value" "[B" (.ref b2)) (G7 : BA Z h0 b2 k2 .byte z2 f2) (H10 : ¬ (x < 0)) (H11 : (z2).toNatClampNeg ≤ 100) (H12 : z = Int32.ofNat ((z2).toNatClampNeg + oszL x)) (H13 : ∀ i, i < (z2).toNatClampNeg + oszL x → (f) i = otxL f2 (z2).toNatClampNeg x i) :
   OMet l Z mN33 method_5_code 2 (some .long) [] (Rm 6 0 0 94) h0 #[(.ref a), (.ref a2)] (OQp (some (.long x)) h0 n0) := by
 subst H4 G4
 have hs := oszL_le x
 have hz2 : ¬ z2 < 0 := by obtain ⟨c, _, _, _, h, _⟩ := G7; exact h
 exact r45_1 l Z a0 hw a a2 b k f z wS (0 : Int32) b2 k2 f2 z2 (0 : Int32) o x h0 n0 Z0 H6 H7 H1 H2 H3 (by decide) H5 G6 G7 G3 (by decide) G5 (by rw [own_ishr0, own_ishr0]; exact own_vlt hz2 H11 H12 hs.2) (by decide) H8 H9 (by decide) (by rw [H12, own_cl (by omega)]; omega) (fun i hi => (H13 i (by omega)).trans (if_pos hi)) H10 (by rw [own_ishr0]; exact hz2) (by rw [own_ishr0]; exact H11) (by rw [own_ishr0]; exact H12) (by rw [own_ishr0]; intro j hj; rw [H13 _ (by omega), otxL, if_neg (by omega), otcL, if_neg (fun q => H10 q.1), Nat.add_sub_cancel_left])
theorem d55_0 : Dc rev32 0 (.aload_n 0) 1 := by decide +kernel
abbrev la53 (a1 : Addr) (a2 : Addr) (q3 : Int64) (q4 : Int64) : Array Slot := #[vR a1, vR a2, vJ q3, vS, vJ q4, vS, vU, vU, vU, vU]
theorem d55_1 : Dc rev32 1 (.aload_n 1) 1 := by decide +kernel
theorem d55_2 : Dc rev32 2 (.invokestatic 52) 3 := by decide +kernel
theorem pd_23 : parseMethodDescriptor "(Ljava/lang/String;Ljava/lang/String;)J" = some ⟨[(.object "java/lang/String"), (.object "java/lang/String")], some .long⟩ := by decide +kernel
theorem d55_5 : Dc rev32 5 (.lstore 6) 2 := by decide +kernel
theorem d55_7 : Dc rev32 7 (.lload 6) 2 := by decide +kernel
abbrev la54 (a1 : Addr) (a2 : Addr) (q3 : Int64) (q4 : Int64) : Array Slot := #[vR a1, vR a2, vJ q3, vS, vJ q4, vS, vJ (ops q3 q4), vS, vU, vU]
theorem d55_9 : Dc rev32 9 (.lconst 0) 1 := by decide +kernel
theorem d55_10 : Dc rev32 10 .lcmp 1 := by decide +kernel
theorem d55_11 : Dc rev32 11 (.ifCond .ge 5) 3 := by decide +kernel
theorem d55_16 : Dc rev32 16 (.lload 4) 2 := by decide +kernel
theorem d55_18 : Dc rev32 18 (.lconst 0) 1 := by decide +kernel
theorem d55_19 : Dc rev32 19 .lcmp 1 := by decide +kernel
theorem d55_20 : Dc rev32 20 (.ifCond .ne 16) 3 := by decide +kernel
theorem d55_23 : Dc rev32 23 (.lload 6) 2 := by decide +kernel
theorem d55_25 : Dc rev32 25 (.lconst 0) 1 := by decide +kernel
theorem d55_26 : Dc rev32 26 .lcmp 1 := by decide +kernel
theorem d55_27 : Dc rev32 27 (.ifCond .ne 7) 3 := by decide +kernel
theorem d55_30 : Dc rev32 30 (.iconst 1) 1 := by decide +kernel
theorem d55_31 : Dc rev32 31 (.goto 4) 3 := by decide +kernel
theorem d55_35 : Dc rev32 35 .ireturn 1 := by decide +kernel
theorem ef_55_vvvv (m : MethodId) (x0 : Addr) (x1 : Addr) (x2 : Int64) (x3 : Int64) : entryFrame m #[(.ref x0), (.ref x1), (.long x2), (.long x3)] 10 = mkF m 0 #[.val (.ref x0), .val (.ref x1), .val (.long x2), .second, .val (.long x3), .second, .unset, .unset, .unset, .unset] [] := by first | (simp [entryFrame, mkF, argsToLocals, Value.category]; done) | rfl
theorem r55_1 (l : Launch) (Z : State) (a0 : Array Value) (hw : TW a0 Z) (a1 : Addr) (a2 : Addr) (q3 : Int64) (q4 : Int64) (w5 : Int32) (w6 : Int32) (w7 : Addr) (k8 : ClassId) (u9 : Nat → Int32) (p10 : Int32) (x11 : Value) (w12 : Int32) (w13 : Addr) (k14 : ClassId) (u15 : Nat → Int32) (p16 : Int32) (h0 : Heap) (n0 : Nat) (Z0 : n0 ≤ h0.size) (H0 : Sta Z h0 sK1 sK3 "Z" (.int w5)) (H1 : ¬ (w5 = 0)) (H2 : Fld Z h0 a1 sK1 "coder" "B" (.int w6)) (H3 : w6 = 0) (H4 : Exa Z h0 a1 sK1) (H5 : Fld Z h0 a1 sK1 "value" "[B" (.ref w7)) (H6 : BA Z h0 w7 k8 .byte p10 u9) (H7 : Sta Z h0 sK7 sK9 sK10 x11) (H8 : (x11).isRef = true) (H9 : Fld Z h0 a2 sK1 "coder" "B" (.int w12)) (H10 : w12 = 0) (H11 : Exa Z h0 a2 sK1) (H12 : Fld Z h0 a2 sK1 "value" "[B" (.ref w13)) (H13 : BA Z h0 w13 k14 .byte p16 u15) (H14 : ¬ ((ops q3 q4) < 0)) (H15 : (p16).toNatClampNeg ≤ 100) (H16 : p10 = Int32.ofNat ((p16).toNatClampNeg + oszL (ops q3 q4))) (H17 : ∀ i, i < (p16).toNatClampNeg + oszL (ops q3 q4) → (u9) i = otxL u15 (p16).toNatClampNeg (ops q3 q4) i) (H18 : ¬ ((lcmpW (ops q3 q4) (0 : Int64)) < 0)) (H19 : (lcmpW q4 (0 : Int64)) = 0) (H20 : (lcmpW (ops q3 q4) (0 : Int64)) = 0) :
   OMet l Z mN34 method_4_code 10 (some .boolean) [] (Rm 7 0 0 107) h0 #[(.ref a1), (.ref a2), (.long q3), (.long q4)] (OQp (some (.int 1)) h0 n0) := by
 refine MetFree.of_bodySF (plainFor_of_name pn_com_example_eta4_eta4_bench_ThroughputFiguresLinesPinLaw) hisR ?_
 intro p e s m args below meth c s₁ Bd hml0 hP hK
 obtain ⟨rfl, hZ, hh⟩ := hP
 have hx := Bd.exec
 have hby := Bd.bytes
 have hml : c.maxLocals = 10 := hml0
 have hown : s.vm.findClass sK14 = some m.cls := findClass_of_methodNamed Bd.named
 have X0 := own_X0 Bd
 have e0 : s₁.heap = h0 := by rw [← hh, Bd.state]; rfl
 have N0 := Fr.nil n0
 have pre0 : ∀ t, Steps p.tables e below (s₁.setTop (mkF m 0 #[vR a1, vR a2, vJ q3, vS, vJ q4, vS, .unset, .unset, .unset, .unset] [])) t → Steps p.tables e below (s₁.setTop (entryFrame m #[(.ref a1), (.ref a2), (.long q3), (.long q4)] 10)) t := fun t k => castTop (ef_55_vvvv m a1 a2 q3 q4) k
 obtain ⟨_, _, ⟨T17, _, _, _⟩, -, X17, ⟨_, hQ, lq, yq, zq⟩, st17⟩ := Jvm.LawKit.callS X0 hx (y := mN33) hown (mvT hZ (tw hw 267 rfl)) (mvT hZ (tw hw 268 rfl)) (mvT hZ (tw hw 265 rfl)) (mvT hZ (tw hw 269 rfl)) (by decide) (backOf (W := 0) (own_val l Z a0 hw a1 w5 w6 w7 k8 p10 u9 x11 a2 w12 w13 k14 p16 u15 (ops q3 q4) h0 n0 Z0 H0 H1 H2 H3 H4 H5 H6 H7 H8 H9 H10 H11 H12 H13 H14 H15 H16 H17) hZ (tw hw 269 rfl) (tw hw 265 rfl) (by decide) (by decide)) (g := (mkF m 2 (la53 a1 a2 q3 q4) [(.ref a2), (.ref a1)])) rfl (by rw [hml]; rfl) (argsL := [(.ref a1), (.ref a2)]) (rest := []) (lenOf pd_23 rfl) rfl (own_w _) (hb hby d55_2) (fun _ _ => ⟨rfl, e0, (by decide : 0 + 0 ≤ _), (by decide : 0 + 0 ≤ _)⟩)
 dsimp only [Pt.U, Pt.locs, Pt.cells, Pt.slots] at X17 lq yq zq st17 hQ
 replace X17 := own_mvX X17 (a := 0) (b := 0) yq zq
 obtain ⟨rfl, Nq, e17⟩ := hQ
 have N17 := own_mvN lq N0 Nq
 obtain ⟨fs, hr, hrun, hended, hW, hsame⟩ := X17.leave (v := some (.int 1)) (fun h => by rw [Bd.returns] at h; cases h)
 refine ⟨_, _, pre0 _ ?_, hrun, hended, _, _, rfl, ?_, ⟨_, rfl⟩, hW, hsame.mono (by decide) (by decide)⟩
 · show SG p e below s₁ (mkF m 0 (la53 a1 a2 q3 q4) []) _
   refine XS.aloadN X0.here hx rfl (hb hby d55_0) rfl rfl ?_
   refine XS.aloadN X0.here hx rfl (hb hby d55_1) rfl rfl ?_
   show SG p e below s₁ (mkF m 2 (la53 a1 a2 q3 q4) [(.ref a2), (.ref a1)]) _
   refine st17 _ ?_
   show SG p e below T17 (mkF m 5 (la53 a1 a2 q3 q4) [(.long (ops q3 q4))]) _
   refine XS.lstore X17.here hx rfl (hb hby d55_5) rfl (l' := #[vR a1, vR a2, vJ q3, vS, vJ q4, vS, vJ (ops q3 q4), vS, vU, vU]) rfl ?_
   show SG p e below T17 (mkF m 7 (la54 a1 a2 q3 q4) []) _
   refine XS.lload X17.here hx rfl (hb hby d55_7) rfl ?_
   refine XS.lconst X17.here hx rfl (hb hby d55_9) ?_
   show SG p e below T17 (mkF m 10 (la54 a1 a2 q3 q4) [(.long 0), (.long (ops q3 q4))]) _
   refine XS.lcmp X17.here hx rfl (hb hby d55_10) rfl ?_
   show SG p e below T17 (mkF m 11 (la54 a1 a2 q3 q4) [(.int (lcmpW (ops q3 q4) (0 : Int64)))]) _
   refine XS.ifYes X17.here hx rfl (pc0 := 11) (pc' := 16) rfl (hb hby d55_11) rfl ((if0 _ _).trans (flt H18).2.1) (by decide) (by decide) ?_
   show SG p e below T17 (mkF m 16 (la54 a1 a2 q3 q4) []) _
   refine XS.lload X17.here hx rfl (hb hby d55_16) rfl ?_
   refine XS.lconst X17.here hx rfl (hb hby d55_18) ?_
   show SG p e below T17 (mkF m 19 (la54 a1 a2 q3 q4) [(.long 0), (.long q4)]) _
   refine XS.lcmp X17.here hx rfl (hb hby d55_19) rfl ?_
   show SG p e below T17 (mkF m 20 (la54 a1 a2 q3 q4) [(.int (lcmpW q4 (0 : Int64)))]) _
   refine XS.ifNo X17.here hx rfl (hb hby d55_20) rfl ((if0 _ _).trans (teq H19).2) ?_
   show SG p e below T17 (mkF m 23 (la54 a1 a2 q3 q4) []) _
   refine XS.lload X17.here hx rfl (hb hby d55_23) rfl ?_
   refine XS.lconst X17.here hx rfl (hb hby d55_25) ?_
   show SG p e below T17 (mkF m 26 (la54 a1 a2 q3 q4) [(.long 0), (.long (ops q3 q4))]) _
   refine XS.lcmp X17.here hx rfl (hb hby d55_26) rfl ?_
   show SG p e below T17 (mkF m 27 (la54 a1 a2 q3 q4) [(.int (lcmpW (ops q3 q4) (0 : Int64)))]) _
   refine XS.ifNo X17.here hx rfl (hb hby d55_27) rfl ((if0 _ _).trans (teq H20).2) ?_
   show SG p e below T17 (mkF m 30 (la54 a1 a2 q3 q4) []) _
   refine XS.iconst X17.here hx rfl (hb hby d55_30) ?_
   refine XS.goto X17.here hx rfl (pc0 := 31) (pc' := 35) rfl (hb hby d55_31) (by decide) (by decide) ?_
   show SG p e below T17 (mkF m 35 (la54 a1 a2 q3 q4) [(.int 1)]) _
   exact retN X17 hx (t := .boolean) Bd.returns (by simp) (hb hby d55_35) hr
 · show OQp (some (.int 1)) h0 n0 _ T17.heap _
   rw [e17]
   exact ⟨rfl, N17, rfl⟩
theorem d55_36 : Dc rev32 36 (.lload_n 2) 1 := by decide +kernel
theorem d55_37 : Dc rev32 37 (.ldc2_w 56) 3 := by decide +kernel
theorem d55_40 : Dc rev32 40 .lmul 1 := by decide +kernel
theorem d55_41 : Dc rev32 41 (.lstore 8) 2 := by decide +kernel
theorem d55_43 : Dc rev32 43 (.lload 6) 2 := by decide +kernel
abbrev la57 (a1 : Addr) (a2 : Addr) (q3 : Int64) (q4 : Int64) : Array Slot := #[vR a1, vR a2, vJ q3, vS, vJ q4, vS, vJ (ops q3 q4), vS, vJ (q3 * 1000000000), vS]
theorem d55_45 : Dc rev32 45 (.lload 8) 2 := by decide +kernel
theorem d55_47 : Dc rev32 47 .lcmp 1 := by decide +kernel
theorem d55_48 : Dc rev32 48 (.ifCond .le 5) 3 := by decide +kernel
theorem d55_53 : Dc rev32 53 (.lload 6) 2 := by decide +kernel
theorem d55_55 : Dc rev32 55 (.lconst 0) 1 := by decide +kernel
theorem d55_56 : Dc rev32 56 .lcmp 1 := by decide +kernel
theorem d55_57 : Dc rev32 57 (.ifCond .le 16) 3 := by decide +kernel
theorem d55_60 : Dc rev32 60 (.lload 4) 2 := by decide +kernel
theorem d55_62 : Dc rev32 62 (.lload 8) 2 := by decide +kernel
theorem d55_64 : Dc rev32 64 (.lload 6) 2 := by decide +kernel
theorem d55_66 : Dc rev32 66 .ldiv 1 := by decide +kernel
theorem d55_67 : Dc rev32 67 .lcmp 1 := by decide +kernel
theorem d55_68 : Dc rev32 68 (.ifCond .le 5) 3 := by decide +kernel
theorem d55_73 : Dc rev32 73 (.lload 8) 2 := by decide +kernel
theorem d55_75 : Dc rev32 75 (.lload 6) 2 := by decide +kernel
theorem d55_77 : Dc rev32 77 (.lload 4) 2 := by decide +kernel
theorem d55_79 : Dc rev32 79 .lmul 1 := by decide +kernel
theorem d55_80 : Dc rev32 80 .lsub 1 := by decide +kernel
theorem d55_81 : Dc rev32 81 (.lload 4) 2 := by decide +kernel
theorem d55_83 : Dc rev32 83 .lcmp 1 := by decide +kernel
theorem d55_84 : Dc rev32 84 (.ifCond .ge 7) 3 := by decide +kernel
theorem d55_87 : Dc rev32 87 (.iconst 1) 1 := by decide +kernel
theorem d55_88 : Dc rev32 88 (.goto 4) 3 := by decide +kernel
theorem d55_92 : Dc rev32 92 .ireturn 1 := by decide +kernel
theorem r55_2 (l : Launch) (Z : State) (a0 : Array Value) (hw : TW a0 Z) (a1 : Addr) (a2 : Addr) (q3 : Int64) (q4 : Int64) (w5 : Int32) (w6 : Int32) (w7 : Addr) (k8 : ClassId) (u9 : Nat → Int32) (p10 : Int32) (x11 : Value) (w12 : Int32) (w13 : Addr) (k14 : ClassId) (u15 : Nat → Int32) (p16 : Int32) (h0 : Heap) (n0 : Nat) (Z0 : n0 ≤ h0.size) (H0 : Sta Z h0 sK1 sK3 "Z" (.int w5)) (H1 : ¬ (w5 = 0)) (H2 : Fld Z h0 a1 sK1 "coder" "B" (.int w6)) (H3 : w6 = 0) (H4 : Exa Z h0 a1 sK1) (H5 : Fld Z h0 a1 sK1 "value" "[B" (.ref w7)) (H6 : BA Z h0 w7 k8 .byte p10 u9) (H7 : Sta Z h0 sK7 sK9 sK10 x11) (H8 : (x11).isRef = true) (H9 : Fld Z h0 a2 sK1 "coder" "B" (.int w12)) (H10 : w12 = 0) (H11 : Exa Z h0 a2 sK1) (H12 : Fld Z h0 a2 sK1 "value" "[B" (.ref w13)) (H13 : BA Z h0 w13 k14 .byte p16 u15) (H14 : ¬ ((ops q3 q4) < 0)) (H15 : (p16).toNatClampNeg ≤ 100) (H16 : p10 = Int32.ofNat ((p16).toNatClampNeg + oszL (ops q3 q4))) (H17 : ∀ i, i < (p16).toNatClampNeg + oszL (ops q3 q4) → (u9) i = otxL u15 (p16).toNatClampNeg (ops q3 q4) i) (H18 : ¬ ((lcmpW (ops q3 q4) (0 : Int64)) < 0)) (H19 : ¬ ((lcmpW q4 (0 : Int64)) = 0)) (H20 : ¬ ((0 : Int32) < (lcmpW (ops q3 q4) (q3 * 1000000000)))) (H21 : (0 : Int32) < (lcmpW (ops q3 q4) (0 : Int64))) (H22 : ¬ ((ops q3 q4) = 0)) (H23 : ¬ ((0 : Int32) < (lcmpW q4 ((q3 * 1000000000) / (ops q3 q4))))) (H24 : (lcmpW ((q3 * 1000000000) - ((ops q3 q4) * q4)) q4) < 0) :
   OMet l Z mN34 method_4_code 10 (some .boolean) [] (Rm 7 0 0 107) h0 #[(.ref a1), (.ref a2), (.long q3), (.long q4)] (OQp (some (.int 1)) h0 n0) := by
 refine MetFree.of_bodySF (plainFor_of_name pn_com_example_eta4_eta4_bench_ThroughputFiguresLinesPinLaw) hisR ?_
 intro p e s m args below meth c s₁ Bd hml0 hP hK
 obtain ⟨rfl, hZ, hh⟩ := hP
 have hx := Bd.exec
 have hby := Bd.bytes
 have hml : c.maxLocals = 10 := hml0
 have hown : s.vm.findClass sK14 = some m.cls := findClass_of_methodNamed Bd.named
 have X0 := own_X0 Bd
 have e0 : s₁.heap = h0 := by rw [← hh, Bd.state]; rfl
 have N0 := Fr.nil n0
 have pre0 : ∀ t, Steps p.tables e below (s₁.setTop (mkF m 0 #[vR a1, vR a2, vJ q3, vS, vJ q4, vS, .unset, .unset, .unset, .unset] [])) t → Steps p.tables e below (s₁.setTop (entryFrame m #[(.ref a1), (.ref a2), (.long q3), (.long q4)] 10)) t := fun t k => castTop (ef_55_vvvv m a1 a2 q3 q4) k
 obtain ⟨_, _, ⟨T17, _, _, _⟩, -, X17, ⟨_, hQ, lq, yq, zq⟩, st17⟩ := Jvm.LawKit.callS X0 hx (y := mN33) hown (mvT hZ (tw hw 267 rfl)) (mvT hZ (tw hw 268 rfl)) (mvT hZ (tw hw 265 rfl)) (mvT hZ (tw hw 269 rfl)) (by decide) (backOf (W := 0) (own_val l Z a0 hw a1 w5 w6 w7 k8 p10 u9 x11 a2 w12 w13 k14 p16 u15 (ops q3 q4) h0 n0 Z0 H0 H1 H2 H3 H4 H5 H6 H7 H8 H9 H10 H11 H12 H13 H14 H15 H16 H17) hZ (tw hw 269 rfl) (tw hw 265 rfl) (by decide) (by decide)) (g := (mkF m 2 (la53 a1 a2 q3 q4) [(.ref a2), (.ref a1)])) rfl (by rw [hml]; rfl) (argsL := [(.ref a1), (.ref a2)]) (rest := []) (lenOf pd_23 rfl) rfl (own_w _) (hb hby d55_2) (fun _ _ => ⟨rfl, e0, (by decide : 0 + 0 ≤ _), (by decide : 0 + 0 ≤ _)⟩)
 dsimp only [Pt.U, Pt.locs, Pt.cells, Pt.slots] at X17 lq yq zq st17 hQ
 replace X17 := own_mvX X17 (a := 0) (b := 0) yq zq
 obtain ⟨rfl, Nq, e17⟩ := hQ
 have N17 := own_mvN lq N0 Nq
 obtain ⟨fs, hr, hrun, hended, hW, hsame⟩ := X17.leave (v := some (.int 1)) (fun h => by rw [Bd.returns] at h; cases h)
 refine ⟨_, _, pre0 _ ?_, hrun, hended, _, _, rfl, ?_, ⟨_, rfl⟩, hW, hsame.mono (by decide) (by decide)⟩
 · show SG p e below s₁ (mkF m 0 (la53 a1 a2 q3 q4) []) _
   refine XS.aloadN X0.here hx rfl (hb hby d55_0) rfl rfl ?_
   refine XS.aloadN X0.here hx rfl (hb hby d55_1) rfl rfl ?_
   show SG p e below s₁ (mkF m 2 (la53 a1 a2 q3 q4) [(.ref a2), (.ref a1)]) _
   refine st17 _ ?_
   show SG p e below T17 (mkF m 5 (la53 a1 a2 q3 q4) [(.long (ops q3 q4))]) _
   refine XS.lstore X17.here hx rfl (hb hby d55_5) rfl (l' := #[vR a1, vR a2, vJ q3, vS, vJ q4, vS, vJ (ops q3 q4), vS, vU, vU]) rfl ?_
   show SG p e below T17 (mkF m 7 (la54 a1 a2 q3 q4) []) _
   refine XS.lload X17.here hx rfl (hb hby d55_7) rfl ?_
   refine XS.lconst X17.here hx rfl (hb hby d55_9) ?_
   show SG p e below T17 (mkF m 10 (la54 a1 a2 q3 q4) [(.long 0), (.long (ops q3 q4))]) _
   refine XS.lcmp X17.here hx rfl (hb hby d55_10) rfl ?_
   show SG p e below T17 (mkF m 11 (la54 a1 a2 q3 q4) [(.int (lcmpW (ops q3 q4) (0 : Int64)))]) _
   refine XS.ifYes X17.here hx rfl (pc0 := 11) (pc' := 16) rfl (hb hby d55_11) rfl ((if0 _ _).trans (flt H18).2.1) (by decide) (by decide) ?_
   show SG p e below T17 (mkF m 16 (la54 a1 a2 q3 q4) []) _
   refine XS.lload X17.here hx rfl (hb hby d55_16) rfl ?_
   refine XS.lconst X17.here hx rfl (hb hby d55_18) ?_
   show SG p e below T17 (mkF m 19 (la54 a1 a2 q3 q4) [(.long 0), (.long q4)]) _
   refine XS.lcmp X17.here hx rfl (hb hby d55_19) rfl ?_
   show SG p e below T17 (mkF m 20 (la54 a1 a2 q3 q4) [(.int (lcmpW q4 (0 : Int64)))]) _
   refine XS.ifYes X17.here hx rfl (pc0 := 20) (pc' := 36) rfl (hb hby d55_20) rfl ((if0 _ _).trans (feq H19).2) (by decide) (by decide) ?_
   show SG p e below T17 (mkF m 36 (la54 a1 a2 q3 q4) []) _
   refine XS.lloadN X17.here hx rfl (hb hby d55_36) rfl ?_
   show SG p e below T17 (mkF m 37 (la54 a1 a2 q3 q4) [(.long q3)]) _
   refine X17.ldc2Long hx hown (mvT hZ (tw hw 314 rfl)) (g := (mkF m 37 (la54 a1 a2 q3 q4) [(.long q3)])) rfl (hb hby d55_37) _ ?_
   show SG p e below T17 (mkF m 40 (la54 a1 a2 q3 q4) [(.long 1000000000), (.long q3)]) _
   refine XS.lmul X17.here hx rfl (hb hby d55_40) rfl ?_
   show SG p e below T17 (mkF m 41 (la54 a1 a2 q3 q4) [(.long (q3 * 1000000000))]) _
   refine XS.lstore X17.here hx rfl (hb hby d55_41) rfl (l' := #[vR a1, vR a2, vJ q3, vS, vJ q4, vS, vJ (ops q3 q4), vS, vJ (q3 * 1000000000), vS]) rfl ?_
   show SG p e below T17 (mkF m 43 (la57 a1 a2 q3 q4) []) _
   refine XS.lload X17.here hx rfl (hb hby d55_43) rfl ?_
   refine XS.lload X17.here hx rfl (hb hby d55_45) rfl ?_
   show SG p e below T17 (mkF m 47 (la57 a1 a2 q3 q4) [(.long (q3 * 1000000000)), (.long (ops q3 q4))]) _
   refine XS.lcmp X17.here hx rfl (hb hby d55_47) rfl ?_
   show SG p e below T17 (mkF m 48 (la57 a1 a2 q3 q4) [(.int (lcmpW (ops q3 q4) (q3 * 1000000000)))]) _
   refine XS.ifYes X17.here hx rfl (pc0 := 48) (pc' := 53) rfl (hb hby d55_48) rfl ((if0 _ _).trans (flt H20).2.2.2) (by decide) (by decide) ?_
   show SG p e below T17 (mkF m 53 (la57 a1 a2 q3 q4) []) _
   refine XS.lload X17.here hx rfl (hb hby d55_53) rfl ?_
   refine XS.lconst X17.here hx rfl (hb hby d55_55) ?_
   show SG p e below T17 (mkF m 56 (la57 a1 a2 q3 q4) [(.long 0), (.long (ops q3 q4))]) _
   refine XS.lcmp X17.here hx rfl (hb hby d55_56) rfl ?_
   show SG p e below T17 (mkF m 57 (la57 a1 a2 q3 q4) [(.int (lcmpW (ops q3 q4) (0 : Int64)))]) _
   refine XS.ifNo X17.here hx rfl (hb hby d55_57) rfl ((if0 _ _).trans (tlt H21).2.2.2) ?_
   show SG p e below T17 (mkF m 60 (la57 a1 a2 q3 q4) []) _
   refine XS.lload X17.here hx rfl (hb hby d55_60) rfl ?_
   refine XS.lload X17.here hx rfl (hb hby d55_62) rfl ?_
   show SG p e below T17 (mkF m 64 (la57 a1 a2 q3 q4) [(.long (q3 * 1000000000)), (.long q4)]) _
   refine XS.lload X17.here hx rfl (hb hby d55_64) rfl ?_
   refine XS.ldiv X17.here hx rfl (hb hby d55_66) rfl H22 ?_
   show SG p e below T17 (mkF m 67 (la57 a1 a2 q3 q4) [(.long ((q3 * 1000000000) / (ops q3 q4))), (.long q4)]) _
   refine XS.lcmp X17.here hx rfl (hb hby d55_67) rfl ?_
   show SG p e below T17 (mkF m 68 (la57 a1 a2 q3 q4) [(.int (lcmpW q4 ((q3 * 1000000000) / (ops q3 q4))))]) _
   refine XS.ifYes X17.here hx rfl (pc0 := 68) (pc' := 73) rfl (hb hby d55_68) rfl ((if0 _ _).trans (flt H23).2.2.2) (by decide) (by decide) ?_
   show SG p e below T17 (mkF m 73 (la57 a1 a2 q3 q4) []) _
   refine XS.lload X17.here hx rfl (hb hby d55_73) rfl ?_
   refine XS.lload X17.here hx rfl (hb hby d55_75) rfl ?_
   show SG p e below T17 (mkF m 77 (la57 a1 a2 q3 q4) [(.long (ops q3 q4)), (.long (q3 * 1000000000))]) _
   refine XS.lload X17.here hx rfl (hb hby d55_77) rfl ?_
   refine XS.lmul X17.here hx rfl (hb hby d55_79) rfl ?_
   show SG p e below T17 (mkF m 80 (la57 a1 a2 q3 q4) [(.long ((ops q3 q4) * q4)), (.long (q3 * 1000000000))]) _
   refine XS.lsub X17.here hx rfl (hb hby d55_80) rfl ?_
   show SG p e below T17 (mkF m 81 (la57 a1 a2 q3 q4) [(.long ((q3 * 1000000000) - ((ops q3 q4) * q4)))]) _
   refine XS.lload X17.here hx rfl (hb hby d55_81) rfl ?_
   refine XS.lcmp X17.here hx rfl (hb hby d55_83) rfl ?_
   show SG p e below T17 (mkF m 84 (la57 a1 a2 q3 q4) [(.int (lcmpW ((q3 * 1000000000) - ((ops q3 q4) * q4)) q4))]) _
   refine XS.ifNo X17.here hx rfl (hb hby d55_84) rfl ((if0 _ _).trans (tlt H24).2.1) ?_
   show SG p e below T17 (mkF m 87 (la57 a1 a2 q3 q4) []) _
   refine XS.iconst X17.here hx rfl (hb hby d55_87) ?_
   refine XS.goto X17.here hx rfl (pc0 := 88) (pc' := 92) rfl (hb hby d55_88) (by decide) (by decide) ?_
   show SG p e below T17 (mkF m 92 (la57 a1 a2 q3 q4) [(.int 1)]) _
   exact retN X17 hx (t := .boolean) Bd.returns (by simp) (hb hby d55_92) hr
 · show OQp (some (.int 1)) h0 n0 _ T17.heap _
   rw [e17]
   exact ⟨rfl, N17, rfl⟩
theorem r55_3 (l : Launch) (Z : State) (a0 : Array Value) (hw : TW a0 Z) (a1 : Addr) (a2 : Addr) (q3 : Int64) (q4 : Int64) (w5 : Int32) (w6 : Int32) (w7 : Addr) (k8 : ClassId) (u9 : Nat → Int32) (p10 : Int32) (x11 : Value) (w12 : Int32) (w13 : Addr) (k14 : ClassId) (u15 : Nat → Int32) (p16 : Int32) (h0 : Heap) (n0 : Nat) (Z0 : n0 ≤ h0.size) (H0 : Sta Z h0 sK1 sK3 "Z" (.int w5)) (H1 : ¬ (w5 = 0)) (H2 : Fld Z h0 a1 sK1 "coder" "B" (.int w6)) (H3 : w6 = 0) (H4 : Exa Z h0 a1 sK1) (H5 : Fld Z h0 a1 sK1 "value" "[B" (.ref w7)) (H6 : BA Z h0 w7 k8 .byte p10 u9) (H7 : Sta Z h0 sK7 sK9 sK10 x11) (H8 : (x11).isRef = true) (H9 : Fld Z h0 a2 sK1 "coder" "B" (.int w12)) (H10 : w12 = 0) (H11 : Exa Z h0 a2 sK1) (H12 : Fld Z h0 a2 sK1 "value" "[B" (.ref w13)) (H13 : BA Z h0 w13 k14 .byte p16 u15) (H14 : ¬ ((ops q3 q4) < 0)) (H15 : (p16).toNatClampNeg ≤ 100) (H16 : p10 = Int32.ofNat ((p16).toNatClampNeg + oszL (ops q3 q4))) (H17 : ∀ i, i < (p16).toNatClampNeg + oszL (ops q3 q4) → (u9) i = otxL u15 (p16).toNatClampNeg (ops q3 q4) i) (H18 : ¬ ((lcmpW (ops q3 q4) (0 : Int64)) < 0)) (H19 : ¬ ((lcmpW q4 (0 : Int64)) = 0)) (H20 : ¬ ((0 : Int32) < (lcmpW (ops q3 q4) (q3 * 1000000000)))) (H21 : ¬ ((0 : Int32) < (lcmpW (ops q3 q4) (0 : Int64)))) (H22 : (lcmpW ((q3 * 1000000000) - ((ops q3 q4) * q4)) q4) < 0) :
   OMet l Z mN34 method_4_code 10 (some .boolean) [] (Rm 7 0 0 107) h0 #[(.ref a1), (.ref a2), (.long q3), (.long q4)] (OQp (some (.int 1)) h0 n0) := by
 refine MetFree.of_bodySF (plainFor_of_name pn_com_example_eta4_eta4_bench_ThroughputFiguresLinesPinLaw) hisR ?_
 intro p e s m args below meth c s₁ Bd hml0 hP hK
 obtain ⟨rfl, hZ, hh⟩ := hP
 have hx := Bd.exec
 have hby := Bd.bytes
 have hml : c.maxLocals = 10 := hml0
 have hown : s.vm.findClass sK14 = some m.cls := findClass_of_methodNamed Bd.named
 have X0 := own_X0 Bd
 have e0 : s₁.heap = h0 := by rw [← hh, Bd.state]; rfl
 have N0 := Fr.nil n0
 have pre0 : ∀ t, Steps p.tables e below (s₁.setTop (mkF m 0 #[vR a1, vR a2, vJ q3, vS, vJ q4, vS, .unset, .unset, .unset, .unset] [])) t → Steps p.tables e below (s₁.setTop (entryFrame m #[(.ref a1), (.ref a2), (.long q3), (.long q4)] 10)) t := fun t k => castTop (ef_55_vvvv m a1 a2 q3 q4) k
 obtain ⟨_, _, ⟨T17, _, _, _⟩, -, X17, ⟨_, hQ, lq, yq, zq⟩, st17⟩ := Jvm.LawKit.callS X0 hx (y := mN33) hown (mvT hZ (tw hw 267 rfl)) (mvT hZ (tw hw 268 rfl)) (mvT hZ (tw hw 265 rfl)) (mvT hZ (tw hw 269 rfl)) (by decide) (backOf (W := 0) (own_val l Z a0 hw a1 w5 w6 w7 k8 p10 u9 x11 a2 w12 w13 k14 p16 u15 (ops q3 q4) h0 n0 Z0 H0 H1 H2 H3 H4 H5 H6 H7 H8 H9 H10 H11 H12 H13 H14 H15 H16 H17) hZ (tw hw 269 rfl) (tw hw 265 rfl) (by decide) (by decide)) (g := (mkF m 2 (la53 a1 a2 q3 q4) [(.ref a2), (.ref a1)])) rfl (by rw [hml]; rfl) (argsL := [(.ref a1), (.ref a2)]) (rest := []) (lenOf pd_23 rfl) rfl (own_w _) (hb hby d55_2) (fun _ _ => ⟨rfl, e0, (by decide : 0 + 0 ≤ _), (by decide : 0 + 0 ≤ _)⟩)
 dsimp only [Pt.U, Pt.locs, Pt.cells, Pt.slots] at X17 lq yq zq st17 hQ
 replace X17 := own_mvX X17 (a := 0) (b := 0) yq zq
 obtain ⟨rfl, Nq, e17⟩ := hQ
 have N17 := own_mvN lq N0 Nq
 obtain ⟨fs, hr, hrun, hended, hW, hsame⟩ := X17.leave (v := some (.int 1)) (fun h => by rw [Bd.returns] at h; cases h)
 refine ⟨_, _, pre0 _ ?_, hrun, hended, _, _, rfl, ?_, ⟨_, rfl⟩, hW, hsame.mono (by decide) (by decide)⟩
 · show SG p e below s₁ (mkF m 0 (la53 a1 a2 q3 q4) []) _
   refine XS.aloadN X0.here hx rfl (hb hby d55_0) rfl rfl ?_
   refine XS.aloadN X0.here hx rfl (hb hby d55_1) rfl rfl ?_
   show SG p e below s₁ (mkF m 2 (la53 a1 a2 q3 q4) [(.ref a2), (.ref a1)]) _
   refine st17 _ ?_
   show SG p e below T17 (mkF m 5 (la53 a1 a2 q3 q4) [(.long (ops q3 q4))]) _
   refine XS.lstore X17.here hx rfl (hb hby d55_5) rfl (l' := #[vR a1, vR a2, vJ q3, vS, vJ q4, vS, vJ (ops q3 q4), vS, vU, vU]) rfl ?_
   show SG p e below T17 (mkF m 7 (la54 a1 a2 q3 q4) []) _
   refine XS.lload X17.here hx rfl (hb hby d55_7) rfl ?_
   refine XS.lconst X17.here hx rfl (hb hby d55_9) ?_
   show SG p e below T17 (mkF m 10 (la54 a1 a2 q3 q4) [(.long 0), (.long (ops q3 q4))]) _
   refine XS.lcmp X17.here hx rfl (hb hby d55_10) rfl ?_
   show SG p e below T17 (mkF m 11 (la54 a1 a2 q3 q4) [(.int (lcmpW (ops q3 q4) (0 : Int64)))]) _
   refine XS.ifYes X17.here hx rfl (pc0 := 11) (pc' := 16) rfl (hb hby d55_11) rfl ((if0 _ _).trans (flt H18).2.1) (by decide) (by decide) ?_
   show SG p e below T17 (mkF m 16 (la54 a1 a2 q3 q4) []) _
   refine XS.lload X17.here hx rfl (hb hby d55_16) rfl ?_
   refine XS.lconst X17.here hx rfl (hb hby d55_18) ?_
   show SG p e below T17 (mkF m 19 (la54 a1 a2 q3 q4) [(.long 0), (.long q4)]) _
   refine XS.lcmp X17.here hx rfl (hb hby d55_19) rfl ?_
   show SG p e below T17 (mkF m 20 (la54 a1 a2 q3 q4) [(.int (lcmpW q4 (0 : Int64)))]) _
   refine XS.ifYes X17.here hx rfl (pc0 := 20) (pc' := 36) rfl (hb hby d55_20) rfl ((if0 _ _).trans (feq H19).2) (by decide) (by decide) ?_
   show SG p e below T17 (mkF m 36 (la54 a1 a2 q3 q4) []) _
   refine XS.lloadN X17.here hx rfl (hb hby d55_36) rfl ?_
   show SG p e below T17 (mkF m 37 (la54 a1 a2 q3 q4) [(.long q3)]) _
   refine X17.ldc2Long hx hown (mvT hZ (tw hw 314 rfl)) (g := (mkF m 37 (la54 a1 a2 q3 q4) [(.long q3)])) rfl (hb hby d55_37) _ ?_
   show SG p e below T17 (mkF m 40 (la54 a1 a2 q3 q4) [(.long 1000000000), (.long q3)]) _
   refine XS.lmul X17.here hx rfl (hb hby d55_40) rfl ?_
   show SG p e below T17 (mkF m 41 (la54 a1 a2 q3 q4) [(.long (q3 * 1000000000))]) _
   refine XS.lstore X17.here hx rfl (hb hby d55_41) rfl (l' := #[vR a1, vR a2, vJ q3, vS, vJ q4, vS, vJ (ops q3 q4), vS, vJ (q3 * 1000000000), vS]) rfl ?_
   show SG p e below T17 (mkF m 43 (la57 a1 a2 q3 q4) []) _
   refine XS.lload X17.here hx rfl (hb hby d55_43) rfl ?_
   refine XS.lload X17.here hx rfl (hb hby d55_45) rfl ?_
   show SG p e below T17 (mkF m 47 (la57 a1 a2 q3 q4) [(.long (q3 * 1000000000)), (.long (ops q3 q4))]) _
   refine XS.lcmp X17.here hx rfl (hb hby d55_47) rfl ?_
   show SG p e below T17 (mkF m 48 (la57 a1 a2 q3 q4) [(.int (lcmpW (ops q3 q4) (q3 * 1000000000)))]) _
   refine XS.ifYes X17.here hx rfl (pc0 := 48) (pc' := 53) rfl (hb hby d55_48) rfl ((if0 _ _).trans (flt H20).2.2.2) (by decide) (by decide) ?_
   show SG p e below T17 (mkF m 53 (la57 a1 a2 q3 q4) []) _
   refine XS.lload X17.here hx rfl (hb hby d55_53) rfl ?_
   refine XS.lconst X17.here hx rfl (hb hby d55_55) ?_
   show SG p e below T17 (mkF m 56 (la57 a1 a2 q3 q4) [(.long 0), (.long (ops q3 q4))]) _
   refine XS.lcmp X17.here hx rfl (hb hby d55_56) rfl ?_
   show SG p e below T17 (mkF m 57 (la57 a1 a2 q3 q4) [(.int (lcmpW (ops q3 q4) (0 : Int64)))]) _
   refine XS.ifYes X17.here hx rfl (pc0 := 57) (pc' := 73) rfl (hb hby d55_57) rfl ((if0 _ _).trans (flt H21).2.2.2) (by decide) (by decide) ?_
   show SG p e below T17 (mkF m 73 (la57 a1 a2 q3 q4) []) _
   refine XS.lload X17.here hx rfl (hb hby d55_73) rfl ?_
   refine XS.lload X17.here hx rfl (hb hby d55_75) rfl ?_
   show SG p e below T17 (mkF m 77 (la57 a1 a2 q3 q4) [(.long (ops q3 q4)), (.long (q3 * 1000000000))]) _
   refine XS.lload X17.here hx rfl (hb hby d55_77) rfl ?_
   refine XS.lmul X17.here hx rfl (hb hby d55_79) rfl ?_
   show SG p e below T17 (mkF m 80 (la57 a1 a2 q3 q4) [(.long ((ops q3 q4) * q4)), (.long (q3 * 1000000000))]) _
   refine XS.lsub X17.here hx rfl (hb hby d55_80) rfl ?_
   show SG p e below T17 (mkF m 81 (la57 a1 a2 q3 q4) [(.long ((q3 * 1000000000) - ((ops q3 q4) * q4)))]) _
   refine XS.lload X17.here hx rfl (hb hby d55_81) rfl ?_
   refine XS.lcmp X17.here hx rfl (hb hby d55_83) rfl ?_
   show SG p e below T17 (mkF m 84 (la57 a1 a2 q3 q4) [(.int (lcmpW ((q3 * 1000000000) - ((ops q3 q4) * q4)) q4))]) _
   refine XS.ifNo X17.here hx rfl (hb hby d55_84) rfl ((if0 _ _).trans (tlt H22).2.1) ?_
   show SG p e below T17 (mkF m 87 (la57 a1 a2 q3 q4) []) _
   refine XS.iconst X17.here hx rfl (hb hby d55_87) ?_
   refine XS.goto X17.here hx rfl (pc0 := 88) (pc' := 92) rfl (hb hby d55_88) (by decide) (by decide) ?_
   show SG p e below T17 (mkF m 92 (la57 a1 a2 q3 q4) [(.int 1)]) _
   exact retN X17 hx (t := .boolean) Bd.returns (by simp) (hb hby d55_92) hr
 · show OQp (some (.int 1)) h0 n0 _ T17.heap _
   rw [e17]
   exact ⟨rfl, N17, rfl⟩
theorem own_rtl (l : Launch) (Z : State) (a0 : Array Value) (hw : TW a0 Z) (a : Addr) (wS wc : Int32) (b : Addr) (k : ClassId) (z : Int32) (f : Nat → Int32) (o : Value) (a2 : Addr) (wc2 : Int32) (b2 : Addr) (k2 : ClassId) (z2 : Int32) (f2 : Nat → Int32) (c n : Int64) (h0 : Heap) (n0 : Nat) (Z0 : n0 ≤ h0.size) (H1 : Sta Z h0 sK1 sK3 "Z" (.int wS)) (H2 : ¬ (wS = 0)) (H3 : Fld Z h0 a sK1 "coder" "B" (.int wc)) (H4 : wc = 0) (H5 : Exa Z h0 a sK1) (H6 : Fld Z h0 a sK1 "value" "[B" (.ref b)) (H7 : BA Z h0 b k .byte z f) (H8 : Sta Z h0 sK7 sK9 sK10 o) (H9 : o.isRef = true) (G3 : Fld Z h0 a2 sK1 "coder" "B" (.int wc2)) (G4 : wc2 = 0) (G5 : Exa Z h0 a2 sK1) (G6 : Fld Z h0 a2 sK1 "value" "[B" (.ref b2)) (G7 : BA Z h0 b2 k2 .byte z2 f2) (H10 : ¬ (c < 0)) (H11 : (c).toInt < 4294967296) (H12 : ¬ (n < 0)) (H13 : (z2).toNatClampNeg ≤ 100) (H14 : z = Int32.ofNat ((z2).toNatClampNeg + oszL (ops c n))) (H15 : ∀ i, i < (z2).toNatClampNeg + oszL (ops c n) → (f) i = otxL f2 (z2).toNatClampNeg (ops c n) i) :
   OMet l Z mN34 method_4_code 10 (some .boolean) [] (Rm 7 0 0 107) h0 #[(.ref a), (.ref a2), (.long c), (.long n)] (OQp (some (.int 1)) h0 n0) := by
 subst H4 G4
 have hr0 := own_r0 H10 H11 H12
 by_cases hn : n = 0
 · exact r55_1 l Z a0 hw a a2 c n wS (0 : Int32) b k f z o (0 : Int32) b2 k2 f2 z2 h0 n0 Z0 H1 H2 H3 (by decide) H5 H6 H7 H8 H9 G3 (by decide) G5 G6 G7 hr0 H13 H14 H15 (fun k => hr0 ((lw_lt _ _).mp k)) ((lw_eq _ _).mpr hn) ((lw_eq _ _).mpr (if_pos hn))
 have A := own_rA H10 H11 H12 hn
 by_cases hr : (0 : Int64) < ops c n
 · exact r55_2 l Z a0 hw a a2 c n wS (0 : Int32) b k f z o (0 : Int32) b2 k2 f2 z2 h0 n0 Z0 H1 H2 H3 (by decide) H5 H6 H7 H8 H9 G3 (by decide) G5 G6 G7 hr0 H13 H14 H15 (fun k => hr0 ((lw_lt _ _).mp k)) (fun k => hn ((lw_eq _ _).mp k)) (fun k => A.1 ((lw_gt _ _).mp k)) ((lw_gt _ _).mpr hr) (fun k => by rw [k] at hr; exact absurd hr (by decide)) (fun k => A.2.1 hr ((lw_gt _ _).mp k)) ((lw_lt _ _).mpr A.2.2)
 · exact r55_3 l Z a0 hw a a2 c n wS (0 : Int32) b k f z o (0 : Int32) b2 k2 f2 z2 h0 n0 Z0 H1 H2 H3 (by decide) H5 H6 H7 H8 H9 G3 (by decide) G5 G6 G7 hr0 H13 H14 H15 (fun k => hr0 ((lw_lt _ _).mp k)) (fun k => hn ((lw_eq _ _).mp k)) (fun k => A.1 ((lw_gt _ _).mp k)) (fun k => hr ((lw_gt _ _).mp k)) ((lw_lt _ _).mpr A.2.2)
theorem d4_0 : Dc rev33 0 (.new 22) 3 := by decide +kernel
theorem d4_3 : Dc rev33 3 .dup 1 := by decide +kernel
theorem d4_4 : Dc rev33 4 (.invokespecial 24) 3 := by decide +kernel
theorem d5_0 : Dc rev34 0 (.aload_n 0) 1 := by decide +kernel
theorem d5_1 : Dc rev34 1 (.bipush 16) 2 := by decide +kernel
theorem d5_3 : Dc rev34 3 (.invokespecial 1) 3 := by decide +kernel
theorem d6_0 : Dc rev35 0 (.aload_n 0) 1 := by decide +kernel
theorem d6_1 : Dc rev35 1 (.invokespecial 3) 3 := by decide +kernel
theorem d6_4 : Dc rev35 4 (.getstatic 18) 3 := by decide +kernel
theorem d6_7 : Dc rev35 7 (.ifCond .eq 18) 3 := by decide +kernel
theorem d6_10 : Dc rev35 10 (.aload_n 0) 1 := by decide +kernel
theorem d6_11 : Dc rev35 11 (.iload_n 1) 1 := by decide +kernel
theorem d6_12 : Dc rev35 12 (.newarray .byte) 2 := by decide +kernel
theorem d6_14 : Dc rev35 14 (.putfield 15) 3 := by decide +kernel
theorem d6_17 : Dc rev35 17 (.aload_n 0) 1 := by decide +kernel
theorem d6_18 : Dc rev35 18 (.iconst 0) 1 := by decide +kernel
theorem d6_19 : Dc rev35 19 (.putfield 22) 3 := by decide +kernel
theorem d6_22 : Dc rev35 22 (.goto 16) 3 := by decide +kernel
theorem d6_38 : Dc rev35 38 .return_ 1 := by decide +kernel
theorem ef_6_vv (m : MethodId) (x0 : Addr) (x1 : Int32) : entryFrame m #[(.ref x0), (.int x1)] 2 = mkF m 0 #[.val (.ref x0), .val (.int x1)] [] := by first | (simp [entryFrame, mkF, argsToLocals, Value.category]; done) | rfl
def Qr6_1 (Z : State) (a1 : Addr) (p2 : Int32) (w3 : Int32) (w4 : Int32) (h0 : Heap) (n0 : Nat) (v : Option Value) (h : Heap) (L : List Loc) : Prop := Fr n0 L ∧ ∃ b5 : Addr, ∃ k5 : ClassId, v = none ∧ h0.size ≤ b5 ∧ KSx h0 h [(a1, Jvm.RoadKit.slotOf Z sK2 "value" "[B"), (a1, Jvm.RoadKit.slotOf Z sK2 "coder" "B")] [] ∧ Exa Z h b5 "[B" ∧ Fld Z h a1 sK2 "value" "[B" (.ref b5) ∧ Fld Z h a1 sK2 "coder" "B" (.int 0) ∧ BA Z h b5 k5 .byte p2 (fun _ => (0 : Int32))
theorem r6_1 (l : Launch) (Z : State) (a0 : Array Value) (hw : TW a0 Z) (a1 : Addr) (p2 : Int32) (w3 : Int32) (w4 : Int32) (h0 : Heap) (n0 : Nat) (Z0 : n0 ≤ h0.size) (H0 : Sta Z h0 sK1 sK3 "Z" (.int w3)) (H1 : ¬ (w3 = 0)) (H2 : ¬ (p2 < 0)) (H3 : ¬ ((70 : Int32) < p2)) (H4 : Exa Z h0 a1 sK4) (H5 : Fld Z h0 a1 sK2 "value" "[B" .null) (H6 : n0 ≤ a1) (H7 : Fld Z h0 a1 sK2 "coder" "B" (.int w4)) :
   OMet l Z mN35 jdk_68_method_2_code 2 none [] (Rm 1 1 70 12) h0 #[(.ref a1), (.int p2)] (Qr6_1 Z a1 p2 w3 w4 h0 n0) := by
 refine MetFree.of_bodySF (plainFor_of_name pn_java_lang_AbstractStringBuilder) hisR ?_
 intro p e s m args below meth c s₁ Bd hml0 hP hK
 obtain ⟨rfl, hZ, hh⟩ := hP
 have hx := Bd.exec
 have hby := Bd.bytes
 have hml : c.maxLocals = 2 := hml0
 have hown : s.vm.findClass sK2 = some m.cls := findClass_of_methodNamed Bd.named
 have X0 := own_X0 Bd
 have e0 : s₁.heap = h0 := by rw [← hh, Bd.state]; rfl
 have N0 := Fr.nil n0
 have pre0 : ∀ t, Steps p.tables e below (s₁.setTop (mkF m 0 #[vR a1, vI p2] [])) t → Steps p.tables e below (s₁.setTop (entryFrame m #[(.ref a1), (.int p2)] 2)) t := fun t k => castTop (ef_6_vv m a1 p2) k
 obtain ⟨T5, X5, e5, st5⟩ := initO X0 hx hZ hown (tw hw 40 rfl) (tw hw 13 rfl) (tw hw 14 rfl) e0 (g := (mkF m 1 #[vR a1, vI p2] [(.ref a1)])) rfl (by rw [hml]; rfl) rfl (hb hby d6_1) (by decide) (W := 0) (own_w _) (by decide)
 obtain ⟨T6, X6, e6, st6⟩ := getS2 X5 hx hZ hown (host := "") (Or.inl (tw hw 41 rfl)) Via.refl e5 H0 (g := (mkF m 4 #[vR a1, vI p2] [])) rfl (hb hby d6_4)
 obtain ⟨T7, h7, k7, X7, e7, E7, A7, Ea7, st7⟩ := newPE X6 hx hZ (tw hw 43 rfl) e6 (g := (mkF m 12 #[vR a1, vI p2] [(.int p2), (.ref a1)])) rfl (hb hby d6_12) rfl H2 (cap := 70) (own_cap (k := 70) (by decide) H3) (by decide) (by decide) (by decide) (ad := "[B") rfl
 obtain ⟨b7, g7⟩ : ∃ z, z = h0.size := ⟨_, rfl⟩
 rw [← g7] at A7 Ea7 st7
 have KC7 := KSx.ext (KSx.refl h0 [(a1, Jvm.RoadKit.slotOf Z sK2 "value" "[B"), (a1, Jvm.RoadKit.slotOf Z sK2 "coder" "B")] []) E7
 have B7 : BA Z h7 b7 k7 .byte p2 (fun _ => (0 : Int32)) := BA.new A7 H2 rfl rfl
 have f8 := (H4.ext E7)
 have f9 := (H5.ext E7)
 obtain ⟨T10, h10, X10, e10, W10, st10⟩ := putF X7 hx hZ hown (host := "") (Or.inl (tw hw 44 rfl)) Via.refl e7 f9 f8 (Or.inl (tw hw 45 rfl)) (tw hw 29 rfl) (ty := (.array .byte)) (by decide) rfl rfl (g := (mkF m 14 #[vR a1, vI p2] [(.ref b7), (.ref a1)])) rfl rfl (hb hby d6_14)
 have Fw10 := Fld.same W10 f9
 have KC10 := KSx.wr KC7 W10 (Or.inl (List.mem_of_getElem? (i := 0) rfl))
 have N10 := Fr.snoc X10 N0 H6
 have f11 := (f8.wr W10)
 have f12 := ((H7.ext E7).other W10 (Or.inr (slot_ne (Or.inl (tw hw 47 rfl)) (Or.inl (tw hw 45 rfl)) (by decide) (t := .byte) (t' := (.array .byte)) (by decide) (by decide))))
 obtain ⟨T13, h13, X13, e13, W13, st13⟩ := putF X10 hx hZ hown (host := "") (Or.inl (tw hw 46 rfl)) Via.refl e10 f12 f11 (Or.inl (tw hw 47 rfl)) (tw hw 29 rfl) (ty := .byte) (by decide) rfl rfl (g := (mkF m 19 #[vR a1, vI p2] [(.int 0), (.ref a1)])) rfl rfl (hb hby d6_19)
 have Fw13 := Fld.same W13 f12
 have KC13 := KSx.wr KC10 W13 (Or.inl (List.mem_of_getElem? (i := 1) rfl))
 have N13 := Fr.snoc X13 N10 H6
 have f14 := ((Ea7.wr W10).wr W13)
 have f15 := (Fw10.other W13 (Or.inr (slot_ne (Or.inl (tw hw 45 rfl)) (Or.inl (tw hw 47 rfl)) (by decide) (t := (.array .byte)) (t' := .byte) (by decide) (by decide))))
 have ne16 : a1 ≠ b7 := (Nat.ne_of_lt (Nat.lt_of_lt_of_le (H4).lt (Nat.le_of_eq g7.symm)))
 have f17 := ((B7.other W10 (Ne.symm ne16)).other W13 (Ne.symm ne16))
 obtain ⟨fs, hr, hrun, hended, hW, hsame⟩ := X13.leave (v := none) (fun _ => rfl)
 refine ⟨_, _, pre0 _ ?_, hrun, hended, _, _, rfl, ?_, ⟨_, rfl⟩, hW, hsame.mono (by decide) (by decide)⟩
 · show SG p e below s₁ (mkF m 0 #[vR a1, vI p2] []) _
   refine XS.aloadN X0.here hx rfl (hb hby d6_0) rfl rfl ?_
   show SG p e below s₁ (mkF m 1 #[vR a1, vI p2] [(.ref a1)]) _
   refine st5 _ ?_
   show SG p e below T5 (mkF m 4 #[vR a1, vI p2] []) _
   refine st6 _ ?_
   show SG p e below T6 (mkF m 7 #[vR a1, vI p2] [(.int w3)]) _
   refine XS.ifNo X6.here hx rfl (hb hby d6_7) rfl ((if0 _ _).trans (feq H1).1) ?_
   show SG p e below T6 (mkF m 10 #[vR a1, vI p2] []) _
   refine XS.aloadN X6.here hx rfl (hb hby d6_10) rfl rfl ?_
   refine XS.iloadN X6.here hx rfl (hb hby d6_11) rfl ?_
   show SG p e below T6 (mkF m 12 #[vR a1, vI p2] [(.int p2), (.ref a1)]) _
   refine st7 _ ?_
   show SG p e below T7 (mkF m 14 #[vR a1, vI p2] [(.ref b7), (.ref a1)]) _
   refine st10 _ ?_
   show SG p e below T10 (mkF m 17 #[vR a1, vI p2] []) _
   refine XS.aloadN X10.here hx rfl (hb hby d6_17) rfl rfl ?_
   refine XS.iconst X10.here hx rfl (hb hby d6_18) ?_
   show SG p e below T10 (mkF m 19 #[vR a1, vI p2] [(.int 0), (.ref a1)]) _
   refine st13 _ ?_
   show SG p e below T13 (mkF m 22 #[vR a1, vI p2] []) _
   refine XS.goto X13.here hx rfl (pc0 := 22) (pc' := 38) rfl (hb hby d6_22) (by decide) (by decide) ?_
   show SG p e below T13 (mkF m 38 #[vR a1, vI p2] []) _
   exact X13.returnOut hx Bd.returns (hb hby d6_38) hr
 · show Qr6_1 Z a1 p2 w3 w4 h0 n0 _ T13.heap _
   rw [e13]
   exact ⟨N13, b7, k7, rfl, (Nat.le_trans (KSx.refl h0 [(a1, Jvm.RoadKit.slotOf Z sK2 "value" "[B"), (a1, Jvm.RoadKit.slotOf Z sK2 "coder" "B")] []).1 (Nat.le_of_eq g7.symm)), KC13, f14, f15, Fw13, f17⟩
theorem d5_6 : Dc rev34 6 .return_ 1 := by decide +kernel
theorem ef_5_v (m : MethodId) (x0 : Addr) : entryFrame m #[(.ref x0)] 1 = mkF m 0 #[.val (.ref x0)] [] := by first | (simp [entryFrame, mkF, argsToLocals, Value.category]; done) | rfl
def Qr5_1 (Z : State) (a1 : Addr) (w2 : Int32) (w3 : Int32) (h0 : Heap) (n0 : Nat) (v : Option Value) (h : Heap) (L : List Loc) : Prop := Fr n0 L ∧ ∃ b4_0 : Addr, ∃ k4_0 : ClassId, v = none ∧ h0.size ≤ b4_0 ∧ KSx h0 h [(a1, Jvm.RoadKit.slotOf Z sK2 "coder" "B"), (a1, Jvm.RoadKit.slotOf Z sK2 "value" "[B")] [] ∧ Exa Z h b4_0 "[B" ∧ Fld Z h a1 sK2 "value" "[B" (.ref b4_0) ∧ Fld Z h a1 sK2 "coder" "B" (.int 0) ∧ BA Z h b4_0 k4_0 .byte (16 : Int32) (fun _ => (0 : Int32))
theorem r5_1 (l : Launch) (Z : State) (a0 : Array Value) (hw : TW a0 Z) (a1 : Addr) (w2 : Int32) (w3 : Int32) (h0 : Heap) (n0 : Nat) (Z0 : n0 ≤ h0.size) (H0 : Sta Z h0 sK1 sK3 "Z" (.int w2)) (H1 : ¬ (w2 = 0)) (H2 : Exa Z h0 a1 sK4) (H3 : Fld Z h0 a1 sK2 "value" "[B" .null) (H4 : n0 ≤ a1) (H5 : Fld Z h0 a1 sK2 "coder" "B" (.int w3)) :
   OMet l Z mN36 jdk_67_method_1_code 1 none [] (Rm 2 1 70 25) h0 #[(.ref a1)] (Qr5_1 Z a1 w2 w3 h0 n0) := by
 refine MetFree.of_bodySF (plainFor_of_name pn_java_lang_StringBuilder) hisR ?_
 intro p e s m args below meth c s₁ Bd hml0 hP hK
 obtain ⟨rfl, hZ, hh⟩ := hP
 have hx := Bd.exec
 have hby := Bd.bytes
 have hml : c.maxLocals = 1 := hml0
 have hown : s.vm.findClass sK4 = some m.cls := findClass_of_methodNamed Bd.named
 have X0 := own_X0 Bd
 have e0 : s₁.heap = h0 := by rw [← hh, Bd.state]; rfl
 have N0 := Fr.nil n0
 have pre0 : ∀ t, Steps p.tables e below (s₁.setTop (mkF m 0 #[vR a1] [])) t → Steps p.tables e below (s₁.setTop (entryFrame m #[(.ref a1)] 1)) t := fun t k => castTop (ef_5_v m a1) k
 obtain ⟨_, _, ⟨T4, _, _, _⟩, -, X4, ⟨_, hQ, lq, yq, zq⟩, st4⟩ := X0.specialBack hx (y := mN35) rfl hown (mvT hZ (tw hw 34 rfl)) (mvT hZ (tw hw 35 rfl)) (mvT hZ (tw hw 39 rfl)) (by decide) (backOf (W := 0) (r6_1 l Z a0 hw a1 (16 : Int32) w2 w3 h0 n0 Z0 H0 H1 (by first | decide | rfl) (by first | decide | rfl) H2 H3 H4 H5) hZ (tw hw 39 rfl) (tw hw 38 rfl) (by decide) (by decide)) (g := (mkF m 3 #[vR a1] [(.int 16), (.ref a1)])) rfl (by rw [hml]; rfl) (Steps.refl _) (a := a1) (argsL := [(.int 16)]) (rest := []) (lenOf pd_11 rfl) rfl (own_w _) (hb hby d5_3) (fun _ _ => ⟨rfl, e0, (by decide : 0 + 1 ≤ _), (by decide : 0 + 70 ≤ _)⟩)
 dsimp only [Pt.U, Pt.locs, Pt.cells, Pt.slots] at X4 lq yq zq st4 hQ
 replace X4 := own_mvX X4 (a := 1) (b := 70) yq zq
 obtain ⟨Nq, b4_0, k4_0, rfl, ge_b4_0, K4, o4_0, o4_1, o4_2, o4_3⟩ := hQ
 have N4 := own_mvN lq N0 Nq
 have KC4 := KSx.trans (KSx.refl h0 [(a1, Jvm.RoadKit.slotOf Z sK2 "coder" "B"), (a1, Jvm.RoadKit.slotOf Z sK2 "value" "[B")] []) K4 (ksS (Or.inl (List.mem_of_getElem? (i := 1) rfl)) (ksS (Or.inl (List.mem_of_getElem? (i := 0) rfl)) ks0)) all0
 obtain ⟨fs, hr, hrun, hended, hW, hsame⟩ := X4.leave (v := none) (fun _ => rfl)
 refine ⟨_, _, pre0 _ ?_, hrun, hended, _, _, rfl, ?_, ⟨_, rfl⟩, hW, hsame.mono (by decide) (by decide)⟩
 · show SG p e below s₁ (mkF m 0 #[vR a1] []) _
   refine XS.aloadN X0.here hx rfl (hb hby d5_0) rfl rfl ?_
   refine XS.bipush X0.here hx rfl (hb hby d5_1) ?_
   show SG p e below s₁ (mkF m 3 #[vR a1] [(.int 16), (.ref a1)]) _
   refine st4.trans ?_
   show SG p e below T4 (mkF m 6 #[vR a1] []) _
   exact X4.returnOut hx Bd.returns (hb hby d5_6) hr
 · show Qr5_1 Z a1 w2 w3 h0 n0 _ T4.heap _
   exact ⟨N4, b4_0, k4_0, rfl, (Nat.le_trans (KSx.refl h0 [(a1, Jvm.RoadKit.slotOf Z sK2 "coder" "B"), (a1, Jvm.RoadKit.slotOf Z sK2 "value" "[B")] []).1 ge_b4_0), KC4, o4_0, o4_1, o4_2, o4_3⟩
theorem pd_24 : parseMethodDescriptor "()V" = some ⟨[], none⟩ := by decide +kernel
theorem d4_7 : Dc rev33 7 (.ldc 25) 2 := by decide +kernel
theorem str_in : ∀ w ∈ Bundle.stringAtoms, w ∈ tables_1 := by decide +kernel
theorem d4_9 : Dc rev33 9 (.invokevirtual 27) 3 := by decide +kernel
theorem d7_0 : Dc rev36 0 (.aload_n 0) 1 := by decide +kernel
theorem d7_1 : Dc rev36 1 (.aload_n 1) 1 := by decide +kernel
theorem d7_2 : Dc rev36 2 (.invokespecial 29) 3 := by decide +kernel
theorem d8_0 : Dc rev37 0 (.aload_n 1) 1 := by decide +kernel
theorem d8_1 : Dc rev37 1 (.ifnonnull 8) 3 := by decide +kernel
theorem d8_9 : Dc rev37 9 (.aload_n 1) 1 := by decide +kernel
theorem d8_10 : Dc rev37 10 (.invokevirtual 32) 3 := by decide +kernel
theorem d8_13 : Dc rev37 13 (.istore_n 2) 1 := by decide +kernel
theorem d8_14 : Dc rev37 14 (.aload_n 0) 1 := by decide +kernel
theorem d8_15 : Dc rev37 15 (.aload_n 0) 1 := by decide +kernel
theorem d8_16 : Dc rev37 16 (.getfield 79) 3 := by decide +kernel
theorem d8_19 : Dc rev37 19 (.iload_n 2) 1 := by decide +kernel
theorem d8_20 : Dc rev37 20 .iadd 1 := by decide +kernel
theorem d8_21 : Dc rev37 21 (.invokevirtual 100) 3 := by decide +kernel
theorem d8_24 : Dc rev37 24 (.aload_n 0) 1 := by decide +kernel
theorem d8_25 : Dc rev37 25 (.aload_n 0) 1 := by decide +kernel
theorem d8_26 : Dc rev37 26 (.getfield 79) 3 := by decide +kernel
theorem d8_29 : Dc rev37 29 (.aload_n 1) 1 := by decide +kernel
theorem d8_30 : Dc rev37 30 (.invokevirtual 208) 3 := by decide +kernel
theorem d12_0 : Dc rev38 0 (.aload_n 0) 1 := by decide +kernel
theorem d12_1 : Dc rev38 1 (.aload_n 2) 1 := by decide +kernel
theorem d12_2 : Dc rev38 2 (.invokevirtual 397) 3 := by decide +kernel
theorem d13_0 : Dc rev39 0 (.getstatic 18) 3 := by decide +kernel
theorem d13_3 : Dc rev39 3 (.ifCond .eq 18) 3 := by decide +kernel
theorem d13_6 : Dc rev39 6 (.aload_n 0) 1 := by decide +kernel
theorem d13_7 : Dc rev39 7 (.getfield 22) 3 := by decide +kernel
theorem d13_10 : Dc rev39 10 (.aload_n 1) 1 := by decide +kernel
theorem d13_11 : Dc rev39 11 (.invokevirtual 40) 3 := by decide +kernel
theorem d13_14 : Dc rev39 14 (.if_icmp .eq 7) 3 := by decide +kernel
theorem d13_21 : Dc rev39 21 .return_ 1 := by decide +kernel
theorem ef_13_vv (m : MethodId) (x0 : Addr) (x1 : Addr) : entryFrame m #[(.ref x0), (.ref x1)] 2 = mkF m 0 #[.val (.ref x0), .val (.ref x1)] [] := by first | (simp [entryFrame, mkF, argsToLocals, Value.category]; done) | rfl
theorem r13_1 (l : Launch) (Z : State) (a0 : Array Value) (hw : TW a0 Z) (a1 : Addr) (a2 : Addr) (w3 : Int32) (w4 : Int32) (w5 : Int32) (h0 : Heap) (n0 : Nat) (Z0 : n0 ≤ h0.size) (H0 : Sta Z h0 sK1 sK3 "Z" (.int w3)) (H1 : ¬ (w3 = 0)) (H2 : Fld Z h0 a1 sK2 "coder" "B" (.int w4)) (H3 : Fld Z h0 a2 sK1 "coder" "B" (.int w5)) (H4 : nar .byte w5 = w5) (H5 : Exa Z h0 a2 sK1) (H6 : w4 = w5) :
   OMet l Z mN37 jdk_68_method_71_code 2 none [] (Rm 1 0 0 13) h0 #[(.ref a1), (.ref a2)] (OQp (none) h0 n0) := by
 refine MetFree.of_bodySF (plainFor_of_name pn_java_lang_AbstractStringBuilder) hisR ?_
 intro p e s m args below meth c s₁ Bd hml0 hP hK
 obtain ⟨rfl, hZ, hh⟩ := hP
 have hx := Bd.exec
 have hby := Bd.bytes
 have hml : c.maxLocals = 2 := hml0
 have hown : s.vm.findClass sK2 = some m.cls := findClass_of_methodNamed Bd.named
 have X0 := own_X0 Bd
 have e0 : s₁.heap = h0 := by rw [← hh, Bd.state]; rfl
 have N0 := Fr.nil n0
 have pre0 : ∀ t, Steps p.tables e below (s₁.setTop (mkF m 0 #[vR a1, vR a2] [])) t → Steps p.tables e below (s₁.setTop (entryFrame m #[(.ref a1), (.ref a2)] 2)) t := fun t k => castTop (ef_13_vv m a1 a2) k
 obtain ⟨T6, X6, e6, st6⟩ := getS2 X0 hx hZ hown (host := "") (Or.inl (tw hw 41 rfl)) Via.refl e0 H0 (g := (mkF m 0 #[vR a1, vR a2] [])) rfl (hb hby d13_0)
 obtain ⟨T7, X7, e7, st7⟩ := getF X6 hx hZ hown (host := "") (Or.inl (tw hw 46 rfl)) Via.refl e6 H2 (g := (mkF m 7 #[vR a1, vR a2] [(.ref a1)])) rfl rfl (hb hby d13_7)
 obtain ⟨cq8, kq8, q8a, q8b, q8c⟩ := isOf hZ e7 H5
 obtain ⟨_, _, ⟨T8, _, _, _⟩, -, X8, ⟨_, hQ, lq, yq, zq⟩, st8⟩ := X7.virtualBack hx (y := mN27) (z := mN27) hown (mvT hZ (tw hw 94 rfl)) (mvT hZ (tw hw 71 rfl)) (notFace_of_selects (args := #[]) (mvT hZ (tw hw 73 rfl))) (mvT hZ (tw hw 73 rfl)) (mvT hZ (tw hw 72 rfl)) (by decide) (backOf (W := 1) (r10_1 l Z a0 hw a2 w3 w5 h0 n0 Z0 H0 H1 H3 H4) hZ (tw hw 74 rfl) (tw hw 42 rfl) (by decide) (by decide)) q8a q8c (g := (mkF m 11 #[vR a1, vR a2] [(.ref a2), (.int w4)])) rfl (by rw [hml]; rfl) (Steps.refl _) (argsL := []) (rest := [(.int w4)]) (lenOf pd_17 rfl) rfl (own_w _) (hb hby d13_11) (fun _ _ => ⟨rfl, e7, (by decide : 0 + 0 ≤ _), (by decide : 0 + 0 ≤ _)⟩)
 dsimp only [Pt.U, Pt.locs, Pt.cells, Pt.slots] at X8 lq yq zq st8 hQ
 replace X8 := own_mvX X8 (a := 0) (b := 0) yq zq
 obtain ⟨rfl, Nq, e8⟩ := hQ
 have N8 := own_mvN lq N0 Nq
 obtain ⟨fs, hr, hrun, hended, hW, hsame⟩ := X8.leave (v := none) (fun _ => rfl)
 refine ⟨_, _, pre0 _ ?_, hrun, hended, _, _, rfl, ?_, ⟨_, rfl⟩, hW, hsame.mono (by decide) (by decide)⟩
 · show SG p e below s₁ (mkF m 0 #[vR a1, vR a2] []) _
   refine st6 _ ?_
   show SG p e below T6 (mkF m 3 #[vR a1, vR a2] [(.int w3)]) _
   refine XS.ifNo X6.here hx rfl (hb hby d13_3) rfl ((if0 _ _).trans (feq H1).1) ?_
   show SG p e below T6 (mkF m 6 #[vR a1, vR a2] []) _
   refine XS.aloadN X6.here hx rfl (hb hby d13_6) rfl rfl ?_
   show SG p e below T6 (mkF m 7 #[vR a1, vR a2] [(.ref a1)]) _
   refine st7 _ ?_
   show SG p e below T7 (mkF m 10 #[vR a1, vR a2] [(.int w4)]) _
   refine XS.aloadN X7.here hx rfl (hb hby d13_10) rfl rfl ?_
   show SG p e below T7 (mkF m 11 #[vR a1, vR a2] [(.ref a2), (.int w4)]) _
   refine st8.trans ?_
   show SG p e below T8 (mkF m 14 #[vR a1, vR a2] [(.int w5), (.int w4)]) _
   refine XS.icmpYes X8.here hx rfl (pc0 := 14) (pc' := 21) rfl (hb hby d13_14) rfl (teq H6).1 (by decide) (by decide) ?_
   show SG p e below T8 (mkF m 21 #[vR a1, vR a2] []) _
   exact X8.returnOut hx Bd.returns (hb hby d13_21) hr
 · show OQp (none) h0 n0 _ T8.heap _
   rw [e8]
   exact ⟨rfl, N8, rfl⟩
theorem pd_25 : parseMethodDescriptor "(Ljava/lang/String;)V" = some ⟨[(.object "java/lang/String")], none⟩ := by decide +kernel
theorem d12_5 : Dc rev38 5 (.aload_n 2) 1 := by decide +kernel
theorem d12_6 : Dc rev38 6 (.aload_n 0) 1 := by decide +kernel
theorem d12_7 : Dc rev38 7 (.getfield 15) 3 := by decide +kernel
theorem d12_10 : Dc rev38 10 (.iload_n 1) 1 := by decide +kernel
theorem d12_11 : Dc rev38 11 (.aload_n 0) 1 := by decide +kernel
theorem d12_12 : Dc rev38 12 (.getfield 22) 3 := by decide +kernel
theorem d12_15 : Dc rev38 15 (.invokevirtual 399) 3 := by decide +kernel
theorem d14_0 : Dc rev40 0 (.aload_n 0) 1 := by decide +kernel
theorem d14_1 : Dc rev40 1 (.invokevirtual 335) 3 := by decide +kernel
theorem d14_4 : Dc rev40 4 (.iload_n 3) 1 := by decide +kernel
theorem d14_5 : Dc rev40 5 (.if_icmp .ne 23) 3 := by decide +kernel
theorem d14_8 : Dc rev40 8 (.aload_n 0) 1 := by decide +kernel
theorem d14_9 : Dc rev40 9 (.getfield 9) 3 := by decide +kernel
theorem d14_12 : Dc rev40 12 (.iconst 0) 1 := by decide +kernel
theorem d14_13 : Dc rev40 13 (.aload_n 1) 1 := by decide +kernel
theorem d14_14 : Dc rev40 14 (.iload_n 2) 1 := by decide +kernel
theorem d14_15 : Dc rev40 15 (.iload_n 3) 1 := by decide +kernel
theorem d14_16 : Dc rev40 16 .ishl 1 := by decide +kernel
theorem d14_17 : Dc rev40 17 (.aload_n 0) 1 := by decide +kernel
theorem d14_18 : Dc rev40 18 (.getfield 9) 3 := by decide +kernel
theorem d14_21 : Dc rev40 21 .arraylength 1 := by decide +kernel
theorem d14_22 : Dc rev40 22 (.invokestatic 212) 3 := by decide +kernel
theorem d14_25 : Dc rev40 25 (.goto 18) 3 := by decide +kernel
theorem d14_43 : Dc rev40 43 .return_ 1 := by decide +kernel
theorem ef_14_vvvv (m : MethodId) (x0 : Addr) (x1 : Addr) (x2 : Int32) (x3 : Int32) : entryFrame m #[(.ref x0), (.ref x1), (.int x2), (.int x3)] 4 = mkF m 0 #[.val (.ref x0), .val (.ref x1), .val (.int x2), .val (.int x3)] [] := by first | (simp [entryFrame, mkF, argsToLocals, Value.category]; done) | rfl
def Qr14_1 (Z : State) (a1 : Addr) (a2 : Addr) (p3 : Int32) (p4 : Int32) (w5 : Int32) (w6 : Int32) (w7 : Addr) (k8 : ClassId) (u9 : Nat → Int32) (p10 : Int32) (k11 : ClassId) (u12 : Nat → Int32) (p13 : Int32) (h0 : Heap) (n0 : Nat) (v : Option Value) (h : Heap) (L : List Loc) : Prop := Fr n0 L ∧ v = none ∧ KSx h0 h [] [a2] ∧ BA Z h a2 k11 .byte p13 (fun i => if ((p3 <<< (p4 &&& 31))).toNatClampNeg ≤ i ∧ i < ((p3 <<< (p4 &&& 31))).toNatClampNeg + (p10).toNatClampNeg then u9 (((0 : Int32)).toNatClampNeg + (i - ((p3 <<< (p4 &&& 31))).toNatClampNeg)) else u12 i)
theorem r14_1 (l : Launch) (Z : State) (a0 : Array Value) (hw : TW a0 Z) (a1 : Addr) (a2 : Addr) (p3 : Int32) (p4 : Int32) (w5 : Int32) (w6 : Int32) (w7 : Addr) (k8 : ClassId) (u9 : Nat → Int32) (p10 : Int32) (k11 : ClassId) (u12 : Nat → Int32) (p13 : Int32) (h0 : Heap) (n0 : Nat) (Z0 : n0 ≤ h0.size) (H0 : Sta Z h0 sK1 sK3 "Z" (.int w5)) (H1 : ¬ (w5 = 0)) (H2 : Fld Z h0 a1 sK1 "coder" "B" (.int w6)) (H3 : nar .byte w6 = w6) (H4 : Exa Z h0 a1 sK1) (H5 : w6 = p4) (H6 : Fld Z h0 a1 sK1 "value" "[B" (.ref w7)) (H7 : BA Z h0 w7 k8 .byte p10 u9) (H8 : BA Z h0 a2 k11 .byte p13 u12) (H9 : ¬ ((p3 <<< (p4 &&& 31)) < 0)) (H10 : ¬ (p10 < 0)) (H11 : ((0 : Int32)).toNatClampNeg + (p10).toNatClampNeg ≤ (p10).toNatClampNeg) (H12 : ((p3 <<< (p4 &&& 31))).toNatClampNeg + (p10).toNatClampNeg ≤ (p13).toNatClampNeg) (H13 : n0 ≤ a2) :
   OMet l Z mN38 jdk_42_method_147_code 4 none [] (Rm 1 0 0 18) h0 #[(.ref a1), (.ref a2), (.int p3), (.int p4)] (Qr14_1 Z a1 a2 p3 p4 w5 w6 w7 k8 u9 p10 k11 u12 p13 h0 n0) := by
 refine MetFree.of_bodySF (plainFor_of_name pn_java_lang_String) hisR ?_
 intro p e s m args below meth c s₁ Bd hml0 hP hK
 obtain ⟨rfl, hZ, hh⟩ := hP
 have hx := Bd.exec
 have hby := Bd.bytes
 have hml : c.maxLocals = 4 := hml0
 have hown : s.vm.findClass sK1 = some m.cls := findClass_of_methodNamed Bd.named
 have X0 := own_X0 Bd
 have e0 : s₁.heap = h0 := by rw [← hh, Bd.state]; rfl
 have N0 := Fr.nil n0
 have pre0 : ∀ t, Steps p.tables e below (s₁.setTop (mkF m 0 #[vR a1, vR a2, vI p3, vI p4] [])) t → Steps p.tables e below (s₁.setTop (entryFrame m #[(.ref a1), (.ref a2), (.int p3), (.int p4)] 4)) t := fun t k => castTop (ef_14_vvvv m a1 a2 p3 p4) k
 obtain ⟨cq14, kq14, q14a, q14b, q14c⟩ := isOf hZ e0 H4
 obtain ⟨_, _, ⟨T14, _, _, _⟩, -, X14, ⟨_, hQ, lq, yq, zq⟩, st14⟩ := X0.virtualBack hx (y := mN27) (z := mN27) hown (mvT hZ (tw hw 70 rfl)) (mvT hZ (tw hw 71 rfl)) (notFace_of_selects (args := #[]) (mvT hZ (tw hw 73 rfl))) (mvT hZ (tw hw 73 rfl)) (mvT hZ (tw hw 72 rfl)) (by decide) (backOf (W := 0) (r10_1 l Z a0 hw a1 w5 w6 h0 n0 Z0 H0 H1 H2 H3) hZ (tw hw 74 rfl) (tw hw 42 rfl) (by decide) (by decide)) q14a q14c (g := (mkF m 1 #[vR a1, vR a2, vI p3, vI p4] [(.ref a1)])) rfl (by rw [hml]; rfl) (Steps.refl _) (argsL := []) (rest := []) (lenOf pd_17 rfl) rfl (own_w _) (hb hby d14_1) (fun _ _ => ⟨rfl, e0, (by decide : 0 + 0 ≤ _), (by decide : 0 + 0 ≤ _)⟩)
 dsimp only [Pt.U, Pt.locs, Pt.cells, Pt.slots] at X14 lq yq zq st14 hQ
 replace X14 := own_mvX X14 (a := 0) (b := 0) yq zq
 obtain ⟨rfl, Nq, e14⟩ := hQ
 have N14 := own_mvN lq N0 Nq
 obtain ⟨T15, X15, e15, st15⟩ := getF X14 hx hZ hown (host := "") (Or.inl (tw hw 69 rfl)) Via.refl e14 H6 (g := (mkF m 9 #[vR a1, vR a2, vI p3, vI p4] [(.ref a1)])) rfl rfl (hb hby d14_9)
 obtain ⟨T16, X16, e16, st16⟩ := getF X15 hx hZ hown (host := "") (Or.inl (tw hw 69 rfl)) Via.refl e15 H6 (g := (mkF m 18 #[vR a1, vR a2, vI p3, vI p4] [(.ref a1), (.int (p3 <<< (p4 &&& 31))), (.ref a2), (.int 0), (.ref w7)])) rfl rfl (hb hby d14_18)
 have vc17 := H7
 obtain ⟨cl17, Ar17, q17, S17, N17, Hh17, G17⟩ := vc17
 obtain ⟨T18, h18, L18, X18, e18, N18, K18, B18, st18⟩ := cpB X16 hx hZ hown (tw hw 100 rfl) (tw hw 103 rfl) (tw hw 101 rfl) (tw hw 102 rfl) e16 H7 H8 rfl (by decide) H9 H10 H11 H12 N14 H13 (g0 := (mkF m 22 #[vR a1, vR a2, vI p3, vI p4] [(.int p10), (.int (p3 <<< (p4 &&& 31))), (.ref a2), (.int 0), (.ref w7)])) rfl (by rw [hml]; rfl) rfl (hb hby d14_22) (by decide) (W := 0) (own_w _) (by decide)
 have KC18 := KSx.trans (KSx.refl h0 [] [a2]) K18 ks0 (allS (Or.inl (List.mem_of_getElem? (i := 0) rfl)) all0)
 obtain ⟨fs, hr, hrun, hended, hW, hsame⟩ := X18.leave (v := none) (fun _ => rfl)
 refine ⟨_, _, pre0 _ ?_, hrun, hended, _, _, rfl, ?_, ⟨_, rfl⟩, hW, hsame.mono (by decide) (by decide)⟩
 · show SG p e below s₁ (mkF m 0 #[vR a1, vR a2, vI p3, vI p4] []) _
   refine XS.aloadN X0.here hx rfl (hb hby d14_0) rfl rfl ?_
   show SG p e below s₁ (mkF m 1 #[vR a1, vR a2, vI p3, vI p4] [(.ref a1)]) _
   refine st14.trans ?_
   show SG p e below T14 (mkF m 4 #[vR a1, vR a2, vI p3, vI p4] [(.int w6)]) _
   refine XS.iloadN X14.here hx rfl (hb hby d14_4) rfl ?_
   refine XS.icmpNo X14.here hx rfl (hb hby d14_5) rfl (teq H5).2 ?_
   show SG p e below T14 (mkF m 8 #[vR a1, vR a2, vI p3, vI p4] []) _
   refine XS.aloadN X14.here hx rfl (hb hby d14_8) rfl rfl ?_
   show SG p e below T14 (mkF m 9 #[vR a1, vR a2, vI p3, vI p4] [(.ref a1)]) _
   refine st15 _ ?_
   show SG p e below T15 (mkF m 12 #[vR a1, vR a2, vI p3, vI p4] [(.ref w7)]) _
   refine XS.iconst X15.here hx rfl (hb hby d14_12) ?_
   refine XS.aloadN X15.here hx rfl (hb hby d14_13) rfl rfl ?_
   show SG p e below T15 (mkF m 14 #[vR a1, vR a2, vI p3, vI p4] [(.ref a2), (.int 0), (.ref w7)]) _
   refine XS.iloadN X15.here hx rfl (hb hby d14_14) rfl ?_
   refine XS.iloadN X15.here hx rfl (hb hby d14_15) rfl ?_
   show SG p e below T15 (mkF m 16 #[vR a1, vR a2, vI p3, vI p4] [(.int p4), (.int p3), (.ref a2), (.int 0), (.ref w7)]) _
   refine XS.ishl X15.here hx rfl (hb hby d14_16) rfl ?_
   show SG p e below T15 (mkF m 17 #[vR a1, vR a2, vI p3, vI p4] [(.int (p3 <<< (p4 &&& 31))), (.ref a2), (.int 0), (.ref w7)]) _
   refine XS.aloadN X15.here hx rfl (hb hby d14_17) rfl rfl ?_
   show SG p e below T15 (mkF m 18 #[vR a1, vR a2, vI p3, vI p4] [(.ref a1), (.int (p3 <<< (p4 &&& 31))), (.ref a2), (.int 0), (.ref w7)]) _
   refine st16 _ ?_
   show SG p e below T16 (mkF m 21 #[vR a1, vR a2, vI p3, vI p4] [(.ref w7), (.int (p3 <<< (p4 &&& 31))), (.ref a2), (.int 0), (.ref w7)]) _
   refine X16.arraylength hx (by rw [e16]; exact Ar17.1) (State.isArrayOf_alike hZ.alike Ar17.2.1) (g := (mkF m 21 #[vR a1, vR a2, vI p3, vI p4] [(.ref w7), (.int (p3 <<< (p4 &&& 31))), (.ref a2), (.int 0), (.ref w7)])) rfl rfl (hb hby d14_21) _ ?_
   rw [len_of S17 N17]
   show SG p e below T16 (mkF m 22 #[vR a1, vR a2, vI p3, vI p4] [(.int p10), (.int (p3 <<< (p4 &&& 31))), (.ref a2), (.int 0), (.ref w7)]) _
   refine st18 _ ?_
   show SG p e below T18 (mkF m 25 #[vR a1, vR a2, vI p3, vI p4] []) _
   refine XS.goto X18.here hx rfl (pc0 := 25) (pc' := 43) rfl (hb hby d14_25) (by decide) (by decide) ?_
   show SG p e below T18 (mkF m 43 #[vR a1, vR a2, vI p3, vI p4] []) _
   exact X18.returnOut hx Bd.returns (hb hby d14_43) hr
 · show Qr14_1 Z a1 a2 p3 p4 w5 w6 w7 k8 u9 p10 k11 u12 p13 h0 n0 _ T18.heap _
   rw [e18]
   exact ⟨N18, rfl, KC18, B18⟩
theorem pd_26 : parseMethodDescriptor "([BIB)V" = some ⟨[(.array .byte), .int, .byte], none⟩ := by decide +kernel
theorem d12_18 : Dc rev38 18 .return_ 1 := by decide +kernel
theorem ef_12_vvv (m : MethodId) (x0 : Addr) (x1 : Int32) (x2 : Addr) : entryFrame m #[(.ref x0), (.int x1), (.ref x2)] 3 = mkF m 0 #[.val (.ref x0), .val (.int x1), .val (.ref x2)] [] := by first | (simp [entryFrame, mkF, argsToLocals, Value.category]; done) | rfl
def Qr12_1 (Z : State) (a1 : Addr) (p2 : Int32) (a3 : Addr) (w4 : Int32) (w5 : Int32) (w6 : Int32) (w7 : Addr) (w8 : Addr) (k9 : ClassId) (u10 : Nat → Int32) (p11 : Int32) (k12 : ClassId) (u13 : Nat → Int32) (p14 : Int32) (h0 : Heap) (n0 : Nat) (v : Option Value) (h : Heap) (L : List Loc) : Prop := Fr n0 L ∧ v = none ∧ KSx h0 h [] [w7] ∧ BA Z h w7 k12 .byte p14 (fun i => if ((p2 <<< (w5 &&& 31))).toNatClampNeg ≤ i ∧ i < ((p2 <<< (w5 &&& 31))).toNatClampNeg + (p11).toNatClampNeg then u10 (((0 : Int32)).toNatClampNeg + (i - ((p2 <<< (w5 &&& 31))).toNatClampNeg)) else u13 i)
theorem r12_1 (l : Launch) (Z : State) (a0 : Array Value) (hw : TW a0 Z) (a1 : Addr) (p2 : Int32) (a3 : Addr) (w4 : Int32) (w5 : Int32) (w6 : Int32) (w7 : Addr) (w8 : Addr) (k9 : ClassId) (u10 : Nat → Int32) (p11 : Int32) (k12 : ClassId) (u13 : Nat → Int32) (p14 : Int32) (h0 : Heap) (n0 : Nat) (Z0 : n0 ≤ h0.size) (H0 : Sta Z h0 sK1 sK3 "Z" (.int w4)) (H1 : ¬ (w4 = 0)) (H2 : Fld Z h0 a1 sK2 "coder" "B" (.int w5)) (H3 : Fld Z h0 a3 sK1 "coder" "B" (.int w6)) (H4 : nar .byte w6 = w6) (H5 : Exa Z h0 a3 sK1) (H6 : w5 = w6) (H7 : Exa Z h0 a1 sK4) (H8 : Fld Z h0 a1 sK2 "value" "[B" (.ref w7)) (H9 : w6 = w5) (H10 : Fld Z h0 a3 sK1 "value" "[B" (.ref w8)) (H11 : BA Z h0 w8 k9 .byte p11 u10) (H12 : BA Z h0 w7 k12 .byte p14 u13) (H13 : ¬ ((p2 <<< (w5 &&& 31)) < 0)) (H14 : ¬ (p11 < 0)) (H15 : ((0 : Int32)).toNatClampNeg + (p11).toNatClampNeg ≤ (p11).toNatClampNeg) (H16 : ((p2 <<< (w5 &&& 31))).toNatClampNeg + (p11).toNatClampNeg ≤ (p14).toNatClampNeg) (H17 : n0 ≤ w7) :
   OMet l Z mN39 jdk_68_method_73_code 3 none [] (Rm 2 0 0 33) h0 #[(.ref a1), (.int p2), (.ref a3)] (Qr12_1 Z a1 p2 a3 w4 w5 w6 w7 w8 k9 u10 p11 k12 u13 p14 h0 n0) := by
 refine MetFree.of_bodySF (plainFor_of_name pn_java_lang_AbstractStringBuilder) hisR ?_
 intro p e s m args below meth c s₁ Bd hml0 hP hK
 obtain ⟨rfl, hZ, hh⟩ := hP
 have hx := Bd.exec
 have hby := Bd.bytes
 have hml : c.maxLocals = 3 := hml0
 have hown : s.vm.findClass sK2 = some m.cls := findClass_of_methodNamed Bd.named
 have X0 := own_X0 Bd
 have e0 : s₁.heap = h0 := by rw [← hh, Bd.state]; rfl
 have N0 := Fr.nil n0
 have pre0 : ∀ t, Steps p.tables e below (s₁.setTop (mkF m 0 #[vR a1, vI p2, vR a3] [])) t → Steps p.tables e below (s₁.setTop (entryFrame m #[(.ref a1), (.int p2), (.ref a3)] 3)) t := fun t k => castTop (ef_12_vvv m a1 p2 a3) k
 obtain ⟨cq15, kq15, q15a, q15b, q15c⟩ := isOf hZ e0 H7
 obtain ⟨_, _, ⟨T15, _, _, _⟩, -, X15, ⟨_, hQ, lq, yq, zq⟩, st15⟩ := X0.virtualBack hx (y := mN37) (z := mN37) hown (mvT hZ (tw hw 89 rfl)) (own_decl (mvT hZ (tw hw 90 rfl)) (mvT hZ (tw hw 93 rfl))) (notFace_of_selects (args := #[]) (mvT hZ (tw hw 92 rfl))) (mvT hZ (tw hw 92 rfl)) (mvT hZ (tw hw 90 rfl)) (by decide) (backOf (W := 0) (r13_1 l Z a0 hw a1 a3 w4 w5 w6 h0 n0 Z0 H0 H1 H2 H3 H4 H5 H6) hZ (tw hw 93 rfl) (tw hw 38 rfl) (by decide) (by decide)) q15a q15c (g := (mkF m 2 #[vR a1, vI p2, vR a3] [(.ref a3), (.ref a1)])) rfl (by rw [hml]; rfl) (Steps.refl _) (argsL := [(.ref a3)]) (rest := []) (lenOf pd_25 rfl) rfl (own_w _) (hb hby d12_2) (fun _ _ => ⟨rfl, e0, (by decide : 0 + 0 ≤ _), (by decide : 0 + 0 ≤ _)⟩)
 dsimp only [Pt.U, Pt.locs, Pt.cells, Pt.slots] at X15 lq yq zq st15 hQ
 replace X15 := own_mvX X15 (a := 0) (b := 0) yq zq
 obtain ⟨rfl, Nq, e15⟩ := hQ
 have N15 := own_mvN lq N0 Nq
 obtain ⟨T16, X16, e16, st16⟩ := getF X15 hx hZ hown (host := "") (Or.inl (tw hw 44 rfl)) Via.refl e15 H8 (g := (mkF m 7 #[vR a1, vI p2, vR a3] [(.ref a1), (.ref a3)])) rfl rfl (hb hby d12_7)
 obtain ⟨T17, X17, e17, st17⟩ := getF X16 hx hZ hown (host := "") (Or.inl (tw hw 46 rfl)) Via.refl e16 H2 (g := (mkF m 12 #[vR a1, vI p2, vR a3] [(.ref a1), (.int p2), (.ref w7), (.ref a3)])) rfl rfl (hb hby d12_12)
 obtain ⟨cq18, kq18, q18a, q18b, q18c⟩ := isOf hZ e17 H5
 obtain ⟨_, _, ⟨T18, _, _, _⟩, -, X18, ⟨_, hQ, lq, yq, zq⟩, st18⟩ := X17.virtualBack hx (y := mN38) (z := mN38) hown (mvT hZ (tw hw 95 rfl)) (mvT hZ (tw hw 96 rfl)) (notFace_of_selects (args := #[]) (mvT hZ (tw hw 98 rfl))) (mvT hZ (tw hw 98 rfl)) (mvT hZ (tw hw 97 rfl)) (by decide) (backOf (W := 0) (r14_1 l Z a0 hw a3 w7 p2 w5 w4 w6 w8 k9 u10 p11 k12 u13 p14 h0 n0 Z0 H0 H1 H3 H4 H5 H9 H10 H11 H12 H13 H14 H15 H16 H17) hZ (tw hw 99 rfl) (tw hw 42 rfl) (by decide) (by decide)) q18a q18c (g := (mkF m 15 #[vR a1, vI p2, vR a3] [(.int w5), (.int p2), (.ref w7), (.ref a3)])) rfl (by rw [hml]; rfl) (Steps.refl _) (argsL := [(.ref w7), (.int p2), (.int w5)]) (rest := []) (lenOf pd_26 rfl) rfl (own_w _) (hb hby d12_15) (fun _ _ => ⟨rfl, e17, (by decide : 0 + 0 ≤ _), (by decide : 0 + 0 ≤ _)⟩)
 dsimp only [Pt.U, Pt.locs, Pt.cells, Pt.slots] at X18 lq yq zq st18 hQ
 replace X18 := own_mvX X18 (a := 0) (b := 0) yq zq
 obtain ⟨Nq, rfl, K18, o18_0⟩ := hQ
 have N18 := own_mvN lq N15 Nq
 have KC18 := KSx.trans (KSx.refl h0 [] [w7]) K18 ks0 (allS (Or.inl (List.mem_of_getElem? (i := 0) rfl)) all0)
 obtain ⟨fs, hr, hrun, hended, hW, hsame⟩ := X18.leave (v := none) (fun _ => rfl)
 refine ⟨_, _, pre0 _ ?_, hrun, hended, _, _, rfl, ?_, ⟨_, rfl⟩, hW, hsame.mono (by decide) (by decide)⟩
 · show SG p e below s₁ (mkF m 0 #[vR a1, vI p2, vR a3] []) _
   refine XS.aloadN X0.here hx rfl (hb hby d12_0) rfl rfl ?_
   refine XS.aloadN X0.here hx rfl (hb hby d12_1) rfl rfl ?_
   show SG p e below s₁ (mkF m 2 #[vR a1, vI p2, vR a3] [(.ref a3), (.ref a1)]) _
   refine st15.trans ?_
   show SG p e below T15 (mkF m 5 #[vR a1, vI p2, vR a3] []) _
   refine XS.aloadN X15.here hx rfl (hb hby d12_5) rfl rfl ?_
   refine XS.aloadN X15.here hx rfl (hb hby d12_6) rfl rfl ?_
   show SG p e below T15 (mkF m 7 #[vR a1, vI p2, vR a3] [(.ref a1), (.ref a3)]) _
   refine st16 _ ?_
   show SG p e below T16 (mkF m 10 #[vR a1, vI p2, vR a3] [(.ref w7), (.ref a3)]) _
   refine XS.iloadN X16.here hx rfl (hb hby d12_10) rfl ?_
   refine XS.aloadN X16.here hx rfl (hb hby d12_11) rfl rfl ?_
   show SG p e below T16 (mkF m 12 #[vR a1, vI p2, vR a3] [(.ref a1), (.int p2), (.ref w7), (.ref a3)]) _
   refine st17 _ ?_
   show SG p e below T17 (mkF m 15 #[vR a1, vI p2, vR a3] [(.int w5), (.int p2), (.ref w7), (.ref a3)]) _
   refine st18.trans ?_
   show SG p e below T18 (mkF m 18 #[vR a1, vI p2, vR a3] []) _
   exact X18.returnOut hx Bd.returns (hb hby d12_18) hr
 · show Qr12_1 Z a1 p2 a3 w4 w5 w6 w7 w8 k9 u10 p11 k12 u13 p14 h0 n0 _ T18.heap _
   exact ⟨N18, rfl, KC18, o18_0⟩
theorem pd_27 : parseMethodDescriptor "(ILjava/lang/String;)V" = some ⟨[.int, (.object "java/lang/String")], none⟩ := by decide +kernel
theorem d8_33 : Dc rev37 33 (.aload_n 0) 1 := by decide +kernel
theorem d8_34 : Dc rev37 34 .dup 1 := by decide +kernel
theorem d8_35 : Dc rev37 35 (.getfield 79) 3 := by decide +kernel
theorem d8_38 : Dc rev37 38 (.iload_n 2) 1 := by decide +kernel
theorem d8_39 : Dc rev37 39 .iadd 1 := by decide +kernel
theorem d8_40 : Dc rev37 40 (.putfield 79) 3 := by decide +kernel
theorem d8_43 : Dc rev37 43 (.aload_n 0) 1 := by decide +kernel
theorem d8_44 : Dc rev37 44 .areturn 1 := by decide +kernel
theorem ef_8_vv (m : MethodId) (x0 : Addr) (x1 : Addr) : entryFrame m #[(.ref x0), (.ref x1)] 3 = mkF m 0 #[.val (.ref x0), .val (.ref x1), .unset] [] := by first | (simp [entryFrame, mkF, argsToLocals, Value.category]; done) | rfl
def Qr8_1 (Z : State) (a1 : Addr) (a2 : Addr) (w3 : Addr) (k4 : ClassId) (u5 : Nat → Int32) (p6 : Int32) (w7 : Int32) (w8 : Int32) (w9 : Int32) (w10 : Addr) (k11 : ClassId) (u12 : Nat → Int32) (p13 : Int32) (w14 : Int32) (h0 : Heap) (n0 : Nat) (v : Option Value) (h : Heap) (L : List Loc) : Prop := Fr n0 L ∧ v = some (.ref a1) ∧ KSx h0 h [(a1, Jvm.RoadKit.slotOf Z sK2 "count" "I")] [w10] ∧ Fld Z h a1 sK2 "count" "I" (.int (w9 + (p6 >>> (w8 &&& 31)))) ∧ BA Z h w10 k11 .byte p13 (fun i => if ((w9 <<< (w14 &&& 31))).toNatClampNeg ≤ i ∧ i < ((w9 <<< (w14 &&& 31))).toNatClampNeg + (p6).toNatClampNeg then u5 (((0 : Int32)).toNatClampNeg + (i - ((w9 <<< (w14 &&& 31))).toNatClampNeg)) else u12 i)
theorem r8_1 (l : Launch) (Z : State) (a0 : Array Value) (hw : TW a0 Z) (a1 : Addr) (a2 : Addr) (w3 : Addr) (k4 : ClassId) (u5 : Nat → Int32) (p6 : Int32) (w7 : Int32) (w8 : Int32) (w9 : Int32) (w10 : Addr) (k11 : ClassId) (u12 : Nat → Int32) (p13 : Int32) (w14 : Int32) (h0 : Heap) (n0 : Nat) (Z0 : n0 ≤ h0.size) (H0 : Fld Z h0 a2 sK1 "value" "[B" (.ref w3)) (H1 : BA Z h0 w3 k4 .byte p6 u5) (H2 : Sta Z h0 sK1 sK3 "Z" (.int w7)) (H3 : ¬ (w7 = 0)) (H4 : Fld Z h0 a2 sK1 "coder" "B" (.int w8)) (H5 : nar .byte w8 = w8) (H6 : Exa Z h0 a2 sK1) (H7 : Fld Z h0 a1 sK2 "count" "I" (.int w9)) (H8 : Fld Z h0 a1 sK2 "value" "[B" (.ref w10)) (H9 : BA Z h0 w10 k11 .byte p13 u12) (H10 : Fld Z h0 a1 sK2 "coder" "B" (.int w14)) (H11 : ¬ ((0 : Int32) < ((w9 + (p6 >>> (w8 &&& 31))) - (p13 >>> (w14 &&& 31))))) (H12 : Exa Z h0 a1 sK4) (H13 : w14 = w8) (H14 : w8 = w14) (H15 : ¬ ((w9 <<< (w14 &&& 31)) < 0)) (H16 : ¬ (p6 < 0)) (H17 : ((0 : Int32)).toNatClampNeg + (p6).toNatClampNeg ≤ (p6).toNatClampNeg) (H18 : ((w9 <<< (w14 &&& 31))).toNatClampNeg + (p6).toNatClampNeg ≤ (p13).toNatClampNeg) (H19 : n0 ≤ w10) (H20 : a1 ≠ w10) (H21 : n0 ≤ a1) (H22 : w10 ≠ a1) :
   OMet l Z mN40 jdk_68_method_22_code 3 (some (.object sK2)) [] (Rm 3 0 0 47) h0 #[(.ref a1), (.ref a2)] (Qr8_1 Z a1 a2 w3 k4 u5 p6 w7 w8 w9 w10 k11 u12 p13 w14 h0 n0) := by
 refine MetFree.of_bodySF (plainFor_of_name pn_java_lang_AbstractStringBuilder) hisR ?_
 intro p e s m args below meth c s₁ Bd hml0 hP hK
 obtain ⟨rfl, hZ, hh⟩ := hP
 have hx := Bd.exec
 have hby := Bd.bytes
 have hml : c.maxLocals = 3 := hml0
 have hown : s.vm.findClass sK2 = some m.cls := findClass_of_methodNamed Bd.named
 have X0 := own_X0 Bd
 have e0 : s₁.heap = h0 := by rw [← hh, Bd.state]; rfl
 have N0 := Fr.nil n0
 have pre0 : ∀ t, Steps p.tables e below (s₁.setTop (mkF m 0 #[vR a1, vR a2, .unset] [])) t → Steps p.tables e below (s₁.setTop (entryFrame m #[(.ref a1), (.ref a2)] 3)) t := fun t k => castTop (ef_8_vv m a1 a2) k
 obtain ⟨cq15, kq15, q15a, q15b, q15c⟩ := isOf hZ e0 H6
 obtain ⟨_, _, ⟨T15, _, _, _⟩, -, X15, ⟨_, hQ, lq, yq, zq⟩, st15⟩ := X0.virtualBack hx (y := mN28) (z := mN28) hown (mvT hZ (tw hw 64 rfl)) (mvT hZ (tw hw 65 rfl)) (notFace_of_selects (args := #[]) (mvT hZ (tw hw 67 rfl))) (mvT hZ (tw hw 67 rfl)) (mvT hZ (tw hw 66 rfl)) (by decide) (backOf (W := 0) (r9_1 l Z a0 hw a2 w3 k4 u5 p6 w7 w8 h0 n0 Z0 H0 H1 H2 H3 H4 H5 H6) hZ (tw hw 68 rfl) (tw hw 42 rfl) (by decide) (by decide)) q15a q15c (g := (mkF m 10 #[vR a1, vR a2, vU] [(.ref a2)])) rfl (by rw [hml]; rfl) (Steps.refl _) (argsL := []) (rest := []) (lenOf pd_5 rfl) rfl (own_w _) (hb hby d8_10) (fun _ _ => ⟨rfl, e0, (by decide : 0 + 0 ≤ _), (by decide : 0 + 0 ≤ _)⟩)
 dsimp only [Pt.U, Pt.locs, Pt.cells, Pt.slots] at X15 lq yq zq st15 hQ
 replace X15 := own_mvX X15 (a := 0) (b := 0) yq zq
 obtain ⟨rfl, Nq, e15⟩ := hQ
 have N15 := own_mvN lq N0 Nq
 obtain ⟨T16, X16, e16, st16⟩ := getF X15 hx hZ hown (host := "") (Or.inl (tw hw 77 rfl)) Via.refl e15 H7 (g := (mkF m 16 #[vR a1, vR a2, vI (p6 >>> (w8 &&& 31))] [(.ref a1), (.ref a1)])) rfl rfl (hb hby d8_16)
 obtain ⟨cq17, kq17, q17a, q17b, q17c⟩ := isOf hZ e16 H12
 obtain ⟨_, _, ⟨T17, _, _, _⟩, -, X17, ⟨_, hQ, lq, yq, zq⟩, st17⟩ := X16.virtualBack hx (y := mN8) (z := mN8) hown (mvT hZ (tw hw 79 rfl)) (own_decl (mvT hZ (tw hw 80 rfl)) (mvT hZ (tw hw 83 rfl))) (notFace_of_selects (args := #[]) (mvT hZ (tw hw 82 rfl))) (mvT hZ (tw hw 82 rfl)) (mvT hZ (tw hw 80 rfl)) (by decide) (backOf (W := 0) (r11_1 l Z a0 hw a1 (w9 + (p6 >>> (w8 &&& 31))) w10 k11 u12 p13 w14 h0 n0 Z0 H8 H9 H10 H11) hZ (tw hw 83 rfl) (tw hw 38 rfl) (by decide) (by decide)) q17a q17c (g := (mkF m 21 #[vR a1, vR a2, vI (p6 >>> (w8 &&& 31))] [(.int (w9 + (p6 >>> (w8 &&& 31)))), (.ref a1)])) rfl (by rw [hml]; rfl) (Steps.refl _) (argsL := [(.int (w9 + (p6 >>> (w8 &&& 31))))]) (rest := []) (lenOf pd_11 rfl) rfl (own_w _) (hb hby d8_21) (fun _ _ => ⟨rfl, e16, (by decide : 0 + 0 ≤ _), (by decide : 0 + 0 ≤ _)⟩)
 dsimp only [Pt.U, Pt.locs, Pt.cells, Pt.slots] at X17 lq yq zq st17 hQ
 replace X17 := own_mvX X17 (a := 0) (b := 0) yq zq
 obtain ⟨rfl, Nq, e17⟩ := hQ
 have N17 := own_mvN lq N15 Nq
 obtain ⟨T18, X18, e18, st18⟩ := getF X17 hx hZ hown (host := "") (Or.inl (tw hw 77 rfl)) Via.refl e17 H7 (g := (mkF m 26 #[vR a1, vR a2, vI (p6 >>> (w8 &&& 31))] [(.ref a1), (.ref a1)])) rfl rfl (hb hby d8_26)
 obtain ⟨cq19, kq19, q19a, q19b, q19c⟩ := isOf hZ e18 H12
 obtain ⟨_, _, ⟨T19, _, _, _⟩, -, X19, ⟨_, hQ, lq, yq, zq⟩, st19⟩ := X18.virtualBack hx (y := mN39) (z := mN39) hown (mvT hZ (tw hw 84 rfl)) (own_decl (mvT hZ (tw hw 85 rfl)) (mvT hZ (tw hw 88 rfl))) (notFace_of_selects (args := #[]) (mvT hZ (tw hw 87 rfl))) (mvT hZ (tw hw 87 rfl)) (mvT hZ (tw hw 85 rfl)) (by decide) (backOf (W := 0) (r12_1 l Z a0 hw a1 w9 a2 w7 w14 w8 w10 w3 k4 u5 p6 k11 u12 p13 h0 n0 Z0 H2 H3 H10 H4 H5 H6 H13 H12 H8 H14 H0 H1 H9 H15 H16 H17 H18 H19) hZ (tw hw 88 rfl) (tw hw 38 rfl) (by decide) (by decide)) q19a q19c (g := (mkF m 30 #[vR a1, vR a2, vI (p6 >>> (w8 &&& 31))] [(.ref a2), (.int w9), (.ref a1)])) rfl (by rw [hml]; rfl) (Steps.refl _) (argsL := [(.int w9), (.ref a2)]) (rest := []) (lenOf pd_27 rfl) rfl (own_w _) (hb hby d8_30) (fun _ _ => ⟨rfl, e18, (by decide : 0 + 0 ≤ _), (by decide : 0 + 0 ≤ _)⟩)
 dsimp only [Pt.U, Pt.locs, Pt.cells, Pt.slots] at X19 lq yq zq st19 hQ
 replace X19 := own_mvX X19 (a := 0) (b := 0) yq zq
 obtain ⟨Nq, rfl, K19, o19_0⟩ := hQ
 have N19 := own_mvN lq N17 Nq
 have KC19 := KSx.trans (KSx.refl h0 [(a1, Jvm.RoadKit.slotOf Z sK2 "count" "I")] [w10]) K19 ks0 (allS (Or.inl (List.mem_of_getElem? (i := 0) rfl)) all0)
 have f20 := (H7.ks K19 ks0 (allS H20 all0))
 obtain ⟨T21, X21, e21, st21⟩ := getF X19 hx hZ hown (host := "") (Or.inl (tw hw 77 rfl)) Via.refl rfl f20 (g := (mkF m 35 #[vR a1, vR a2, vI (p6 >>> (w8 &&& 31))] [(.ref a1), (.ref a1)])) rfl rfl (hb hby d8_35)
 have f22 := (H12.ks K19)
 obtain ⟨T23, h23, X23, e23, W23, st23⟩ := putF X21 hx hZ hown (host := "") (Or.inl (tw hw 77 rfl)) Via.refl e21 f20 f22 (Or.inl (tw hw 78 rfl)) (tw hw 29 rfl) (ty := .int) (by decide) rfl rfl (g := (mkF m 40 #[vR a1, vR a2, vI (p6 >>> (w8 &&& 31))] [(.int (w9 + (p6 >>> (w8 &&& 31)))), (.ref a1)])) rfl rfl (hb hby d8_40)
 have Fw23 := Fld.same W23 f20
 have KC23 := KSx.wr KC19 W23 (Or.inl (List.mem_of_getElem? (i := 0) rfl))
 have N23 := Fr.snoc X23 N19 H21
 have f24 := (o19_0.other W23 H22)
 obtain ⟨fs, hr, hrun, hended, hW, hsame⟩ := X23.leave (v := some (.ref a1)) (fun h => by rw [Bd.returns] at h; cases h)
 refine ⟨_, _, pre0 _ ?_, hrun, hended, _, _, rfl, ?_, ⟨_, rfl⟩, hW, hsame.mono (by decide) (by decide)⟩
 · show SG p e below s₁ (mkF m 0 #[vR a1, vR a2, vU] []) _
   refine XS.aloadN X0.here hx rfl (hb hby d8_0) rfl rfl ?_
   refine XS.ifnonnullYes X0.here hx rfl (pc0 := 1) (pc' := 9) rfl (hb hby d8_1) rfl (by decide) (by decide) ?_
   show SG p e below s₁ (mkF m 9 #[vR a1, vR a2, vU] []) _
   refine XS.aloadN X0.here hx rfl (hb hby d8_9) rfl rfl ?_
   show SG p e below s₁ (mkF m 10 #[vR a1, vR a2, vU] [(.ref a2)]) _
   refine st15.trans ?_
   show SG p e below T15 (mkF m 13 #[vR a1, vR a2, vU] [(.int (p6 >>> (w8 &&& 31)))]) _
   refine XS.istoreN X15.here hx rfl (hb hby d8_13) rfl (l' := #[vR a1, vR a2, vI (p6 >>> (w8 &&& 31))]) rfl ?_
   show SG p e below T15 (mkF m 14 #[vR a1, vR a2, vI (p6 >>> (w8 &&& 31))] []) _
   refine XS.aloadN X15.here hx rfl (hb hby d8_14) rfl rfl ?_
   refine XS.aloadN X15.here hx rfl (hb hby d8_15) rfl rfl ?_
   show SG p e below T15 (mkF m 16 #[vR a1, vR a2, vI (p6 >>> (w8 &&& 31))] [(.ref a1), (.ref a1)]) _
   refine st16 _ ?_
   show SG p e below T16 (mkF m 19 #[vR a1, vR a2, vI (p6 >>> (w8 &&& 31))] [(.int w9), (.ref a1)]) _
   refine XS.iloadN X16.here hx rfl (hb hby d8_19) rfl ?_
   refine XS.iadd X16.here hx rfl (hb hby d8_20) rfl ?_
   show SG p e below T16 (mkF m 21 #[vR a1, vR a2, vI (p6 >>> (w8 &&& 31))] [(.int (w9 + (p6 >>> (w8 &&& 31)))), (.ref a1)]) _
   refine st17.trans ?_
   show SG p e below T17 (mkF m 24 #[vR a1, vR a2, vI (p6 >>> (w8 &&& 31))] []) _
   refine XS.aloadN X17.here hx rfl (hb hby d8_24) rfl rfl ?_
   refine XS.aloadN X17.here hx rfl (hb hby d8_25) rfl rfl ?_
   show SG p e below T17 (mkF m 26 #[vR a1, vR a2, vI (p6 >>> (w8 &&& 31))] [(.ref a1), (.ref a1)]) _
   refine st18 _ ?_
   show SG p e below T18 (mkF m 29 #[vR a1, vR a2, vI (p6 >>> (w8 &&& 31))] [(.int w9), (.ref a1)]) _
   refine XS.aloadN X18.here hx rfl (hb hby d8_29) rfl rfl ?_
   show SG p e below T18 (mkF m 30 #[vR a1, vR a2, vI (p6 >>> (w8 &&& 31))] [(.ref a2), (.int w9), (.ref a1)]) _
   refine st19.trans ?_
   show SG p e below T19 (mkF m 33 #[vR a1, vR a2, vI (p6 >>> (w8 &&& 31))] []) _
   refine XS.aloadN X19.here hx rfl (hb hby d8_33) rfl rfl ?_
   refine XS.dup X19.here hx rfl (hb hby d8_34) rfl rfl ?_
   show SG p e below T19 (mkF m 35 #[vR a1, vR a2, vI (p6 >>> (w8 &&& 31))] [(.ref a1), (.ref a1)]) _
   refine st21 _ ?_
   show SG p e below T21 (mkF m 38 #[vR a1, vR a2, vI (p6 >>> (w8 &&& 31))] [(.int w9), (.ref a1)]) _
   refine XS.iloadN X21.here hx rfl (hb hby d8_38) rfl ?_
   refine XS.iadd X21.here hx rfl (hb hby d8_39) rfl ?_
   show SG p e below T21 (mkF m 40 #[vR a1, vR a2, vI (p6 >>> (w8 &&& 31))] [(.int (w9 + (p6 >>> (w8 &&& 31)))), (.ref a1)]) _
   refine st23 _ ?_
   show SG p e below T23 (mkF m 43 #[vR a1, vR a2, vI (p6 >>> (w8 &&& 31))] []) _
   refine XS.aloadN X23.here hx rfl (hb hby d8_43) rfl rfl ?_
   show SG p e below T23 (mkF m 44 #[vR a1, vR a2, vI (p6 >>> (w8 &&& 31))] [(.ref a1)]) _
   jvm_step X23.here [X23.here.top, hx, (hb hby d8_44), X23.method', Bd.returns, Value.isRef, FieldType.isReference]
   first | (intro acts; rw [hr _ acts rfl rfl rfl]) | rw [hr _ _ rfl rfl rfl]
   exact Steps.refl _
 · show Qr8_1 Z a1 a2 w3 k4 u5 p6 w7 w8 w9 w10 k11 u12 p13 w14 h0 n0 _ T23.heap _
   rw [e23]
   exact ⟨N23, rfl, KC23, Fw23, f24⟩
theorem pd_28 : parseMethodDescriptor "(Ljava/lang/String;)Ljava/lang/AbstractStringBuilder;" = some ⟨[(.object "java/lang/String")], some (.object "java/lang/AbstractStringBuilder")⟩ := by decide +kernel
theorem d7_5 : Dc rev36 5 .pop 1 := by decide +kernel
theorem d7_6 : Dc rev36 6 (.aload_n 0) 1 := by decide +kernel
theorem d7_7 : Dc rev36 7 .areturn 1 := by decide +kernel
theorem ef_7_vv (m : MethodId) (x0 : Addr) (x1 : Addr) : entryFrame m #[(.ref x0), (.ref x1)] 2 = mkF m 0 #[.val (.ref x0), .val (.ref x1)] [] := by first | (simp [entryFrame, mkF, argsToLocals, Value.category]; done) | rfl
def Qr7_1 (Z : State) (a1 : Addr) (a2 : Addr) (w3 : Addr) (k4 : ClassId) (u5 : Nat → Int32) (p6 : Int32) (w7 : Int32) (w8 : Int32) (w9 : Int32) (w10 : Addr) (k11 : ClassId) (u12 : Nat → Int32) (p13 : Int32) (w14 : Int32) (h0 : Heap) (n0 : Nat) (v : Option Value) (h : Heap) (L : List Loc) : Prop := Fr n0 L ∧ v = some (.ref a1) ∧ KSx h0 h [(a1, Jvm.RoadKit.slotOf Z sK2 "count" "I")] [w10] ∧ Fld Z h a1 sK2 "count" "I" (.int (w9 + (p6 >>> (w8 &&& 31)))) ∧ BA Z h w10 k11 .byte p13 (fun i => if ((w9 <<< (w14 &&& 31))).toNatClampNeg ≤ i ∧ i < ((w9 <<< (w14 &&& 31))).toNatClampNeg + (p6).toNatClampNeg then u5 (((0 : Int32)).toNatClampNeg + (i - ((w9 <<< (w14 &&& 31))).toNatClampNeg)) else u12 i)
theorem r7_1 (l : Launch) (Z : State) (a0 : Array Value) (hw : TW a0 Z) (a1 : Addr) (a2 : Addr) (w3 : Addr) (k4 : ClassId) (u5 : Nat → Int32) (p6 : Int32) (w7 : Int32) (w8 : Int32) (w9 : Int32) (w10 : Addr) (k11 : ClassId) (u12 : Nat → Int32) (p13 : Int32) (w14 : Int32) (h0 : Heap) (n0 : Nat) (Z0 : n0 ≤ h0.size) (H0 : Fld Z h0 a2 sK1 "value" "[B" (.ref w3)) (H1 : BA Z h0 w3 k4 .byte p6 u5) (H2 : Sta Z h0 sK1 sK3 "Z" (.int w7)) (H3 : ¬ (w7 = 0)) (H4 : Fld Z h0 a2 sK1 "coder" "B" (.int w8)) (H5 : nar .byte w8 = w8) (H6 : Exa Z h0 a2 sK1) (H7 : Fld Z h0 a1 sK2 "count" "I" (.int w9)) (H8 : Fld Z h0 a1 sK2 "value" "[B" (.ref w10)) (H9 : BA Z h0 w10 k11 .byte p13 u12) (H10 : Fld Z h0 a1 sK2 "coder" "B" (.int w14)) (H11 : ¬ ((0 : Int32) < ((w9 + (p6 >>> (w8 &&& 31))) - (p13 >>> (w14 &&& 31))))) (H12 : Exa Z h0 a1 sK4) (H13 : w14 = w8) (H14 : w8 = w14) (H15 : ¬ ((w9 <<< (w14 &&& 31)) < 0)) (H16 : ¬ (p6 < 0)) (H17 : ((0 : Int32)).toNatClampNeg + (p6).toNatClampNeg ≤ (p6).toNatClampNeg) (H18 : ((w9 <<< (w14 &&& 31))).toNatClampNeg + (p6).toNatClampNeg ≤ (p13).toNatClampNeg) (H19 : n0 ≤ w10) (H20 : a1 ≠ w10) (H21 : n0 ≤ a1) (H22 : w10 ≠ a1) :
   OMet l Z mN41 jdk_67_method_7_code 2 (some (.object sK4)) [] (Rm 4 0 0 61) h0 #[(.ref a1), (.ref a2)] (Qr7_1 Z a1 a2 w3 k4 u5 p6 w7 w8 w9 w10 k11 u12 p13 w14 h0 n0) := by
 refine MetFree.of_bodySF (plainFor_of_name pn_java_lang_StringBuilder) hisR ?_
 intro p e s m args below meth c s₁ Bd hml0 hP hK
 obtain ⟨rfl, hZ, hh⟩ := hP
 have hx := Bd.exec
 have hby := Bd.bytes
 have hml : c.maxLocals = 2 := hml0
 have hown : s.vm.findClass sK4 = some m.cls := findClass_of_methodNamed Bd.named
 have X0 := own_X0 Bd
 have e0 : s₁.heap = h0 := by rw [← hh, Bd.state]; rfl
 have N0 := Fr.nil n0
 have pre0 : ∀ t, Steps p.tables e below (s₁.setTop (mkF m 0 #[vR a1, vR a2] [])) t → Steps p.tables e below (s₁.setTop (entryFrame m #[(.ref a1), (.ref a2)] 2)) t := fun t k => castTop (ef_7_vv m a1 a2) k
 obtain ⟨_, _, ⟨T15, _, _, _⟩, -, X15, ⟨_, hQ, lq, yq, zq⟩, st15⟩ := superBack X0 hx hZ (y := mN40) hown (tw hw 59 rfl) (own_same (y := mN40) (by decide) (tw hw 60 rfl) (own_nf (args := a0) (w := mN8) rfl (tw hw 82 rfl))) (tw hw 60 rfl) (tw hw 61 rfl) (by decide) (backOf (W := 0) (r8_1 l Z a0 hw a1 a2 w3 k4 u5 p6 w7 w8 w9 w10 k11 u12 p13 w14 h0 n0 Z0 H0 H1 H2 H3 H4 H5 H6 H7 H8 H9 H10 H11 H12 H13 H14 H15 H16 H17 H18 H19 H20 H21 H22) hZ (tw hw 63 rfl) (tw hw 38 rfl) (by decide) (by decide)) e0 (Ins.self H12) (g := (mkF m 2 #[vR a1, vR a2] [(.ref a2), (.ref a1)])) rfl (by rw [hml]; rfl) (tw hw 63 rfl) (argsL := [(.ref a2)]) (rest := []) (lenOf pd_28 rfl) rfl (own_w _) (hb hby d7_2) (fun _ _ => ⟨rfl, e0, (by decide : 0 + 0 ≤ _), (by decide : 0 + 0 ≤ _)⟩)
 dsimp only [Pt.U, Pt.locs, Pt.cells, Pt.slots] at X15 lq yq zq st15 hQ
 replace X15 := own_mvX X15 (a := 0) (b := 0) yq zq
 obtain ⟨Nq, rfl, K15, o15_0, o15_1⟩ := hQ
 have N15 := own_mvN lq N0 Nq
 have KC15 := KSx.trans (KSx.refl h0 [(a1, Jvm.RoadKit.slotOf Z sK2 "count" "I")] [w10]) K15 (ksS (Or.inl (List.mem_of_getElem? (i := 0) rfl)) ks0) (allS (Or.inl (List.mem_of_getElem? (i := 0) rfl)) all0)
 obtain ⟨fs, hr, hrun, hended, hW, hsame⟩ := X15.leave (v := some (.ref a1)) (fun h => by rw [Bd.returns] at h; cases h)
 refine ⟨_, _, pre0 _ ?_, hrun, hended, _, _, rfl, ?_, ⟨_, rfl⟩, hW, hsame.mono (by decide) (by decide)⟩
 · show SG p e below s₁ (mkF m 0 #[vR a1, vR a2] []) _
   refine XS.aloadN X0.here hx rfl (hb hby d7_0) rfl rfl ?_
   refine XS.aloadN X0.here hx rfl (hb hby d7_1) rfl rfl ?_
   show SG p e below s₁ (mkF m 2 #[vR a1, vR a2] [(.ref a2), (.ref a1)]) _
   refine st15.trans ?_
   show SG p e below T15 (mkF m 5 #[vR a1, vR a2] [(.ref a1)]) _
   refine XS.pop X15.here hx rfl (hb hby d7_5) rfl rfl ?_
   show SG p e below T15 (mkF m 6 #[vR a1, vR a2] []) _
   refine XS.aloadN X15.here hx rfl (hb hby d7_6) rfl rfl ?_
   show SG p e below T15 (mkF m 7 #[vR a1, vR a2] [(.ref a1)]) _
   jvm_step X15.here [X15.here.top, hx, (hb hby d7_7), X15.method', Bd.returns, Value.isRef, FieldType.isReference]
   first | (intro acts; rw [hr _ acts rfl rfl rfl]) | rw [hr _ _ rfl rfl rfl]
   exact Steps.refl _
 · show Qr7_1 Z a1 a2 w3 k4 u5 p6 w7 w8 w9 w10 k11 u12 p13 w14 h0 n0 _ T15.heap _
   exact ⟨N15, rfl, KC15, o15_0, o15_1⟩
theorem pd_29 : parseMethodDescriptor "(Ljava/lang/String;)Ljava/lang/StringBuilder;" = some ⟨[(.object "java/lang/String")], some (.object "java/lang/StringBuilder")⟩ := by decide +kernel
theorem d4_12 : Dc rev33 12 (.aload_n 0) 1 := by decide +kernel
theorem d4_13 : Dc rev33 13 (.getfield 7) 3 := by decide +kernel
theorem d4_16 : Dc rev33 16 (.invokevirtual 31) 3 := by decide +kernel
theorem pd_30 : parseMethodDescriptor "(J)Ljava/lang/StringBuilder;" = some ⟨[.long], some (.object "java/lang/StringBuilder")⟩ := by decide +kernel
theorem d4_19 : Dc rev33 19 (.invokevirtual 34) 3 := by decide +kernel
theorem pd_31 : parseMethodDescriptor "()Ljava/lang/String;" = some ⟨[], some (.object "java/lang/String")⟩ := by decide +kernel
theorem d4_22 : Dc rev33 22 (.new 22) 3 := by decide +kernel
theorem d4_25 : Dc rev33 25 .dup 1 := by decide +kernel
theorem d4_26 : Dc rev33 26 (.invokespecial 24) 3 := by decide +kernel
theorem d4_29 : Dc rev33 29 (.ldc 38) 2 := by decide +kernel
theorem d4_31 : Dc rev33 31 (.invokevirtual 27) 3 := by decide +kernel
theorem d4_34 : Dc rev33 34 (.aload_n 0) 1 := by decide +kernel
theorem d4_35 : Dc rev33 35 (.getfield 7) 3 := by decide +kernel
theorem d4_38 : Dc rev33 38 (.aload_n 0) 1 := by decide +kernel
theorem d4_39 : Dc rev33 39 (.getfield 13) 3 := by decide +kernel
theorem d4_42 : Dc rev33 42 (.invokestatic 40) 3 := by decide +kernel
theorem pd_32 : parseMethodDescriptor "(JJ)J" = some ⟨[.long, .long], some .long⟩ := by decide +kernel
theorem d4_45 : Dc rev33 45 (.invokevirtual 31) 3 := by decide +kernel
theorem d4_48 : Dc rev33 48 (.invokevirtual 34) 3 := by decide +kernel
theorem d4_51 : Dc rev33 51 (.new 22) 3 := by decide +kernel
theorem d4_54 : Dc rev33 54 .dup 1 := by decide +kernel
theorem d4_55 : Dc rev33 55 (.invokespecial 24) 3 := by decide +kernel
theorem d4_58 : Dc rev33 58 (.ldc 44) 2 := by decide +kernel
theorem d4_60 : Dc rev33 60 (.invokevirtual 27) 3 := by decide +kernel
theorem d4_63 : Dc rev33 63 (.aload_n 0) 1 := by decide +kernel
theorem d4_64 : Dc rev33 64 (.getfield 16) 3 := by decide +kernel
theorem d4_67 : Dc rev33 67 (.invokevirtual 31) 3 := by decide +kernel
theorem d4_70 : Dc rev33 70 (.invokevirtual 34) 3 := by decide +kernel
theorem d4_73 : Dc rev33 73 (.new 22) 3 := by decide +kernel
theorem d4_76 : Dc rev33 76 .dup 1 := by decide +kernel
theorem d4_77 : Dc rev33 77 (.invokespecial 24) 3 := by decide +kernel
theorem d4_80 : Dc rev33 80 (.ldc 46) 2 := by decide +kernel
theorem d4_82 : Dc rev33 82 (.invokevirtual 27) 3 := by decide +kernel
theorem r9_2 (l : Launch) (Z : State) (a0 : Array Value) (hw : TW a0 Z) (a1 : Addr) (w2 : Addr) (k3 : ClassId) (u4 : Nat → Int32) (w5 : Int32) (w6 : Int32) (h0 : Heap) (n0 : Nat) (Z0 : n0 ≤ h0.size) (H0 : Fld Z h0 a1 sK1 "value" "[B" (.ref w2)) (H1 : BA Z h0 w2 k3 .byte (17 : Int32) u4) (H2 : Sta Z h0 sK1 sK3 "Z" (.int w5)) (H3 : ¬ (w5 = 0)) (H4 : Fld Z h0 a1 sK1 "coder" "B" (.int w6)) (H5 : nar .byte w6 = w6) (H6 : Exa Z h0 a1 sK1) :
   OMet l Z mN28 jdk_42_method_54_code 1 (some .int) [] (Rm 1 0 0 13) h0 #[(.ref a1)] (OQp (some (.int ((17 : Int32) >>> (w6 &&& 31)))) h0 n0) := by
 refine MetFree.of_bodySF (plainFor_of_name pn_java_lang_String) hisR ?_
 intro p e s m args below meth c s₁ Bd hml0 hP hK
 obtain ⟨rfl, hZ, hh⟩ := hP
 have hx := Bd.exec
 have hby := Bd.bytes
 have hml : c.maxLocals = 1 := hml0
 have hown : s.vm.findClass sK1 = some m.cls := findClass_of_methodNamed Bd.named
 have X0 := own_X0 Bd
 have e0 : s₁.heap = h0 := by rw [← hh, Bd.state]; rfl
 have N0 := Fr.nil n0
 have pre0 : ∀ t, Steps p.tables e below (s₁.setTop (mkF m 0 #[vR a1] [])) t → Steps p.tables e below (s₁.setTop (entryFrame m #[(.ref a1)] 1)) t := fun t k => castTop (ef_9_v m a1) k
 obtain ⟨T7, X7, e7, st7⟩ := getF X0 hx hZ hown (host := "") (Or.inl (tw hw 69 rfl)) Via.refl e0 H0 (g := (mkF m 1 #[vR a1] [(.ref a1)])) rfl rfl (hb hby d9_1)
 have vc8 := H1
 obtain ⟨cl8, Ar8, q8, S8, N8, Hh8, G8⟩ := vc8
 obtain ⟨cq9, kq9, q9a, q9b, q9c⟩ := isOf hZ e7 H6
 obtain ⟨_, _, ⟨T9, _, _, _⟩, -, X9, ⟨_, hQ, lq, yq, zq⟩, st9⟩ := X7.virtualBack hx (y := mN27) (z := mN27) hown (mvT hZ (tw hw 70 rfl)) (mvT hZ (tw hw 71 rfl)) (notFace_of_selects (args := #[]) (mvT hZ (tw hw 73 rfl))) (mvT hZ (tw hw 73 rfl)) (mvT hZ (tw hw 72 rfl)) (by decide) (backOf (W := 1) (r10_1 l Z a0 hw a1 w5 w6 h0 n0 Z0 H2 H3 H4 H5) hZ (tw hw 74 rfl) (tw hw 42 rfl) (by decide) (by decide)) q9a q9c (g := (mkF m 6 #[vR a1] [(.ref a1), (.int 17)])) rfl (by rw [hml]; rfl) (Steps.refl _) (argsL := []) (rest := [(.int 17)]) (lenOf pd_17 rfl) rfl (own_w _) (hb hby d9_6) (fun _ _ => ⟨rfl, e7, (by decide : 0 + 0 ≤ _), (by decide : 0 + 0 ≤ _)⟩)
 dsimp only [Pt.U, Pt.locs, Pt.cells, Pt.slots] at X9 lq yq zq st9 hQ
 replace X9 := own_mvX X9 (a := 0) (b := 0) yq zq
 obtain ⟨rfl, Nq, e9⟩ := hQ
 have N9 := own_mvN lq N0 Nq
 obtain ⟨fs, hr, hrun, hended, hW, hsame⟩ := X9.leave (v := some (.int ((17 : Int32) >>> (w6 &&& 31)))) (fun h => by rw [Bd.returns] at h; cases h)
 refine ⟨_, _, pre0 _ ?_, hrun, hended, _, _, rfl, ?_, ⟨_, rfl⟩, hW, hsame.mono (by decide) (by decide)⟩
 · show SG p e below s₁ (mkF m 0 #[vR a1] []) _
   refine XS.aloadN X0.here hx rfl (hb hby d9_0) rfl rfl ?_
   show SG p e below s₁ (mkF m 1 #[vR a1] [(.ref a1)]) _
   refine st7 _ ?_
   show SG p e below T7 (mkF m 4 #[vR a1] [(.ref w2)]) _
   refine X7.arraylength hx (by rw [e7]; exact Ar8.1) (State.isArrayOf_alike hZ.alike Ar8.2.1) (g := (mkF m 4 #[vR a1] [(.ref w2)])) rfl rfl (hb hby d9_4) _ ?_
   rw [len_of S8 N8]
   show SG p e below T7 (mkF m 5 #[vR a1] [(.int 17)]) _
   refine XS.aloadN X7.here hx rfl (hb hby d9_5) rfl rfl ?_
   show SG p e below T7 (mkF m 6 #[vR a1] [(.ref a1), (.int 17)]) _
   refine st9.trans ?_
   show SG p e below T9 (mkF m 9 #[vR a1] [(.int w6), (.int 17)]) _
   refine XS.ishr X9.here hx rfl (hb hby d9_9) rfl ?_
   show SG p e below T9 (mkF m 10 #[vR a1] [(.int ((17 : Int32) >>> (w6 &&& 31)))]) _
   exact retI X9 hx Bd.returns (hb hby d9_10) hr
 · show OQp (some (.int ((17 : Int32) >>> (w6 &&& 31)))) h0 n0 _ T9.heap _
   rw [e9]
   exact ⟨rfl, N9, rfl⟩
def Qr14_2 (Z : State) (a1 : Addr) (a2 : Addr) (p3 : Int32) (p4 : Int32) (w5 : Int32) (w6 : Int32) (w7 : Addr) (k8 : ClassId) (u9 : Nat → Int32) (k10 : ClassId) (u11 : Nat → Int32) (p12 : Int32) (h0 : Heap) (n0 : Nat) (v : Option Value) (h : Heap) (L : List Loc) : Prop := Fr n0 L ∧ v = none ∧ KSx h0 h [] [a2] ∧ BA Z h a2 k10 .byte p12 (fun i => if ((p3 <<< (p4 &&& 31))).toNatClampNeg ≤ i ∧ i < ((p3 <<< (p4 &&& 31))).toNatClampNeg + ((17 : Int32)).toNatClampNeg then u9 (((0 : Int32)).toNatClampNeg + (i - ((p3 <<< (p4 &&& 31))).toNatClampNeg)) else u11 i)
theorem r14_2 (l : Launch) (Z : State) (a0 : Array Value) (hw : TW a0 Z) (a1 : Addr) (a2 : Addr) (p3 : Int32) (p4 : Int32) (w5 : Int32) (w6 : Int32) (w7 : Addr) (k8 : ClassId) (u9 : Nat → Int32) (k10 : ClassId) (u11 : Nat → Int32) (p12 : Int32) (h0 : Heap) (n0 : Nat) (Z0 : n0 ≤ h0.size) (H0 : Sta Z h0 sK1 sK3 "Z" (.int w5)) (H1 : ¬ (w5 = 0)) (H2 : Fld Z h0 a1 sK1 "coder" "B" (.int w6)) (H3 : nar .byte w6 = w6) (H4 : Exa Z h0 a1 sK1) (H5 : w6 = p4) (H6 : Fld Z h0 a1 sK1 "value" "[B" (.ref w7)) (H7 : BA Z h0 w7 k8 .byte (17 : Int32) u9) (H8 : BA Z h0 a2 k10 .byte p12 u11) (H9 : ¬ ((p3 <<< (p4 &&& 31)) < 0)) (H10 : ((p3 <<< (p4 &&& 31))).toNatClampNeg + ((17 : Int32)).toNatClampNeg ≤ (p12).toNatClampNeg) (H11 : n0 ≤ a2) :
   OMet l Z mN38 jdk_42_method_147_code 4 none [] (Rm 1 0 0 18) h0 #[(.ref a1), (.ref a2), (.int p3), (.int p4)] (Qr14_2 Z a1 a2 p3 p4 w5 w6 w7 k8 u9 k10 u11 p12 h0 n0) := by
 refine MetFree.of_bodySF (plainFor_of_name pn_java_lang_String) hisR ?_
 intro p e s m args below meth c s₁ Bd hml0 hP hK
 obtain ⟨rfl, hZ, hh⟩ := hP
 have hx := Bd.exec
 have hby := Bd.bytes
 have hml : c.maxLocals = 4 := hml0
 have hown : s.vm.findClass sK1 = some m.cls := findClass_of_methodNamed Bd.named
 have X0 := own_X0 Bd
 have e0 : s₁.heap = h0 := by rw [← hh, Bd.state]; rfl
 have N0 := Fr.nil n0
 have pre0 : ∀ t, Steps p.tables e below (s₁.setTop (mkF m 0 #[vR a1, vR a2, vI p3, vI p4] [])) t → Steps p.tables e below (s₁.setTop (entryFrame m #[(.ref a1), (.ref a2), (.int p3), (.int p4)] 4)) t := fun t k => castTop (ef_14_vvvv m a1 a2 p3 p4) k
 obtain ⟨cq13, kq13, q13a, q13b, q13c⟩ := isOf hZ e0 H4
 obtain ⟨_, _, ⟨T13, _, _, _⟩, -, X13, ⟨_, hQ, lq, yq, zq⟩, st13⟩ := X0.virtualBack hx (y := mN27) (z := mN27) hown (mvT hZ (tw hw 70 rfl)) (mvT hZ (tw hw 71 rfl)) (notFace_of_selects (args := #[]) (mvT hZ (tw hw 73 rfl))) (mvT hZ (tw hw 73 rfl)) (mvT hZ (tw hw 72 rfl)) (by decide) (backOf (W := 0) (r10_1 l Z a0 hw a1 w5 w6 h0 n0 Z0 H0 H1 H2 H3) hZ (tw hw 74 rfl) (tw hw 42 rfl) (by decide) (by decide)) q13a q13c (g := (mkF m 1 #[vR a1, vR a2, vI p3, vI p4] [(.ref a1)])) rfl (by rw [hml]; rfl) (Steps.refl _) (argsL := []) (rest := []) (lenOf pd_17 rfl) rfl (own_w _) (hb hby d14_1) (fun _ _ => ⟨rfl, e0, (by decide : 0 + 0 ≤ _), (by decide : 0 + 0 ≤ _)⟩)
 dsimp only [Pt.U, Pt.locs, Pt.cells, Pt.slots] at X13 lq yq zq st13 hQ
 replace X13 := own_mvX X13 (a := 0) (b := 0) yq zq
 obtain ⟨rfl, Nq, e13⟩ := hQ
 have N13 := own_mvN lq N0 Nq
 obtain ⟨T14, X14, e14, st14⟩ := getF X13 hx hZ hown (host := "") (Or.inl (tw hw 69 rfl)) Via.refl e13 H6 (g := (mkF m 9 #[vR a1, vR a2, vI p3, vI p4] [(.ref a1)])) rfl rfl (hb hby d14_9)
 obtain ⟨T15, X15, e15, st15⟩ := getF X14 hx hZ hown (host := "") (Or.inl (tw hw 69 rfl)) Via.refl e14 H6 (g := (mkF m 18 #[vR a1, vR a2, vI p3, vI p4] [(.ref a1), (.int (p3 <<< (p4 &&& 31))), (.ref a2), (.int 0), (.ref w7)])) rfl rfl (hb hby d14_18)
 have vc16 := H7
 obtain ⟨cl16, Ar16, q16, S16, N16, Hh16, G16⟩ := vc16
 obtain ⟨T17, h17, L17, X17, e17, N17, K17, B17, st17⟩ := cpB X15 hx hZ hown (tw hw 100 rfl) (tw hw 103 rfl) (tw hw 101 rfl) (tw hw 102 rfl) e15 H7 H8 rfl (by decide) H9 (by decide) (by decide) H10 N13 H11 (g0 := (mkF m 22 #[vR a1, vR a2, vI p3, vI p4] [(.int 17), (.int (p3 <<< (p4 &&& 31))), (.ref a2), (.int 0), (.ref w7)])) rfl (by rw [hml]; rfl) rfl (hb hby d14_22) (by decide) (W := 0) (own_w _) (by decide)
 have KC17 := KSx.trans (KSx.refl h0 [] [a2]) K17 ks0 (allS (Or.inl (List.mem_of_getElem? (i := 0) rfl)) all0)
 obtain ⟨fs, hr, hrun, hended, hW, hsame⟩ := X17.leave (v := none) (fun _ => rfl)
 refine ⟨_, _, pre0 _ ?_, hrun, hended, _, _, rfl, ?_, ⟨_, rfl⟩, hW, hsame.mono (by decide) (by decide)⟩
 · show SG p e below s₁ (mkF m 0 #[vR a1, vR a2, vI p3, vI p4] []) _
   refine XS.aloadN X0.here hx rfl (hb hby d14_0) rfl rfl ?_
   show SG p e below s₁ (mkF m 1 #[vR a1, vR a2, vI p3, vI p4] [(.ref a1)]) _
   refine st13.trans ?_
   show SG p e below T13 (mkF m 4 #[vR a1, vR a2, vI p3, vI p4] [(.int w6)]) _
   refine XS.iloadN X13.here hx rfl (hb hby d14_4) rfl ?_
   refine XS.icmpNo X13.here hx rfl (hb hby d14_5) rfl (teq H5).2 ?_
   show SG p e below T13 (mkF m 8 #[vR a1, vR a2, vI p3, vI p4] []) _
   refine XS.aloadN X13.here hx rfl (hb hby d14_8) rfl rfl ?_
   show SG p e below T13 (mkF m 9 #[vR a1, vR a2, vI p3, vI p4] [(.ref a1)]) _
   refine st14 _ ?_
   show SG p e below T14 (mkF m 12 #[vR a1, vR a2, vI p3, vI p4] [(.ref w7)]) _
   refine XS.iconst X14.here hx rfl (hb hby d14_12) ?_
   refine XS.aloadN X14.here hx rfl (hb hby d14_13) rfl rfl ?_
   show SG p e below T14 (mkF m 14 #[vR a1, vR a2, vI p3, vI p4] [(.ref a2), (.int 0), (.ref w7)]) _
   refine XS.iloadN X14.here hx rfl (hb hby d14_14) rfl ?_
   refine XS.iloadN X14.here hx rfl (hb hby d14_15) rfl ?_
   show SG p e below T14 (mkF m 16 #[vR a1, vR a2, vI p3, vI p4] [(.int p4), (.int p3), (.ref a2), (.int 0), (.ref w7)]) _
   refine XS.ishl X14.here hx rfl (hb hby d14_16) rfl ?_
   show SG p e below T14 (mkF m 17 #[vR a1, vR a2, vI p3, vI p4] [(.int (p3 <<< (p4 &&& 31))), (.ref a2), (.int 0), (.ref w7)]) _
   refine XS.aloadN X14.here hx rfl (hb hby d14_17) rfl rfl ?_
   show SG p e below T14 (mkF m 18 #[vR a1, vR a2, vI p3, vI p4] [(.ref a1), (.int (p3 <<< (p4 &&& 31))), (.ref a2), (.int 0), (.ref w7)]) _
   refine st15 _ ?_
   show SG p e below T15 (mkF m 21 #[vR a1, vR a2, vI p3, vI p4] [(.ref w7), (.int (p3 <<< (p4 &&& 31))), (.ref a2), (.int 0), (.ref w7)]) _
   refine X15.arraylength hx (by rw [e15]; exact Ar16.1) (State.isArrayOf_alike hZ.alike Ar16.2.1) (g := (mkF m 21 #[vR a1, vR a2, vI p3, vI p4] [(.ref w7), (.int (p3 <<< (p4 &&& 31))), (.ref a2), (.int 0), (.ref w7)])) rfl rfl (hb hby d14_21) _ ?_
   rw [len_of S16 N16]
   show SG p e below T15 (mkF m 22 #[vR a1, vR a2, vI p3, vI p4] [(.int 17), (.int (p3 <<< (p4 &&& 31))), (.ref a2), (.int 0), (.ref w7)]) _
   refine st17 _ ?_
   show SG p e below T17 (mkF m 25 #[vR a1, vR a2, vI p3, vI p4] []) _
   refine XS.goto X17.here hx rfl (pc0 := 25) (pc' := 43) rfl (hb hby d14_25) (by decide) (by decide) ?_
   show SG p e below T17 (mkF m 43 #[vR a1, vR a2, vI p3, vI p4] []) _
   exact X17.returnOut hx Bd.returns (hb hby d14_43) hr
 · show Qr14_2 Z a1 a2 p3 p4 w5 w6 w7 k8 u9 k10 u11 p12 h0 n0 _ T17.heap _
   rw [e17]
   exact ⟨N17, rfl, KC17, B17⟩
def Qr12_2 (Z : State) (a1 : Addr) (p2 : Int32) (a3 : Addr) (w4 : Int32) (w5 : Int32) (w6 : Int32) (w7 : Addr) (w8 : Addr) (k9 : ClassId) (u10 : Nat → Int32) (k11 : ClassId) (u12 : Nat → Int32) (p13 : Int32) (h0 : Heap) (n0 : Nat) (v : Option Value) (h : Heap) (L : List Loc) : Prop := Fr n0 L ∧ v = none ∧ KSx h0 h [] [w7] ∧ BA Z h w7 k11 .byte p13 (fun i => if ((p2 <<< (w5 &&& 31))).toNatClampNeg ≤ i ∧ i < ((p2 <<< (w5 &&& 31))).toNatClampNeg + ((17 : Int32)).toNatClampNeg then u10 (((0 : Int32)).toNatClampNeg + (i - ((p2 <<< (w5 &&& 31))).toNatClampNeg)) else u12 i)
theorem r12_2 (l : Launch) (Z : State) (a0 : Array Value) (hw : TW a0 Z) (a1 : Addr) (p2 : Int32) (a3 : Addr) (w4 : Int32) (w5 : Int32) (w6 : Int32) (w7 : Addr) (w8 : Addr) (k9 : ClassId) (u10 : Nat → Int32) (k11 : ClassId) (u12 : Nat → Int32) (p13 : Int32) (h0 : Heap) (n0 : Nat) (Z0 : n0 ≤ h0.size) (H0 : Sta Z h0 sK1 sK3 "Z" (.int w4)) (H1 : ¬ (w4 = 0)) (H2 : Fld Z h0 a1 sK2 "coder" "B" (.int w5)) (H3 : Fld Z h0 a3 sK1 "coder" "B" (.int w6)) (H4 : nar .byte w6 = w6) (H5 : Exa Z h0 a3 sK1) (H6 : w5 = w6) (H7 : Exa Z h0 a1 sK4) (H8 : Fld Z h0 a1 sK2 "value" "[B" (.ref w7)) (H9 : w6 = w5) (H10 : Fld Z h0 a3 sK1 "value" "[B" (.ref w8)) (H11 : BA Z h0 w8 k9 .byte (17 : Int32) u10) (H12 : BA Z h0 w7 k11 .byte p13 u12) (H13 : ¬ ((p2 <<< (w5 &&& 31)) < 0)) (H14 : ((p2 <<< (w5 &&& 31))).toNatClampNeg + ((17 : Int32)).toNatClampNeg ≤ (p13).toNatClampNeg) (H15 : n0 ≤ w7) :
   OMet l Z mN39 jdk_68_method_73_code 3 none [] (Rm 2 0 0 33) h0 #[(.ref a1), (.int p2), (.ref a3)] (Qr12_2 Z a1 p2 a3 w4 w5 w6 w7 w8 k9 u10 k11 u12 p13 h0 n0) := by
 refine MetFree.of_bodySF (plainFor_of_name pn_java_lang_AbstractStringBuilder) hisR ?_
 intro p e s m args below meth c s₁ Bd hml0 hP hK
 obtain ⟨rfl, hZ, hh⟩ := hP
 have hx := Bd.exec
 have hby := Bd.bytes
 have hml : c.maxLocals = 3 := hml0
 have hown : s.vm.findClass sK2 = some m.cls := findClass_of_methodNamed Bd.named
 have X0 := own_X0 Bd
 have e0 : s₁.heap = h0 := by rw [← hh, Bd.state]; rfl
 have N0 := Fr.nil n0
 have pre0 : ∀ t, Steps p.tables e below (s₁.setTop (mkF m 0 #[vR a1, vI p2, vR a3] [])) t → Steps p.tables e below (s₁.setTop (entryFrame m #[(.ref a1), (.int p2), (.ref a3)] 3)) t := fun t k => castTop (ef_12_vvv m a1 p2 a3) k
 obtain ⟨cq14, kq14, q14a, q14b, q14c⟩ := isOf hZ e0 H7
 obtain ⟨_, _, ⟨T14, _, _, _⟩, -, X14, ⟨_, hQ, lq, yq, zq⟩, st14⟩ := X0.virtualBack hx (y := mN37) (z := mN37) hown (mvT hZ (tw hw 89 rfl)) (own_decl (mvT hZ (tw hw 90 rfl)) (mvT hZ (tw hw 93 rfl))) (notFace_of_selects (args := #[]) (mvT hZ (tw hw 92 rfl))) (mvT hZ (tw hw 92 rfl)) (mvT hZ (tw hw 90 rfl)) (by decide) (backOf (W := 0) (r13_1 l Z a0 hw a1 a3 w4 w5 w6 h0 n0 Z0 H0 H1 H2 H3 H4 H5 H6) hZ (tw hw 93 rfl) (tw hw 38 rfl) (by decide) (by decide)) q14a q14c (g := (mkF m 2 #[vR a1, vI p2, vR a3] [(.ref a3), (.ref a1)])) rfl (by rw [hml]; rfl) (Steps.refl _) (argsL := [(.ref a3)]) (rest := []) (lenOf pd_25 rfl) rfl (own_w _) (hb hby d12_2) (fun _ _ => ⟨rfl, e0, (by decide : 0 + 0 ≤ _), (by decide : 0 + 0 ≤ _)⟩)
 dsimp only [Pt.U, Pt.locs, Pt.cells, Pt.slots] at X14 lq yq zq st14 hQ
 replace X14 := own_mvX X14 (a := 0) (b := 0) yq zq
 obtain ⟨rfl, Nq, e14⟩ := hQ
 have N14 := own_mvN lq N0 Nq
 obtain ⟨T15, X15, e15, st15⟩ := getF X14 hx hZ hown (host := "") (Or.inl (tw hw 44 rfl)) Via.refl e14 H8 (g := (mkF m 7 #[vR a1, vI p2, vR a3] [(.ref a1), (.ref a3)])) rfl rfl (hb hby d12_7)
 obtain ⟨T16, X16, e16, st16⟩ := getF X15 hx hZ hown (host := "") (Or.inl (tw hw 46 rfl)) Via.refl e15 H2 (g := (mkF m 12 #[vR a1, vI p2, vR a3] [(.ref a1), (.int p2), (.ref w7), (.ref a3)])) rfl rfl (hb hby d12_12)
 obtain ⟨cq17, kq17, q17a, q17b, q17c⟩ := isOf hZ e16 H5
 obtain ⟨_, _, ⟨T17, _, _, _⟩, -, X17, ⟨_, hQ, lq, yq, zq⟩, st17⟩ := X16.virtualBack hx (y := mN38) (z := mN38) hown (mvT hZ (tw hw 95 rfl)) (mvT hZ (tw hw 96 rfl)) (notFace_of_selects (args := #[]) (mvT hZ (tw hw 98 rfl))) (mvT hZ (tw hw 98 rfl)) (mvT hZ (tw hw 97 rfl)) (by decide) (backOf (W := 0) (r14_2 l Z a0 hw a3 w7 p2 w5 w4 w6 w8 k9 u10 k11 u12 p13 h0 n0 Z0 H0 H1 H3 H4 H5 H9 H10 H11 H12 H13 H14 H15) hZ (tw hw 99 rfl) (tw hw 42 rfl) (by decide) (by decide)) q17a q17c (g := (mkF m 15 #[vR a1, vI p2, vR a3] [(.int w5), (.int p2), (.ref w7), (.ref a3)])) rfl (by rw [hml]; rfl) (Steps.refl _) (argsL := [(.ref w7), (.int p2), (.int w5)]) (rest := []) (lenOf pd_26 rfl) rfl (own_w _) (hb hby d12_15) (fun _ _ => ⟨rfl, e16, (by decide : 0 + 0 ≤ _), (by decide : 0 + 0 ≤ _)⟩)
 dsimp only [Pt.U, Pt.locs, Pt.cells, Pt.slots] at X17 lq yq zq st17 hQ
 replace X17 := own_mvX X17 (a := 0) (b := 0) yq zq
 obtain ⟨Nq, rfl, K17, o17_0⟩ := hQ
 have N17 := own_mvN lq N14 Nq
 have KC17 := KSx.trans (KSx.refl h0 [] [w7]) K17 ks0 (allS (Or.inl (List.mem_of_getElem? (i := 0) rfl)) all0)
 obtain ⟨fs, hr, hrun, hended, hW, hsame⟩ := X17.leave (v := none) (fun _ => rfl)
 refine ⟨_, _, pre0 _ ?_, hrun, hended, _, _, rfl, ?_, ⟨_, rfl⟩, hW, hsame.mono (by decide) (by decide)⟩
 · show SG p e below s₁ (mkF m 0 #[vR a1, vI p2, vR a3] []) _
   refine XS.aloadN X0.here hx rfl (hb hby d12_0) rfl rfl ?_
   refine XS.aloadN X0.here hx rfl (hb hby d12_1) rfl rfl ?_
   show SG p e below s₁ (mkF m 2 #[vR a1, vI p2, vR a3] [(.ref a3), (.ref a1)]) _
   refine st14.trans ?_
   show SG p e below T14 (mkF m 5 #[vR a1, vI p2, vR a3] []) _
   refine XS.aloadN X14.here hx rfl (hb hby d12_5) rfl rfl ?_
   refine XS.aloadN X14.here hx rfl (hb hby d12_6) rfl rfl ?_
   show SG p e below T14 (mkF m 7 #[vR a1, vI p2, vR a3] [(.ref a1), (.ref a3)]) _
   refine st15 _ ?_
   show SG p e below T15 (mkF m 10 #[vR a1, vI p2, vR a3] [(.ref w7), (.ref a3)]) _
   refine XS.iloadN X15.here hx rfl (hb hby d12_10) rfl ?_
   refine XS.aloadN X15.here hx rfl (hb hby d12_11) rfl rfl ?_
   show SG p e below T15 (mkF m 12 #[vR a1, vI p2, vR a3] [(.ref a1), (.int p2), (.ref w7), (.ref a3)]) _
   refine st16 _ ?_
   show SG p e below T16 (mkF m 15 #[vR a1, vI p2, vR a3] [(.int w5), (.int p2), (.ref w7), (.ref a3)]) _
   refine st17.trans ?_
   show SG p e below T17 (mkF m 18 #[vR a1, vI p2, vR a3] []) _
   exact X17.returnOut hx Bd.returns (hb hby d12_18) hr
 · show Qr12_2 Z a1 p2 a3 w4 w5 w6 w7 w8 k9 u10 k11 u12 p13 h0 n0 _ T17.heap _
   exact ⟨N17, rfl, KC17, o17_0⟩
def Qr8_2 (Z : State) (a1 : Addr) (a2 : Addr) (w3 : Addr) (k4 : ClassId) (u5 : Nat → Int32) (w6 : Int32) (w7 : Int32) (w8 : Int32) (w9 : Addr) (k10 : ClassId) (u11 : Nat → Int32) (p12 : Int32) (w13 : Int32) (h0 : Heap) (n0 : Nat) (v : Option Value) (h : Heap) (L : List Loc) : Prop := Fr n0 L ∧ ∃ b14_0 : Addr, ∃ k14_0 : ClassId, v = some (.ref a1) ∧ h0.size ≤ b14_0 ∧ KSx h0 h [(a1, Jvm.RoadKit.slotOf Z sK2 "value" "[B"), (a1, Jvm.RoadKit.slotOf Z sK2 "count" "I")] [] ∧ Exa Z h b14_0 "[B" ∧ Fld Z h a1 sK2 "count" "I" (.int (w8 + ((17 : Int32) >>> (w7 &&& 31)))) ∧ Fld Z h a1 sK2 "value" "[B" (.ref b14_0) ∧ BA Z h b14_0 k14_0 .byte (((p12 + (p12 + ((2 : Int32) <<< (w13 &&& 31)))) >>> (w13 &&& 31)) <<< (w13 &&& 31)) (fun i => if ((w8 <<< (w13 &&& 31))).toNatClampNeg ≤ i ∧ i < ((w8 <<< (w13 &&& 31))).toNatClampNeg + ((17 : Int32)).toNatClampNeg then u5 (((0 : Int32)).toNatClampNeg + (i - ((w8 <<< (w13 &&& 31))).toNatClampNeg)) else (fun i => if ((0 : Int32)).toNatClampNeg ≤ i ∧ i < ((0 : Int32)).toNatClampNeg + (p12).toNatClampNeg then u11 (((0 : Int32)).toNatClampNeg + (i - ((0 : Int32)).toNatClampNeg)) else (fun _ => (0 : Int32)) i) i)
theorem r8_2 (l : Launch) (Z : State) (a0 : Array Value) (hw : TW a0 Z) (a1 : Addr) (a2 : Addr) (w3 : Addr) (k4 : ClassId) (u5 : Nat → Int32) (w6 : Int32) (w7 : Int32) (w8 : Int32) (w9 : Addr) (k10 : ClassId) (u11 : Nat → Int32) (p12 : Int32) (w13 : Int32) (h0 : Heap) (n0 : Nat) (Z0 : n0 ≤ h0.size) (H0 : Fld Z h0 a2 sK1 "value" "[B" (.ref w3)) (H1 : BA Z h0 w3 k4 .byte (17 : Int32) u5) (H2 : Sta Z h0 sK1 sK3 "Z" (.int w6)) (H3 : ¬ (w6 = 0)) (H4 : Fld Z h0 a2 sK1 "coder" "B" (.int w7)) (H5 : nar .byte w7 = w7) (H6 : Exa Z h0 a2 sK1) (H7 : Fld Z h0 a1 sK2 "count" "I" (.int w8)) (H8 : Fld Z h0 a1 sK2 "value" "[B" (.ref w9)) (H9 : BA Z h0 w9 k10 .byte p12 u11) (H10 : Fld Z h0 a1 sK2 "coder" "B" (.int w13)) (H11 : (0 : Int32) < ((w8 + ((17 : Int32) >>> (w7 &&& 31))) - (p12 >>> (w13 &&& 31)))) (H12 : (((w8 + ((17 : Int32) >>> (w7 &&& 31))) <<< (w13 &&& 31)) - p12) < (p12 + ((2 : Int32) <<< (w13 &&& 31)))) (H13 : (0 : Int32) < (p12 + (p12 + ((2 : Int32) <<< (w13 &&& 31))))) (H14 : ¬ ((2147483639 : Int32) < (p12 + (p12 + ((2 : Int32) <<< (w13 &&& 31)))))) (H15 : ¬ ((p12 + (p12 + ((2 : Int32) <<< (w13 &&& 31)))) = 2147483647)) (H16 : Exa Z h0 a1 sK4) (H17 : ¬ ((((p12 + (p12 + ((2 : Int32) <<< (w13 &&& 31)))) >>> (w13 &&& 31)) <<< (w13 &&& 31)) = p12)) (H18 : ¬ ((((p12 + (p12 + ((2 : Int32) <<< (w13 &&& 31)))) >>> (w13 &&& 31)) <<< (w13 &&& 31)) < 0)) (H19 : ¬ ((70 : Int32) < (((p12 + (p12 + ((2 : Int32) <<< (w13 &&& 31)))) >>> (w13 &&& 31)) <<< (w13 &&& 31)))) (H20 : ¬ ((((p12 + (p12 + ((2 : Int32) <<< (w13 &&& 31)))) >>> (w13 &&& 31)) <<< (w13 &&& 31)) < p12)) (H21 : ¬ (p12 < 0)) (H22 : ((0 : Int32)).toNatClampNeg + (p12).toNatClampNeg ≤ (p12).toNatClampNeg) (H23 : ((0 : Int32)).toNatClampNeg + (p12).toNatClampNeg ≤ ((((p12 + (p12 + ((2 : Int32) <<< (w13 &&& 31)))) >>> (w13 &&& 31)) <<< (w13 &&& 31))).toNatClampNeg) (H24 : n0 ≤ a1) (H25 : w13 = w7) (H26 : w7 = w13) (H27 : w3 ≠ a1) (H28 : ¬ ((w8 <<< (w13 &&& 31)) < 0)) (H29 : ((w8 <<< (w13 &&& 31))).toNatClampNeg + ((17 : Int32)).toNatClampNeg ≤ ((((p12 + (p12 + ((2 : Int32) <<< (w13 &&& 31)))) >>> (w13 &&& 31)) <<< (w13 &&& 31))).toNatClampNeg) :
   OMet l Z mN40 jdk_68_method_22_code 3 (some (.object sK2)) [] (Rm 4 1 70 62) h0 #[(.ref a1), (.ref a2)] (Qr8_2 Z a1 a2 w3 k4 u5 w6 w7 w8 w9 k10 u11 p12 w13 h0 n0) := by
 refine MetFree.of_bodySF (plainFor_of_name pn_java_lang_AbstractStringBuilder) hisR ?_
 intro p e s m args below meth c s₁ Bd hml0 hP hK
 obtain ⟨rfl, hZ, hh⟩ := hP
 have hx := Bd.exec
 have hby := Bd.bytes
 have hml : c.maxLocals = 3 := hml0
 have hown : s.vm.findClass sK2 = some m.cls := findClass_of_methodNamed Bd.named
 have X0 := own_X0 Bd
 have e0 : s₁.heap = h0 := by rw [← hh, Bd.state]; rfl
 have N0 := Fr.nil n0
 have pre0 : ∀ t, Steps p.tables e below (s₁.setTop (mkF m 0 #[vR a1, vR a2, .unset] [])) t → Steps p.tables e below (s₁.setTop (entryFrame m #[(.ref a1), (.ref a2)] 3)) t := fun t k => castTop (ef_8_vv m a1 a2) k
 obtain ⟨cq14, kq14, q14a, q14b, q14c⟩ := isOf hZ e0 H6
 obtain ⟨_, _, ⟨T14, _, _, _⟩, -, X14, ⟨_, hQ, lq, yq, zq⟩, st14⟩ := X0.virtualBack hx (y := mN28) (z := mN28) hown (mvT hZ (tw hw 64 rfl)) (mvT hZ (tw hw 65 rfl)) (notFace_of_selects (args := #[]) (mvT hZ (tw hw 67 rfl))) (mvT hZ (tw hw 67 rfl)) (mvT hZ (tw hw 66 rfl)) (by decide) (backOf (W := 0) (r9_2 l Z a0 hw a2 w3 k4 u5 w6 w7 h0 n0 Z0 H0 H1 H2 H3 H4 H5 H6) hZ (tw hw 68 rfl) (tw hw 42 rfl) (by decide) (by decide)) q14a q14c (g := (mkF m 10 #[vR a1, vR a2, vU] [(.ref a2)])) rfl (by rw [hml]; rfl) (Steps.refl _) (argsL := []) (rest := []) (lenOf pd_5 rfl) rfl (own_w _) (hb hby d8_10) (fun _ _ => ⟨rfl, e0, (by decide : 0 + 0 ≤ _), (by decide : 0 + 0 ≤ _)⟩)
 dsimp only [Pt.U, Pt.locs, Pt.cells, Pt.slots] at X14 lq yq zq st14 hQ
 replace X14 := own_mvX X14 (a := 0) (b := 0) yq zq
 obtain ⟨rfl, Nq, e14⟩ := hQ
 have N14 := own_mvN lq N0 Nq
 obtain ⟨T15, X15, e15, st15⟩ := getF X14 hx hZ hown (host := "") (Or.inl (tw hw 77 rfl)) Via.refl e14 H7 (g := (mkF m 16 #[vR a1, vR a2, vI ((17 : Int32) >>> (w7 &&& 31))] [(.ref a1), (.ref a1)])) rfl rfl (hb hby d8_16)
 obtain ⟨cq16, kq16, q16a, q16b, q16c⟩ := isOf hZ e15 H16
 obtain ⟨_, _, ⟨T16, _, _, _⟩, -, X16, ⟨_, hQ, lq, yq, zq⟩, st16⟩ := X15.virtualBack hx (y := mN8) (z := mN8) hown (mvT hZ (tw hw 79 rfl)) (own_decl (mvT hZ (tw hw 80 rfl)) (mvT hZ (tw hw 83 rfl))) (notFace_of_selects (args := #[]) (mvT hZ (tw hw 82 rfl))) (mvT hZ (tw hw 82 rfl)) (mvT hZ (tw hw 80 rfl)) (by decide) (backOf (W := 0) (r11_2 l Z a0 hw a1 (w8 + ((17 : Int32) >>> (w7 &&& 31))) w9 k10 u11 p12 w13 h0 n0 Z0 H8 H9 H10 H11 H12 H13 H14 H15 H16 H17 H18 H19 H20 H21 H22 H23 H24) hZ (tw hw 83 rfl) (tw hw 38 rfl) (by decide) (by decide)) q16a q16c (g := (mkF m 21 #[vR a1, vR a2, vI ((17 : Int32) >>> (w7 &&& 31))] [(.int (w8 + ((17 : Int32) >>> (w7 &&& 31)))), (.ref a1)])) rfl (by rw [hml]; rfl) (Steps.refl _) (argsL := [(.int (w8 + ((17 : Int32) >>> (w7 &&& 31))))]) (rest := []) (lenOf pd_11 rfl) rfl (own_w _) (hb hby d8_21) (fun _ _ => ⟨rfl, e15, (by decide : 0 + 1 ≤ _), (by decide : 0 + 70 ≤ _)⟩)
 dsimp only [Pt.U, Pt.locs, Pt.cells, Pt.slots] at X16 lq yq zq st16 hQ
 replace X16 := own_mvX X16 (a := 1) (b := 70) yq zq
 obtain ⟨Nq, b16_0, k16_0, rfl, ge_b16_0, K16, o16_0, o16_1, o16_2⟩ := hQ
 have N16 := own_mvN lq N14 Nq
 have KC16 := KSx.trans (KSx.refl h0 [(a1, Jvm.RoadKit.slotOf Z sK2 "value" "[B"), (a1, Jvm.RoadKit.slotOf Z sK2 "count" "I")] []) K16 (ksS (Or.inl (List.mem_of_getElem? (i := 0) rfl)) ks0) all0
 have f17 := (H7.ks K16 (ksS (Or.inr (slot_ne (Or.inl (tw hw 78 rfl)) (Or.inl (tw hw 45 rfl)) (by decide) (t := .int) (t' := (.array .byte)) (by decide) (by decide))) ks0) all0)
 obtain ⟨T18, X18, e18, st18⟩ := getF X16 hx hZ hown (host := "") (Or.inl (tw hw 77 rfl)) Via.refl rfl f17 (g := (mkF m 26 #[vR a1, vR a2, vI ((17 : Int32) >>> (w7 &&& 31))] [(.ref a1), (.ref a1)])) rfl rfl (hb hby d8_26)
 have f19 := (H2.ks K16)
 have f20 := (H10.ks K16 (ksS (Or.inr (slot_ne (Or.inl (tw hw 47 rfl)) (Or.inl (tw hw 45 rfl)) (by decide) (t := .byte) (t' := (.array .byte)) (by decide) (by decide))) ks0) all0)
 have f21 := (H6.ks K16)
 have f22 := (H16.ks K16)
 have ne23 : a2 ≠ a1 := (ne_exa f21 f22 (by decide))
 have f24 := (H4.ks K16 (ksS (Or.inl ne23) ks0) all0)
 have f25 := (H0.ks K16 (ksS (Or.inl ne23) ks0) all0)
 have f26 := (H1.ks K16 (ksS H27 ks0) all0)
 have g27 : n0 ≤ b16_0 := Nat.le_trans Z0 ge_b16_0
 have Z16 : n0 ≤ T16.heap.size := Nat.le_trans Z0 K16.1
 obtain ⟨cq28, kq28, q28a, q28b, q28c⟩ := isOf hZ e18 f22
 obtain ⟨_, _, ⟨T28, _, _, _⟩, -, X28, ⟨_, hQ, lq, yq, zq⟩, st28⟩ := X18.virtualBack hx (y := mN39) (z := mN39) hown (mvT hZ (tw hw 84 rfl)) (own_decl (mvT hZ (tw hw 85 rfl)) (mvT hZ (tw hw 88 rfl))) (notFace_of_selects (args := #[]) (mvT hZ (tw hw 87 rfl))) (mvT hZ (tw hw 87 rfl)) (mvT hZ (tw hw 85 rfl)) (by decide) (backOf (W := 0) (r12_2 l Z a0 hw a1 w8 a2 w6 w13 w7 b16_0 w3 k4 u5 k16_0 _ (((p12 + (p12 + ((2 : Int32) <<< (w13 &&& 31)))) >>> (w13 &&& 31)) <<< (w13 &&& 31)) T16.heap n0 Z16 f19 H3 f20 f24 H5 f21 H25 f22 o16_1 H26 f25 f26 o16_2 H28 H29 g27) hZ (tw hw 88 rfl) (tw hw 38 rfl) (by decide) (by decide)) q28a q28c (g := (mkF m 30 #[vR a1, vR a2, vI ((17 : Int32) >>> (w7 &&& 31))] [(.ref a2), (.int w8), (.ref a1)])) rfl (by rw [hml]; rfl) (Steps.refl _) (argsL := [(.int w8), (.ref a2)]) (rest := []) (lenOf pd_27 rfl) rfl (own_w _) (hb hby d8_30) (fun _ _ => ⟨rfl, e18, (by decide : 1 + 0 ≤ _), (by decide : 70 + 0 ≤ _)⟩)
 dsimp only [Pt.U, Pt.locs, Pt.cells, Pt.slots] at X28 lq yq zq st28 hQ
 replace X28 := own_mvX X28 (a := 1) (b := 70) yq zq
 obtain ⟨Nq, rfl, K28, o28_0⟩ := hQ
 have N28 := own_mvN lq N16 Nq
 have z29 : h0.size ≤ b16_0 := Nat.le_trans (KSx.refl h0 [(a1, Jvm.RoadKit.slotOf Z sK2 "value" "[B"), (a1, Jvm.RoadKit.slotOf Z sK2 "count" "I")] []).1 ge_b16_0
 have KC28 := KSx.trans KC16 K28 ks0 (allS (Or.inr z29) all0)
 have ne30 : a1 ≠ b16_0 := (Nat.ne_of_lt (Nat.lt_of_lt_of_le (H7).lt ge_b16_0))
 have f31 := (f17.ks K28 ks0 (allS ne30 all0))
 obtain ⟨T32, X32, e32, st32⟩ := getF X28 hx hZ hown (host := "") (Or.inl (tw hw 77 rfl)) Via.refl rfl f31 (g := (mkF m 35 #[vR a1, vR a2, vI ((17 : Int32) >>> (w7 &&& 31))] [(.ref a1), (.ref a1)])) rfl rfl (hb hby d8_35)
 have f33 := (f22.ks K28)
 obtain ⟨T34, h34, X34, e34, W34, st34⟩ := putF X32 hx hZ hown (host := "") (Or.inl (tw hw 77 rfl)) Via.refl e32 f31 f33 (Or.inl (tw hw 78 rfl)) (tw hw 29 rfl) (ty := .int) (by decide) rfl rfl (g := (mkF m 40 #[vR a1, vR a2, vI ((17 : Int32) >>> (w7 &&& 31))] [(.int (w8 + ((17 : Int32) >>> (w7 &&& 31)))), (.ref a1)])) rfl rfl (hb hby d8_40)
 have Fw34 := Fld.same W34 f31
 have KC34 := KSx.wr KC28 W34 (Or.inl (List.mem_of_getElem? (i := 1) rfl))
 have N34 := Fr.snoc X34 N28 H24
 have f35 := ((o16_0.ks K28).wr W34)
 have f36 := ((o16_1.ks K28 ks0 (allS ne30 all0)).other W34 (Or.inr (slot_ne (Or.inl (tw hw 45 rfl)) (Or.inl (tw hw 78 rfl)) (by decide) (t := (.array .byte)) (t' := .int) (by decide) (by decide))))
 have f37 := (o28_0.other W34 (Ne.symm ne30))
 obtain ⟨fs, hr, hrun, hended, hW, hsame⟩ := X34.leave (v := some (.ref a1)) (fun h => by rw [Bd.returns] at h; cases h)
 refine ⟨_, _, pre0 _ ?_, hrun, hended, _, _, rfl, ?_, ⟨_, rfl⟩, hW, hsame.mono (by decide) (by decide)⟩
 · show SG p e below s₁ (mkF m 0 #[vR a1, vR a2, vU] []) _
   refine XS.aloadN X0.here hx rfl (hb hby d8_0) rfl rfl ?_
   refine XS.ifnonnullYes X0.here hx rfl (pc0 := 1) (pc' := 9) rfl (hb hby d8_1) rfl (by decide) (by decide) ?_
   show SG p e below s₁ (mkF m 9 #[vR a1, vR a2, vU] []) _
   refine XS.aloadN X0.here hx rfl (hb hby d8_9) rfl rfl ?_
   show SG p e below s₁ (mkF m 10 #[vR a1, vR a2, vU] [(.ref a2)]) _
   refine st14.trans ?_
   show SG p e below T14 (mkF m 13 #[vR a1, vR a2, vU] [(.int ((17 : Int32) >>> (w7 &&& 31)))]) _
   refine XS.istoreN X14.here hx rfl (hb hby d8_13) rfl (l' := #[vR a1, vR a2, vI ((17 : Int32) >>> (w7 &&& 31))]) rfl ?_
   show SG p e below T14 (mkF m 14 #[vR a1, vR a2, vI ((17 : Int32) >>> (w7 &&& 31))] []) _
   refine XS.aloadN X14.here hx rfl (hb hby d8_14) rfl rfl ?_
   refine XS.aloadN X14.here hx rfl (hb hby d8_15) rfl rfl ?_
   show SG p e below T14 (mkF m 16 #[vR a1, vR a2, vI ((17 : Int32) >>> (w7 &&& 31))] [(.ref a1), (.ref a1)]) _
   refine st15 _ ?_
   show SG p e below T15 (mkF m 19 #[vR a1, vR a2, vI ((17 : Int32) >>> (w7 &&& 31))] [(.int w8), (.ref a1)]) _
   refine XS.iloadN X15.here hx rfl (hb hby d8_19) rfl ?_
   refine XS.iadd X15.here hx rfl (hb hby d8_20) rfl ?_
   show SG p e below T15 (mkF m 21 #[vR a1, vR a2, vI ((17 : Int32) >>> (w7 &&& 31))] [(.int (w8 + ((17 : Int32) >>> (w7 &&& 31)))), (.ref a1)]) _
   refine st16.trans ?_
   show SG p e below T16 (mkF m 24 #[vR a1, vR a2, vI ((17 : Int32) >>> (w7 &&& 31))] []) _
   refine XS.aloadN X16.here hx rfl (hb hby d8_24) rfl rfl ?_
   refine XS.aloadN X16.here hx rfl (hb hby d8_25) rfl rfl ?_
   show SG p e below T16 (mkF m 26 #[vR a1, vR a2, vI ((17 : Int32) >>> (w7 &&& 31))] [(.ref a1), (.ref a1)]) _
   refine st18 _ ?_
   show SG p e below T18 (mkF m 29 #[vR a1, vR a2, vI ((17 : Int32) >>> (w7 &&& 31))] [(.int w8), (.ref a1)]) _
   refine XS.aloadN X18.here hx rfl (hb hby d8_29) rfl rfl ?_
   show SG p e below T18 (mkF m 30 #[vR a1, vR a2, vI ((17 : Int32) >>> (w7 &&& 31))] [(.ref a2), (.int w8), (.ref a1)]) _
   refine st28.trans ?_
   show SG p e below T28 (mkF m 33 #[vR a1, vR a2, vI ((17 : Int32) >>> (w7 &&& 31))] []) _
   refine XS.aloadN X28.here hx rfl (hb hby d8_33) rfl rfl ?_
   refine XS.dup X28.here hx rfl (hb hby d8_34) rfl rfl ?_
   show SG p e below T28 (mkF m 35 #[vR a1, vR a2, vI ((17 : Int32) >>> (w7 &&& 31))] [(.ref a1), (.ref a1)]) _
   refine st32 _ ?_
   show SG p e below T32 (mkF m 38 #[vR a1, vR a2, vI ((17 : Int32) >>> (w7 &&& 31))] [(.int w8), (.ref a1)]) _
   refine XS.iloadN X32.here hx rfl (hb hby d8_38) rfl ?_
   refine XS.iadd X32.here hx rfl (hb hby d8_39) rfl ?_
   show SG p e below T32 (mkF m 40 #[vR a1, vR a2, vI ((17 : Int32) >>> (w7 &&& 31))] [(.int (w8 + ((17 : Int32) >>> (w7 &&& 31)))), (.ref a1)]) _
   refine st34 _ ?_
   show SG p e below T34 (mkF m 43 #[vR a1, vR a2, vI ((17 : Int32) >>> (w7 &&& 31))] []) _
   refine XS.aloadN X34.here hx rfl (hb hby d8_43) rfl rfl ?_
   show SG p e below T34 (mkF m 44 #[vR a1, vR a2, vI ((17 : Int32) >>> (w7 &&& 31))] [(.ref a1)]) _
   jvm_step X34.here [X34.here.top, hx, (hb hby d8_44), X34.method', Bd.returns, Value.isRef, FieldType.isReference]
   first | (intro acts; rw [hr _ acts rfl rfl rfl]) | rw [hr _ _ rfl rfl rfl]
   exact Steps.refl _
 · show Qr8_2 Z a1 a2 w3 k4 u5 w6 w7 w8 w9 k10 u11 p12 w13 h0 n0 _ T34.heap _
   rw [e34]
   exact ⟨N34, b16_0, k16_0, rfl, z29, KC34, f35, Fw34, f36, f37⟩
def Qr7_2 (Z : State) (a1 : Addr) (a2 : Addr) (w3 : Addr) (k4 : ClassId) (u5 : Nat → Int32) (w6 : Int32) (w7 : Int32) (w8 : Int32) (w9 : Addr) (k10 : ClassId) (u11 : Nat → Int32) (p12 : Int32) (w13 : Int32) (h0 : Heap) (n0 : Nat) (v : Option Value) (h : Heap) (L : List Loc) : Prop := Fr n0 L ∧ ∃ b14_0 : Addr, ∃ k14_0 : ClassId, v = some (.ref a1) ∧ h0.size ≤ b14_0 ∧ KSx h0 h [(a1, Jvm.RoadKit.slotOf Z sK2 "count" "I"), (a1, Jvm.RoadKit.slotOf Z sK2 "value" "[B")] [] ∧ Exa Z h b14_0 "[B" ∧ Fld Z h a1 sK2 "count" "I" (.int (w8 + ((17 : Int32) >>> (w7 &&& 31)))) ∧ Fld Z h a1 sK2 "value" "[B" (.ref b14_0) ∧ BA Z h b14_0 k14_0 .byte (((p12 + (p12 + ((2 : Int32) <<< (w13 &&& 31)))) >>> (w13 &&& 31)) <<< (w13 &&& 31)) (fun i => if ((w8 <<< (w13 &&& 31))).toNatClampNeg ≤ i ∧ i < ((w8 <<< (w13 &&& 31))).toNatClampNeg + ((17 : Int32)).toNatClampNeg then u5 (((0 : Int32)).toNatClampNeg + (i - ((w8 <<< (w13 &&& 31))).toNatClampNeg)) else (fun i => if ((0 : Int32)).toNatClampNeg ≤ i ∧ i < ((0 : Int32)).toNatClampNeg + (p12).toNatClampNeg then u11 (((0 : Int32)).toNatClampNeg + (i - ((0 : Int32)).toNatClampNeg)) else (fun _ => (0 : Int32)) i) i)
theorem r7_2 (l : Launch) (Z : State) (a0 : Array Value) (hw : TW a0 Z) (a1 : Addr) (a2 : Addr) (w3 : Addr) (k4 : ClassId) (u5 : Nat → Int32) (w6 : Int32) (w7 : Int32) (w8 : Int32) (w9 : Addr) (k10 : ClassId) (u11 : Nat → Int32) (p12 : Int32) (w13 : Int32) (h0 : Heap) (n0 : Nat) (Z0 : n0 ≤ h0.size) (H0 : Fld Z h0 a2 sK1 "value" "[B" (.ref w3)) (H1 : BA Z h0 w3 k4 .byte (17 : Int32) u5) (H2 : Sta Z h0 sK1 sK3 "Z" (.int w6)) (H3 : ¬ (w6 = 0)) (H4 : Fld Z h0 a2 sK1 "coder" "B" (.int w7)) (H5 : nar .byte w7 = w7) (H6 : Exa Z h0 a2 sK1) (H7 : Fld Z h0 a1 sK2 "count" "I" (.int w8)) (H8 : Fld Z h0 a1 sK2 "value" "[B" (.ref w9)) (H9 : BA Z h0 w9 k10 .byte p12 u11) (H10 : Fld Z h0 a1 sK2 "coder" "B" (.int w13)) (H11 : (0 : Int32) < ((w8 + ((17 : Int32) >>> (w7 &&& 31))) - (p12 >>> (w13 &&& 31)))) (H12 : (((w8 + ((17 : Int32) >>> (w7 &&& 31))) <<< (w13 &&& 31)) - p12) < (p12 + ((2 : Int32) <<< (w13 &&& 31)))) (H13 : (0 : Int32) < (p12 + (p12 + ((2 : Int32) <<< (w13 &&& 31))))) (H14 : ¬ ((2147483639 : Int32) < (p12 + (p12 + ((2 : Int32) <<< (w13 &&& 31)))))) (H15 : ¬ ((p12 + (p12 + ((2 : Int32) <<< (w13 &&& 31)))) = 2147483647)) (H16 : Exa Z h0 a1 sK4) (H17 : ¬ ((((p12 + (p12 + ((2 : Int32) <<< (w13 &&& 31)))) >>> (w13 &&& 31)) <<< (w13 &&& 31)) = p12)) (H18 : ¬ ((((p12 + (p12 + ((2 : Int32) <<< (w13 &&& 31)))) >>> (w13 &&& 31)) <<< (w13 &&& 31)) < 0)) (H19 : ¬ ((70 : Int32) < (((p12 + (p12 + ((2 : Int32) <<< (w13 &&& 31)))) >>> (w13 &&& 31)) <<< (w13 &&& 31)))) (H20 : ¬ ((((p12 + (p12 + ((2 : Int32) <<< (w13 &&& 31)))) >>> (w13 &&& 31)) <<< (w13 &&& 31)) < p12)) (H21 : ¬ (p12 < 0)) (H22 : ((0 : Int32)).toNatClampNeg + (p12).toNatClampNeg ≤ (p12).toNatClampNeg) (H23 : ((0 : Int32)).toNatClampNeg + (p12).toNatClampNeg ≤ ((((p12 + (p12 + ((2 : Int32) <<< (w13 &&& 31)))) >>> (w13 &&& 31)) <<< (w13 &&& 31))).toNatClampNeg) (H24 : n0 ≤ a1) (H25 : w13 = w7) (H26 : w7 = w13) (H27 : w3 ≠ a1) (H28 : ¬ ((w8 <<< (w13 &&& 31)) < 0)) (H29 : ((w8 <<< (w13 &&& 31))).toNatClampNeg + ((17 : Int32)).toNatClampNeg ≤ ((((p12 + (p12 + ((2 : Int32) <<< (w13 &&& 31)))) >>> (w13 &&& 31)) <<< (w13 &&& 31))).toNatClampNeg) :
   OMet l Z mN41 jdk_67_method_7_code 2 (some (.object sK4)) [] (Rm 5 1 70 76) h0 #[(.ref a1), (.ref a2)] (Qr7_2 Z a1 a2 w3 k4 u5 w6 w7 w8 w9 k10 u11 p12 w13 h0 n0) := by
 refine MetFree.of_bodySF (plainFor_of_name pn_java_lang_StringBuilder) hisR ?_
 intro p e s m args below meth c s₁ Bd hml0 hP hK
 obtain ⟨rfl, hZ, hh⟩ := hP
 have hx := Bd.exec
 have hby := Bd.bytes
 have hml : c.maxLocals = 2 := hml0
 have hown : s.vm.findClass sK4 = some m.cls := findClass_of_methodNamed Bd.named
 have X0 := own_X0 Bd
 have e0 : s₁.heap = h0 := by rw [← hh, Bd.state]; rfl
 have N0 := Fr.nil n0
 have pre0 : ∀ t, Steps p.tables e below (s₁.setTop (mkF m 0 #[vR a1, vR a2] [])) t → Steps p.tables e below (s₁.setTop (entryFrame m #[(.ref a1), (.ref a2)] 2)) t := fun t k => castTop (ef_7_vv m a1 a2) k
 obtain ⟨_, _, ⟨T14, _, _, _⟩, -, X14, ⟨_, hQ, lq, yq, zq⟩, st14⟩ := superBack X0 hx hZ (y := mN40) hown (tw hw 59 rfl) (own_same (y := mN40) (by decide) (tw hw 60 rfl) (own_nf (args := a0) (w := mN8) rfl (tw hw 82 rfl))) (tw hw 60 rfl) (tw hw 61 rfl) (by decide) (backOf (W := 0) (r8_2 l Z a0 hw a1 a2 w3 k4 u5 w6 w7 w8 w9 k10 u11 p12 w13 h0 n0 Z0 H0 H1 H2 H3 H4 H5 H6 H7 H8 H9 H10 H11 H12 H13 H14 H15 H16 H17 H18 H19 H20 H21 H22 H23 H24 H25 H26 H27 H28 H29) hZ (tw hw 63 rfl) (tw hw 38 rfl) (by decide) (by decide)) e0 (Ins.self H16) (g := (mkF m 2 #[vR a1, vR a2] [(.ref a2), (.ref a1)])) rfl (by rw [hml]; rfl) (tw hw 63 rfl) (argsL := [(.ref a2)]) (rest := []) (lenOf pd_28 rfl) rfl (own_w _) (hb hby d7_2) (fun _ _ => ⟨rfl, e0, (by decide : 0 + 1 ≤ _), (by decide : 0 + 70 ≤ _)⟩)
 dsimp only [Pt.U, Pt.locs, Pt.cells, Pt.slots] at X14 lq yq zq st14 hQ
 replace X14 := own_mvX X14 (a := 1) (b := 70) yq zq
 obtain ⟨Nq, b14_0, k14_0, rfl, ge_b14_0, K14, o14_0, o14_1, o14_2, o14_3⟩ := hQ
 have N14 := own_mvN lq N0 Nq
 have KC14 := KSx.trans (KSx.refl h0 [(a1, Jvm.RoadKit.slotOf Z sK2 "count" "I"), (a1, Jvm.RoadKit.slotOf Z sK2 "value" "[B")] []) K14 (ksS (Or.inl (List.mem_of_getElem? (i := 1) rfl)) (ksS (Or.inl (List.mem_of_getElem? (i := 0) rfl)) ks0)) all0
 obtain ⟨fs, hr, hrun, hended, hW, hsame⟩ := X14.leave (v := some (.ref a1)) (fun h => by rw [Bd.returns] at h; cases h)
 refine ⟨_, _, pre0 _ ?_, hrun, hended, _, _, rfl, ?_, ⟨_, rfl⟩, hW, hsame.mono (by decide) (by decide)⟩
 · show SG p e below s₁ (mkF m 0 #[vR a1, vR a2] []) _
   refine XS.aloadN X0.here hx rfl (hb hby d7_0) rfl rfl ?_
   refine XS.aloadN X0.here hx rfl (hb hby d7_1) rfl rfl ?_
   show SG p e below s₁ (mkF m 2 #[vR a1, vR a2] [(.ref a2), (.ref a1)]) _
   refine st14.trans ?_
   show SG p e below T14 (mkF m 5 #[vR a1, vR a2] [(.ref a1)]) _
   refine XS.pop X14.here hx rfl (hb hby d7_5) rfl rfl ?_
   show SG p e below T14 (mkF m 6 #[vR a1, vR a2] []) _
   refine XS.aloadN X14.here hx rfl (hb hby d7_6) rfl rfl ?_
   show SG p e below T14 (mkF m 7 #[vR a1, vR a2] [(.ref a1)]) _
   jvm_step X14.here [X14.here.top, hx, (hb hby d7_7), X14.method', Bd.returns, Value.isRef, FieldType.isReference]
   first | (intro acts; rw [hr _ acts rfl rfl rfl]) | rw [hr _ _ rfl rfl rfl]
   exact Steps.refl _
 · show Qr7_2 Z a1 a2 w3 k4 u5 w6 w7 w8 w9 k10 u11 p12 w13 h0 n0 _ T14.heap _
   exact ⟨N14, b14_0, k14_0, rfl, (Nat.le_trans (KSx.refl h0 [(a1, Jvm.RoadKit.slotOf Z sK2 "count" "I"), (a1, Jvm.RoadKit.slotOf Z sK2 "value" "[B")] []).1 ge_b14_0), KC14, o14_0, o14_1, o14_2, o14_3⟩
theorem d4_85 : Dc rev33 85 (.aload_n 0) 1 := by decide +kernel
theorem d4_86 : Dc rev33 86 (.getfield 16) 3 := by decide +kernel
theorem d4_89 : Dc rev33 89 (.aload_n 0) 1 := by decide +kernel
theorem d4_90 : Dc rev33 90 (.getfield 19) 3 := by decide +kernel
theorem d4_93 : Dc rev33 93 (.invokestatic 40) 3 := by decide +kernel
theorem d4_96 : Dc rev33 96 (.invokevirtual 31) 3 := by decide +kernel
theorem d4_99 : Dc rev33 99 (.invokevirtual 34) 3 := by decide +kernel
theorem d4_102 : Dc rev33 102 (.invokestatic 48) 3 := by decide +kernel
theorem d35_0 : Dc rev41 0 (.iconst 4) 1 := by decide +kernel
theorem d35_1 : Dc rev41 1 (.anewarray 103) 3 := by decide +kernel
theorem d35_4 : Dc rev41 4 .dup 1 := by decide +kernel
theorem d35_5 : Dc rev41 5 (.iconst 0) 1 := by decide +kernel
theorem d35_6 : Dc rev41 6 (.aload_n 0) 1 := by decide +kernel
theorem d35_7 : Dc rev41 7 .aastore 1 := by decide +kernel
theorem d35_8 : Dc rev41 8 .dup 1 := by decide +kernel
theorem d35_9 : Dc rev41 9 (.iconst 1) 1 := by decide +kernel
theorem d35_10 : Dc rev41 10 (.aload_n 1) 1 := by decide +kernel
theorem d35_11 : Dc rev41 11 .aastore 1 := by decide +kernel
theorem d35_12 : Dc rev41 12 .dup 1 := by decide +kernel
theorem d35_13 : Dc rev41 13 (.iconst 2) 1 := by decide +kernel
theorem d35_14 : Dc rev41 14 (.aload_n 2) 1 := by decide +kernel
theorem d35_15 : Dc rev41 15 .aastore 1 := by decide +kernel
theorem d35_16 : Dc rev41 16 .dup 1 := by decide +kernel
theorem d35_17 : Dc rev41 17 (.iconst 3) 1 := by decide +kernel
theorem d35_18 : Dc rev41 18 (.aload_n 3) 1 := by decide +kernel
theorem d35_19 : Dc rev41 19 .aastore 1 := by decide +kernel
theorem d35_20 : Dc rev41 20 (.invokestatic 105) 3 := by decide +kernel
theorem d36_0 : Dc rev42 0 (.getstatic 46) 3 := by decide +kernel
theorem d36_3 : Dc rev42 3 (.ifCond .ne 20) 3 := by decide +kernel
theorem d36_23 : Dc rev42 23 (.aload_n 0) 1 := by decide +kernel
theorem d36_24 : Dc rev42 24 (.astore_n 1) 1 := by decide +kernel
theorem d36_25 : Dc rev42 25 (.aload_n 1) 1 := by decide +kernel
theorem d36_26 : Dc rev42 26 .arraylength 1 := by decide +kernel
theorem d36_27 : Dc rev42 27 (.istore_n 2) 1 := by decide +kernel
theorem d36_28 : Dc rev42 28 (.iconst 0) 1 := by decide +kernel
theorem d36_29 : Dc rev42 29 (.istore_n 3) 1 := by decide +kernel
theorem d36_30 : Dc rev42 30 (.iload_n 3) 1 := by decide +kernel
theorem d36_31 : Dc rev42 31 (.iload_n 2) 1 := by decide +kernel
theorem d36_32 : Dc rev42 32 (.if_icmp .ge 20) 3 := by decide +kernel
theorem d36_35 : Dc rev42 35 (.aload_n 1) 1 := by decide +kernel
theorem d36_36 : Dc rev42 36 (.iload_n 3) 1 := by decide +kernel
theorem d36_37 : Dc rev42 37 .aaload 1 := by decide +kernel
theorem d36_38 : Dc rev42 38 (.astore 4) 2 := by decide +kernel
theorem d36_40 : Dc rev42 40 (.aload 4) 2 := by decide +kernel
abbrev la64 (a1 : Addr) (w2 : Addr) : Array Slot := #[vR a1, vR a1, vI 4, vI 0, vR w2]
theorem d36_42 : Dc rev42 42 (.invokestatic 37) 3 := by decide +kernel
theorem d37_0 : Dc rev43 0 (.aload_n 0) 1 := by decide +kernel
theorem d37_1 : Dc rev43 1 (.ifnonnull 11) 3 := by decide +kernel
theorem d37_12 : Dc rev43 12 (.aload_n 0) 1 := by decide +kernel
theorem d37_13 : Dc rev43 13 .areturn 1 := by decide +kernel
theorem pn_java_util_Objects : plainName "java/util/Objects" = true := by first | (simp [plainName, overriddenIn]; done) | decide +kernel
theorem ef_37_v (m : MethodId) (x0 : Addr) : entryFrame m #[(.ref x0)] 1 = mkF m 0 #[.val (.ref x0)] [] := by first | (simp [entryFrame, mkF, argsToLocals, Value.category]; done) | rfl
theorem r37_1 (l : Launch) (Z : State) (a0 : Array Value) (hw : TW a0 Z) (a1 : Addr) (h0 : Heap) (n0 : Nat) (Z0 : n0 ≤ h0.size) :
   OMet l Z mN42 jdk_31_method_10_code 1 (some (.object sK13)) [] (Rm 0 0 0 0) h0 #[(.ref a1)] (OQp (some (.ref a1)) h0 n0) := by
 refine MetFree.of_bodySF (plainFor_of_name pn_java_util_Objects) hisR ?_
 intro p e s m args below meth c s₁ Bd hml0 hP hK
 obtain ⟨rfl, hZ, hh⟩ := hP
 have hx := Bd.exec
 have hby := Bd.bytes
 have hml : c.maxLocals = 1 := hml0
 have hown : s.vm.findClass "java/util/Objects" = some m.cls := findClass_of_methodNamed Bd.named
 have X0 := own_X0 Bd
 have e0 : s₁.heap = h0 := by rw [← hh, Bd.state]; rfl
 have N0 := Fr.nil n0
 have pre0 : ∀ t, Steps p.tables e below (s₁.setTop (mkF m 0 #[vR a1] [])) t → Steps p.tables e below (s₁.setTop (entryFrame m #[(.ref a1)] 1)) t := fun t k => castTop (ef_37_v m a1) k

 obtain ⟨fs, hr, hrun, hended, hW, hsame⟩ := X0.leave (v := some (.ref a1)) (fun h => by rw [Bd.returns] at h; cases h)
 refine ⟨_, _, pre0 _ ?_, hrun, hended, _, _, rfl, ?_, ⟨_, rfl⟩, hW, hsame.mono (by decide) (by decide)⟩
 · show SG p e below s₁ (mkF m 0 #[vR a1] []) _
   refine XS.aloadN X0.here hx rfl (hb hby d37_0) rfl rfl ?_
   refine XS.ifnonnullYes X0.here hx rfl (pc0 := 1) (pc' := 12) rfl (hb hby d37_1) rfl (by decide) (by decide) ?_
   show SG p e below s₁ (mkF m 12 #[vR a1] []) _
   refine XS.aloadN X0.here hx rfl (hb hby d37_12) rfl rfl ?_
   show SG p e below s₁ (mkF m 13 #[vR a1] [(.ref a1)]) _
   jvm_step X0.here [X0.here.top, hx, (hb hby d37_13), X0.method', Bd.returns, Value.isRef, FieldType.isReference]
   first | (intro acts; rw [hr _ acts rfl rfl rfl]) | rw [hr _ _ rfl rfl rfl]
   exact Steps.refl _
 · show OQp (some (.ref a1)) h0 n0 _ s₁.heap _
   rw [e0]
   exact ⟨rfl, N0, rfl⟩
theorem pd_33 : parseMethodDescriptor "(Ljava/lang/Object;)Ljava/lang/Object;" = some ⟨[(.object "java/lang/Object")], some (.object "java/lang/Object")⟩ := by decide +kernel
theorem d36_45 : Dc rev42 45 .pop 1 := by decide +kernel
theorem d36_46 : Dc rev42 46 (.iinc 3 1) 3 := by decide +kernel
theorem d36_49 : Dc rev42 49 (.goto (-19)) 3 := by decide +kernel
abbrev la65 (a1 : Addr) (w2 : Addr) : Array Slot := #[vR a1, vR a1, vI 4, vI 1, vR w2]
abbrev la67 (a1 : Addr) (w2 : Addr) : Array Slot := #[vR a1, vR a1, vI 4, vI 2, vR w2]
abbrev la69 (a1 : Addr) (w2 : Addr) : Array Slot := #[vR a1, vR a1, vI 4, vI 3, vR w2]
abbrev la71 (a1 : Addr) (w2 : Addr) : Array Slot := #[vR a1, vR a1, vI 4, vI 4, vR w2]
theorem d36_52 : Dc rev42 52 (.aload_n 0) 1 := by decide +kernel
theorem d36_53 : Dc rev42 53 .arraylength 1 := by decide +kernel
theorem d36_54 : Dc rev42 54 (.tableswitch 61 0 2 #[26, 32, 45]) 26 := by decide +kernel
theorem d36_115 : Dc rev42 115 (.new 12) 3 := by decide +kernel
theorem d36_118 : Dc rev42 118 .dup 1 := by decide +kernel
theorem d36_119 : Dc rev42 119 (.aload_n 0) 1 := by decide +kernel
theorem d36_120 : Dc rev42 120 (.iconst 0) 1 := by decide +kernel
theorem d36_121 : Dc rev42 121 (.invokespecial 43) 3 := by decide +kernel
theorem d38_0 : Dc rev44 0 (.aload_n 0) 1 := by decide +kernel
theorem d38_1 : Dc rev44 1 (.invokespecial 1) 3 := by decide +kernel
theorem d39_0 : Dc rev45 0 (.aload_n 0) 1 := by decide +kernel
theorem d39_1 : Dc rev45 1 (.invokespecial 1) 3 := by decide +kernel
theorem d40_0 : Dc rev46 0 (.aload_n 0) 1 := by decide +kernel
theorem d40_1 : Dc rev46 1 (.invokespecial 1) 3 := by decide +kernel
theorem d41_0 : Dc rev47 0 (.aload_n 0) 1 := by decide +kernel
theorem d41_1 : Dc rev47 1 (.invokespecial 1) 3 := by decide +kernel
theorem d41_4 : Dc rev47 4 .return_ 1 := by decide +kernel
theorem pn_java_util_AbstractCollection : plainName "java/util/AbstractCollection" = true := by first | (simp [plainName, overriddenIn]; done) | decide +kernel
theorem ef_41_v (m : MethodId) (x0 : Addr) : entryFrame m #[(.ref x0)] 1 = mkF m 0 #[.val (.ref x0)] [] := by first | (simp [entryFrame, mkF, argsToLocals, Value.category]; done) | rfl
theorem r41_1 (l : Launch) (Z : State) (a0 : Array Value) (hw : TW a0 Z) (a1 : Addr) (h0 : Heap) (n0 : Nat) (Z0 : n0 ≤ h0.size) :
   OMet l Z mN43 jdk_22_method_1_code 1 none [] (Rm 1 0 0 12) h0 #[(.ref a1)] (OQp (none) h0 n0) := by
 refine MetFree.of_bodySF (plainFor_of_name pn_java_util_AbstractCollection) hisR ?_
 intro p e s m args below meth c s₁ Bd hml0 hP hK
 obtain ⟨rfl, hZ, hh⟩ := hP
 have hx := Bd.exec
 have hby := Bd.bytes
 have hml : c.maxLocals = 1 := hml0
 have hown : s.vm.findClass "java/util/AbstractCollection" = some m.cls := findClass_of_methodNamed Bd.named
 have X0 := own_X0 Bd
 have e0 : s₁.heap = h0 := by rw [← hh, Bd.state]; rfl
 have N0 := Fr.nil n0
 have pre0 : ∀ t, Steps p.tables e below (s₁.setTop (mkF m 0 #[vR a1] [])) t → Steps p.tables e below (s₁.setTop (entryFrame m #[(.ref a1)] 1)) t := fun t k => castTop (ef_41_v m a1) k
 obtain ⟨T2, X2, e2, st2⟩ := initO X0 hx hZ hown (tw hw 239 rfl) (tw hw 13 rfl) (tw hw 14 rfl) e0 (g := (mkF m 1 #[vR a1] [(.ref a1)])) rfl (by rw [hml]; rfl) rfl (hb hby d41_1) (by decide) (W := 0) (own_w _) (by decide)
 obtain ⟨fs, hr, hrun, hended, hW, hsame⟩ := X2.leave (v := none) (fun _ => rfl)
 refine ⟨_, _, pre0 _ ?_, hrun, hended, _, _, rfl, ?_, ⟨_, rfl⟩, hW, hsame.mono (by decide) (by decide)⟩
 · show SG p e below s₁ (mkF m 0 #[vR a1] []) _
   refine XS.aloadN X0.here hx rfl (hb hby d41_0) rfl rfl ?_
   show SG p e below s₁ (mkF m 1 #[vR a1] [(.ref a1)]) _
   refine st2 _ ?_
   show SG p e below T2 (mkF m 4 #[vR a1] []) _
   exact X2.returnOut hx Bd.returns (hb hby d41_4) hr
 · show OQp (none) h0 n0 _ T2.heap _
   rw [e2]
   exact ⟨rfl, N0, rfl⟩
theorem d40_4 : Dc rev46 4 .return_ 1 := by decide +kernel
theorem pn_java_util_ImmutableCollections_AbstractImmutableCollection : plainName "java/util/ImmutableCollections$AbstractImmutableCollection" = true := by first | (simp [plainName, overriddenIn]; done) | decide +kernel
theorem ef_40_v (m : MethodId) (x0 : Addr) : entryFrame m #[(.ref x0)] 1 = mkF m 0 #[.val (.ref x0)] [] := by first | (simp [entryFrame, mkF, argsToLocals, Value.category]; done) | rfl
theorem r40_1 (l : Launch) (Z : State) (a0 : Array Value) (hw : TW a0 Z) (a1 : Addr) (h0 : Heap) (n0 : Nat) (Z0 : n0 ≤ h0.size) :
   OMet l Z mN44 jdk_47_method_1_code 1 none [] (Rm 2 0 0 24) h0 #[(.ref a1)] (OQp (none) h0 n0) := by
 refine MetFree.of_bodySF (plainFor_of_name pn_java_util_ImmutableCollections_AbstractImmutableCollection) hisR ?_
 intro p e s m args below meth c s₁ Bd hml0 hP hK
 obtain ⟨rfl, hZ, hh⟩ := hP
 have hx := Bd.exec
 have hby := Bd.bytes
 have hml : c.maxLocals = 1 := hml0
 have hown : s.vm.findClass "java/util/ImmutableCollections$AbstractImmutableCollection" = some m.cls := findClass_of_methodNamed Bd.named
 have X0 := own_X0 Bd
 have e0 : s₁.heap = h0 := by rw [← hh, Bd.state]; rfl
 have N0 := Fr.nil n0
 have pre0 : ∀ t, Steps p.tables e below (s₁.setTop (mkF m 0 #[vR a1] [])) t → Steps p.tables e below (s₁.setTop (entryFrame m #[(.ref a1)] 1)) t := fun t k => castTop (ef_40_v m a1) k
 obtain ⟨_, _, ⟨T2, _, _, _⟩, -, X2, ⟨_, hQ, lq, yq, zq⟩, st2⟩ := X0.specialBack hx (y := mN43) rfl hown (mvT hZ (tw hw 233 rfl)) (mvT hZ (tw hw 234 rfl)) (mvT hZ (tw hw 238 rfl)) (by decide) (backOf (W := 0) (r41_1 l Z a0 hw a1 h0 n0 Z0 ) hZ (tw hw 238 rfl) (tw hw 237 rfl) (by decide) (by decide)) (g := (mkF m 1 #[vR a1] [(.ref a1)])) rfl (by rw [hml]; rfl) (Steps.refl _) (a := a1) (argsL := []) (rest := []) (lenOf pd_24 rfl) rfl (own_w _) (hb hby d40_1) (fun _ _ => ⟨rfl, e0, (by decide : 0 + 0 ≤ _), (by decide : 0 + 0 ≤ _)⟩)
 dsimp only [Pt.U, Pt.locs, Pt.cells, Pt.slots] at X2 lq yq zq st2 hQ
 replace X2 := own_mvX X2 (a := 0) (b := 0) yq zq
 obtain ⟨rfl, Nq, e2⟩ := hQ
 have N2 := own_mvN lq N0 Nq
 obtain ⟨fs, hr, hrun, hended, hW, hsame⟩ := X2.leave (v := none) (fun _ => rfl)
 refine ⟨_, _, pre0 _ ?_, hrun, hended, _, _, rfl, ?_, ⟨_, rfl⟩, hW, hsame.mono (by decide) (by decide)⟩
 · show SG p e below s₁ (mkF m 0 #[vR a1] []) _
   refine XS.aloadN X0.here hx rfl (hb hby d40_0) rfl rfl ?_
   show SG p e below s₁ (mkF m 1 #[vR a1] [(.ref a1)]) _
   refine st2.trans ?_
   show SG p e below T2 (mkF m 4 #[vR a1] []) _
   exact X2.returnOut hx Bd.returns (hb hby d40_4) hr
 · show OQp (none) h0 n0 _ T2.heap _
   rw [e2]
   exact ⟨rfl, N2, rfl⟩
theorem d39_4 : Dc rev45 4 .return_ 1 := by decide +kernel
theorem pn_java_util_ImmutableCollections_AbstractImmutableList : plainName "java/util/ImmutableCollections$AbstractImmutableList" = true := by first | (simp [plainName, overriddenIn]; done) | decide +kernel
theorem ef_39_v (m : MethodId) (x0 : Addr) : entryFrame m #[(.ref x0)] 1 = mkF m 0 #[.val (.ref x0)] [] := by first | (simp [entryFrame, mkF, argsToLocals, Value.category]; done) | rfl
theorem r39_1 (l : Launch) (Z : State) (a0 : Array Value) (hw : TW a0 Z) (a1 : Addr) (h0 : Heap) (n0 : Nat) (Z0 : n0 ≤ h0.size) :
   OMet l Z mN45 jdk_46_method_1_code 1 none [] (Rm 3 0 0 36) h0 #[(.ref a1)] (OQp (none) h0 n0) := by
 refine MetFree.of_bodySF (plainFor_of_name pn_java_util_ImmutableCollections_AbstractImmutableList) hisR ?_
 intro p e s m args below meth c s₁ Bd hml0 hP hK
 obtain ⟨rfl, hZ, hh⟩ := hP
 have hx := Bd.exec
 have hby := Bd.bytes
 have hml : c.maxLocals = 1 := hml0
 have hown : s.vm.findClass "java/util/ImmutableCollections$AbstractImmutableList" = some m.cls := findClass_of_methodNamed Bd.named
 have X0 := own_X0 Bd
 have e0 : s₁.heap = h0 := by rw [← hh, Bd.state]; rfl
 have N0 := Fr.nil n0
 have pre0 : ∀ t, Steps p.tables e below (s₁.setTop (mkF m 0 #[vR a1] [])) t → Steps p.tables e below (s₁.setTop (entryFrame m #[(.ref a1)] 1)) t := fun t k => castTop (ef_39_v m a1) k
 obtain ⟨_, _, ⟨T2, _, _, _⟩, -, X2, ⟨_, hQ, lq, yq, zq⟩, st2⟩ := X0.specialBack hx (y := mN44) rfl hown (mvT hZ (tw hw 227 rfl)) (mvT hZ (tw hw 228 rfl)) (mvT hZ (tw hw 232 rfl)) (by decide) (backOf (W := 0) (r40_1 l Z a0 hw a1 h0 n0 Z0 ) hZ (tw hw 232 rfl) (tw hw 231 rfl) (by decide) (by decide)) (g := (mkF m 1 #[vR a1] [(.ref a1)])) rfl (by rw [hml]; rfl) (Steps.refl _) (a := a1) (argsL := []) (rest := []) (lenOf pd_24 rfl) rfl (own_w _) (hb hby d39_1) (fun _ _ => ⟨rfl, e0, (by decide : 0 + 0 ≤ _), (by decide : 0 + 0 ≤ _)⟩)
 dsimp only [Pt.U, Pt.locs, Pt.cells, Pt.slots] at X2 lq yq zq st2 hQ
 replace X2 := own_mvX X2 (a := 0) (b := 0) yq zq
 obtain ⟨rfl, Nq, e2⟩ := hQ
 have N2 := own_mvN lq N0 Nq
 obtain ⟨fs, hr, hrun, hended, hW, hsame⟩ := X2.leave (v := none) (fun _ => rfl)
 refine ⟨_, _, pre0 _ ?_, hrun, hended, _, _, rfl, ?_, ⟨_, rfl⟩, hW, hsame.mono (by decide) (by decide)⟩
 · show SG p e below s₁ (mkF m 0 #[vR a1] []) _
   refine XS.aloadN X0.here hx rfl (hb hby d39_0) rfl rfl ?_
   show SG p e below s₁ (mkF m 1 #[vR a1] [(.ref a1)]) _
   refine st2.trans ?_
   show SG p e below T2 (mkF m 4 #[vR a1] []) _
   exact X2.returnOut hx Bd.returns (hb hby d39_4) hr
 · show OQp (none) h0 n0 _ T2.heap _
   rw [e2]
   exact ⟨rfl, N2, rfl⟩
theorem d38_4 : Dc rev44 4 (.aload_n 0) 1 := by decide +kernel
theorem d38_5 : Dc rev44 5 (.aload_n 1) 1 := by decide +kernel
theorem d38_6 : Dc rev44 6 (.putfield 7) 3 := by decide +kernel
theorem d38_9 : Dc rev44 9 (.aload_n 0) 1 := by decide +kernel
theorem d38_10 : Dc rev44 10 (.iload_n 2) 1 := by decide +kernel
theorem d38_11 : Dc rev44 11 (.putfield 13) 3 := by decide +kernel
theorem d38_14 : Dc rev44 14 .return_ 1 := by decide +kernel
theorem pn_java_util_ImmutableCollections_ListN : plainName "java/util/ImmutableCollections$ListN" = true := by first | (simp [plainName, overriddenIn]; done) | decide +kernel
theorem ef_38_vvv (m : MethodId) (x0 : Addr) (x1 : Addr) (x2 : Int32) : entryFrame m #[(.ref x0), (.ref x1), (.int x2)] 3 = mkF m 0 #[.val (.ref x0), .val (.ref x1), .val (.int x2)] [] := by first | (simp [entryFrame, mkF, argsToLocals, Value.category]; done) | rfl
def Qr38_1 (Z : State) (a1 : Addr) (a2 : Addr) (p3 : Int32) (w4 : Int32) (h0 : Heap) (n0 : Nat) (v : Option Value) (h : Heap) (L : List Loc) : Prop := Fr n0 L ∧ v = none ∧ KSx h0 h [(a1, Jvm.RoadKit.slotOf Z sK8 sK15 sK16), (a1, Jvm.RoadKit.slotOf Z sK8 "allowNulls" "Z")] [] ∧ Fld Z h a1 sK8 sK15 sK16 (.ref a2) ∧ Fld Z h a1 sK8 "allowNulls" "Z" (.int p3)
theorem r38_1 (l : Launch) (Z : State) (a0 : Array Value) (hw : TW a0 Z) (a1 : Addr) (a2 : Addr) (p3 : Int32) (w4 : Int32) (h0 : Heap) (n0 : Nat) (Z0 : n0 ≤ h0.size) (H0 : Exa Z h0 a1 sK8) (H1 : Fld Z h0 a1 sK8 sK15 sK16 .null) (H2 : n0 ≤ a1) (H3 : Fld Z h0 a1 sK8 "allowNulls" "Z" (.int w4)) (H4 : narrow .boolean (.int p3) = .int p3) (H5 : fits .boolean (.int p3) = true) :
   OMet l Z mN46 jdk_45_method_1_code 3 none [] (Rm 4 0 0 48) h0 #[(.ref a1), (.ref a2), (.int p3)] (Qr38_1 Z a1 a2 p3 w4 h0 n0) := by
 refine MetFree.of_bodySF (plainFor_of_name pn_java_util_ImmutableCollections_ListN) hisR ?_
 intro p e s m args below meth c s₁ Bd hml0 hP hK
 obtain ⟨rfl, hZ, hh⟩ := hP
 have hx := Bd.exec
 have hby := Bd.bytes
 have hml : c.maxLocals = 3 := hml0
 have hown : s.vm.findClass sK8 = some m.cls := findClass_of_methodNamed Bd.named
 have hnm := (name_of_methodNamed Bd.named Bd.method).1
 have X0 := own_X0 Bd
 have e0 : s₁.heap = h0 := by rw [← hh, Bd.state]; rfl
 have N0 := Fr.nil n0
 have pre0 : ∀ t, Steps p.tables e below (s₁.setTop (mkF m 0 #[vR a1, vR a2, vI p3] [])) t → Steps p.tables e below (s₁.setTop (entryFrame m #[(.ref a1), (.ref a2), (.int p3)] 3)) t := fun t k => castTop (ef_38_vvv m a1 a2 p3) k
 obtain ⟨_, _, ⟨T5, _, _, _⟩, -, X5, ⟨_, hQ, lq, yq, zq⟩, st5⟩ := X0.specialBack hx (y := mN45) rfl hown (mvT hZ (tw hw 221 rfl)) (mvT hZ (tw hw 222 rfl)) (mvT hZ (tw hw 226 rfl)) (by decide) (backOf (W := 0) (r39_1 l Z a0 hw a1 h0 n0 Z0 ) hZ (tw hw 226 rfl) (tw hw 225 rfl) (by decide) (by decide)) (g := (mkF m 1 #[vR a1, vR a2, vI p3] [(.ref a1)])) rfl (by rw [hml]; rfl) (Steps.refl _) (a := a1) (argsL := []) (rest := []) (lenOf pd_24 rfl) rfl (own_w _) (hb hby d38_1) (fun _ _ => ⟨rfl, e0, (by decide : 0 + 0 ≤ _), (by decide : 0 + 0 ≤ _)⟩)
 dsimp only [Pt.U, Pt.locs, Pt.cells, Pt.slots] at X5 lq yq zq st5 hQ
 replace X5 := own_mvX X5 (a := 0) (b := 0) yq zq
 obtain ⟨rfl, Nq, e5⟩ := hQ
 have N5 := own_mvN lq N0 Nq
 obtain ⟨T6, h6, X6, e6, W6, st6⟩ := putF X5 hx hZ hown (host := "") (Or.inl (tw hw 240 rfl)) Via.refl e5 H1 H0 (Or.inr ⟨(tw hw 241 rfl), rfl, hnm⟩) (tw hw 215 rfl) (ty := (.array (.object "java/lang/Object"))) (by decide) rfl rfl (g := (mkF m 6 #[vR a1, vR a2, vI p3] [(.ref a2), (.ref a1)])) rfl rfl (hb hby d38_6)
 have Fw6 := Fld.same W6 H1
 have KC6 := KSx.wr (KSx.refl h0 [(a1, Jvm.RoadKit.slotOf Z sK8 sK15 sK16), (a1, Jvm.RoadKit.slotOf Z sK8 "allowNulls" "Z")] []) W6 (Or.inl (List.mem_of_getElem? (i := 0) rfl))
 have N6 := Fr.snoc X6 N5 H2
 have f7 := (H0.wr W6)
 have f8 := (H3.other W6 (Or.inr (slot_ne (Or.inr (tw hw 243 rfl)) (Or.inr (tw hw 241 rfl)) (by decide) (t := .boolean) (t' := (.array (.object sK13))) (by decide) (by decide))))
 obtain ⟨T9, h9, X9, e9, W9, st9⟩ := putF X6 hx hZ hown (host := "") (Or.inl (tw hw 242 rfl)) Via.refl e6 f8 f7 (Or.inr ⟨(tw hw 243 rfl), rfl, hnm⟩) (tw hw 215 rfl) (ty := .boolean) (by decide) H4 H5 (g := (mkF m 11 #[vR a1, vR a2, vI p3] [(.int p3), (.ref a1)])) rfl rfl (hb hby d38_11)
 have Fw9 := Fld.same W9 f8
 have KC9 := KSx.wr KC6 W9 (Or.inl (List.mem_of_getElem? (i := 1) rfl))
 have N9 := Fr.snoc X9 N6 H2
 have f10 := (Fw6.other W9 (Or.inr (slot_ne (Or.inr (tw hw 241 rfl)) (Or.inr (tw hw 243 rfl)) (by decide) (t := (.array (.object sK13))) (t' := .boolean) (by decide) (by decide))))
 obtain ⟨fs, hr, hrun, hended, hW, hsame⟩ := X9.leave (v := none) (fun _ => rfl)
 refine ⟨_, _, pre0 _ ?_, hrun, hended, _, _, rfl, ?_, ⟨_, rfl⟩, hW, hsame.mono (by decide) (by decide)⟩
 · show SG p e below s₁ (mkF m 0 #[vR a1, vR a2, vI p3] []) _
   refine XS.aloadN X0.here hx rfl (hb hby d38_0) rfl rfl ?_
   show SG p e below s₁ (mkF m 1 #[vR a1, vR a2, vI p3] [(.ref a1)]) _
   refine st5.trans ?_
   show SG p e below T5 (mkF m 4 #[vR a1, vR a2, vI p3] []) _
   refine XS.aloadN X5.here hx rfl (hb hby d38_4) rfl rfl ?_
   refine XS.aloadN X5.here hx rfl (hb hby d38_5) rfl rfl ?_
   show SG p e below T5 (mkF m 6 #[vR a1, vR a2, vI p3] [(.ref a2), (.ref a1)]) _
   refine st6 _ ?_
   show SG p e below T6 (mkF m 9 #[vR a1, vR a2, vI p3] []) _
   refine XS.aloadN X6.here hx rfl (hb hby d38_9) rfl rfl ?_
   refine XS.iloadN X6.here hx rfl (hb hby d38_10) rfl ?_
   show SG p e below T6 (mkF m 11 #[vR a1, vR a2, vI p3] [(.int p3), (.ref a1)]) _
   refine st9 _ ?_
   show SG p e below T9 (mkF m 14 #[vR a1, vR a2, vI p3] []) _
   exact X9.returnOut hx Bd.returns (hb hby d38_14) hr
 · show Qr38_1 Z a1 a2 p3 w4 h0 n0 _ T9.heap _
   rw [e9]
   exact ⟨N9, rfl, KC9, f10, Fw9⟩
theorem pd_34 : parseMethodDescriptor "([Ljava/lang/Object;Z)V" = some ⟨[(.array (.object "java/lang/Object")), .boolean], none⟩ := by decide +kernel
theorem d36_124 : Dc rev42 124 .areturn 1 := by decide +kernel
theorem pn_java_util_ImmutableCollections : plainName "java/util/ImmutableCollections" = true := by first | (simp [plainName, overriddenIn]; done) | decide +kernel
theorem ef_36_v (m : MethodId) (x0 : Addr) : entryFrame m #[(.ref x0)] 5 = mkF m 0 #[.val (.ref x0), .unset, .unset, .unset, .unset] [] := by first | (simp [entryFrame, mkF, argsToLocals, Value.category]; done) | rfl
def Qr36_1 (Z : State) (a1 : Addr) (w2 : Int32) (k3 : ClassId) (w4 : Addr) (w5 : Addr) (w6 : Addr) (w7 : Addr) (h0 : Heap) (n0 : Nat) (v : Option Value) (h : Heap) (L : List Loc) : Prop := Fr n0 L ∧ ∃ b8 : Addr, v = some (.ref b8) ∧ h0.size ≤ b8 ∧ KSx h0 h [] [] ∧ Exa Z h b8 sK8 ∧ Fld Z h b8 sK8 sK15 sK16 (.ref a1) ∧ Fld Z h b8 sK8 "allowNulls" "Z" (.int 0)
theorem r36_1 (l : Launch) (Z : State) (a0 : Array Value) (hw : TW a0 Z) (a1 : Addr) (w2 : Int32) (k3 : ClassId) (w4 : Addr) (w5 : Addr) (w6 : Addr) (w7 : Addr) (h0 : Heap) (n0 : Nat) (Z0 : n0 ≤ h0.size) (H0 : Sta Z h0 sK17 sK19 "Z" (.int w2)) (H1 : ¬ (w2 = 0)) (H2 : Arv Z h0 a1 k3 (.object sK13) (4 : Int32) [(.ref w4), (.ref w5), (.ref w6), (.ref w7)] .null) :
   OMet l Z mN47 jdk_56_method_5_code 5 (some (.object sK20)) [] (Rm 5 1 2 63) h0 #[(.ref a1)] (Qr36_1 Z a1 w2 k3 w4 w5 w6 w7 h0 n0) := by
 refine MetFree.of_bodySF (plainFor_of_name pn_java_util_ImmutableCollections) hisR ?_
 intro p e s m args below meth c s₁ Bd hml0 hP hK
 obtain ⟨rfl, hZ, hh⟩ := hP
 have hx := Bd.exec
 have hby := Bd.bytes
 have hml : c.maxLocals = 5 := hml0
 have hown : s.vm.findClass sK17 = some m.cls := findClass_of_methodNamed Bd.named
 have X0 := own_X0 Bd
 have e0 : s₁.heap = h0 := by rw [← hh, Bd.state]; rfl
 have N0 := Fr.nil n0
 have pre0 : ∀ t, Steps p.tables e below (s₁.setTop (mkF m 0 #[vR a1, .unset, .unset, .unset, .unset] [])) t → Steps p.tables e below (s₁.setTop (entryFrame m #[(.ref a1)] 5)) t := fun t k => castTop (ef_36_v m a1) k
 obtain ⟨T8, X8, e8, st8⟩ := getS2 X0 hx hZ hown (host := "") (Or.inl (tw hw 209 rfl)) Via.refl e0 H0 (g := (mkF m 0 #[vR a1, vU, vU, vU, vU] [])) rfl (hb hby d36_0)
 have vc9 := H2
 obtain ⟨cl9, Ar9, q9, S9, N9, Hh9, G9⟩ := vc9
 have vc10 := H2
 obtain ⟨cl10, Ar10, q10, S10, N10, Hh10, G10⟩ := vc10
 have hin10 : ¬ ((0 : Int32) < 0 ∨ cl10.slots.size ≤ ((0 : Int32)).toNatClampNeg) := inb_of S10 ⟨by decide, by decide⟩
 have hat10 : cl10.slots[((0 : Int32)).toNatClampNeg]? = some (.ref w4) := Has.at Hh10 hin10 rfl
 obtain ⟨_, _, ⟨T11, _, _, _⟩, -, X11, ⟨_, hQ, lq, yq, zq⟩, st11⟩ := Jvm.LawKit.callS X8 hx (y := mN42) hown (mvT hZ (tw hw 210 rfl)) (mvT hZ (tw hw 211 rfl)) (mvT hZ (tw hw 212 rfl)) (mvT hZ (tw hw 213 rfl)) (by decide) (backOf (W := 0) (r37_1 l Z a0 hw w4 h0 n0 Z0 ) hZ (tw hw 213 rfl) (tw hw 212 rfl) (by decide) (by decide)) (g := (mkF m 42 (la64 a1 w4) [(.ref w4)])) rfl (by rw [hml]; rfl) (argsL := [(.ref w4)]) (rest := []) (lenOf pd_33 rfl) rfl (own_w _) (hb hby d36_42) (fun _ _ => ⟨rfl, e8, (by decide : 0 + 0 ≤ _), (by decide : 0 + 0 ≤ _)⟩)
 dsimp only [Pt.U, Pt.locs, Pt.cells, Pt.slots] at X11 lq yq zq st11 hQ
 replace X11 := own_mvX X11 (a := 0) (b := 0) yq zq
 obtain ⟨rfl, Nq, e11⟩ := hQ
 have N11 := own_mvN lq N0 Nq
 have vc12 := H2
 obtain ⟨cl12, Ar12, q12, S12, N12, Hh12, G12⟩ := vc12
 have hin12 : ¬ ((1 : Int32) < 0 ∨ cl12.slots.size ≤ ((1 : Int32)).toNatClampNeg) := inb_of S12 ⟨by decide, by decide⟩
 have hat12 : cl12.slots[((1 : Int32)).toNatClampNeg]? = some (.ref w5) := Has.at Hh12 hin12 rfl
 obtain ⟨_, _, ⟨T13, _, _, _⟩, -, X13, ⟨_, hQ, lq, yq, zq⟩, st13⟩ := Jvm.LawKit.callS X11 hx (y := mN42) hown (mvT hZ (tw hw 210 rfl)) (mvT hZ (tw hw 211 rfl)) (mvT hZ (tw hw 212 rfl)) (mvT hZ (tw hw 213 rfl)) (by decide) (backOf (W := 0) (r37_1 l Z a0 hw w5 h0 n0 Z0 ) hZ (tw hw 213 rfl) (tw hw 212 rfl) (by decide) (by decide)) (g := (mkF m 42 (la65 a1 w5) [(.ref w5)])) rfl (by rw [hml]; rfl) (argsL := [(.ref w5)]) (rest := []) (lenOf pd_33 rfl) rfl (own_w _) (hb hby d36_42) (fun _ _ => ⟨rfl, e11, (by decide : 0 + 0 ≤ _), (by decide : 0 + 0 ≤ _)⟩)
 dsimp only [Pt.U, Pt.locs, Pt.cells, Pt.slots] at X13 lq yq zq st13 hQ
 replace X13 := own_mvX X13 (a := 0) (b := 0) yq zq
 obtain ⟨rfl, Nq, e13⟩ := hQ
 have N13 := own_mvN lq N11 Nq
 have vc14 := H2
 obtain ⟨cl14, Ar14, q14, S14, N14, Hh14, G14⟩ := vc14
 have hin14 : ¬ ((2 : Int32) < 0 ∨ cl14.slots.size ≤ ((2 : Int32)).toNatClampNeg) := inb_of S14 ⟨by decide, by decide⟩
 have hat14 : cl14.slots[((2 : Int32)).toNatClampNeg]? = some (.ref w6) := Has.at Hh14 hin14 rfl
 obtain ⟨_, _, ⟨T15, _, _, _⟩, -, X15, ⟨_, hQ, lq, yq, zq⟩, st15⟩ := Jvm.LawKit.callS X13 hx (y := mN42) hown (mvT hZ (tw hw 210 rfl)) (mvT hZ (tw hw 211 rfl)) (mvT hZ (tw hw 212 rfl)) (mvT hZ (tw hw 213 rfl)) (by decide) (backOf (W := 0) (r37_1 l Z a0 hw w6 h0 n0 Z0 ) hZ (tw hw 213 rfl) (tw hw 212 rfl) (by decide) (by decide)) (g := (mkF m 42 (la67 a1 w6) [(.ref w6)])) rfl (by rw [hml]; rfl) (argsL := [(.ref w6)]) (rest := []) (lenOf pd_33 rfl) rfl (own_w _) (hb hby d36_42) (fun _ _ => ⟨rfl, e13, (by decide : 0 + 0 ≤ _), (by decide : 0 + 0 ≤ _)⟩)
 dsimp only [Pt.U, Pt.locs, Pt.cells, Pt.slots] at X15 lq yq zq st15 hQ
 replace X15 := own_mvX X15 (a := 0) (b := 0) yq zq
 obtain ⟨rfl, Nq, e15⟩ := hQ
 have N15 := own_mvN lq N13 Nq
 have vc16 := H2
 obtain ⟨cl16, Ar16, q16, S16, N16, Hh16, G16⟩ := vc16
 have hin16 : ¬ ((3 : Int32) < 0 ∨ cl16.slots.size ≤ ((3 : Int32)).toNatClampNeg) := inb_of S16 ⟨by decide, by decide⟩
 have hat16 : cl16.slots[((3 : Int32)).toNatClampNeg]? = some (.ref w7) := Has.at Hh16 hin16 rfl
 obtain ⟨_, _, ⟨T17, _, _, _⟩, -, X17, ⟨_, hQ, lq, yq, zq⟩, st17⟩ := Jvm.LawKit.callS X15 hx (y := mN42) hown (mvT hZ (tw hw 210 rfl)) (mvT hZ (tw hw 211 rfl)) (mvT hZ (tw hw 212 rfl)) (mvT hZ (tw hw 213 rfl)) (by decide) (backOf (W := 0) (r37_1 l Z a0 hw w7 h0 n0 Z0 ) hZ (tw hw 213 rfl) (tw hw 212 rfl) (by decide) (by decide)) (g := (mkF m 42 (la69 a1 w7) [(.ref w7)])) rfl (by rw [hml]; rfl) (argsL := [(.ref w7)]) (rest := []) (lenOf pd_33 rfl) rfl (own_w _) (hb hby d36_42) (fun _ _ => ⟨rfl, e15, (by decide : 0 + 0 ≤ _), (by decide : 0 + 0 ≤ _)⟩)
 dsimp only [Pt.U, Pt.locs, Pt.cells, Pt.slots] at X17 lq yq zq st17 hQ
 replace X17 := own_mvX X17 (a := 0) (b := 0) yq zq
 obtain ⟨rfl, Nq, e17⟩ := hQ
 have N17 := own_mvN lq N15 Nq
 have vc18 := H2
 obtain ⟨cl18, Ar18, q18, S18, N18, Hh18, G18⟩ := vc18
 obtain ⟨T19, h19, X19, e19, E19, A19, D19, -, st19⟩ := newO X17 hx hZ hown (tw hw 214 rfl) (tw hw 215 rfl) (tw hw 216 rfl) e17 (g := (mkF m 115 (la71 a1 w7) [])) rfl (hb hby d36_115) (by decide) (by decide)
 obtain ⟨b19, g19⟩ : ∃ z, z = h0.size := ⟨_, rfl⟩
 rw [← g19] at A19 D19 st19
 have KC19 := KSx.ext (KSx.refl h0 [] []) E19
 have g20 : n0 ≤ b19 := Nat.le_trans Z0 (Nat.le_of_eq g19.symm)
 have Z19 : n0 ≤ h19.size := Nat.le_trans Z0 E19.1
 obtain ⟨_, _, ⟨T21, _, _, _⟩, -, X21, ⟨_, hQ, lq, yq, zq⟩, st21⟩ := X19.specialBackNest hx (y := mN46) rfl hown (own_mvL hZ (tw hw 217 rfl)) (mvT hZ (tw hw 218 rfl)) (mvT hZ (tw hw 220 rfl)) (by decide) (backOf (W := 1) (r38_1 l Z a0 hw b19 a1 (0 : Int32) (0 : Int32) h19 n0 Z19 A19 (D19 (Or.inr (tw hw 241 rfl)) (ty := (.array (.object sK13))) (by decide)) g20 (D19 (Or.inr (tw hw 243 rfl)) (ty := .boolean) (by decide)) (by first | decide | rfl) (by first | decide | rfl)) hZ (tw hw 220 rfl) (tw hw 216 rfl) (by decide) (by decide)) (g := (mkF m 121 (la71 a1 w7) [(.int 0), (.ref a1), (.ref b19), (.ref b19)])) rfl (by rw [hml]; rfl) (Steps.refl _) (a := b19) (argsL := [(.ref a1), (.int 0)]) (rest := [(.ref b19)]) (lenOf pd_34 rfl) rfl (own_w _) (hb hby d36_121) (fun _ _ => ⟨rfl, e19, (by decide : 1 + 0 ≤ _), (by decide : 2 + 0 ≤ _)⟩)
 dsimp only [Pt.U, Pt.locs, Pt.cells, Pt.slots] at X21 lq yq zq st21 hQ
 replace X21 := own_mvX X21 (a := 1) (b := 2) yq zq
 obtain ⟨Nq, rfl, K21, o21_0, o21_1⟩ := hQ
 have N21 := own_mvN lq N17 Nq
 have z22 : h0.size ≤ b19 := Nat.le_trans (KSx.refl h0 [] []).1 (Nat.le_of_eq g19.symm)
 have KC21 := KSx.trans KC19 K21 (ksS (Or.inr z22) (ksS (Or.inr z22) ks0)) all0
 have f23 := (A19.ks K21)
 obtain ⟨fs, hr, hrun, hended, hW, hsame⟩ := X21.leave (v := some (.ref b19)) (fun h => by rw [Bd.returns] at h; cases h)
 refine ⟨_, _, pre0 _ ?_, hrun, hended, _, _, rfl, ?_, ⟨_, rfl⟩, hW, hsame.mono (by decide) (by decide)⟩
 · show SG p e below s₁ (mkF m 0 #[vR a1, vU, vU, vU, vU] []) _
   refine st8 _ ?_
   show SG p e below T8 (mkF m 3 #[vR a1, vU, vU, vU, vU] [(.int w2)]) _
   refine XS.ifYes X8.here hx rfl (pc0 := 3) (pc' := 23) rfl (hb hby d36_3) rfl ((if0 _ _).trans (feq H1).2) (by decide) (by decide) ?_
   show SG p e below T8 (mkF m 23 #[vR a1, vU, vU, vU, vU] []) _
   refine XS.aloadN X8.here hx rfl (hb hby d36_23) rfl rfl ?_
   refine XS.astoreN X8.here hx rfl (hb hby d36_24) rfl rfl (l' := #[vR a1, vR a1, vU, vU, vU]) rfl ?_
   show SG p e below T8 (mkF m 25 #[vR a1, vR a1, vU, vU, vU] []) _
   refine XS.aloadN X8.here hx rfl (hb hby d36_25) rfl rfl ?_
   show SG p e below T8 (mkF m 26 #[vR a1, vR a1, vU, vU, vU] [(.ref a1)]) _
   refine X8.arraylength hx (by rw [e8]; exact Ar9.1) (State.isArrayOf_alike hZ.alike Ar9.2.1) (g := (mkF m 26 #[vR a1, vR a1, vU, vU, vU] [(.ref a1)])) rfl rfl (hb hby d36_26) _ ?_
   rw [len_of S9 N9]
   show SG p e below T8 (mkF m 27 #[vR a1, vR a1, vU, vU, vU] [(.int 4)]) _
   refine XS.istoreN X8.here hx rfl (hb hby d36_27) rfl (l' := #[vR a1, vR a1, vI 4, vU, vU]) rfl ?_
   show SG p e below T8 (mkF m 28 #[vR a1, vR a1, vI 4, vU, vU] []) _
   refine XS.iconst X8.here hx rfl (hb hby d36_28) ?_
   refine XS.istoreN X8.here hx rfl (hb hby d36_29) rfl (l' := #[vR a1, vR a1, vI 4, vI 0, vU]) rfl ?_
   show SG p e below T8 (mkF m 30 #[vR a1, vR a1, vI 4, vI 0, vU] []) _
   refine XS.iloadN X8.here hx rfl (hb hby d36_30) rfl ?_
   refine XS.iloadN X8.here hx rfl (hb hby d36_31) rfl ?_
   show SG p e below T8 (mkF m 32 #[vR a1, vR a1, vI 4, vI 0, vU] [(.int 4), (.int 0)]) _
   refine XS.icmpNo X8.here hx rfl (hb hby d36_32) rfl (tlt (by decide : (0 : Int32) < 4)).2.1 ?_
   show SG p e below T8 (mkF m 35 #[vR a1, vR a1, vI 4, vI 0, vU] []) _
   refine XS.aloadN X8.here hx rfl (hb hby d36_35) rfl rfl ?_
   refine XS.iloadN X8.here hx rfl (hb hby d36_36) rfl ?_
   show SG p e below T8 (mkF m 37 #[vR a1, vR a1, vI 4, vI 0, vU] [(.int 0), (.ref a1)]) _
   refine X8.aaload hx (j := (0 : Int32)) (v := (.ref w4)) (by rw [e8]; exact Ar10.1) (State.isArrayOf_alike hZ.alike Ar10.2.1) rfl Ar10.2.2 hin10 hat10 (g := (mkF m 37 #[vR a1, vR a1, vI 4, vI 0, vU] [(.int 0), (.ref a1)])) rfl rfl (hb hby d36_37) _ ?_
   show SG p e below T8 (mkF m 38 #[vR a1, vR a1, vI 4, vI 0, vU] [(.ref w4)]) _
   refine XS.astore X8.here hx rfl (hb hby d36_38) rfl rfl (l' := #[vR a1, vR a1, vI 4, vI 0, vR w4]) rfl ?_
   show SG p e below T8 (mkF m 40 (la64 a1 w4) []) _
   refine XS.aload X8.here hx rfl (hb hby d36_40) rfl rfl ?_
   show SG p e below T8 (mkF m 42 (la64 a1 w4) [(.ref w4)]) _
   refine st11 _ ?_
   show SG p e below T11 (mkF m 45 (la64 a1 w4) [(.ref w4)]) _
   refine XS.pop X11.here hx rfl (hb hby d36_45) rfl rfl ?_
   show SG p e below T11 (mkF m 46 (la64 a1 w4) []) _
   refine XS.iinc X11.here hx rfl (hb hby d36_46) rfl (l' := #[vR a1, vR a1, vI 4, vI 1, vR w4]) rfl ?_
   show SG p e below T11 (mkF m 49 (la65 a1 w4) []) _
   refine XS.goto X11.here hx rfl (pc0 := 49) (pc' := 30) rfl (hb hby d36_49) (by decide) (by decide) ?_
   show SG p e below T11 (mkF m 30 (la65 a1 w4) []) _
   refine XS.iloadN X11.here hx rfl (hb hby d36_30) rfl ?_
   refine XS.iloadN X11.here hx rfl (hb hby d36_31) rfl ?_
   show SG p e below T11 (mkF m 32 (la65 a1 w4) [(.int 4), (.int 1)]) _
   refine XS.icmpNo X11.here hx rfl (hb hby d36_32) rfl (tlt (by decide : (1 : Int32) < 4)).2.1 ?_
   show SG p e below T11 (mkF m 35 (la65 a1 w4) []) _
   refine XS.aloadN X11.here hx rfl (hb hby d36_35) rfl rfl ?_
   refine XS.iloadN X11.here hx rfl (hb hby d36_36) rfl ?_
   show SG p e below T11 (mkF m 37 (la65 a1 w4) [(.int 1), (.ref a1)]) _
   refine X11.aaload hx (j := (1 : Int32)) (v := (.ref w5)) (by rw [e11]; exact Ar12.1) (State.isArrayOf_alike hZ.alike Ar12.2.1) rfl Ar12.2.2 hin12 hat12 (g := (mkF m 37 (la65 a1 w4) [(.int 1), (.ref a1)])) rfl rfl (hb hby d36_37) _ ?_
   show SG p e below T11 (mkF m 38 (la65 a1 w4) [(.ref w5)]) _
   refine XS.astore X11.here hx rfl (hb hby d36_38) rfl rfl (l' := #[vR a1, vR a1, vI 4, vI 1, vR w5]) rfl ?_
   show SG p e below T11 (mkF m 40 (la65 a1 w5) []) _
   refine XS.aload X11.here hx rfl (hb hby d36_40) rfl rfl ?_
   show SG p e below T11 (mkF m 42 (la65 a1 w5) [(.ref w5)]) _
   refine st13 _ ?_
   show SG p e below T13 (mkF m 45 (la65 a1 w5) [(.ref w5)]) _
   refine XS.pop X13.here hx rfl (hb hby d36_45) rfl rfl ?_
   show SG p e below T13 (mkF m 46 (la65 a1 w5) []) _
   refine XS.iinc X13.here hx rfl (hb hby d36_46) rfl (l' := #[vR a1, vR a1, vI 4, vI 2, vR w5]) rfl ?_
   show SG p e below T13 (mkF m 49 (la67 a1 w5) []) _
   refine XS.goto X13.here hx rfl (pc0 := 49) (pc' := 30) rfl (hb hby d36_49) (by decide) (by decide) ?_
   show SG p e below T13 (mkF m 30 (la67 a1 w5) []) _
   refine XS.iloadN X13.here hx rfl (hb hby d36_30) rfl ?_
   refine XS.iloadN X13.here hx rfl (hb hby d36_31) rfl ?_
   show SG p e below T13 (mkF m 32 (la67 a1 w5) [(.int 4), (.int 2)]) _
   refine XS.icmpNo X13.here hx rfl (hb hby d36_32) rfl (tlt (by decide : (2 : Int32) < 4)).2.1 ?_
   show SG p e below T13 (mkF m 35 (la67 a1 w5) []) _
   refine XS.aloadN X13.here hx rfl (hb hby d36_35) rfl rfl ?_
   refine XS.iloadN X13.here hx rfl (hb hby d36_36) rfl ?_
   show SG p e below T13 (mkF m 37 (la67 a1 w5) [(.int 2), (.ref a1)]) _
   refine X13.aaload hx (j := (2 : Int32)) (v := (.ref w6)) (by rw [e13]; exact Ar14.1) (State.isArrayOf_alike hZ.alike Ar14.2.1) rfl Ar14.2.2 hin14 hat14 (g := (mkF m 37 (la67 a1 w5) [(.int 2), (.ref a1)])) rfl rfl (hb hby d36_37) _ ?_
   show SG p e below T13 (mkF m 38 (la67 a1 w5) [(.ref w6)]) _
   refine XS.astore X13.here hx rfl (hb hby d36_38) rfl rfl (l' := #[vR a1, vR a1, vI 4, vI 2, vR w6]) rfl ?_
   show SG p e below T13 (mkF m 40 (la67 a1 w6) []) _
   refine XS.aload X13.here hx rfl (hb hby d36_40) rfl rfl ?_
   show SG p e below T13 (mkF m 42 (la67 a1 w6) [(.ref w6)]) _
   refine st15 _ ?_
   show SG p e below T15 (mkF m 45 (la67 a1 w6) [(.ref w6)]) _
   refine XS.pop X15.here hx rfl (hb hby d36_45) rfl rfl ?_
   show SG p e below T15 (mkF m 46 (la67 a1 w6) []) _
   refine XS.iinc X15.here hx rfl (hb hby d36_46) rfl (l' := #[vR a1, vR a1, vI 4, vI 3, vR w6]) rfl ?_
   show SG p e below T15 (mkF m 49 (la69 a1 w6) []) _
   refine XS.goto X15.here hx rfl (pc0 := 49) (pc' := 30) rfl (hb hby d36_49) (by decide) (by decide) ?_
   show SG p e below T15 (mkF m 30 (la69 a1 w6) []) _
   refine XS.iloadN X15.here hx rfl (hb hby d36_30) rfl ?_
   refine XS.iloadN X15.here hx rfl (hb hby d36_31) rfl ?_
   show SG p e below T15 (mkF m 32 (la69 a1 w6) [(.int 4), (.int 3)]) _
   refine XS.icmpNo X15.here hx rfl (hb hby d36_32) rfl (tlt (by decide : (3 : Int32) < 4)).2.1 ?_
   show SG p e below T15 (mkF m 35 (la69 a1 w6) []) _
   refine XS.aloadN X15.here hx rfl (hb hby d36_35) rfl rfl ?_
   refine XS.iloadN X15.here hx rfl (hb hby d36_36) rfl ?_
   show SG p e below T15 (mkF m 37 (la69 a1 w6) [(.int 3), (.ref a1)]) _
   refine X15.aaload hx (j := (3 : Int32)) (v := (.ref w7)) (by rw [e15]; exact Ar16.1) (State.isArrayOf_alike hZ.alike Ar16.2.1) rfl Ar16.2.2 hin16 hat16 (g := (mkF m 37 (la69 a1 w6) [(.int 3), (.ref a1)])) rfl rfl (hb hby d36_37) _ ?_
   show SG p e below T15 (mkF m 38 (la69 a1 w6) [(.ref w7)]) _
   refine XS.astore X15.here hx rfl (hb hby d36_38) rfl rfl (l' := #[vR a1, vR a1, vI 4, vI 3, vR w7]) rfl ?_
   show SG p e below T15 (mkF m 40 (la69 a1 w7) []) _
   refine XS.aload X15.here hx rfl (hb hby d36_40) rfl rfl ?_
   show SG p e below T15 (mkF m 42 (la69 a1 w7) [(.ref w7)]) _
   refine st17 _ ?_
   show SG p e below T17 (mkF m 45 (la69 a1 w7) [(.ref w7)]) _
   refine XS.pop X17.here hx rfl (hb hby d36_45) rfl rfl ?_
   show SG p e below T17 (mkF m 46 (la69 a1 w7) []) _
   refine XS.iinc X17.here hx rfl (hb hby d36_46) rfl (l' := #[vR a1, vR a1, vI 4, vI 4, vR w7]) rfl ?_
   show SG p e below T17 (mkF m 49 (la71 a1 w7) []) _
   refine XS.goto X17.here hx rfl (pc0 := 49) (pc' := 30) rfl (hb hby d36_49) (by decide) (by decide) ?_
   show SG p e below T17 (mkF m 30 (la71 a1 w7) []) _
   refine XS.iloadN X17.here hx rfl (hb hby d36_30) rfl ?_
   refine XS.iloadN X17.here hx rfl (hb hby d36_31) rfl ?_
   show SG p e below T17 (mkF m 32 (la71 a1 w7) [(.int 4), (.int 4)]) _
   refine XS.icmpYes X17.here hx rfl (pc0 := 32) (pc' := 52) rfl (hb hby d36_32) rfl (flt (by decide : ¬ ((4 : Int32) < 4))).2.1 (by decide) (by decide) ?_
   show SG p e below T17 (mkF m 52 (la71 a1 w7) []) _
   refine XS.aloadN X17.here hx rfl (hb hby d36_52) rfl rfl ?_
   show SG p e below T17 (mkF m 53 (la71 a1 w7) [(.ref a1)]) _
   refine X17.arraylength hx (by rw [e17]; exact Ar18.1) (State.isArrayOf_alike hZ.alike Ar18.2.1) (g := (mkF m 53 (la71 a1 w7) [(.ref a1)])) rfl rfl (hb hby d36_53) _ ?_
   rw [len_of S18 N18]
   show SG p e below T17 (mkF m 54 (la71 a1 w7) [(.int 4)]) _
   refine X17.tableswitchOut hx (g := (mkF m 54 (la71 a1 w7) [(.int 4)])) rfl (k := (4 : Int32)) (rest := []) rfl (hb hby d36_54) (by decide) (by show (0 : Int) ≤ ((54 : Nat) : Int) + 61; decide) _ ?_
   show SG p e below T17 (mkF m 115 (la71 a1 w7) []) _
   refine st19 _ ?_
   show SG p e below T19 (mkF m 118 (la71 a1 w7) [(.ref b19)]) _
   refine XS.dup X19.here hx rfl (hb hby d36_118) rfl rfl ?_
   refine XS.aloadN X19.here hx rfl (hb hby d36_119) rfl rfl ?_
   show SG p e below T19 (mkF m 120 (la71 a1 w7) [(.ref a1), (.ref b19), (.ref b19)]) _
   refine XS.iconst X19.here hx rfl (hb hby d36_120) ?_
   show SG p e below T19 (mkF m 121 (la71 a1 w7) [(.int 0), (.ref a1), (.ref b19), (.ref b19)]) _
   refine st21.trans ?_
   show SG p e below T21 (mkF m 124 (la71 a1 w7) [(.ref b19)]) _
   jvm_step X21.here [X21.here.top, hx, (hb hby d36_124), X21.method', Bd.returns, Value.isRef, FieldType.isReference]
   first | (intro acts; rw [hr _ acts rfl rfl rfl]) | rw [hr _ _ rfl rfl rfl]
   exact Steps.refl _
 · show Qr36_1 Z a1 w2 k3 w4 w5 w6 w7 h0 n0 _ T21.heap _
   exact ⟨N21, b19, rfl, z22, KC21, f23, o21_0, o21_1⟩
theorem pd_35 : parseMethodDescriptor "([Ljava/lang/Object;)Ljava/util/List;" = some ⟨[(.array (.object "java/lang/Object"))], some (.object "java/util/List")⟩ := by decide +kernel
theorem d35_23 : Dc rev41 23 .areturn 1 := by decide +kernel
theorem pn_java_util_List : plainName "java/util/List" = true := by first | (simp [plainName, overriddenIn]; done) | decide +kernel
theorem ef_35_vvvv (m : MethodId) (x0 : Addr) (x1 : Addr) (x2 : Addr) (x3 : Addr) : entryFrame m #[(.ref x0), (.ref x1), (.ref x2), (.ref x3)] 4 = mkF m 0 #[.val (.ref x0), .val (.ref x1), .val (.ref x2), .val (.ref x3)] [] := by first | (simp [entryFrame, mkF, argsToLocals, Value.category]; done) | rfl
def Qr35_1 (Z : State) (a1 : Addr) (a2 : Addr) (a3 : Addr) (a4 : Addr) (w5 : Int32) (h0 : Heap) (n0 : Nat) (v : Option Value) (h : Heap) (L : List Loc) : Prop := Fr n0 L ∧ ∃ b6 b7_0 : Addr, ∃ k6 : ClassId, v = some (.ref b7_0) ∧ h0.size ≤ b6 ∧ h0.size ≤ b7_0 ∧ KSx h0 h [] [] ∧ Exa Z h b7_0 sK8 ∧ Fld Z h b7_0 sK8 sK15 sK16 (.ref b6) ∧ Fld Z h b7_0 sK8 "allowNulls" "Z" (.int 0) ∧ Arv Z h b6 k6 (.object sK13) (4 : Int32) [(.ref a1), (.ref a2), (.ref a3), (.ref a4)] .null
theorem r35_1 (l : Launch) (Z : State) (a0 : Array Value) (hw : TW a0 Z) (a1 : Addr) (a2 : Addr) (a3 : Addr) (a4 : Addr) (w5 : Int32) (h0 : Heap) (n0 : Nat) (Z0 : n0 ≤ h0.size) (H0 : Exa Z h0 a1 sK1) (H1 : Exa Z h0 a2 sK1) (H2 : Exa Z h0 a3 sK1) (H3 : Exa Z h0 a4 sK1) (H4 : Sta Z h0 sK17 sK19 "Z" (.int w5)) (H5 : ¬ (w5 = 0)) :
   OMet l Z mN48 jdk_40_method_40_code 4 (some (.object sK20)) [] (Rm 6 2 6 79) h0 #[(.ref a1), (.ref a2), (.ref a3), (.ref a4)] (Qr35_1 Z a1 a2 a3 a4 w5 h0 n0) := by
 refine MetFree.of_bodySF (plainFor_of_name pn_java_util_List) hisR ?_
 intro p e s m args below meth c s₁ Bd hml0 hP hK
 obtain ⟨rfl, hZ, hh⟩ := hP
 have hx := Bd.exec
 have hby := Bd.bytes
 have hml : c.maxLocals = 4 := hml0
 have hown : s.vm.findClass sK20 = some m.cls := findClass_of_methodNamed Bd.named
 have X0 := own_X0 Bd
 have e0 : s₁.heap = h0 := by rw [← hh, Bd.state]; rfl
 have N0 := Fr.nil n0
 have pre0 : ∀ t, Steps p.tables e below (s₁.setTop (mkF m 0 #[vR a1, vR a2, vR a3, vR a4] [])) t → Steps p.tables e below (s₁.setTop (entryFrame m #[(.ref a1), (.ref a2), (.ref a3), (.ref a4)] 4)) t := fun t k => castTop (ef_35_vvvv m a1 a2 a3 a4) k
 obtain ⟨T6, h6, k6, X6, e6, E6, A6, O6, st6⟩ := newR X0 hx hZ hown (tw hw 202 rfl) (tw hw 203 rfl) e0 (g := (mkF m 1 #[vR a1, vR a2, vR a3, vR a4] [(.int 4)])) rfl (hb hby d35_1) rfl (by decide) (cap := 4) (by decide) (by decide) (by decide) (by decide)
 obtain ⟨b6, g6⟩ : ∃ z, z = h0.size := ⟨_, rfl⟩
 rw [← g6] at A6 st6
 have KC6 := KSx.ext (KSx.refl h0 [] []) E6
 have V6 : Arv Z h6 b6 k6 (.object sK13) (4 : Int32) [.null, .null, .null, .null] .null := (Arv.new A6 (by decide)).pad (pad_rep [] .null 4)
 have vc7 := V6
 obtain ⟨cl7, Ar7, q7, S7, N7, Hh7, G7⟩ := vc7
 have hin7 : ¬ ((0 : Int32) < 0 ∨ cl7.slots.size ≤ ((0 : Int32)).toNatClampNeg) := inb_of S7 ⟨(by decide), (by decide)⟩
 have g8 : n0 ≤ b6 := Nat.le_trans Z0 (Nat.le_of_eq g6.symm)
 have f9 := (H0.ext E6)
 obtain ⟨T10, h10, X10, e10, W10, st10⟩ := stR X6 hx hZ e6 Ar7 (j := (0 : Int32)) hin7 rfl (Sto.ofV Ar7 q7 O6 (Ins.of_exa f9 (tw hw 204 rfl))) (g := (mkF m 7 #[vR a1, vR a2, vR a3, vR a4] [(.ref a1), (.int 0), (.ref b6), (.ref b6)])) rfl rfl (hb hby d35_7)
 have V10 : Arv Z h10 b6 k6 (.object sK13) (4 : Int32) [(.ref a1), .null, .null, .null] .null := Arv.set Ar7 q7 S7 N7 Hh7 G7 rfl W10 0 rfl (Nat.le_of_ble_eq_true rfl)
 have z11 : h0.size ≤ b6 := Nat.le_trans (KSx.refl h0 [] []).1 (Nat.le_of_eq g6.symm)
 have KC10 := KSx.wrA KC6 W10 (Or.inr z11)
 have N10 := Fr.snoc X10 N0 g8
 have vc12 := V10
 obtain ⟨cl12, Ar12, q12, S12, N12, Hh12, G12⟩ := vc12
 have hin12 : ¬ ((1 : Int32) < 0 ∨ cl12.slots.size ≤ ((1 : Int32)).toNatClampNeg) := inb_of S12 ⟨(by decide), (by decide)⟩
 have f13 := ((H1.ext E6).wr W10)
 obtain ⟨T14, h14, X14, e14, W14, st14⟩ := stR X10 hx hZ e10 Ar12 (j := (1 : Int32)) hin12 rfl (Sto.ofV Ar12 q12 O6 (Ins.of_exa f13 (tw hw 204 rfl))) (g := (mkF m 11 #[vR a1, vR a2, vR a3, vR a4] [(.ref a2), (.int 1), (.ref b6), (.ref b6)])) rfl rfl (hb hby d35_11)
 have V14 : Arv Z h14 b6 k6 (.object sK13) (4 : Int32) [(.ref a1), (.ref a2), .null, .null] .null := Arv.set Ar12 q12 S12 N12 Hh12 G12 rfl W14 1 rfl (Nat.le_of_ble_eq_true rfl)
 have KC14 := KSx.wrA KC10 W14 (Or.inr z11)
 have N14 := Fr.snoc X14 N10 g8
 have vc15 := V14
 obtain ⟨cl15, Ar15, q15, S15, N15, Hh15, G15⟩ := vc15
 have hin15 : ¬ ((2 : Int32) < 0 ∨ cl15.slots.size ≤ ((2 : Int32)).toNatClampNeg) := inb_of S15 ⟨(by decide), (by decide)⟩
 have f16 := (((H2.ext E6).wr W10).wr W14)
 obtain ⟨T17, h17, X17, e17, W17, st17⟩ := stR X14 hx hZ e14 Ar15 (j := (2 : Int32)) hin15 rfl (Sto.ofV Ar15 q15 O6 (Ins.of_exa f16 (tw hw 204 rfl))) (g := (mkF m 15 #[vR a1, vR a2, vR a3, vR a4] [(.ref a3), (.int 2), (.ref b6), (.ref b6)])) rfl rfl (hb hby d35_15)
 have V17 : Arv Z h17 b6 k6 (.object sK13) (4 : Int32) [(.ref a1), (.ref a2), (.ref a3), .null] .null := Arv.set Ar15 q15 S15 N15 Hh15 G15 rfl W17 2 rfl (Nat.le_of_ble_eq_true rfl)
 have KC17 := KSx.wrA KC14 W17 (Or.inr z11)
 have N17 := Fr.snoc X17 N14 g8
 have vc18 := V17
 obtain ⟨cl18, Ar18, q18, S18, N18, Hh18, G18⟩ := vc18
 have hin18 : ¬ ((3 : Int32) < 0 ∨ cl18.slots.size ≤ ((3 : Int32)).toNatClampNeg) := inb_of S18 ⟨(by decide), (by decide)⟩
 have f19 := ((((H3.ext E6).wr W10).wr W14).wr W17)
 obtain ⟨T20, h20, X20, e20, W20, st20⟩ := stR X17 hx hZ e17 Ar18 (j := (3 : Int32)) hin18 rfl (Sto.ofV Ar18 q18 O6 (Ins.of_exa f19 (tw hw 204 rfl))) (g := (mkF m 19 #[vR a1, vR a2, vR a3, vR a4] [(.ref a4), (.int 3), (.ref b6), (.ref b6)])) rfl rfl (hb hby d35_19)
 have V20 : Arv Z h20 b6 k6 (.object sK13) (4 : Int32) [(.ref a1), (.ref a2), (.ref a3), (.ref a4)] .null := Arv.set Ar18 q18 S18 N18 Hh18 G18 rfl W20 3 rfl (Nat.le_of_ble_eq_true rfl)
 have KC20 := KSx.wrA KC17 W20 (Or.inr z11)
 have N20 := Fr.snoc X20 N17 g8
 have f21 := (((((H4.ext E6).wr W10).wr W14).wr W17).wr W20)
 have Z6 : n0 ≤ h6.size := Nat.le_trans Z0 E6.1
 have Z10 : n0 ≤ h10.size := Nat.le_trans Z6 (Nat.le_of_eq W10.size.symm)
 have Z14 : n0 ≤ h14.size := Nat.le_trans Z10 (Nat.le_of_eq W14.size.symm)
 have Z17 : n0 ≤ h17.size := Nat.le_trans Z14 (Nat.le_of_eq W17.size.symm)
 have Z20 : n0 ≤ h20.size := Nat.le_trans Z17 (Nat.le_of_eq W20.size.symm)
 obtain ⟨_, _, ⟨T22, _, _, _⟩, -, X22, ⟨_, hQ, lq, yq, zq⟩, st22⟩ := Jvm.LawKit.callS X20 hx (y := mN47) hown (mvT hZ (tw hw 205 rfl)) (mvT hZ (tw hw 206 rfl)) (mvT hZ (tw hw 207 rfl)) (mvT hZ (tw hw 208 rfl)) (by decide) (backOf (W := 0) (r36_1 l Z a0 hw b6 w5 k6 a1 a2 a3 a4 h20 n0 Z20 f21 H5 V20) hZ (tw hw 208 rfl) (tw hw 207 rfl) (by decide) (by decide)) (g := (mkF m 20 #[vR a1, vR a2, vR a3, vR a4] [(.ref b6)])) rfl (by rw [hml]; rfl) (argsL := [(.ref b6)]) (rest := []) (lenOf pd_35 rfl) rfl (own_w _) (hb hby d35_20) (fun _ _ => ⟨rfl, e20, (by decide : 1 + 1 ≤ _), (by decide : 4 + 2 ≤ _)⟩)
 dsimp only [Pt.U, Pt.locs, Pt.cells, Pt.slots] at X22 lq yq zq st22 hQ
 replace X22 := own_mvX X22 (a := 2) (b := 6) yq zq
 obtain ⟨Nq, b22_0, rfl, ge_b22_0, K22, o22_0, o22_1, o22_2⟩ := hQ
 have N22 := own_mvN lq N20 Nq
 have KC22 := KSx.trans KC20 K22 ks0 all0
 have f23 := (V20.ks K22 ks0 all0)
 obtain ⟨fs, hr, hrun, hended, hW, hsame⟩ := X22.leave (v := some (.ref b22_0)) (fun h => by rw [Bd.returns] at h; cases h)
 refine ⟨_, _, pre0 _ ?_, hrun, hended, _, _, rfl, ?_, ⟨_, rfl⟩, hW, hsame.mono (by decide) (by decide)⟩
 · show SG p e below s₁ (mkF m 0 #[vR a1, vR a2, vR a3, vR a4] []) _
   refine XS.iconst X0.here hx rfl (hb hby d35_0) ?_
   show SG p e below s₁ (mkF m 1 #[vR a1, vR a2, vR a3, vR a4] [(.int 4)]) _
   refine st6 _ ?_
   show SG p e below T6 (mkF m 4 #[vR a1, vR a2, vR a3, vR a4] [(.ref b6)]) _
   refine XS.dup X6.here hx rfl (hb hby d35_4) rfl rfl ?_
   refine XS.iconst X6.here hx rfl (hb hby d35_5) ?_
   show SG p e below T6 (mkF m 6 #[vR a1, vR a2, vR a3, vR a4] [(.int 0), (.ref b6), (.ref b6)]) _
   refine XS.aloadN X6.here hx rfl (hb hby d35_6) rfl rfl ?_
   show SG p e below T6 (mkF m 7 #[vR a1, vR a2, vR a3, vR a4] [(.ref a1), (.int 0), (.ref b6), (.ref b6)]) _
   refine st10 _ ?_
   show SG p e below T10 (mkF m 8 #[vR a1, vR a2, vR a3, vR a4] [(.ref b6)]) _
   refine XS.dup X10.here hx rfl (hb hby d35_8) rfl rfl ?_
   refine XS.iconst X10.here hx rfl (hb hby d35_9) ?_
   show SG p e below T10 (mkF m 10 #[vR a1, vR a2, vR a3, vR a4] [(.int 1), (.ref b6), (.ref b6)]) _
   refine XS.aloadN X10.here hx rfl (hb hby d35_10) rfl rfl ?_
   show SG p e below T10 (mkF m 11 #[vR a1, vR a2, vR a3, vR a4] [(.ref a2), (.int 1), (.ref b6), (.ref b6)]) _
   refine st14 _ ?_
   show SG p e below T14 (mkF m 12 #[vR a1, vR a2, vR a3, vR a4] [(.ref b6)]) _
   refine XS.dup X14.here hx rfl (hb hby d35_12) rfl rfl ?_
   refine XS.iconst X14.here hx rfl (hb hby d35_13) ?_
   show SG p e below T14 (mkF m 14 #[vR a1, vR a2, vR a3, vR a4] [(.int 2), (.ref b6), (.ref b6)]) _
   refine XS.aloadN X14.here hx rfl (hb hby d35_14) rfl rfl ?_
   show SG p e below T14 (mkF m 15 #[vR a1, vR a2, vR a3, vR a4] [(.ref a3), (.int 2), (.ref b6), (.ref b6)]) _
   refine st17 _ ?_
   show SG p e below T17 (mkF m 16 #[vR a1, vR a2, vR a3, vR a4] [(.ref b6)]) _
   refine XS.dup X17.here hx rfl (hb hby d35_16) rfl rfl ?_
   refine XS.iconst X17.here hx rfl (hb hby d35_17) ?_
   show SG p e below T17 (mkF m 18 #[vR a1, vR a2, vR a3, vR a4] [(.int 3), (.ref b6), (.ref b6)]) _
   refine XS.aloadN X17.here hx rfl (hb hby d35_18) rfl rfl ?_
   show SG p e below T17 (mkF m 19 #[vR a1, vR a2, vR a3, vR a4] [(.ref a4), (.int 3), (.ref b6), (.ref b6)]) _
   refine st20 _ ?_
   show SG p e below T20 (mkF m 20 #[vR a1, vR a2, vR a3, vR a4] [(.ref b6)]) _
   refine st22 _ ?_
   show SG p e below T22 (mkF m 23 #[vR a1, vR a2, vR a3, vR a4] [(.ref b22_0)]) _
   jvm_step X22.here [X22.here.top, hx, (hb hby d35_23), X22.method', Bd.returns, Value.isRef, FieldType.isReference]
   first | (intro acts; rw [hr _ acts rfl rfl rfl]) | rw [hr _ _ rfl rfl rfl]
   exact Steps.refl _
 · show Qr35_1 Z a1 a2 a3 a4 w5 h0 n0 _ T22.heap _
   exact ⟨N22, b6, b22_0, k6, rfl, z11, (Nat.le_trans KC20.1 ge_b22_0), KC22, o22_0, o22_1, o22_2, f23⟩
theorem pd_36 : parseMethodDescriptor "(Ljava/lang/Object;Ljava/lang/Object;Ljava/lang/Object;Ljava/lang/Object;)Ljava/util/List;" = some ⟨[(.object "java/lang/Object"), (.object "java/lang/Object"), (.object "java/lang/Object"), (.object "java/lang/Object")], some (.object "java/util/List")⟩ := by decide +kernel
theorem d4_105 : Dc rev33 105 .areturn 1 := by decide +kernel
theorem ef_4_v (m : MethodId) (x0 : Addr) : entryFrame m #[(.ref x0)] 1 = mkF m 0 #[.val (.ref x0)] [] := by first | (simp [entryFrame, mkF, argsToLocals, Value.category]; done) | rfl
def Qr4_1 (Z : State) (a1 : Addr) (w2 : Int32) (w3 : Int64) (w4 : Addr) (w5 : Addr) (k6 : ClassId) (u7 : Nat → Int32) (k8 : ClassId) (u9 : Nat → Int32) (w10 : Int64) (w11 : Int64) (w12 : Int64) (w13 : Int32) (h0 : Heap) (n0 : Nat) (v : Option Value) (h : Heap) (L : List Loc) : Prop := Fr n0 L ∧ ∃ b14 b15_0 b16_0 b17_0 b17_1 b18 b19_0 b20_0 b21_0 b21_1 b22 b23_0 b24_0 b25_0 b25_1 b26 b27_0 b28_0 b29_0 b30_0 b30_1 b31_0 b31_1 : Addr, ∃ k17_0 k21_0 k25_0 k30_0 k31_0 : ClassId, v = some (.ref b31_1) ∧ h0.size ≤ b14 ∧ h0.size ≤ b15_0 ∧ h0.size ≤ b16_0 ∧ h0.size ≤ b17_0 ∧ h0.size ≤ b17_1 ∧ h0.size ≤ b18 ∧ h0.size ≤ b19_0 ∧ h0.size ≤ b20_0 ∧ h0.size ≤ b21_0 ∧ h0.size ≤ b21_1 ∧ h0.size ≤ b22 ∧ h0.size ≤ b23_0 ∧ h0.size ≤ b24_0 ∧ h0.size ≤ b25_0 ∧ h0.size ≤ b25_1 ∧ h0.size ≤ b26 ∧ h0.size ≤ b27_0 ∧ h0.size ≤ b28_0 ∧ h0.size ≤ b29_0 ∧ h0.size ≤ b30_0 ∧ h0.size ≤ b30_1 ∧ h0.size ≤ b31_0 ∧ h0.size ≤ b31_1 ∧ KSx h0 h [] [] ∧ Exa Z h b17_0 sK1 ∧ Exa Z h b21_0 sK1 ∧ Exa Z h b25_0 sK1 ∧ Exa Z h b30_0 sK1 ∧ Exa Z h b31_1 sK8 ∧ Fld Z h b17_0 sK1 "value" "[B" (.ref b17_1) ∧ Fld Z h b17_0 sK1 "coder" "B" (.int 0) ∧ Fld Z h b21_0 sK1 "value" "[B" (.ref b21_1) ∧ Fld Z h b21_0 sK1 "coder" "B" (.int 0) ∧ Fld Z h b25_0 sK1 "value" "[B" (.ref b25_1) ∧ Fld Z h b25_0 sK1 "coder" "B" (.int 0) ∧ Fld Z h b30_0 sK1 "value" "[B" (.ref b30_1) ∧ Fld Z h b30_0 sK1 "coder" "B" (.int 0) ∧ Fld Z h b31_1 sK8 sK15 sK16 (.ref b31_0) ∧ Arv Z h b31_0 k31_0 (.object sK13) (4 : Int32) [(.ref b17_0), (.ref b21_0), (.ref b25_0), (.ref b30_0)] .null ∧ BA Z h b17_1 k17_0 .byte (((0 : Int32) + ((10 : Int32) >>> ((0 : Int32) &&& 31))) + (SBG.strSizeOfL w3)) ((SBG.ogc (decide (w3 < 0)) (w3).toInt.natAbs (SBG.digitsL (w3).toInt.natAbs) ((((0 : Int32) + ((10 : Int32) >>> ((0 : Int32) &&& 31))) + (SBG.strSizeOfL w3))).toNatClampNeg (fun i => if i < 16 then (fun i => if (((0 : Int32) <<< ((0 : Int32) &&& 31))).toNatClampNeg ≤ i ∧ i < (((0 : Int32) <<< ((0 : Int32) &&& 31))).toNatClampNeg + ((10 : Int32)).toNatClampNeg then (fun i => ([112, 117, 115, 104, 101, 100, 95, 111, 107, 32] : List Int32).getD i 0) (((0 : Int32)).toNatClampNeg + (i - (((0 : Int32) <<< ((0 : Int32) &&& 31))).toNatClampNeg)) else (fun _ => (0 : Int32)) i) i else 0))) ∧ BA Z h b21_1 k21_0 .byte (((0 : Int32) + ((11 : Int32) >>> ((0 : Int32) &&& 31))) + (SBG.strSizeOfL (ops w3 w10))) ((SBG.ogc (decide ((ops w3 w10) < 0)) ((ops w3 w10)).toInt.natAbs (SBG.digitsL ((ops w3 w10)).toInt.natAbs) ((((0 : Int32) + ((11 : Int32) >>> ((0 : Int32) &&& 31))) + (SBG.strSizeOfL (ops w3 w10)))).toNatClampNeg (fun i => if i < 16 then (fun i => if (((0 : Int32) <<< ((0 : Int32) &&& 31))).toNatClampNeg ≤ i ∧ i < (((0 : Int32) <<< ((0 : Int32) &&& 31))).toNatClampNeg + ((11 : Int32)).toNatClampNeg then (fun i => ([112, 117, 115, 104, 95, 112, 101, 114, 95, 115, 32] : List Int32).getD i 0) (((0 : Int32)).toNatClampNeg + (i - (((0 : Int32) <<< ((0 : Int32) &&& 31))).toNatClampNeg)) else (fun _ => (0 : Int32)) i) i else 0))) ∧ BA Z h b25_1 k25_0 .byte (((0 : Int32) + ((8 : Int32) >>> ((0 : Int32) &&& 31))) + (SBG.strSizeOfL w11)) ((SBG.ogc (decide (w11 < 0)) (w11).toInt.natAbs (SBG.digitsL (w11).toInt.natAbs) ((((0 : Int32) + ((8 : Int32) >>> ((0 : Int32) &&& 31))) + (SBG.strSizeOfL w11))).toNatClampNeg (fun i => if i < 16 then (fun i => if (((0 : Int32) <<< ((0 : Int32) &&& 31))).toNatClampNeg ≤ i ∧ i < (((0 : Int32) <<< ((0 : Int32) &&& 31))).toNatClampNeg + ((8 : Int32)).toNatClampNeg then (fun i => ([100, 114, 97, 105, 110, 101, 100, 32] : List Int32).getD i 0) (((0 : Int32)).toNatClampNeg + (i - (((0 : Int32) <<< ((0 : Int32) &&& 31))).toNatClampNeg)) else (fun _ => (0 : Int32)) i) i else 0))) ∧ BA Z h b30_1 k30_0 .byte (((0 : Int32) + ((17 : Int32) >>> ((0 : Int32) &&& 31))) + (SBG.strSizeOfL (ops w11 w12))) ((SBG.ogc (decide ((ops w11 w12) < 0)) ((ops w11 w12)).toInt.natAbs (SBG.digitsL ((ops w11 w12)).toInt.natAbs) ((((0 : Int32) + ((17 : Int32) >>> ((0 : Int32) &&& 31))) + (SBG.strSizeOfL (ops w11 w12)))).toNatClampNeg (fun i => if i < 34 then (fun i => if (((0 : Int32) <<< ((0 : Int32) &&& 31))).toNatClampNeg ≤ i ∧ i < (((0 : Int32) <<< ((0 : Int32) &&& 31))).toNatClampNeg + ((17 : Int32)).toNatClampNeg then (fun i => ([112, 111, 112, 95, 102, 105, 110, 105, 115, 104, 95, 112, 101, 114, 95, 115, 32] : List Int32).getD i 0) (((0 : Int32)).toNatClampNeg + (i - (((0 : Int32) <<< ((0 : Int32) &&& 31))).toNatClampNeg)) else (fun i => if ((0 : Int32)).toNatClampNeg ≤ i ∧ i < ((0 : Int32)).toNatClampNeg + ((16 : Int32)).toNatClampNeg then (fun _ => (0 : Int32)) (((0 : Int32)).toNatClampNeg + (i - ((0 : Int32)).toNatClampNeg)) else (fun _ => (0 : Int32)) i) i) i else 0)))
theorem r4_1 (l : Launch) (Z : State) (a0 : Array Value) (hw : TW a0 Z) (a1 : Addr) (w2 : Int32) (w3 : Int64) (w4 : Addr) (w5 : Addr) (k6 : ClassId) (u7 : Nat → Int32) (k8 : ClassId) (u9 : Nat → Int32) (w10 : Int64) (w11 : Int64) (w12 : Int64) (w13 : Int32) (h0 : Heap) (n0 : Nat) (Z0 : n0 ≤ h0.size) (H0 : Sta Z h0 sK1 sK3 "Z" (.int w2)) (H1 : ¬ (w2 = 0)) (H2 : Fld Z h0 a1 sK6 "pushedOk" "J" (.long w3)) (H3 : Sta Z h0 sK5 sK11 "[B" (.ref w4)) (H4 : Sta Z h0 sK5 sK12 "[B" (.ref w5)) (H5 : BA Z h0 w4 k6 .byte (100 : Int32) u7) (H6 : BA Z h0 w5 k8 .byte (100 : Int32) u9) (H7 : u7 = (fun r => Int32.ofNat (48 + r % 10))) (H8 : u9 = (fun r => Int32.ofNat (48 + r / 10))) (H9 : (Jvm.Cond.laysStatic sK5 sK11 "[B").before a0 Z = true) (H10 : (Jvm.Cond.laysStatic sK5 sK12 "[B").before a0 Z = true) (H11 : ¬ ((((0 : Int32) + ((10 : Int32) >>> ((0 : Int32) &&& 31))) + (SBG.strSizeOfL w3)) < 0)) (H12 : ((((0 : Int32) + ((10 : Int32) >>> ((0 : Int32) &&& 31))) + (SBG.strSizeOfL w3))).toNatClampNeg ≤ ((oz16 ((0 : Int32) + ((10 : Int32) >>> ((0 : Int32) &&& 31))) w3)).toNatClampNeg) (H13 : ¬ ((70 : Int32) < (oz16 ((0 : Int32) + ((10 : Int32) >>> ((0 : Int32) &&& 31))) w3))) (H14 : Fld Z h0 a1 sK6 "pushNanos" "J" (.long w10)) (H15 : ¬ ((((0 : Int32) + ((11 : Int32) >>> ((0 : Int32) &&& 31))) + (SBG.strSizeOfL (ops w3 w10))) < 0)) (H16 : ((((0 : Int32) + ((11 : Int32) >>> ((0 : Int32) &&& 31))) + (SBG.strSizeOfL (ops w3 w10)))).toNatClampNeg ≤ ((oz16 ((0 : Int32) + ((11 : Int32) >>> ((0 : Int32) &&& 31))) (ops w3 w10))).toNatClampNeg) (H17 : ¬ ((70 : Int32) < (oz16 ((0 : Int32) + ((11 : Int32) >>> ((0 : Int32) &&& 31))) (ops w3 w10)))) (H18 : Fld Z h0 a1 sK6 "drained" "J" (.long w11)) (H19 : ¬ ((((0 : Int32) + ((8 : Int32) >>> ((0 : Int32) &&& 31))) + (SBG.strSizeOfL w11)) < 0)) (H20 : ((((0 : Int32) + ((8 : Int32) >>> ((0 : Int32) &&& 31))) + (SBG.strSizeOfL w11))).toNatClampNeg ≤ ((oz16 ((0 : Int32) + ((8 : Int32) >>> ((0 : Int32) &&& 31))) w11)).toNatClampNeg) (H21 : ¬ ((70 : Int32) < (oz16 ((0 : Int32) + ((8 : Int32) >>> ((0 : Int32) &&& 31))) w11))) (H22 : Fld Z h0 a1 sK6 "drainNanos" "J" (.long w12)) (H23 : ¬ ((((0 : Int32) + ((17 : Int32) >>> ((0 : Int32) &&& 31))) + (SBG.strSizeOfL (ops w11 w12))) < 0)) (H24 : ((((0 : Int32) + ((17 : Int32) >>> ((0 : Int32) &&& 31))) + (SBG.strSizeOfL (ops w11 w12)))).toNatClampNeg ≤ ((oz34 ((0 : Int32) + ((17 : Int32) >>> ((0 : Int32) &&& 31))) (ops w11 w12))).toNatClampNeg) (H25 : ¬ ((70 : Int32) < (oz34 ((0 : Int32) + ((17 : Int32) >>> ((0 : Int32) &&& 31))) (ops w11 w12)))) (H26 : Sta Z h0 sK17 sK19 "Z" (.int w13)) (H27 : ¬ (w13 = 0)) :
   OMetH EL l Z mN49 prog_5_method_2_code 1 (some (.object sK20)) [] (Rm 7 31 1148 135) h0 #[(.ref a1)] (Qr4_1 Z a1 w2 w3 w4 w5 k6 u7 k8 u9 w10 w11 w12 w13 h0 n0) := by
 refine MetFree.of_bodySF (plainFor_of_name pn_com_example_eta4_eta4_bench_ThroughputFigures) hisR ?_
 intro p e s m args below meth c s₁ Bd hml0 hP hK
 obtain ⟨rfl, hZ, hh, hCH⟩ := hP
 have hx := Bd.exec
 have hby := Bd.bytes
 have hml : c.maxLocals = 1 := hml0
 have hown : s.vm.findClass sK6 = some m.cls := findClass_of_methodNamed Bd.named
 have X0 := own_X0 Bd
 have e0 : s₁.heap = h0 := by rw [← hh, Bd.state]; rfl
 have N0 := Fr.nil n0
 have R0 : CHr Z EL s.vm h0 s.vm h0 := CHr.refl hCH
 have pre0 : ∀ t, Steps p.tables e below (s₁.setTop (mkF m 0 #[vR a1] [])) t → Steps p.tables e below (s₁.setTop (entryFrame m #[(.ref a1)] 1)) t := fun t k => castTop (ef_4_v m a1) k
 obtain ⟨T14, h14, X14, e14, E14, A14, D14, -, st14⟩ := newO X0 hx hZ hown (tw hw 28 rfl) (tw hw 29 rfl) (tw hw 30 rfl) e0 (g := (mkF m 0 #[vR a1] [])) rfl (hb hby d4_0) (by decide) (by decide)
 obtain ⟨b14, g14⟩ : ∃ z, z = h0.size := ⟨_, rfl⟩
 rw [← g14] at A14 D14 st14
 have KC14 := KSx.ext (KSx.refl h0 [] []) E14
 have R14 := CHr.trans R0 (CHr.ext E14 R0.1)
 have f15 := (H0.ext E14)
 have g16 : n0 ≤ b14 := Nat.le_trans Z0 (Nat.le_of_eq g14.symm)
 have Z14 : n0 ≤ h14.size := Nat.le_trans Z0 E14.1
 obtain ⟨_, _, ⟨T17, _, _, _⟩, -, X17, ⟨_, hQ, lq, yq, zq⟩, st17⟩ := X14.specialBack hx (y := mN36) rfl hown (mvT hZ (tw hw 31 rfl)) (mvT hZ (tw hw 32 rfl)) (mvT hZ (tw hw 33 rfl)) (by decide) (backOf (W := 1) (r5_1 l Z a0 hw b14 w2 (0 : Int32) h14 n0 Z14 f15 H1 A14 (D14 (Or.inl (tw hw 45 rfl)) (ty := (.array .byte)) (by decide)) g16 (D14 (Or.inl (tw hw 47 rfl)) (ty := .byte) (by decide))) hZ (tw hw 33 rfl) (tw hw 30 rfl) (by decide) (by decide)) (g := (mkF m 4 #[vR a1] [(.ref b14), (.ref b14)])) rfl (by rw [hml]; rfl) (Steps.refl _) (a := b14) (argsL := []) (rest := [(.ref b14)]) (lenOf pd_24 rfl) rfl (own_w _) (hb hby d4_4) (fun _ _ => ⟨rfl, e14, (by decide : 1 + 1 ≤ _), (by decide : 4 + 70 ≤ _)⟩)
 dsimp only [Pt.U, Pt.locs, Pt.cells, Pt.slots] at X17 lq yq zq st17 hQ
 replace X17 := own_mvX X17 (a := 2) (b := 74) yq zq
 obtain ⟨Nq, b17_0, k17_0, rfl, ge_b17_0, K17, o17_0, o17_1, o17_2, o17_3⟩ := hQ
 have N17 := own_mvN lq N0 Nq
 have z18 : h0.size ≤ b14 := Nat.le_trans (KSx.refl h0 [] []).1 (Nat.le_of_eq g14.symm)
 have KC17 := KSx.trans KC14 K17 (ksS (Or.inr z18) (ksS (Or.inr z18) ks0)) all0
 have R17 := CHr.trans R14 (CHr.ks K17 (ksS (Safe.exa hZ.alike A14 (by decide) (by decide)) (ksS (Safe.exa hZ.alike A14 (by decide) (by decide)) ks0)) all0 R14.1)
 have sf19 := Safe.ks K17 (ksS (Safe.exa hZ.alike A14 (by decide) (by decide)) (ksS (Safe.exa hZ.alike A14 (by decide) (by decide)) ks0)) all0 R14.1 (Safe.new ge_b17_0)
 obtain ⟨b20, T20, h20, j20, b20_1, k20, X20, e20, E20, hS20, hk20, hZ20, ho20, A20, Fc20, Fv20, V20, lt20, lu20, ch20, -, sx20, st20⟩ := ldcCH (s := s) (vm0 := s.vm) X17 hx hZ hown (tw hw 48 rfl) (fun d hd => hw d (str_in d hd)) rfl ((State.WarmedH.refl s).since 0) (Nat.zero_le _) (el_ok hw) (List.mem_of_getElem? (i := 0) rfl) R17.1 (vs := [(.int 112), (.int 117), (.int 115), (.int 104), (.int 101), (.int 100), (.int 95), (.int 111), (.int 107), (.int 32)]) (z := (10 : Int32)) ⟨by decide, by decide +kernel⟩ (by decide) rfl (g := (mkF m 7 #[vR a1] [(.ref b14)])) rfl (hb hby d4_7) (n := 40) (by decide) (by decide) (by decide) (by decide)
 have KC20 := KSx.ext KC17 E20
 have R20 := CHr.trans R17 ch20
 have sf21 := CHr.safe ch20 (o17_0).lt sf19
 have Bl20 : BA Z h20 b20_1 k20 .byte (10 : Int32) (fun i => ([112, 117, 115, 104, 101, 100, 95, 111, 107, 32] : List Int32).getD i 0) := BA.of_arv V20 (fun i hi => by match i, hi with | 0, _ => rfl | 1, _ => rfl | 2, _ => rfl | 3, _ => rfl | 4, _ => rfl | 5, _ => rfl | 6, _ => rfl | 7, _ => rfl | 8, _ => rfl | 9, _ => rfl | _ + 10, hi => exact absurd hi (by simp only [show (10 : Int32).toNatClampNeg = 10 from rfl]; omega))
 have f22 := ((f15.ks K17).ext E20)
 have f23 := (((D14 (Or.inl (tw hw 78 rfl)) (ty := .int) (by decide)).ks K17 (ksS (Or.inr (slot_ne (Or.inl (tw hw 78 rfl)) (Or.inl (tw hw 47 rfl)) (by decide) (t := .int) (t' := .byte) (by decide) (by decide))) (ksS (Or.inr (slot_ne (Or.inl (tw hw 78 rfl)) (Or.inl (tw hw 45 rfl)) (by decide) (t := .int) (t' := (.array .byte)) (by decide) (by decide))) ks0)) all0).ext E20)
 have f24 := (o17_1.ext E20)
 have f25 := (o17_3.ext E20)
 have f26 := (o17_2.ext E20)
 have f27 := ((A14.ks K17).ext E20)
 have g28 : n0 ≤ b17_0 := Nat.le_trans Z14 ge_b17_0
 have ne29 : b14 ≠ b17_0 := (Nat.ne_of_lt (Nat.lt_of_lt_of_le (A14).lt ge_b17_0))
 have Z17 : n0 ≤ T17.heap.size := Nat.le_trans Z14 K17.1
 have Z20 : n0 ≤ h20.size := Nat.le_trans Z17 E20.1
 obtain ⟨cq30, kq30, q30a, q30b, q30c⟩ := isOf hZ20 e20 f27
 obtain ⟨_, _, ⟨T30, _, _, _⟩, -, X30, ⟨_, hQ, lq, yq, zq⟩, st30⟩ := X20.virtualBack hx (y := mN41) (z := mN41) ho20 (mvT hZ20 (tw hw 54 rfl)) (mvT hZ20 (tw hw 55 rfl)) (notFace_of_selects (args := #[]) (mvT hZ20 (tw hw 57 rfl))) (mvT hZ20 (tw hw 57 rfl)) (mvT hZ20 (tw hw 56 rfl)) (by decide) (backOf (W := 0) (r7_1 l Z a0 hw b14 b20 b20_1 k20 _ (10 : Int32) w2 (0 : Int32) (0 : Int32) b17_0 k17_0 (fun _ => (0 : Int32)) (16 : Int32) (0 : Int32) h20 n0 Z20 Fv20 Bl20 f22 H1 Fc20 (by first | decide | rfl) A20 f23 f24 f25 f26 (by first | decide | rfl) f27 rfl rfl (by first | decide | rfl) (by first | decide | rfl) (by first | decide | rfl) (by first | decide | rfl) g28 ne29 g16 (Ne.symm ne29)) hZ20 (tw hw 58 rfl) (tw hw 30 rfl) (by decide) (by decide)) q30a q30c (g := (mkF m 9 #[vR a1] [(.ref b20), (.ref b14)])) rfl (by rw [hml]; rfl) (Steps.refl _) (argsL := [(.ref b20)]) (rest := []) (lenOf pd_29 rfl) rfl (own_w _) (hb hby d4_9) (fun _ _ => ⟨rfl, e20, (by decide : 4 + 0 ≤ _), (by decide : 118 + 0 ≤ _)⟩)
 dsimp only [Pt.U, Pt.locs, Pt.cells, Pt.slots] at X30 lq yq zq st30 hQ
 replace X30 := own_mvX X30 (a := 4) (b := 118) yq zq
 obtain ⟨Nq, rfl, K30, o30_0, o30_1⟩ := hQ
 have N30 := own_mvN lq N17 Nq
 have z31 : h0.size ≤ b17_0 := Nat.le_trans KC14.1 ge_b17_0
 have KC30 := KSx.trans KC20 K30 (ksS (Or.inr z18) ks0) (allS (Or.inr z31) all0)
 have R30 := CHr.trans R20 (CHr.ks K30 (ksS (Safe.exa hZ20.alike f27 (by decide) (by decide)) ks0) (allS sf21 all0) R20.1)
 have f32 := (o17_0.ext E20)
 have sf33 := Safe.ks K30 (ksS (Safe.exa hZ20.alike f27 (by decide) (by decide)) ks0) (allS sf21 all0) R20.1 sf21
 have ne34 : a1 ≠ b14 := (Nat.ne_of_lt (Nat.lt_of_lt_of_le (H2).lt (Nat.le_of_eq g14.symm)))
 have f35 := (H2.ext E14)
 have ne36 : a1 ≠ b17_0 := (Nat.ne_of_lt (Nat.lt_of_lt_of_le (f35).lt ge_b17_0))
 have f37 := ((((H2.ext E14).ks K17 (ksS (Or.inl ne34) (ksS (Or.inl ne34) ks0)) all0).ext E20).ks K30 (ksS (Or.inl ne34) ks0) (allS ne36 all0))
 obtain ⟨T38, X38, e38, st38⟩ := getF X30 hx hZ20 ho20 (host := "") (Or.inl (tw hw 15 rfl)) Via.refl rfl f37 (g := (mkF m 13 #[vR a1] [(.ref a1), (.ref b14)])) rfl rfl (hb hby d4_13)
 have f39 := (f24.ks K30 (ksS (Or.inr (slot_ne (Or.inl (tw hw 45 rfl)) (Or.inl (tw hw 78 rfl)) (by decide) (t := (.array .byte)) (t' := .int) (by decide) (by decide))) ks0) (allS ne29 all0))
 have f40 := (f26.ks K30 (ksS (Or.inr (slot_ne (Or.inl (tw hw 47 rfl)) (Or.inl (tw hw 78 rfl)) (by decide) (t := .byte) (t' := .int) (by decide) (by decide))) ks0) (allS ne29 all0))
 have f41 := (f27.ks K30)
 have f42 := (f22.ks K30)
 have f43 := ((((H3.ext E14).ks K17).ext E20).ks K30)
 have f44 := ((((H4.ext E14).ks K17).ext E20).ks K30)
 have ne45 : w4 ≠ b14 := (Nat.ne_of_lt (Nat.lt_of_lt_of_le (H5).lt (Nat.le_of_eq g14.symm)))
 have f46 := (H5.ext E14)
 have ne47 : w4 ≠ b17_0 := (Nat.ne_of_lt (Nat.lt_of_lt_of_le (f46).lt ge_b17_0))
 have f48 := ((((H5.ext E14).ks K17 (ksS ne45 (ksS ne45 ks0)) all0).ext E20).ks K30 (ksS ne45 ks0) (allS ne47 all0))
 have ne49 : w5 ≠ b14 := (Nat.ne_of_lt (Nat.lt_of_lt_of_le (H6).lt (Nat.le_of_eq g14.symm)))
 have f50 := (H6.ext E14)
 have ne51 : w5 ≠ b17_0 := (Nat.ne_of_lt (Nat.lt_of_lt_of_le (f50).lt ge_b17_0))
 have f52 := ((((H6.ext E14).ks K17 (ksS ne49 (ksS ne49 ks0)) all0).ext E20).ks K30 (ksS ne49 ks0) (allS ne51 all0))
 have f53 := (f32.ks K30)
 have Z30 : n0 ≤ T30.heap.size := Nat.le_trans Z20 K30.1
 obtain ⟨cq54, kq54, q54a, q54b, q54c⟩ := isOf hZ20 e38 f41
 obtain ⟨_, _, ⟨T54, _, _, _⟩, -, X54, ⟨_, hQ, lq, yq, zq⟩, st54⟩ := X38.virtualBack hx (y := mN21) (z := mN21) ho20 (mvT hZ20 (tw hw 104 rfl)) (mvT hZ20 (tw hw 105 rfl)) (notFace_of_selects (args := #[]) (mvT hZ20 (tw hw 107 rfl))) (mvT hZ20 (tw hw 107 rfl)) (mvT hZ20 (tw hw 106 rfl)) (by decide) (backOf (W := 0) (own_apJ l Z a0 hw b14 w3 ((0 : Int32) + ((10 : Int32) >>> ((0 : Int32) &&& 31))) b17_0 k17_0 _ (0 : Int32) w2 w4 w5 k6 u7 k8 u9 T30.heap n0 Z30 o30_0 f39 o30_1 f40 f41 f42 H1 rfl f43 f44 f48 f52 (Ne.symm ne47) (Ne.symm ne51) g28 H7 H8 H9 H10 ne29 g16 ne45 ne49 f53 (by first | decide | rfl) (by first | decide | rfl)) hZ20 (tw hw 108 rfl) (tw hw 30 rfl) (by decide) (by decide)) q54a q54c (g := (mkF m 16 #[vR a1] [(.long w3), (.ref b14)])) rfl (by rw [hml]; rfl) (Steps.refl _) (argsL := [(.long w3)]) (rest := []) (lenOf pd_30 rfl) rfl (own_w _) (hb hby d4_16) (fun _ _ => ⟨rfl, e38, (by decide : 4 + 1 ≤ _), (by decide : 118 + 70 ≤ _)⟩)
 dsimp only [Pt.U, Pt.locs, Pt.cells, Pt.slots] at X54 lq yq zq st54 hQ
 replace X54 := own_mvX X54 (a := 5) (b := 188) yq zq
 obtain ⟨Nq, b54_0, k54_0, rfl, ge_b54_0, K54, o54_0, o54_1, o54_2, o54_3⟩ := hQ
 have N54 := own_mvN lq N30 Nq
 have ga55 := own_alt ge_b54_0 ge_b17_0 (Nat.le_trans (Nat.le_trans K17.1 E20.1) K30.1)
 have KC54 := KSx.trans KC30 K54 (ksS (Or.inr z18) (ksS (Or.inr z18) ks0)) (allS (Or.inr z31) all0)
 have R54 := CHr.trans R30 (CHr.ks K54 (ksS (Safe.exa hZ20.alike f41 (by decide) (by decide)) (ksS (Safe.exa hZ20.alike f41 (by decide) (by decide)) ks0)) (allS sf33 all0) R30.1)
 have sf56 := Safe.ks K54 (ksS (Safe.exa hZ20.alike f41 (by decide) (by decide)) (ksS (Safe.exa hZ20.alike f41 (by decide) (by decide)) ks0)) (allS sf33 all0) R30.1 sf33
 have f57 := (f41.ks K54)
 have f58 := (f42.ks K54)
 have f59 := (f40.ks K54 (ksS (Or.inr (slot_ne (Or.inl (tw hw 47 rfl)) (Or.inl (tw hw 78 rfl)) (by decide) (t := .byte) (t' := .int) (by decide) (by decide))) (ksS (Or.inr (slot_ne (Or.inl (tw hw 47 rfl)) (Or.inl (tw hw 45 rfl)) (by decide) (t := .byte) (t' := (.array .byte)) (by decide) (by decide))) ks0)) (allS ne29 all0))
 have Z54 : n0 ≤ T54.heap.size := Nat.le_trans Z30 K54.1
 obtain ⟨cq60, kq60, q60a, q60b, q60c⟩ := isOf hZ20 rfl f57
 obtain ⟨_, _, ⟨T60, _, _, _⟩, -, X60, ⟨_, hQ, lq, yq, zq⟩, st60⟩ := X54.virtualBack hx (y := mN17) (z := mN17) ho20 (mvT hZ20 (tw hw 129 rfl)) (mvT hZ20 (tw hw 130 rfl)) (notFace_of_selects (args := #[]) (mvT hZ20 (tw hw 132 rfl))) (mvT hZ20 (tw hw 132 rfl)) (mvT hZ20 (tw hw 131 rfl)) (by decide) (backOf (W := 0) (own_tos l Z a0 hw b14 b54_0 (((0 : Int32) + ((10 : Int32) >>> ((0 : Int32) &&& 31))) + (SBG.strSizeOfL w3)) w2 (0 : Int32) k54_0 (oz16 ((0 : Int32) + ((10 : Int32) >>> ((0 : Int32) &&& 31))) w3) _ T54.heap n0 Z54 o54_2 f57 o54_1 f58 H1 f59 rfl o54_3 o54_0 H11 H12 H13) hZ20 (tw hw 133 rfl) (tw hw 30 rfl) (by decide) (by decide)) q60a q60c (g := (mkF m 19 #[vR a1] [(.ref b14)])) rfl (by rw [hml]; rfl) (Steps.refl _) (argsL := []) (rest := []) (lenOf pd_31 rfl) rfl (own_w _) (hb hby d4_19) (fun _ _ => ⟨rfl, rfl, (by decide : 5 + 2 ≤ _), (by decide : 188 + 74 ≤ _)⟩)
 dsimp only [Pt.U, Pt.locs, Pt.cells, Pt.slots] at X60 lq yq zq st60 hQ
 replace X60 := own_mvX X60 (a := 7) (b := 262) yq zq
 obtain ⟨Nq, b60_0, b60_1, k60_0, rfl, ge_b60_0, ge_b60_1, K60, o60_0, o60_1, o60_2, o60_3, o60_4⟩ := hQ
 have N60 := own_mvN lq N54 Nq
 have KC60 := KSx.trans KC54 K60 ks0 all0
 have R60 := CHr.trans R54 (CHr.ks K60 ks0 all0 R54.1)
 have f61 := (f53.ks K54)
 have sf62 := Safe.ks K60 ks0 all0 R54.1 sf56
 have sf63 := Safe.ks K60 ks0 all0 R54.1 (Safe.new ge_b60_1)
 obtain ⟨T64, h64, X64, e64, E64, A64, D64, -, st64⟩ := newO X60 hx hZ20 ho20 (tw hw 28 rfl) (tw hw 29 rfl) (tw hw 30 rfl) rfl (g := (mkF m 22 #[vR a1] [(.ref b60_0)])) rfl (hb hby d4_22) (by decide) (by decide)
 obtain ⟨b64, g64⟩ : ∃ z, z = T60.heap.size := ⟨_, rfl⟩
 rw [← g64] at A64 D64 st64
 have KC64 := KSx.ext KC60 E64
 have R64 := CHr.trans R60 (CHr.ext E64 R60.1)
 have f65 := (f61.ks K60)
 have sf66 := Safe.ext E64 R60.1 sf62
 have sf67 := Safe.ext E64 R60.1 sf63
 have f68 := ((f58.ks K60).ext E64)
 have Z60 : n0 ≤ T60.heap.size := Nat.le_trans Z54 K60.1
 have g69 : n0 ≤ b64 := Nat.le_trans Z60 (Nat.le_of_eq g64.symm)
 have Z64 : n0 ≤ h64.size := Nat.le_trans Z60 E64.1
 obtain ⟨_, _, ⟨T70, _, _, _⟩, -, X70, ⟨_, hQ, lq, yq, zq⟩, st70⟩ := X64.specialBack hx (y := mN36) rfl ho20 (mvT hZ20 (tw hw 31 rfl)) (mvT hZ20 (tw hw 32 rfl)) (mvT hZ20 (tw hw 33 rfl)) (by decide) (backOf (W := 2) (r5_1 l Z a0 hw b64 w2 (0 : Int32) h64 n0 Z64 f68 H1 A64 (D64 (Or.inl (tw hw 45 rfl)) (ty := (.array .byte)) (by decide)) g69 (D64 (Or.inl (tw hw 47 rfl)) (ty := .byte) (by decide))) hZ20 (tw hw 33 rfl) (tw hw 30 rfl) (by decide) (by decide)) (g := (mkF m 26 #[vR a1] [(.ref b64), (.ref b64), (.ref b60_0)])) rfl (by rw [hml]; rfl) (Steps.refl _) (a := b64) (argsL := []) (rest := [(.ref b64), (.ref b60_0)]) (lenOf pd_24 rfl) rfl (own_w _) (hb hby d4_26) (fun _ _ => ⟨rfl, e64, (by decide : 8 + 1 ≤ _), (by decide : 266 + 70 ≤ _)⟩)
 dsimp only [Pt.U, Pt.locs, Pt.cells, Pt.slots] at X70 lq yq zq st70 hQ
 replace X70 := own_mvX X70 (a := 9) (b := 336) yq zq
 obtain ⟨Nq, b70_0, k70_0, rfl, ge_b70_0, K70, o70_0, o70_1, o70_2, o70_3⟩ := hQ
 have N70 := own_mvN lq N60 Nq
 have z71 : h0.size ≤ b64 := Nat.le_trans KC60.1 (Nat.le_of_eq g64.symm)
 have KC70 := KSx.trans KC64 K70 (ksS (Or.inr z71) (ksS (Or.inr z71) ks0)) all0
 have R70 := CHr.trans R64 (CHr.ks K70 (ksS (Safe.exa hZ20.alike A64 (by decide) (by decide)) (ksS (Safe.exa hZ20.alike A64 (by decide) (by decide)) ks0)) all0 R64.1)
 have f72 := (f65.ext E64)
 have sf73 := Safe.ks K70 (ksS (Safe.exa hZ20.alike A64 (by decide) (by decide)) (ksS (Safe.exa hZ20.alike A64 (by decide) (by decide)) ks0)) all0 R64.1 sf66
 have f74 := (o60_1.ext E64)
 have sf75 := Safe.ks K70 (ksS (Safe.exa hZ20.alike A64 (by decide) (by decide)) (ksS (Safe.exa hZ20.alike A64 (by decide) (by decide)) ks0)) all0 R64.1 sf67
 have sf76 := Safe.ks K70 (ksS (Safe.exa hZ20.alike A64 (by decide) (by decide)) (ksS (Safe.exa hZ20.alike A64 (by decide) (by decide)) ks0)) all0 R64.1 (Safe.new ge_b70_0)
 obtain ⟨b77, T77, h77, j77, b77_1, k77, X77, e77, E77, hS77, hk77, hZ77, ho77, A77, Fc77, Fv77, V77, lt77, lu77, ch77, -, sx77, st77⟩ := ldcCH (s := s) X70 hx hZ20 ho20 (tw hw 172 rfl) (fun d hd => hw d (str_in d hd)) rfl hS20 (Nat.le_trans hk20 (Nat.le_trans (Nat.le_trans (Nat.le_trans (Nat.le_trans K30.1 K54.1) K60.1) E64.1) K70.1)) (el_ok hw) (List.mem_of_getElem? (i := 1) rfl) R70.1 (vs := [(.int 112), (.int 117), (.int 115), (.int 104), (.int 95), (.int 112), (.int 101), (.int 114), (.int 95), (.int 115), (.int 32)]) (z := (11 : Int32)) ⟨by decide, by decide +kernel⟩ (by decide) rfl (g := (mkF m 29 #[vR a1] [(.ref b64), (.ref b60_0)])) rfl (hb hby d4_29) (n := 44) (by decide) (by decide) (by decide) (by decide)
 have KC77 := KSx.ext KC70 E77
 have R77 := CHr.trans R70 ch77
 have f78 := (f72.ks K70)
 have sf79 := CHr.safe ch77 (f78).lt sf73
 have f80 := (f74.ks K70)
 have sf81 := CHr.safe ch77 (f80).lt sf75
 have sf82 := CHr.safe ch77 (o70_0).lt sf76
 have Bl77 : BA Z h77 b77_1 k77 .byte (11 : Int32) (fun i => ([112, 117, 115, 104, 95, 112, 101, 114, 95, 115, 32] : List Int32).getD i 0) := BA.of_arv V77 (fun i hi => by match i, hi with | 0, _ => rfl | 1, _ => rfl | 2, _ => rfl | 3, _ => rfl | 4, _ => rfl | 5, _ => rfl | 6, _ => rfl | 7, _ => rfl | 8, _ => rfl | 9, _ => rfl | 10, _ => rfl | _ + 11, hi => exact absurd hi (by simp only [show (11 : Int32).toNatClampNeg = 11 from rfl]; omega))
 have f83 := ((f68.ks K70).ext E77)
 have f84 := (((D64 (Or.inl (tw hw 78 rfl)) (ty := .int) (by decide)).ks K70 (ksS (Or.inr (slot_ne (Or.inl (tw hw 78 rfl)) (Or.inl (tw hw 47 rfl)) (by decide) (t := .int) (t' := .byte) (by decide) (by decide))) (ksS (Or.inr (slot_ne (Or.inl (tw hw 78 rfl)) (Or.inl (tw hw 45 rfl)) (by decide) (t := .int) (t' := (.array .byte)) (by decide) (by decide))) ks0)) all0).ext E77)
 have f85 := (o70_1.ext E77)
 have f86 := (o70_3.ext E77)
 have f87 := (o70_2.ext E77)
 have f88 := ((A64.ks K70).ext E77)
 have g89 : n0 ≤ b70_0 := Nat.le_trans Z64 ge_b70_0
 have ne90 : b64 ≠ b70_0 := (Nat.ne_of_lt (Nat.lt_of_lt_of_le (A64).lt ge_b70_0))
 have Z70 : n0 ≤ T70.heap.size := Nat.le_trans Z64 K70.1
 have Z77 : n0 ≤ h77.size := Nat.le_trans Z70 E77.1
 obtain ⟨cq91, kq91, q91a, q91b, q91c⟩ := isOf hZ77 e77 f88
 obtain ⟨_, _, ⟨T91, _, _, _⟩, -, X91, ⟨_, hQ, lq, yq, zq⟩, st91⟩ := X77.virtualBack hx (y := mN41) (z := mN41) ho77 (mvT hZ77 (tw hw 54 rfl)) (mvT hZ77 (tw hw 55 rfl)) (notFace_of_selects (args := #[]) (mvT hZ77 (tw hw 57 rfl))) (mvT hZ77 (tw hw 57 rfl)) (mvT hZ77 (tw hw 56 rfl)) (by decide) (backOf (W := 1) (r7_1 l Z a0 hw b64 b77 b77_1 k77 _ (11 : Int32) w2 (0 : Int32) (0 : Int32) b70_0 k70_0 (fun _ => (0 : Int32)) (16 : Int32) (0 : Int32) h77 n0 Z77 Fv77 Bl77 f83 H1 Fc77 (by first | decide | rfl) A77 f84 f85 f86 f87 (by first | decide | rfl) f88 rfl rfl (by first | decide | rfl) (by first | decide | rfl) (by first | decide | rfl) (by first | decide | rfl) g89 ne90 g69 (Ne.symm ne90)) hZ77 (tw hw 58 rfl) (tw hw 30 rfl) (by decide) (by decide)) q91a q91c (g := (mkF m 31 #[vR a1] [(.ref b77), (.ref b64), (.ref b60_0)])) rfl (by rw [hml]; rfl) (Steps.refl _) (argsL := [(.ref b77)]) (rest := [(.ref b60_0)]) (lenOf pd_29 rfl) rfl (own_w _) (hb hby d4_31) (fun _ _ => ⟨rfl, e77, (by decide : 11 + 0 ≤ _), (by decide : 384 + 0 ≤ _)⟩)
 dsimp only [Pt.U, Pt.locs, Pt.cells, Pt.slots] at X91 lq yq zq st91 hQ
 replace X91 := own_mvX X91 (a := 11) (b := 384) yq zq
 obtain ⟨Nq, rfl, K91, o91_0, o91_1⟩ := hQ
 have N91 := own_mvN lq N70 Nq
 have z92 : h0.size ≤ b70_0 := Nat.le_trans KC64.1 ge_b70_0
 have KC91 := KSx.trans KC77 K91 (ksS (Or.inr z71) ks0) (allS (Or.inr z92) all0)
 have R91 := CHr.trans R77 (CHr.ks K91 (ksS (Safe.exa hZ77.alike f88 (by decide) (by decide)) ks0) (allS sf82 all0) R77.1)
 have f93 := (f78.ext E77)
 have sf94 := Safe.ks K91 (ksS (Safe.exa hZ77.alike f88 (by decide) (by decide)) ks0) (allS sf82 all0) R77.1 sf79
 have f95 := (f80.ext E77)
 have sf96 := Safe.ks K91 (ksS (Safe.exa hZ77.alike f88 (by decide) (by decide)) ks0) (allS sf82 all0) R77.1 sf81
 have f97 := (o70_0.ext E77)
 have sf98 := Safe.ks K91 (ksS (Safe.exa hZ77.alike f88 (by decide) (by decide)) ks0) (allS sf82 all0) R77.1 sf82
 have f99 := ((f37.ks K54 (ksS (Or.inl ne34) (ksS (Or.inl ne34) ks0)) (allS ne36 all0)).ks K60 ks0 all0)
 have ne100 : a1 ≠ b64 := (Nat.ne_of_lt (Nat.lt_of_lt_of_le (f99).lt (Nat.le_of_eq g64.symm)))
 have f101 := (f99.ext E64)
 have ne102 : a1 ≠ b70_0 := (Nat.ne_of_lt (Nat.lt_of_lt_of_le (f101).lt ge_b70_0))
 have f103 := ((((((f37.ks K54 (ksS (Or.inl ne34) (ksS (Or.inl ne34) ks0)) (allS ne36 all0)).ks K60 ks0 all0).ext E64).ks K70 (ksS (Or.inl ne100) (ksS (Or.inl ne100) ks0)) all0).ext E77).ks K91 (ksS (Or.inl ne100) ks0) (allS ne102 all0))
 obtain ⟨T104, X104, e104, st104⟩ := getF X91 hx hZ77 ho77 (host := "") (Or.inl (tw hw 15 rfl)) Via.refl rfl f103 (g := (mkF m 35 #[vR a1] [(.ref a1), (.ref b64), (.ref b60_0)])) rfl rfl (hb hby d4_35)
 have f105 := ((((((((((H14.ext E14).ks K17 (ksS (Or.inl ne34) (ksS (Or.inl ne34) ks0)) all0).ext E20).ks K30 (ksS (Or.inl ne34) ks0) (allS ne36 all0)).ks K54 (ksS (Or.inl ne34) (ksS (Or.inl ne34) ks0)) (allS ne36 all0)).ks K60 ks0 all0).ext E64).ks K70 (ksS (Or.inl ne100) (ksS (Or.inl ne100) ks0)) all0).ext E77).ks K91 (ksS (Or.inl ne100) ks0) (allS ne102 all0))
 obtain ⟨T106, X106, e106, st106⟩ := getF X104 hx hZ77 ho77 (host := "") (Or.inl (tw hw 17 rfl)) Via.refl e104 f105 (g := (mkF m 39 #[vR a1] [(.ref a1), (.long w3), (.ref b64), (.ref b60_0)])) rfl rfl (hb hby d4_39)
 have Z91 : n0 ≤ T91.heap.size := Nat.le_trans Z77 K91.1
 obtain ⟨_, _, ⟨T107, _, _, _⟩, -, X107, ⟨_, hQ, lq, yq, zq⟩, st107⟩ := Jvm.LawKit.callS X106 hx (y := mN26) ho77 (mvT hZ77 (tw hw 173 rfl)) (mvT hZ77 (tw hw 174 rfl)) (mvT hZ77 (tw hw 3 rfl)) (mvT hZ77 (tw hw 175 rfl)) (by decide) (backOf (W := 2) (own_ps l Z a0 hw w3 w10 T91.heap n0 Z91) hZ77 (tw hw 175 rfl) (tw hw 3 rfl) (by decide) (by decide)) (g := (mkF m 42 #[vR a1] [(.long w10), (.long w3), (.ref b64), (.ref b60_0)])) rfl (by rw [hml]; rfl) (argsL := [(.long w3), (.long w10)]) (rest := [(.ref b64), (.ref b60_0)]) (lenOf pd_32 rfl) rfl (own_w _) (hb hby d4_42) (fun _ _ => ⟨rfl, e106, (by decide : 11 + 0 ≤ _), (by decide : 384 + 0 ≤ _)⟩)
 dsimp only [Pt.U, Pt.locs, Pt.cells, Pt.slots] at X107 lq yq zq st107 hQ
 replace X107 := own_mvX X107 (a := 11) (b := 384) yq zq
 obtain ⟨rfl, Nq, e107⟩ := hQ
 have N107 := own_mvN lq N91 Nq
 have f108 := (f85.ks K91 (ksS (Or.inr (slot_ne (Or.inl (tw hw 45 rfl)) (Or.inl (tw hw 78 rfl)) (by decide) (t := (.array .byte)) (t' := .int) (by decide) (by decide))) ks0) (allS ne90 all0))
 have f109 := (f87.ks K91 (ksS (Or.inr (slot_ne (Or.inl (tw hw 47 rfl)) (Or.inl (tw hw 78 rfl)) (by decide) (t := .byte) (t' := .int) (by decide) (by decide))) ks0) (allS ne90 all0))
 have f110 := (f88.ks K91)
 have f111 := (f83.ks K91)
 have f112 := ((((((f43.ks K54).ks K60).ext E64).ks K70).ext E77).ks K91)
 have f113 := ((((((f44.ks K54).ks K60).ext E64).ks K70).ext E77).ks K91)
 have f114 := ((f48.ks K54 (ksS ne45 (ksS ne45 ks0)) (allS ne47 all0)).ks K60 ks0 all0)
 have ne115 : w4 ≠ b64 := (Nat.ne_of_lt (Nat.lt_of_lt_of_le (f114).lt (Nat.le_of_eq g64.symm)))
 have f116 := (f114.ext E64)
 have ne117 : w4 ≠ b70_0 := (Nat.ne_of_lt (Nat.lt_of_lt_of_le (f116).lt ge_b70_0))
 have f118 := ((((((f48.ks K54 (ksS ne45 (ksS ne45 ks0)) (allS ne47 all0)).ks K60 ks0 all0).ext E64).ks K70 (ksS ne115 (ksS ne115 ks0)) all0).ext E77).ks K91 (ksS ne115 ks0) (allS ne117 all0))
 have f119 := ((f52.ks K54 (ksS ne49 (ksS ne49 ks0)) (allS ne51 all0)).ks K60 ks0 all0)
 have ne120 : w5 ≠ b64 := (Nat.ne_of_lt (Nat.lt_of_lt_of_le (f119).lt (Nat.le_of_eq g64.symm)))
 have f121 := (f119.ext E64)
 have ne122 : w5 ≠ b70_0 := (Nat.ne_of_lt (Nat.lt_of_lt_of_le (f121).lt ge_b70_0))
 have f123 := ((((((f52.ks K54 (ksS ne49 (ksS ne49 ks0)) (allS ne51 all0)).ks K60 ks0 all0).ext E64).ks K70 (ksS ne120 (ksS ne120 ks0)) all0).ext E77).ks K91 (ksS ne120 ks0) (allS ne122 all0))
 have f124 := (f97.ks K91)
 obtain ⟨cq125, kq125, q125a, q125b, q125c⟩ := isOf hZ77 e107 f110
 obtain ⟨_, _, ⟨T125, _, _, _⟩, -, X125, ⟨_, hQ, lq, yq, zq⟩, st125⟩ := X107.virtualBack hx (y := mN21) (z := mN21) ho77 (mvT hZ77 (tw hw 104 rfl)) (mvT hZ77 (tw hw 105 rfl)) (notFace_of_selects (args := #[]) (mvT hZ77 (tw hw 107 rfl))) (mvT hZ77 (tw hw 107 rfl)) (mvT hZ77 (tw hw 106 rfl)) (by decide) (backOf (W := 1) (own_apJ l Z a0 hw b64 (ops w3 w10) ((0 : Int32) + ((11 : Int32) >>> ((0 : Int32) &&& 31))) b70_0 k70_0 _ (0 : Int32) w2 w4 w5 k6 u7 k8 u9 T91.heap n0 Z91 o91_0 f108 o91_1 f109 f110 f111 H1 rfl f112 f113 f118 f123 (Ne.symm ne117) (Ne.symm ne122) g89 H7 H8 H9 H10 ne90 g69 ne115 ne120 f124 (by first | decide | rfl) (by first | decide | rfl)) hZ77 (tw hw 108 rfl) (tw hw 30 rfl) (by decide) (by decide)) q125a q125c (g := (mkF m 45 #[vR a1] [(.long (ops w3 w10)), (.ref b64), (.ref b60_0)])) rfl (by rw [hml]; rfl) (Steps.refl _) (argsL := [(.long (ops w3 w10))]) (rest := [(.ref b60_0)]) (lenOf pd_30 rfl) rfl (own_w _) (hb hby d4_45) (fun _ _ => ⟨rfl, e107, (by decide : 11 + 1 ≤ _), (by decide : 384 + 70 ≤ _)⟩)
 dsimp only [Pt.U, Pt.locs, Pt.cells, Pt.slots] at X125 lq yq zq st125 hQ
 replace X125 := own_mvX X125 (a := 12) (b := 454) yq zq
 obtain ⟨Nq, b125_0, k125_0, rfl, ge_b125_0, K125, o125_0, o125_1, o125_2, o125_3⟩ := hQ
 have N125 := own_mvN lq N107 Nq
 have ga126 := own_alt ge_b125_0 ge_b70_0 (Nat.le_trans (Nat.le_trans K70.1 E77.1) K91.1)
 have KC125 := KSx.trans KC91 K125 (ksS (Or.inr z71) (ksS (Or.inr z71) ks0)) (allS (Or.inr z92) all0)
 have R125 := CHr.trans R91 (CHr.ks K125 (ksS (Safe.exa hZ77.alike f110 (by decide) (by decide)) (ksS (Safe.exa hZ77.alike f110 (by decide) (by decide)) ks0)) (allS sf98 all0) R91.1)
 have f127 := (f93.ks K91)
 have sf128 := Safe.ks K125 (ksS (Safe.exa hZ77.alike f110 (by decide) (by decide)) (ksS (Safe.exa hZ77.alike f110 (by decide) (by decide)) ks0)) (allS sf98 all0) R91.1 sf94
 have f129 := (f95.ks K91)
 have sf130 := Safe.ks K125 (ksS (Safe.exa hZ77.alike f110 (by decide) (by decide)) (ksS (Safe.exa hZ77.alike f110 (by decide) (by decide)) ks0)) (allS sf98 all0) R91.1 sf96
 have sf131 := Safe.ks K125 (ksS (Safe.exa hZ77.alike f110 (by decide) (by decide)) (ksS (Safe.exa hZ77.alike f110 (by decide) (by decide)) ks0)) (allS sf98 all0) R91.1 sf98
 have f132 := (f110.ks K125)
 have f133 := (f111.ks K125)
 have f134 := (f109.ks K125 (ksS (Or.inr (slot_ne (Or.inl (tw hw 47 rfl)) (Or.inl (tw hw 78 rfl)) (by decide) (t := .byte) (t' := .int) (by decide) (by decide))) (ksS (Or.inr (slot_ne (Or.inl (tw hw 47 rfl)) (Or.inl (tw hw 45 rfl)) (by decide) (t := .byte) (t' := (.array .byte)) (by decide) (by decide))) ks0)) (allS ne90 all0))
 have Z125 : n0 ≤ T125.heap.size := Nat.le_trans Z91 K125.1
 obtain ⟨cq135, kq135, q135a, q135b, q135c⟩ := isOf hZ77 rfl f132
 obtain ⟨_, _, ⟨T135, _, _, _⟩, -, X135, ⟨_, hQ, lq, yq, zq⟩, st135⟩ := X125.virtualBack hx (y := mN17) (z := mN17) ho77 (mvT hZ77 (tw hw 129 rfl)) (mvT hZ77 (tw hw 130 rfl)) (notFace_of_selects (args := #[]) (mvT hZ77 (tw hw 132 rfl))) (mvT hZ77 (tw hw 132 rfl)) (mvT hZ77 (tw hw 131 rfl)) (by decide) (backOf (W := 1) (own_tos l Z a0 hw b64 b125_0 (((0 : Int32) + ((11 : Int32) >>> ((0 : Int32) &&& 31))) + (SBG.strSizeOfL (ops w3 w10))) w2 (0 : Int32) k125_0 (oz16 ((0 : Int32) + ((11 : Int32) >>> ((0 : Int32) &&& 31))) (ops w3 w10)) _ T125.heap n0 Z125 o125_2 f132 o125_1 f133 H1 f134 rfl o125_3 o125_0 H15 H16 H17) hZ77 (tw hw 133 rfl) (tw hw 30 rfl) (by decide) (by decide)) q135a q135c (g := (mkF m 48 #[vR a1] [(.ref b64), (.ref b60_0)])) rfl (by rw [hml]; rfl) (Steps.refl _) (argsL := []) (rest := [(.ref b60_0)]) (lenOf pd_31 rfl) rfl (own_w _) (hb hby d4_48) (fun _ _ => ⟨rfl, rfl, (by decide : 12 + 2 ≤ _), (by decide : 454 + 74 ≤ _)⟩)
 dsimp only [Pt.U, Pt.locs, Pt.cells, Pt.slots] at X135 lq yq zq st135 hQ
 replace X135 := own_mvX X135 (a := 14) (b := 528) yq zq
 obtain ⟨Nq, b135_0, b135_1, k135_0, rfl, ge_b135_0, ge_b135_1, K135, o135_0, o135_1, o135_2, o135_3, o135_4⟩ := hQ
 have N135 := own_mvN lq N125 Nq
 have KC135 := KSx.trans KC125 K135 ks0 all0
 have R135 := CHr.trans R125 (CHr.ks K135 ks0 all0 R125.1)
 have f136 := (f127.ks K125)
 have sf137 := Safe.ks K135 ks0 all0 R125.1 sf128
 have f138 := (f129.ks K125)
 have sf139 := Safe.ks K135 ks0 all0 R125.1 sf130
 have f140 := (f124.ks K125)
 have sf141 := Safe.ks K135 ks0 all0 R125.1 sf131
 have sf142 := Safe.ks K135 ks0 all0 R125.1 (Safe.new ge_b135_1)
 obtain ⟨T143, h143, X143, e143, E143, A143, D143, -, st143⟩ := newO X135 hx hZ77 ho77 (tw hw 28 rfl) (tw hw 29 rfl) (tw hw 30 rfl) rfl (g := (mkF m 51 #[vR a1] [(.ref b135_0), (.ref b60_0)])) rfl (hb hby d4_51) (by decide) (by decide)
 obtain ⟨b143, g143⟩ : ∃ z, z = T135.heap.size := ⟨_, rfl⟩
 rw [← g143] at A143 D143 st143
 have KC143 := KSx.ext KC135 E143
 have R143 := CHr.trans R135 (CHr.ext E143 R135.1)
 have f144 := (f136.ks K135)
 have sf145 := Safe.ext E143 R135.1 sf137
 have f146 := (f138.ks K135)
 have sf147 := Safe.ext E143 R135.1 sf139
 have f148 := (f140.ks K135)
 have sf149 := Safe.ext E143 R135.1 sf141
 have sf150 := Safe.ext E143 R135.1 sf142
 have f151 := ((f133.ks K135).ext E143)
 have Z135 : n0 ≤ T135.heap.size := Nat.le_trans Z125 K135.1
 have g152 : n0 ≤ b143 := Nat.le_trans Z135 (Nat.le_of_eq g143.symm)
 have Z143 : n0 ≤ h143.size := Nat.le_trans Z135 E143.1
 obtain ⟨_, _, ⟨T153, _, _, _⟩, -, X153, ⟨_, hQ, lq, yq, zq⟩, st153⟩ := X143.specialBack hx (y := mN36) rfl ho77 (mvT hZ77 (tw hw 31 rfl)) (mvT hZ77 (tw hw 32 rfl)) (mvT hZ77 (tw hw 33 rfl)) (by decide) (backOf (W := 3) (r5_1 l Z a0 hw b143 w2 (0 : Int32) h143 n0 Z143 f151 H1 A143 (D143 (Or.inl (tw hw 45 rfl)) (ty := (.array .byte)) (by decide)) g152 (D143 (Or.inl (tw hw 47 rfl)) (ty := .byte) (by decide))) hZ77 (tw hw 33 rfl) (tw hw 30 rfl) (by decide) (by decide)) (g := (mkF m 55 #[vR a1] [(.ref b143), (.ref b143), (.ref b135_0), (.ref b60_0)])) rfl (by rw [hml]; rfl) (Steps.refl _) (a := b143) (argsL := []) (rest := [(.ref b143), (.ref b135_0), (.ref b60_0)]) (lenOf pd_24 rfl) rfl (own_w _) (hb hby d4_55) (fun _ _ => ⟨rfl, e143, (by decide : 15 + 1 ≤ _), (by decide : 532 + 70 ≤ _)⟩)
 dsimp only [Pt.U, Pt.locs, Pt.cells, Pt.slots] at X153 lq yq zq st153 hQ
 replace X153 := own_mvX X153 (a := 16) (b := 602) yq zq
 obtain ⟨Nq, b153_0, k153_0, rfl, ge_b153_0, K153, o153_0, o153_1, o153_2, o153_3⟩ := hQ
 have N153 := own_mvN lq N135 Nq
 have z154 : h0.size ≤ b143 := Nat.le_trans KC135.1 (Nat.le_of_eq g143.symm)
 have KC153 := KSx.trans KC143 K153 (ksS (Or.inr z154) (ksS (Or.inr z154) ks0)) all0
 have R153 := CHr.trans R143 (CHr.ks K153 (ksS (Safe.exa hZ77.alike A143 (by decide) (by decide)) (ksS (Safe.exa hZ77.alike A143 (by decide) (by decide)) ks0)) all0 R143.1)
 have f155 := (f144.ext E143)
 have sf156 := Safe.ks K153 (ksS (Safe.exa hZ77.alike A143 (by decide) (by decide)) (ksS (Safe.exa hZ77.alike A143 (by decide) (by decide)) ks0)) all0 R143.1 sf145
 have f157 := (f146.ext E143)
 have sf158 := Safe.ks K153 (ksS (Safe.exa hZ77.alike A143 (by decide) (by decide)) (ksS (Safe.exa hZ77.alike A143 (by decide) (by decide)) ks0)) all0 R143.1 sf147
 have f159 := (f148.ext E143)
 have sf160 := Safe.ks K153 (ksS (Safe.exa hZ77.alike A143 (by decide) (by decide)) (ksS (Safe.exa hZ77.alike A143 (by decide) (by decide)) ks0)) all0 R143.1 sf149
 have f161 := (o135_1.ext E143)
 have sf162 := Safe.ks K153 (ksS (Safe.exa hZ77.alike A143 (by decide) (by decide)) (ksS (Safe.exa hZ77.alike A143 (by decide) (by decide)) ks0)) all0 R143.1 sf150
 have sf163 := Safe.ks K153 (ksS (Safe.exa hZ77.alike A143 (by decide) (by decide)) (ksS (Safe.exa hZ77.alike A143 (by decide) (by decide)) ks0)) all0 R143.1 (Safe.new ge_b153_0)
 obtain ⟨b164, T164, h164, j164, b164_1, k164, X164, e164, E164, hS164, hk164, hZ164, ho164, A164, Fc164, Fv164, V164, lt164, lu164, ch164, -, sx164, st164⟩ := ldcCH (s := s) X153 hx hZ77 ho77 (tw hw 176 rfl) (fun d hd => hw d (str_in d hd)) rfl hS77 (Nat.le_trans hk77 (Nat.le_trans (Nat.le_trans (Nat.le_trans (Nat.le_trans K91.1 K125.1) K135.1) E143.1) K153.1)) (el_ok hw) (List.mem_of_getElem? (i := 2) rfl) R153.1 (vs := [(.int 100), (.int 114), (.int 97), (.int 105), (.int 110), (.int 101), (.int 100), (.int 32)]) (z := (8 : Int32)) ⟨by decide, by decide +kernel⟩ (by decide) rfl (g := (mkF m 58 #[vR a1] [(.ref b143), (.ref b135_0), (.ref b60_0)])) rfl (hb hby d4_58) (n := 32) (by decide) (by decide) (by decide) (by decide)
 have KC164 := KSx.ext KC153 E164
 have R164 := CHr.trans R153 ch164
 have f165 := (f155.ks K153)
 have sf166 := CHr.safe ch164 (f165).lt sf156
 have f167 := (f157.ks K153)
 have sf168 := CHr.safe ch164 (f167).lt sf158
 have f169 := (f159.ks K153)
 have sf170 := CHr.safe ch164 (f169).lt sf160
 have f171 := (f161.ks K153)
 have sf172 := CHr.safe ch164 (f171).lt sf162
 have sf173 := CHr.safe ch164 (o153_0).lt sf163
 have Bl164 : BA Z h164 b164_1 k164 .byte (8 : Int32) (fun i => ([100, 114, 97, 105, 110, 101, 100, 32] : List Int32).getD i 0) := BA.of_arv V164 (fun i hi => by match i, hi with | 0, _ => rfl | 1, _ => rfl | 2, _ => rfl | 3, _ => rfl | 4, _ => rfl | 5, _ => rfl | 6, _ => rfl | 7, _ => rfl | _ + 8, hi => exact absurd hi (by simp only [show (8 : Int32).toNatClampNeg = 8 from rfl]; omega))
 have f174 := ((f151.ks K153).ext E164)
 have f175 := (((D143 (Or.inl (tw hw 78 rfl)) (ty := .int) (by decide)).ks K153 (ksS (Or.inr (slot_ne (Or.inl (tw hw 78 rfl)) (Or.inl (tw hw 47 rfl)) (by decide) (t := .int) (t' := .byte) (by decide) (by decide))) (ksS (Or.inr (slot_ne (Or.inl (tw hw 78 rfl)) (Or.inl (tw hw 45 rfl)) (by decide) (t := .int) (t' := (.array .byte)) (by decide) (by decide))) ks0)) all0).ext E164)
 have f176 := (o153_1.ext E164)
 have f177 := (o153_3.ext E164)
 have f178 := (o153_2.ext E164)
 have f179 := ((A143.ks K153).ext E164)
 have g180 : n0 ≤ b153_0 := Nat.le_trans Z143 ge_b153_0
 have ne181 : b143 ≠ b153_0 := (Nat.ne_of_lt (Nat.lt_of_lt_of_le (A143).lt ge_b153_0))
 have Z153 : n0 ≤ T153.heap.size := Nat.le_trans Z143 K153.1
 have Z164 : n0 ≤ h164.size := Nat.le_trans Z153 E164.1
 obtain ⟨cq182, kq182, q182a, q182b, q182c⟩ := isOf hZ164 e164 f179
 obtain ⟨_, _, ⟨T182, _, _, _⟩, -, X182, ⟨_, hQ, lq, yq, zq⟩, st182⟩ := X164.virtualBack hx (y := mN41) (z := mN41) ho164 (mvT hZ164 (tw hw 54 rfl)) (mvT hZ164 (tw hw 55 rfl)) (notFace_of_selects (args := #[]) (mvT hZ164 (tw hw 57 rfl))) (mvT hZ164 (tw hw 57 rfl)) (mvT hZ164 (tw hw 56 rfl)) (by decide) (backOf (W := 2) (r7_1 l Z a0 hw b143 b164 b164_1 k164 _ (8 : Int32) w2 (0 : Int32) (0 : Int32) b153_0 k153_0 (fun _ => (0 : Int32)) (16 : Int32) (0 : Int32) h164 n0 Z164 Fv164 Bl164 f174 H1 Fc164 (by first | decide | rfl) A164 f175 f176 f177 f178 (by first | decide | rfl) f179 rfl rfl (by first | decide | rfl) (by first | decide | rfl) (by first | decide | rfl) (by first | decide | rfl) g180 ne181 g152 (Ne.symm ne181)) hZ164 (tw hw 58 rfl) (tw hw 30 rfl) (by decide) (by decide)) q182a q182c (g := (mkF m 60 #[vR a1] [(.ref b164), (.ref b143), (.ref b135_0), (.ref b60_0)])) rfl (by rw [hml]; rfl) (Steps.refl _) (argsL := [(.ref b164)]) (rest := [(.ref b135_0), (.ref b60_0)]) (lenOf pd_29 rfl) rfl (own_w _) (hb hby d4_60) (fun _ _ => ⟨rfl, e164, (by decide : 18 + 0 ≤ _), (by decide : 638 + 0 ≤ _)⟩)
 dsimp only [Pt.U, Pt.locs, Pt.cells, Pt.slots] at X182 lq yq zq st182 hQ
 replace X182 := own_mvX X182 (a := 18) (b := 638) yq zq
 obtain ⟨Nq, rfl, K182, o182_0, o182_1⟩ := hQ
 have N182 := own_mvN lq N153 Nq
 have z183 : h0.size ≤ b153_0 := Nat.le_trans KC143.1 ge_b153_0
 have KC182 := KSx.trans KC164 K182 (ksS (Or.inr z154) ks0) (allS (Or.inr z183) all0)
 have R182 := CHr.trans R164 (CHr.ks K182 (ksS (Safe.exa hZ164.alike f179 (by decide) (by decide)) ks0) (allS sf173 all0) R164.1)
 have f184 := (f165.ext E164)
 have sf185 := Safe.ks K182 (ksS (Safe.exa hZ164.alike f179 (by decide) (by decide)) ks0) (allS sf173 all0) R164.1 sf166
 have f186 := (f167.ext E164)
 have sf187 := Safe.ks K182 (ksS (Safe.exa hZ164.alike f179 (by decide) (by decide)) ks0) (allS sf173 all0) R164.1 sf168
 have f188 := (f169.ext E164)
 have sf189 := Safe.ks K182 (ksS (Safe.exa hZ164.alike f179 (by decide) (by decide)) ks0) (allS sf173 all0) R164.1 sf170
 have f190 := (f171.ext E164)
 have sf191 := Safe.ks K182 (ksS (Safe.exa hZ164.alike f179 (by decide) (by decide)) ks0) (allS sf173 all0) R164.1 sf172
 have f192 := (o153_0.ext E164)
 have sf193 := Safe.ks K182 (ksS (Safe.exa hZ164.alike f179 (by decide) (by decide)) ks0) (allS sf173 all0) R164.1 sf173
 have f194 := ((f103.ks K125 (ksS (Or.inl ne100) (ksS (Or.inl ne100) ks0)) (allS ne102 all0)).ks K135 ks0 all0)
 have ne195 : a1 ≠ b143 := (Nat.ne_of_lt (Nat.lt_of_lt_of_le (f194).lt (Nat.le_of_eq g143.symm)))
 have f196 := (f194.ext E143)
 have ne197 : a1 ≠ b153_0 := (Nat.ne_of_lt (Nat.lt_of_lt_of_le (f196).lt ge_b153_0))
 have f198 := ((((((((((((((((H18.ext E14).ks K17 (ksS (Or.inl ne34) (ksS (Or.inl ne34) ks0)) all0).ext E20).ks K30 (ksS (Or.inl ne34) ks0) (allS ne36 all0)).ks K54 (ksS (Or.inl ne34) (ksS (Or.inl ne34) ks0)) (allS ne36 all0)).ks K60 ks0 all0).ext E64).ks K70 (ksS (Or.inl ne100) (ksS (Or.inl ne100) ks0)) all0).ext E77).ks K91 (ksS (Or.inl ne100) ks0) (allS ne102 all0)).ks K125 (ksS (Or.inl ne100) (ksS (Or.inl ne100) ks0)) (allS ne102 all0)).ks K135 ks0 all0).ext E143).ks K153 (ksS (Or.inl ne195) (ksS (Or.inl ne195) ks0)) all0).ext E164).ks K182 (ksS (Or.inl ne195) ks0) (allS ne197 all0))
 obtain ⟨T199, X199, e199, st199⟩ := getF X182 hx hZ164 ho164 (host := "") (Or.inl (tw hw 19 rfl)) Via.refl rfl f198 (g := (mkF m 64 #[vR a1] [(.ref a1), (.ref b143), (.ref b135_0), (.ref b60_0)])) rfl rfl (hb hby d4_64)
 have f200 := (f176.ks K182 (ksS (Or.inr (slot_ne (Or.inl (tw hw 45 rfl)) (Or.inl (tw hw 78 rfl)) (by decide) (t := (.array .byte)) (t' := .int) (by decide) (by decide))) ks0) (allS ne181 all0))
 have f201 := (f178.ks K182 (ksS (Or.inr (slot_ne (Or.inl (tw hw 47 rfl)) (Or.inl (tw hw 78 rfl)) (by decide) (t := .byte) (t' := .int) (by decide) (by decide))) ks0) (allS ne181 all0))
 have f202 := (f179.ks K182)
 have f203 := (f174.ks K182)
 have f204 := ((((((f112.ks K125).ks K135).ext E143).ks K153).ext E164).ks K182)
 have f205 := ((((((f113.ks K125).ks K135).ext E143).ks K153).ext E164).ks K182)
 have f206 := ((f118.ks K125 (ksS ne115 (ksS ne115 ks0)) (allS ne117 all0)).ks K135 ks0 all0)
 have ne207 : w4 ≠ b143 := (Nat.ne_of_lt (Nat.lt_of_lt_of_le (f206).lt (Nat.le_of_eq g143.symm)))
 have f208 := (f206.ext E143)
 have ne209 : w4 ≠ b153_0 := (Nat.ne_of_lt (Nat.lt_of_lt_of_le (f208).lt ge_b153_0))
 have f210 := ((((((f118.ks K125 (ksS ne115 (ksS ne115 ks0)) (allS ne117 all0)).ks K135 ks0 all0).ext E143).ks K153 (ksS ne207 (ksS ne207 ks0)) all0).ext E164).ks K182 (ksS ne207 ks0) (allS ne209 all0))
 have f211 := ((f123.ks K125 (ksS ne120 (ksS ne120 ks0)) (allS ne122 all0)).ks K135 ks0 all0)
 have ne212 : w5 ≠ b143 := (Nat.ne_of_lt (Nat.lt_of_lt_of_le (f211).lt (Nat.le_of_eq g143.symm)))
 have f213 := (f211.ext E143)
 have ne214 : w5 ≠ b153_0 := (Nat.ne_of_lt (Nat.lt_of_lt_of_le (f213).lt ge_b153_0))
 have f215 := ((((((f123.ks K125 (ksS ne120 (ksS ne120 ks0)) (allS ne122 all0)).ks K135 ks0 all0).ext E143).ks K153 (ksS ne212 (ksS ne212 ks0)) all0).ext E164).ks K182 (ksS ne212 ks0) (allS ne214 all0))
 have f216 := (f192.ks K182)
 have Z182 : n0 ≤ T182.heap.size := Nat.le_trans Z164 K182.1
 obtain ⟨cq217, kq217, q217a, q217b, q217c⟩ := isOf hZ164 e199 f202
 obtain ⟨_, _, ⟨T217, _, _, _⟩, -, X217, ⟨_, hQ, lq, yq, zq⟩, st217⟩ := X199.virtualBack hx (y := mN21) (z := mN21) ho164 (mvT hZ164 (tw hw 104 rfl)) (mvT hZ164 (tw hw 105 rfl)) (notFace_of_selects (args := #[]) (mvT hZ164 (tw hw 107 rfl))) (mvT hZ164 (tw hw 107 rfl)) (mvT hZ164 (tw hw 106 rfl)) (by decide) (backOf (W := 2) (own_apJ l Z a0 hw b143 w11 ((0 : Int32) + ((8 : Int32) >>> ((0 : Int32) &&& 31))) b153_0 k153_0 _ (0 : Int32) w2 w4 w5 k6 u7 k8 u9 T182.heap n0 Z182 o182_0 f200 o182_1 f201 f202 f203 H1 rfl f204 f205 f210 f215 (Ne.symm ne209) (Ne.symm ne214) g180 H7 H8 H9 H10 ne181 g152 ne207 ne212 f216 (by first | decide | rfl) (by first | decide | rfl)) hZ164 (tw hw 108 rfl) (tw hw 30 rfl) (by decide) (by decide)) q217a q217c (g := (mkF m 67 #[vR a1] [(.long w11), (.ref b143), (.ref b135_0), (.ref b60_0)])) rfl (by rw [hml]; rfl) (Steps.refl _) (argsL := [(.long w11)]) (rest := [(.ref b135_0), (.ref b60_0)]) (lenOf pd_30 rfl) rfl (own_w _) (hb hby d4_67) (fun _ _ => ⟨rfl, e199, (by decide : 18 + 1 ≤ _), (by decide : 638 + 70 ≤ _)⟩)
 dsimp only [Pt.U, Pt.locs, Pt.cells, Pt.slots] at X217 lq yq zq st217 hQ
 replace X217 := own_mvX X217 (a := 19) (b := 708) yq zq
 obtain ⟨Nq, b217_0, k217_0, rfl, ge_b217_0, K217, o217_0, o217_1, o217_2, o217_3⟩ := hQ
 have N217 := own_mvN lq N182 Nq
 have ga218 := own_alt ge_b217_0 ge_b153_0 (Nat.le_trans (Nat.le_trans K153.1 E164.1) K182.1)
 have KC217 := KSx.trans KC182 K217 (ksS (Or.inr z154) (ksS (Or.inr z154) ks0)) (allS (Or.inr z183) all0)
 have R217 := CHr.trans R182 (CHr.ks K217 (ksS (Safe.exa hZ164.alike f202 (by decide) (by decide)) (ksS (Safe.exa hZ164.alike f202 (by decide) (by decide)) ks0)) (allS sf193 all0) R182.1)
 have f219 := (f184.ks K182)
 have sf220 := Safe.ks K217 (ksS (Safe.exa hZ164.alike f202 (by decide) (by decide)) (ksS (Safe.exa hZ164.alike f202 (by decide) (by decide)) ks0)) (allS sf193 all0) R182.1 sf185
 have f221 := (f186.ks K182)
 have sf222 := Safe.ks K217 (ksS (Safe.exa hZ164.alike f202 (by decide) (by decide)) (ksS (Safe.exa hZ164.alike f202 (by decide) (by decide)) ks0)) (allS sf193 all0) R182.1 sf187
 have f223 := (f188.ks K182)
 have sf224 := Safe.ks K217 (ksS (Safe.exa hZ164.alike f202 (by decide) (by decide)) (ksS (Safe.exa hZ164.alike f202 (by decide) (by decide)) ks0)) (allS sf193 all0) R182.1 sf189
 have f225 := (f190.ks K182)
 have sf226 := Safe.ks K217 (ksS (Safe.exa hZ164.alike f202 (by decide) (by decide)) (ksS (Safe.exa hZ164.alike f202 (by decide) (by decide)) ks0)) (allS sf193 all0) R182.1 sf191
 have sf227 := Safe.ks K217 (ksS (Safe.exa hZ164.alike f202 (by decide) (by decide)) (ksS (Safe.exa hZ164.alike f202 (by decide) (by decide)) ks0)) (allS sf193 all0) R182.1 sf193
 have f228 := (f202.ks K217)
 have f229 := (f203.ks K217)
 have f230 := (f201.ks K217 (ksS (Or.inr (slot_ne (Or.inl (tw hw 47 rfl)) (Or.inl (tw hw 78 rfl)) (by decide) (t := .byte) (t' := .int) (by decide) (by decide))) (ksS (Or.inr (slot_ne (Or.inl (tw hw 47 rfl)) (Or.inl (tw hw 45 rfl)) (by decide) (t := .byte) (t' := (.array .byte)) (by decide) (by decide))) ks0)) (allS ne181 all0))
 have Z217 : n0 ≤ T217.heap.size := Nat.le_trans Z182 K217.1
 obtain ⟨cq231, kq231, q231a, q231b, q231c⟩ := isOf hZ164 rfl f228
 obtain ⟨_, _, ⟨T231, _, _, _⟩, -, X231, ⟨_, hQ, lq, yq, zq⟩, st231⟩ := X217.virtualBack hx (y := mN17) (z := mN17) ho164 (mvT hZ164 (tw hw 129 rfl)) (mvT hZ164 (tw hw 130 rfl)) (notFace_of_selects (args := #[]) (mvT hZ164 (tw hw 132 rfl))) (mvT hZ164 (tw hw 132 rfl)) (mvT hZ164 (tw hw 131 rfl)) (by decide) (backOf (W := 2) (own_tos l Z a0 hw b143 b217_0 (((0 : Int32) + ((8 : Int32) >>> ((0 : Int32) &&& 31))) + (SBG.strSizeOfL w11)) w2 (0 : Int32) k217_0 (oz16 ((0 : Int32) + ((8 : Int32) >>> ((0 : Int32) &&& 31))) w11) _ T217.heap n0 Z217 o217_2 f228 o217_1 f229 H1 f230 rfl o217_3 o217_0 H19 H20 H21) hZ164 (tw hw 133 rfl) (tw hw 30 rfl) (by decide) (by decide)) q231a q231c (g := (mkF m 70 #[vR a1] [(.ref b143), (.ref b135_0), (.ref b60_0)])) rfl (by rw [hml]; rfl) (Steps.refl _) (argsL := []) (rest := [(.ref b135_0), (.ref b60_0)]) (lenOf pd_31 rfl) rfl (own_w _) (hb hby d4_70) (fun _ _ => ⟨rfl, rfl, (by decide : 19 + 2 ≤ _), (by decide : 708 + 74 ≤ _)⟩)
 dsimp only [Pt.U, Pt.locs, Pt.cells, Pt.slots] at X231 lq yq zq st231 hQ
 replace X231 := own_mvX X231 (a := 21) (b := 782) yq zq
 obtain ⟨Nq, b231_0, b231_1, k231_0, rfl, ge_b231_0, ge_b231_1, K231, o231_0, o231_1, o231_2, o231_3, o231_4⟩ := hQ
 have N231 := own_mvN lq N217 Nq
 have KC231 := KSx.trans KC217 K231 ks0 all0
 have R231 := CHr.trans R217 (CHr.ks K231 ks0 all0 R217.1)
 have f232 := (f219.ks K217)
 have sf233 := Safe.ks K231 ks0 all0 R217.1 sf220
 have f234 := (f221.ks K217)
 have sf235 := Safe.ks K231 ks0 all0 R217.1 sf222
 have f236 := (f223.ks K217)
 have sf237 := Safe.ks K231 ks0 all0 R217.1 sf224
 have f238 := (f225.ks K217)
 have sf239 := Safe.ks K231 ks0 all0 R217.1 sf226
 have f240 := (f216.ks K217)
 have sf241 := Safe.ks K231 ks0 all0 R217.1 sf227
 have sf242 := Safe.ks K231 ks0 all0 R217.1 (Safe.new ge_b231_1)
 obtain ⟨T243, h243, X243, e243, E243, A243, D243, -, st243⟩ := newO X231 hx hZ164 ho164 (tw hw 28 rfl) (tw hw 29 rfl) (tw hw 30 rfl) rfl (g := (mkF m 73 #[vR a1] [(.ref b231_0), (.ref b135_0), (.ref b60_0)])) rfl (hb hby d4_73) (by decide) (by decide)
 obtain ⟨b243, g243⟩ : ∃ z, z = T231.heap.size := ⟨_, rfl⟩
 rw [← g243] at A243 D243 st243
 have KC243 := KSx.ext KC231 E243
 have R243 := CHr.trans R231 (CHr.ext E243 R231.1)
 have f244 := (f232.ks K231)
 have sf245 := Safe.ext E243 R231.1 sf233
 have f246 := (f234.ks K231)
 have sf247 := Safe.ext E243 R231.1 sf235
 have f248 := (f236.ks K231)
 have sf249 := Safe.ext E243 R231.1 sf237
 have f250 := (f238.ks K231)
 have sf251 := Safe.ext E243 R231.1 sf239
 have f252 := (f240.ks K231)
 have sf253 := Safe.ext E243 R231.1 sf241
 have sf254 := Safe.ext E243 R231.1 sf242
 have f255 := ((f229.ks K231).ext E243)
 have Z231 : n0 ≤ T231.heap.size := Nat.le_trans Z217 K231.1
 have g256 : n0 ≤ b243 := Nat.le_trans Z231 (Nat.le_of_eq g243.symm)
 have Z243 : n0 ≤ h243.size := Nat.le_trans Z231 E243.1
 obtain ⟨_, _, ⟨T257, _, _, _⟩, -, X257, ⟨_, hQ, lq, yq, zq⟩, st257⟩ := X243.specialBack hx (y := mN36) rfl ho164 (mvT hZ164 (tw hw 31 rfl)) (mvT hZ164 (tw hw 32 rfl)) (mvT hZ164 (tw hw 33 rfl)) (by decide) (backOf (W := 4) (r5_1 l Z a0 hw b243 w2 (0 : Int32) h243 n0 Z243 f255 H1 A243 (D243 (Or.inl (tw hw 45 rfl)) (ty := (.array .byte)) (by decide)) g256 (D243 (Or.inl (tw hw 47 rfl)) (ty := .byte) (by decide))) hZ164 (tw hw 33 rfl) (tw hw 30 rfl) (by decide) (by decide)) (g := (mkF m 77 #[vR a1] [(.ref b243), (.ref b243), (.ref b231_0), (.ref b135_0), (.ref b60_0)])) rfl (by rw [hml]; rfl) (Steps.refl _) (a := b243) (argsL := []) (rest := [(.ref b243), (.ref b231_0), (.ref b135_0), (.ref b60_0)]) (lenOf pd_24 rfl) rfl (own_w _) (hb hby d4_77) (fun _ _ => ⟨rfl, e243, (by decide : 22 + 1 ≤ _), (by decide : 786 + 70 ≤ _)⟩)
 dsimp only [Pt.U, Pt.locs, Pt.cells, Pt.slots] at X257 lq yq zq st257 hQ
 replace X257 := own_mvX X257 (a := 23) (b := 856) yq zq
 obtain ⟨Nq, b257_0, k257_0, rfl, ge_b257_0, K257, o257_0, o257_1, o257_2, o257_3⟩ := hQ
 have N257 := own_mvN lq N231 Nq
 have z258 : h0.size ≤ b243 := Nat.le_trans KC231.1 (Nat.le_of_eq g243.symm)
 have KC257 := KSx.trans KC243 K257 (ksS (Or.inr z258) (ksS (Or.inr z258) ks0)) all0
 have R257 := CHr.trans R243 (CHr.ks K257 (ksS (Safe.exa hZ164.alike A243 (by decide) (by decide)) (ksS (Safe.exa hZ164.alike A243 (by decide) (by decide)) ks0)) all0 R243.1)
 have f259 := (f244.ext E243)
 have sf260 := Safe.ks K257 (ksS (Safe.exa hZ164.alike A243 (by decide) (by decide)) (ksS (Safe.exa hZ164.alike A243 (by decide) (by decide)) ks0)) all0 R243.1 sf245
 have f261 := (f246.ext E243)
 have sf262 := Safe.ks K257 (ksS (Safe.exa hZ164.alike A243 (by decide) (by decide)) (ksS (Safe.exa hZ164.alike A243 (by decide) (by decide)) ks0)) all0 R243.1 sf247
 have f263 := (f248.ext E243)
 have sf264 := Safe.ks K257 (ksS (Safe.exa hZ164.alike A243 (by decide) (by decide)) (ksS (Safe.exa hZ164.alike A243 (by decide) (by decide)) ks0)) all0 R243.1 sf249
 have f265 := (f250.ext E243)
 have sf266 := Safe.ks K257 (ksS (Safe.exa hZ164.alike A243 (by decide) (by decide)) (ksS (Safe.exa hZ164.alike A243 (by decide) (by decide)) ks0)) all0 R243.1 sf251
 have f267 := (f252.ext E243)
 have sf268 := Safe.ks K257 (ksS (Safe.exa hZ164.alike A243 (by decide) (by decide)) (ksS (Safe.exa hZ164.alike A243 (by decide) (by decide)) ks0)) all0 R243.1 sf253
 have f269 := (o231_1.ext E243)
 have sf270 := Safe.ks K257 (ksS (Safe.exa hZ164.alike A243 (by decide) (by decide)) (ksS (Safe.exa hZ164.alike A243 (by decide) (by decide)) ks0)) all0 R243.1 sf254
 have sf271 := Safe.ks K257 (ksS (Safe.exa hZ164.alike A243 (by decide) (by decide)) (ksS (Safe.exa hZ164.alike A243 (by decide) (by decide)) ks0)) all0 R243.1 (Safe.new ge_b257_0)
 obtain ⟨b272, T272, h272, j272, b272_1, k272, X272, e272, E272, hS272, hk272, hZ272, ho272, A272, Fc272, Fv272, V272, lt272, lu272, ch272, -, sx272, st272⟩ := ldcCH (s := s) X257 hx hZ164 ho164 (tw hw 197 rfl) (fun d hd => hw d (str_in d hd)) rfl hS164 (Nat.le_trans hk164 (Nat.le_trans (Nat.le_trans (Nat.le_trans (Nat.le_trans K182.1 K217.1) K231.1) E243.1) K257.1)) (el_ok hw) (List.mem_of_getElem? (i := 3) rfl) R257.1 (vs := [(.int 112), (.int 111), (.int 112), (.int 95), (.int 102), (.int 105), (.int 110), (.int 105), (.int 115), (.int 104), (.int 95), (.int 112), (.int 101), (.int 114), (.int 95), (.int 115), (.int 32)]) (z := (17 : Int32)) ⟨by decide, by decide +kernel⟩ (by decide) rfl (g := (mkF m 80 #[vR a1] [(.ref b243), (.ref b231_0), (.ref b135_0), (.ref b60_0)])) rfl (hb hby d4_80) (n := 68) (by decide) (by decide) (by decide) (by decide)
 have KC272 := KSx.ext KC257 E272
 have R272 := CHr.trans R257 ch272
 have f273 := (f259.ks K257)
 have sf274 := CHr.safe ch272 (f273).lt sf260
 have f275 := (f261.ks K257)
 have sf276 := CHr.safe ch272 (f275).lt sf262
 have f277 := (f263.ks K257)
 have sf278 := CHr.safe ch272 (f277).lt sf264
 have f279 := (f265.ks K257)
 have sf280 := CHr.safe ch272 (f279).lt sf266
 have f281 := (f267.ks K257)
 have sf282 := CHr.safe ch272 (f281).lt sf268
 have f283 := (f269.ks K257)
 have sf284 := CHr.safe ch272 (f283).lt sf270
 have sf285 := CHr.safe ch272 (o257_0).lt sf271
 have Bl272 : BA Z h272 b272_1 k272 .byte (17 : Int32) (fun i => ([112, 111, 112, 95, 102, 105, 110, 105, 115, 104, 95, 112, 101, 114, 95, 115, 32] : List Int32).getD i 0) := BA.of_arv V272 (fun i hi => by match i, hi with | 0, _ => rfl | 1, _ => rfl | 2, _ => rfl | 3, _ => rfl | 4, _ => rfl | 5, _ => rfl | 6, _ => rfl | 7, _ => rfl | 8, _ => rfl | 9, _ => rfl | 10, _ => rfl | 11, _ => rfl | 12, _ => rfl | 13, _ => rfl | 14, _ => rfl | 15, _ => rfl | 16, _ => rfl | _ + 17, hi => exact absurd hi (by simp only [show (17 : Int32).toNatClampNeg = 17 from rfl]; omega))
 have f286 := ((f255.ks K257).ext E272)
 have f287 := (((D243 (Or.inl (tw hw 78 rfl)) (ty := .int) (by decide)).ks K257 (ksS (Or.inr (slot_ne (Or.inl (tw hw 78 rfl)) (Or.inl (tw hw 47 rfl)) (by decide) (t := .int) (t' := .byte) (by decide) (by decide))) (ksS (Or.inr (slot_ne (Or.inl (tw hw 78 rfl)) (Or.inl (tw hw 45 rfl)) (by decide) (t := .int) (t' := (.array .byte)) (by decide) (by decide))) ks0)) all0).ext E272)
 have f288 := (o257_1.ext E272)
 have f289 := (o257_3.ext E272)
 have f290 := (o257_2.ext E272)
 have f291 := ((A243.ks K257).ext E272)
 have Z257 : n0 ≤ T257.heap.size := Nat.le_trans Z243 K257.1
 have Z272 : n0 ≤ h272.size := Nat.le_trans Z257 E272.1
 obtain ⟨cq292, kq292, q292a, q292b, q292c⟩ := isOf hZ272 e272 f291
 obtain ⟨_, _, ⟨T292, _, _, _⟩, -, X292, ⟨_, hQ, lq, yq, zq⟩, st292⟩ := X272.virtualBack hx (y := mN41) (z := mN41) ho272 (mvT hZ272 (tw hw 54 rfl)) (mvT hZ272 (tw hw 55 rfl)) (notFace_of_selects (args := #[]) (mvT hZ272 (tw hw 57 rfl))) (mvT hZ272 (tw hw 57 rfl)) (mvT hZ272 (tw hw 56 rfl)) (by decide) (backOf (W := 3) (r7_2 l Z a0 hw b243 b272 b272_1 k272 _ w2 (0 : Int32) (0 : Int32) b257_0 k257_0 (fun _ => (0 : Int32)) (16 : Int32) (0 : Int32) h272 n0 Z272 Fv272 Bl272 f286 H1 Fc272 (by first | decide | rfl) A272 f287 f288 f289 f290 (by first | decide | rfl) (by first | decide | rfl) (by first | decide | rfl) (by first | decide | rfl) (by first | decide | rfl) f291 (by first | decide | rfl) (by first | decide | rfl) (by first | decide | rfl) (by first | decide | rfl) (by first | decide | rfl) (by first | decide | rfl) (by first | decide | rfl) g256 rfl rfl (Ne.symm (sx272 _ (Safe.exa hZ272.alike f291 (by decide) (by decide))).2) (by first | decide | rfl) (by first | decide | rfl)) hZ272 (tw hw 58 rfl) (tw hw 30 rfl) (by decide) (by decide)) q292a q292c (g := (mkF m 82 #[vR a1] [(.ref b272), (.ref b243), (.ref b231_0), (.ref b135_0), (.ref b60_0)])) rfl (by rw [hml]; rfl) (Steps.refl _) (argsL := [(.ref b272)]) (rest := [(.ref b231_0), (.ref b135_0), (.ref b60_0)]) (lenOf pd_29 rfl) rfl (own_w _) (hb hby d4_82) (fun _ _ => ⟨rfl, e272, (by decide : 25 + 1 ≤ _), (by decide : 928 + 70 ≤ _)⟩)
 dsimp only [Pt.U, Pt.locs, Pt.cells, Pt.slots] at X292 lq yq zq st292 hQ
 replace X292 := own_mvX X292 (a := 26) (b := 998) yq zq
 obtain ⟨Nq, b292_0, k292_0, rfl, ge_b292_0, K292, o292_0, o292_1, o292_2, o292_3⟩ := hQ
 have N292 := own_mvN lq N257 Nq
 have KC292 := KSx.trans KC272 K292 (ksS (Or.inr z258) (ksS (Or.inr z258) ks0)) all0
 have R292 := CHr.trans R272 (CHr.ks K292 (ksS (Safe.exa hZ272.alike f291 (by decide) (by decide)) (ksS (Safe.exa hZ272.alike f291 (by decide) (by decide)) ks0)) all0 R272.1)
 have f293 := (f273.ext E272)
 have sf294 := Safe.ks K292 (ksS (Safe.exa hZ272.alike f291 (by decide) (by decide)) (ksS (Safe.exa hZ272.alike f291 (by decide) (by decide)) ks0)) all0 R272.1 sf274
 have f295 := (f275.ext E272)
 have sf296 := Safe.ks K292 (ksS (Safe.exa hZ272.alike f291 (by decide) (by decide)) (ksS (Safe.exa hZ272.alike f291 (by decide) (by decide)) ks0)) all0 R272.1 sf276
 have f297 := (f277.ext E272)
 have sf298 := Safe.ks K292 (ksS (Safe.exa hZ272.alike f291 (by decide) (by decide)) (ksS (Safe.exa hZ272.alike f291 (by decide) (by decide)) ks0)) all0 R272.1 sf278
 have f299 := (f279.ext E272)
 have sf300 := Safe.ks K292 (ksS (Safe.exa hZ272.alike f291 (by decide) (by decide)) (ksS (Safe.exa hZ272.alike f291 (by decide) (by decide)) ks0)) all0 R272.1 sf280
 have f301 := (f281.ext E272)
 have sf302 := Safe.ks K292 (ksS (Safe.exa hZ272.alike f291 (by decide) (by decide)) (ksS (Safe.exa hZ272.alike f291 (by decide) (by decide)) ks0)) all0 R272.1 sf282
 have f303 := (f283.ext E272)
 have sf304 := Safe.ks K292 (ksS (Safe.exa hZ272.alike f291 (by decide) (by decide)) (ksS (Safe.exa hZ272.alike f291 (by decide) (by decide)) ks0)) all0 R272.1 sf284
 have f305 := (o257_0.ext E272)
 have sf306 := Safe.ks K292 (ksS (Safe.exa hZ272.alike f291 (by decide) (by decide)) (ksS (Safe.exa hZ272.alike f291 (by decide) (by decide)) ks0)) all0 R272.1 sf285
 have sf307 := Safe.ks K292 (ksS (Safe.exa hZ272.alike f291 (by decide) (by decide)) (ksS (Safe.exa hZ272.alike f291 (by decide) (by decide)) ks0)) all0 R272.1 (Safe.new ge_b292_0)
 replace o292_3 := own_bz (show ((((16 : Int32) + ((16 : Int32) + ((2 : Int32) <<< ((0 : Int32) &&& 31)))) >>> ((0 : Int32) &&& 31)) <<< ((0 : Int32) &&& 31)) = 34 from by decide) o292_3
 have f308 := (((((f196.ks K153 (ksS (Or.inl ne195) (ksS (Or.inl ne195) ks0)) all0).ext E164).ks K182 (ksS (Or.inl ne195) ks0) (allS ne197 all0)).ks K217 (ksS (Or.inl ne195) (ksS (Or.inl ne195) ks0)) (allS ne197 all0)).ks K231 ks0 all0)
 have ne309 : a1 ≠ b243 := (Nat.ne_of_lt (Nat.lt_of_lt_of_le (f308).lt (Nat.le_of_eq g243.symm)))
 have f310 := ((((((f198.ks K217 (ksS (Or.inl ne195) (ksS (Or.inl ne195) ks0)) (allS ne197 all0)).ks K231 ks0 all0).ext E243).ks K257 (ksS (Or.inl ne309) (ksS (Or.inl ne309) ks0)) all0).ext E272).ks K292 (ksS (Or.inl ne309) (ksS (Or.inl ne309) ks0)) all0)
 obtain ⟨T311, X311, e311, st311⟩ := getF X292 hx hZ272 ho272 (host := "") (Or.inl (tw hw 19 rfl)) Via.refl rfl f310 (g := (mkF m 86 #[vR a1] [(.ref a1), (.ref b243), (.ref b231_0), (.ref b135_0), (.ref b60_0)])) rfl rfl (hb hby d4_86)
 have f312 := ((((((((((((((((((((((H22.ext E14).ks K17 (ksS (Or.inl ne34) (ksS (Or.inl ne34) ks0)) all0).ext E20).ks K30 (ksS (Or.inl ne34) ks0) (allS ne36 all0)).ks K54 (ksS (Or.inl ne34) (ksS (Or.inl ne34) ks0)) (allS ne36 all0)).ks K60 ks0 all0).ext E64).ks K70 (ksS (Or.inl ne100) (ksS (Or.inl ne100) ks0)) all0).ext E77).ks K91 (ksS (Or.inl ne100) ks0) (allS ne102 all0)).ks K125 (ksS (Or.inl ne100) (ksS (Or.inl ne100) ks0)) (allS ne102 all0)).ks K135 ks0 all0).ext E143).ks K153 (ksS (Or.inl ne195) (ksS (Or.inl ne195) ks0)) all0).ext E164).ks K182 (ksS (Or.inl ne195) ks0) (allS ne197 all0)).ks K217 (ksS (Or.inl ne195) (ksS (Or.inl ne195) ks0)) (allS ne197 all0)).ks K231 ks0 all0).ext E243).ks K257 (ksS (Or.inl ne309) (ksS (Or.inl ne309) ks0)) all0).ext E272).ks K292 (ksS (Or.inl ne309) (ksS (Or.inl ne309) ks0)) all0)
 obtain ⟨T313, X313, e313, st313⟩ := getF X311 hx hZ272 ho272 (host := "") (Or.inl (tw hw 21 rfl)) Via.refl e311 f312 (g := (mkF m 90 #[vR a1] [(.ref a1), (.long w11), (.ref b243), (.ref b231_0), (.ref b135_0), (.ref b60_0)])) rfl rfl (hb hby d4_90)
 have Z292 : n0 ≤ T292.heap.size := Nat.le_trans Z272 K292.1
 obtain ⟨_, _, ⟨T314, _, _, _⟩, -, X314, ⟨_, hQ, lq, yq, zq⟩, st314⟩ := Jvm.LawKit.callS X313 hx (y := mN26) ho272 (mvT hZ272 (tw hw 173 rfl)) (mvT hZ272 (tw hw 174 rfl)) (mvT hZ272 (tw hw 3 rfl)) (mvT hZ272 (tw hw 175 rfl)) (by decide) (backOf (W := 4) (own_ps l Z a0 hw w11 w12 T292.heap n0 Z292) hZ272 (tw hw 175 rfl) (tw hw 3 rfl) (by decide) (by decide)) (g := (mkF m 93 #[vR a1] [(.long w12), (.long w11), (.ref b243), (.ref b231_0), (.ref b135_0), (.ref b60_0)])) rfl (by rw [hml]; rfl) (argsL := [(.long w11), (.long w12)]) (rest := [(.ref b243), (.ref b231_0), (.ref b135_0), (.ref b60_0)]) (lenOf pd_32 rfl) rfl (own_w _) (hb hby d4_93) (fun _ _ => ⟨rfl, e313, (by decide : 26 + 0 ≤ _), (by decide : 998 + 0 ≤ _)⟩)
 dsimp only [Pt.U, Pt.locs, Pt.cells, Pt.slots] at X314 lq yq zq st314 hQ
 replace X314 := own_mvX X314 (a := 26) (b := 998) yq zq
 obtain ⟨rfl, Nq, e314⟩ := hQ
 have N314 := own_mvN lq N292 Nq
 have f315 := (f290.ks K292 (ksS (Or.inr (slot_ne (Or.inl (tw hw 47 rfl)) (Or.inl (tw hw 78 rfl)) (by decide) (t := .byte) (t' := .int) (by decide) (by decide))) (ksS (Or.inr (slot_ne (Or.inl (tw hw 47 rfl)) (Or.inl (tw hw 45 rfl)) (by decide) (t := .byte) (t' := (.array .byte)) (by decide) (by decide))) ks0)) all0)
 have f316 := (f291.ks K292)
 have f317 := (f286.ks K292)
 have f318 := ((((((f204.ks K217).ks K231).ext E243).ks K257).ext E272).ks K292)
 have f319 := ((((((f205.ks K217).ks K231).ext E243).ks K257).ext E272).ks K292)
 have f320 := ((f210.ks K217 (ksS ne207 (ksS ne207 ks0)) (allS ne209 all0)).ks K231 ks0 all0)
 have ne321 : w4 ≠ b243 := (Nat.ne_of_lt (Nat.lt_of_lt_of_le (f320).lt (Nat.le_of_eq g243.symm)))
 have f322 := ((((((f210.ks K217 (ksS ne207 (ksS ne207 ks0)) (allS ne209 all0)).ks K231 ks0 all0).ext E243).ks K257 (ksS ne321 (ksS ne321 ks0)) all0).ext E272).ks K292 (ksS ne321 (ksS ne321 ks0)) all0)
 have f323 := ((f215.ks K217 (ksS ne212 (ksS ne212 ks0)) (allS ne214 all0)).ks K231 ks0 all0)
 have ne324 : w5 ≠ b243 := (Nat.ne_of_lt (Nat.lt_of_lt_of_le (f323).lt (Nat.le_of_eq g243.symm)))
 have f325 := ((((((f215.ks K217 (ksS ne212 (ksS ne212 ks0)) (allS ne214 all0)).ks K231 ks0 all0).ext E243).ks K257 (ksS ne324 (ksS ne324 ks0)) all0).ext E272).ks K292 (ksS ne324 (ksS ne324 ks0)) all0)
 have f326 := (((f320.ext E243).ks K257 (ksS ne321 (ksS ne321 ks0)) all0).ext E272)
 have ne327 : w4 ≠ b292_0 := (Nat.ne_of_lt (Nat.lt_of_lt_of_le (f326).lt ge_b292_0))
 have f328 := (((f323.ext E243).ks K257 (ksS ne324 (ksS ne324 ks0)) all0).ext E272)
 have ne329 : w5 ≠ b292_0 := (Nat.ne_of_lt (Nat.lt_of_lt_of_le (f328).lt ge_b292_0))
 have g330 : n0 ≤ b292_0 := Nat.le_trans Z272 ge_b292_0
 have ne331 : b243 ≠ b292_0 := (Nat.ne_of_lt (Nat.lt_of_lt_of_le (f291).lt ge_b292_0))
 obtain ⟨cq332, kq332, q332a, q332b, q332c⟩ := isOf hZ272 e314 f316
 obtain ⟨_, _, ⟨T332, _, _, _⟩, -, X332, ⟨_, hQ, lq, yq, zq⟩, st332⟩ := X314.virtualBack hx (y := mN21) (z := mN21) ho272 (mvT hZ272 (tw hw 104 rfl)) (mvT hZ272 (tw hw 105 rfl)) (notFace_of_selects (args := #[]) (mvT hZ272 (tw hw 107 rfl))) (mvT hZ272 (tw hw 107 rfl)) (mvT hZ272 (tw hw 106 rfl)) (by decide) (backOf (W := 3) (own_apJb l Z a0 hw b243 (ops w11 w12) ((0 : Int32) + ((17 : Int32) >>> ((0 : Int32) &&& 31))) b292_0 k292_0 _ (0 : Int32) w2 w4 w5 k6 u7 k8 u9 T292.heap n0 Z292 o292_1 o292_2 o292_3 f315 f316 f317 H1 rfl f318 f319 f322 f325 (Ne.symm ne327) (Ne.symm ne329) g330 H7 H8 H9 H10 ne331 g256 ne321 ne324 o292_0 (by first | decide | rfl) (by first | decide | rfl)) hZ272 (tw hw 108 rfl) (tw hw 30 rfl) (by decide) (by decide)) q332a q332c (g := (mkF m 96 #[vR a1] [(.long (ops w11 w12)), (.ref b243), (.ref b231_0), (.ref b135_0), (.ref b60_0)])) rfl (by rw [hml]; rfl) (Steps.refl _) (argsL := [(.long (ops w11 w12))]) (rest := [(.ref b231_0), (.ref b135_0), (.ref b60_0)]) (lenOf pd_30 rfl) rfl (own_w _) (hb hby d4_96) (fun _ _ => ⟨rfl, e314, (by decide : 26 + 1 ≤ _), (by decide : 998 + 70 ≤ _)⟩)
 dsimp only [Pt.U, Pt.locs, Pt.cells, Pt.slots] at X332 lq yq zq st332 hQ
 replace X332 := own_mvX X332 (a := 27) (b := 1068) yq zq
 obtain ⟨Nq, b332_0, k332_0, rfl, ge_b332_0, K332, o332_0, o332_1, o332_2, o332_3⟩ := hQ
 have N332 := own_mvN lq N314 Nq
 have ga333 := own_alt ge_b332_0 ge_b292_0 K292.1
 have z334 : h0.size ≤ b292_0 := Nat.le_trans KC272.1 ge_b292_0
 have KC332 := KSx.trans KC292 K332 (ksS (Or.inr z258) (ksS (Or.inr z258) ks0)) (allS (Or.inr z334) all0)
 have R332 := CHr.trans R292 (CHr.ks K332 (ksS (Safe.exa hZ272.alike f316 (by decide) (by decide)) (ksS (Safe.exa hZ272.alike f316 (by decide) (by decide)) ks0)) (allS sf307 all0) R292.1)
 have f335 := (f293.ks K292)
 have sf336 := Safe.ks K332 (ksS (Safe.exa hZ272.alike f316 (by decide) (by decide)) (ksS (Safe.exa hZ272.alike f316 (by decide) (by decide)) ks0)) (allS sf307 all0) R292.1 sf294
 have f337 := (f295.ks K292)
 have sf338 := Safe.ks K332 (ksS (Safe.exa hZ272.alike f316 (by decide) (by decide)) (ksS (Safe.exa hZ272.alike f316 (by decide) (by decide)) ks0)) (allS sf307 all0) R292.1 sf296
 have f339 := (f297.ks K292)
 have sf340 := Safe.ks K332 (ksS (Safe.exa hZ272.alike f316 (by decide) (by decide)) (ksS (Safe.exa hZ272.alike f316 (by decide) (by decide)) ks0)) (allS sf307 all0) R292.1 sf298
 have f341 := (f299.ks K292)
 have sf342 := Safe.ks K332 (ksS (Safe.exa hZ272.alike f316 (by decide) (by decide)) (ksS (Safe.exa hZ272.alike f316 (by decide) (by decide)) ks0)) (allS sf307 all0) R292.1 sf300
 have f343 := (f301.ks K292)
 have sf344 := Safe.ks K332 (ksS (Safe.exa hZ272.alike f316 (by decide) (by decide)) (ksS (Safe.exa hZ272.alike f316 (by decide) (by decide)) ks0)) (allS sf307 all0) R292.1 sf302
 have f345 := (f303.ks K292)
 have sf346 := Safe.ks K332 (ksS (Safe.exa hZ272.alike f316 (by decide) (by decide)) (ksS (Safe.exa hZ272.alike f316 (by decide) (by decide)) ks0)) (allS sf307 all0) R292.1 sf304
 have f347 := (f305.ks K292)
 have sf348 := Safe.ks K332 (ksS (Safe.exa hZ272.alike f316 (by decide) (by decide)) (ksS (Safe.exa hZ272.alike f316 (by decide) (by decide)) ks0)) (allS sf307 all0) R292.1 sf306
 have sf349 := Safe.ks K332 (ksS (Safe.exa hZ272.alike f316 (by decide) (by decide)) (ksS (Safe.exa hZ272.alike f316 (by decide) (by decide)) ks0)) (allS sf307 all0) R292.1 sf307
 have f350 := (f316.ks K332)
 have f351 := (f317.ks K332)
 have f352 := (f315.ks K332 (ksS (Or.inr (slot_ne (Or.inl (tw hw 47 rfl)) (Or.inl (tw hw 78 rfl)) (by decide) (t := .byte) (t' := .int) (by decide) (by decide))) (ksS (Or.inr (slot_ne (Or.inl (tw hw 47 rfl)) (Or.inl (tw hw 45 rfl)) (by decide) (t := .byte) (t' := (.array .byte)) (by decide) (by decide))) ks0)) (allS ne331 all0))
 have Z332 : n0 ≤ T332.heap.size := Nat.le_trans Z292 K332.1
 obtain ⟨cq353, kq353, q353a, q353b, q353c⟩ := isOf hZ272 rfl f350
 obtain ⟨_, _, ⟨T353, _, _, _⟩, -, X353, ⟨_, hQ, lq, yq, zq⟩, st353⟩ := X332.virtualBack hx (y := mN17) (z := mN17) ho272 (mvT hZ272 (tw hw 129 rfl)) (mvT hZ272 (tw hw 130 rfl)) (notFace_of_selects (args := #[]) (mvT hZ272 (tw hw 132 rfl))) (mvT hZ272 (tw hw 132 rfl)) (mvT hZ272 (tw hw 131 rfl)) (by decide) (backOf (W := 3) (own_tos l Z a0 hw b243 b332_0 (((0 : Int32) + ((17 : Int32) >>> ((0 : Int32) &&& 31))) + (SBG.strSizeOfL (ops w11 w12))) w2 (0 : Int32) k332_0 (oz34 ((0 : Int32) + ((17 : Int32) >>> ((0 : Int32) &&& 31))) (ops w11 w12)) _ T332.heap n0 Z332 o332_2 f350 o332_1 f351 H1 f352 rfl o332_3 o332_0 H23 H24 H25) hZ272 (tw hw 133 rfl) (tw hw 30 rfl) (by decide) (by decide)) q353a q353c (g := (mkF m 99 #[vR a1] [(.ref b243), (.ref b231_0), (.ref b135_0), (.ref b60_0)])) rfl (by rw [hml]; rfl) (Steps.refl _) (argsL := []) (rest := [(.ref b231_0), (.ref b135_0), (.ref b60_0)]) (lenOf pd_31 rfl) rfl (own_w _) (hb hby d4_99) (fun _ _ => ⟨rfl, rfl, (by decide : 27 + 2 ≤ _), (by decide : 1068 + 74 ≤ _)⟩)
 dsimp only [Pt.U, Pt.locs, Pt.cells, Pt.slots] at X353 lq yq zq st353 hQ
 replace X353 := own_mvX X353 (a := 29) (b := 1142) yq zq
 obtain ⟨Nq, b353_0, b353_1, k353_0, rfl, ge_b353_0, ge_b353_1, K353, o353_0, o353_1, o353_2, o353_3, o353_4⟩ := hQ
 have N353 := own_mvN lq N332 Nq
 have KC353 := KSx.trans KC332 K353 ks0 all0
 have R353 := CHr.trans R332 (CHr.ks K353 ks0 all0 R332.1)
 have f354 := (f335.ks K332)
 have sf355 := Safe.ks K353 ks0 all0 R332.1 sf336
 have f356 := (f337.ks K332)
 have sf357 := Safe.ks K353 ks0 all0 R332.1 sf338
 have f358 := (f339.ks K332)
 have sf359 := Safe.ks K353 ks0 all0 R332.1 sf340
 have f360 := (f341.ks K332)
 have sf361 := Safe.ks K353 ks0 all0 R332.1 sf342
 have f362 := (f343.ks K332)
 have sf363 := Safe.ks K353 ks0 all0 R332.1 sf344
 have f364 := (f345.ks K332)
 have sf365 := Safe.ks K353 ks0 all0 R332.1 sf346
 have f366 := (f347.ks K332)
 have sf367 := Safe.ks K353 ks0 all0 R332.1 sf348
 have f368 := (o292_0.ks K332)
 have sf369 := Safe.ks K353 ks0 all0 R332.1 sf349
 have sf370 := Safe.ks K353 ks0 all0 R332.1 (Safe.new ge_b353_1)
 have f371 := ((((((((((((((((((o60_0.ext E64).ks K70).ext E77).ks K91).ks K125).ks K135).ext E143).ks K153).ext E164).ks K182).ks K217).ks K231).ext E243).ks K257).ext E272).ks K292).ks K332).ks K353)
 have f372 := ((((((((((((o135_0.ext E143).ks K153).ext E164).ks K182).ks K217).ks K231).ext E243).ks K257).ext E272).ks K292).ks K332).ks K353)
 have f373 := ((((((o231_0.ext E243).ks K257).ext E272).ks K292).ks K332).ks K353)
 have f374 := ((((((((((((((((((((((((H26.ext E14).ks K17).ext E20).ks K30).ks K54).ks K60).ext E64).ks K70).ext E77).ks K91).ks K125).ks K135).ext E143).ks K153).ext E164).ks K182).ks K217).ks K231).ext E243).ks K257).ext E272).ks K292).ks K332).ks K353)
 have Z353 : n0 ≤ T353.heap.size := Nat.le_trans Z332 K353.1
 obtain ⟨_, _, ⟨T375, _, _, _⟩, -, X375, ⟨_, hQ, lq, yq, zq⟩, st375⟩ := Jvm.LawKit.callS X353 hx (y := mN48) ho272 (mvT hZ272 (tw hw 198 rfl)) (mvT hZ272 (tw hw 199 rfl)) (mvT hZ272 (tw hw 200 rfl)) (mvT hZ272 (tw hw 201 rfl)) (by decide) (backOf (W := 0) (r35_1 l Z a0 hw b60_0 b135_0 b231_0 b353_0 w13 T353.heap n0 Z353 f371 f372 f373 o353_0 f374 H27) hZ272 (tw hw 201 rfl) (tw hw 200 rfl) (by decide) (by decide)) (g := (mkF m 102 #[vR a1] [(.ref b353_0), (.ref b231_0), (.ref b135_0), (.ref b60_0)])) rfl (by rw [hml]; rfl) (argsL := [(.ref b60_0), (.ref b135_0), (.ref b231_0), (.ref b353_0)]) (rest := []) (lenOf pd_36 rfl) rfl (own_w _) (hb hby d4_102) (fun _ _ => ⟨rfl, rfl, (by decide : 29 + 2 ≤ _), (by decide : 1142 + 6 ≤ _)⟩)
 dsimp only [Pt.U, Pt.locs, Pt.cells, Pt.slots] at X375 lq yq zq st375 hQ
 replace X375 := own_mvX X375 (a := 31) (b := 1148) yq zq
 obtain ⟨Nq, b375_0, b375_1, k375_0, rfl, ge_b375_0, ge_b375_1, K375, o375_0, o375_1, o375_2, o375_3⟩ := hQ
 have N375 := own_mvN lq N353 Nq
 have KC375 := KSx.trans KC353 K375 ks0 all0
 have R375 := CHr.trans R353 (CHr.ks K375 ks0 all0 R353.1)
 have f376 := (f354.ks K353)
 have sf377 := Safe.ks K375 ks0 all0 R353.1 sf355
 have f378 := (f356.ks K353)
 have sf379 := Safe.ks K375 ks0 all0 R353.1 sf357
 have f380 := (f358.ks K353)
 have sf381 := Safe.ks K375 ks0 all0 R353.1 sf359
 have f382 := (f360.ks K353)
 have sf383 := Safe.ks K375 ks0 all0 R353.1 sf361
 have f384 := (f362.ks K353)
 have sf385 := Safe.ks K375 ks0 all0 R353.1 sf363
 have f386 := (f364.ks K353)
 have sf387 := Safe.ks K375 ks0 all0 R353.1 sf365
 have f388 := (f366.ks K353)
 have sf389 := Safe.ks K375 ks0 all0 R353.1 sf367
 have f390 := (f368.ks K353)
 have sf391 := Safe.ks K375 ks0 all0 R353.1 sf369
 have sf392 := Safe.ks K375 ks0 all0 R353.1 sf370
 have f393 := (f371.ks K375)
 have f394 := (f372.ks K375)
 have f395 := (f373.ks K375)
 have f396 := (o353_0.ks K375)
 have ne397 : b60_0 ≠ b64 := (Nat.ne_of_lt (Nat.lt_of_lt_of_le (o60_0).lt (Nat.le_of_eq g64.symm)))
 have f398 := (o60_0.ext E64)
 have ne399 : b60_0 ≠ b70_0 := (Nat.ne_of_lt (Nat.lt_of_lt_of_le (f398).lt ge_b70_0))
 have f400 := (((((f398.ks K70).ext E77).ks K91).ks K125).ks K135)
 have ne401 : b60_0 ≠ b143 := (Nat.ne_of_lt (Nat.lt_of_lt_of_le (f400).lt (Nat.le_of_eq g143.symm)))
 have f402 := (f400.ext E143)
 have ne403 : b60_0 ≠ b153_0 := (Nat.ne_of_lt (Nat.lt_of_lt_of_le (f402).lt ge_b153_0))
 have f404 := (((((f402.ks K153).ext E164).ks K182).ks K217).ks K231)
 have ne405 : b60_0 ≠ b243 := (Nat.ne_of_lt (Nat.lt_of_lt_of_le (f404).lt (Nat.le_of_eq g243.symm)))
 have f406 := (((f404.ext E243).ks K257).ext E272)
 have ne407 : b60_0 ≠ b292_0 := (Nat.ne_of_lt (Nat.lt_of_lt_of_le (f406).lt ge_b292_0))
 have f408 := (((((((((((((((((((o60_2.ext E64).ks K70 (ksS (Or.inl ne397) (ksS (Or.inl ne397) ks0)) all0).ext E77).ks K91 (ksS (Or.inl ne397) ks0) (allS ne399 all0)).ks K125 (ksS (Or.inl ne397) (ksS (Or.inl ne397) ks0)) (allS ne399 all0)).ks K135 ks0 all0).ext E143).ks K153 (ksS (Or.inl ne401) (ksS (Or.inl ne401) ks0)) all0).ext E164).ks K182 (ksS (Or.inl ne401) ks0) (allS ne403 all0)).ks K217 (ksS (Or.inl ne401) (ksS (Or.inl ne401) ks0)) (allS ne403 all0)).ks K231 ks0 all0).ext E243).ks K257 (ksS (Or.inl ne405) (ksS (Or.inl ne405) ks0)) all0).ext E272).ks K292 (ksS (Or.inl ne405) (ksS (Or.inl ne405) ks0)) all0).ks K332 (ksS (Or.inl ne405) (ksS (Or.inl ne405) ks0)) (allS ne407 all0)).ks K353 ks0 all0).ks K375 ks0 all0)
 have f409 := (((((((((((((((((((o60_3.ext E64).ks K70 (ksS (Or.inl ne397) (ksS (Or.inl ne397) ks0)) all0).ext E77).ks K91 (ksS (Or.inl ne397) ks0) (allS ne399 all0)).ks K125 (ksS (Or.inl ne397) (ksS (Or.inl ne397) ks0)) (allS ne399 all0)).ks K135 ks0 all0).ext E143).ks K153 (ksS (Or.inl ne401) (ksS (Or.inl ne401) ks0)) all0).ext E164).ks K182 (ksS (Or.inl ne401) ks0) (allS ne403 all0)).ks K217 (ksS (Or.inl ne401) (ksS (Or.inl ne401) ks0)) (allS ne403 all0)).ks K231 ks0 all0).ext E243).ks K257 (ksS (Or.inl ne405) (ksS (Or.inl ne405) ks0)) all0).ext E272).ks K292 (ksS (Or.inl ne405) (ksS (Or.inl ne405) ks0)) all0).ks K332 (ksS (Or.inl ne405) (ksS (Or.inl ne405) ks0)) (allS ne407 all0)).ks K353 ks0 all0).ks K375 ks0 all0)
 have ne410 : b135_0 ≠ b143 := (Nat.ne_of_lt (Nat.lt_of_lt_of_le (o135_0).lt (Nat.le_of_eq g143.symm)))
 have f411 := (o135_0.ext E143)
 have ne412 : b135_0 ≠ b153_0 := (Nat.ne_of_lt (Nat.lt_of_lt_of_le (f411).lt ge_b153_0))
 have f413 := (((((f411.ks K153).ext E164).ks K182).ks K217).ks K231)
 have ne414 : b135_0 ≠ b243 := (Nat.ne_of_lt (Nat.lt_of_lt_of_le (f413).lt (Nat.le_of_eq g243.symm)))
 have f415 := (((f413.ext E243).ks K257).ext E272)
 have ne416 : b135_0 ≠ b292_0 := (Nat.ne_of_lt (Nat.lt_of_lt_of_le (f415).lt ge_b292_0))
 have f417 := (((((((((((((o135_2.ext E143).ks K153 (ksS (Or.inl ne410) (ksS (Or.inl ne410) ks0)) all0).ext E164).ks K182 (ksS (Or.inl ne410) ks0) (allS ne412 all0)).ks K217 (ksS (Or.inl ne410) (ksS (Or.inl ne410) ks0)) (allS ne412 all0)).ks K231 ks0 all0).ext E243).ks K257 (ksS (Or.inl ne414) (ksS (Or.inl ne414) ks0)) all0).ext E272).ks K292 (ksS (Or.inl ne414) (ksS (Or.inl ne414) ks0)) all0).ks K332 (ksS (Or.inl ne414) (ksS (Or.inl ne414) ks0)) (allS ne416 all0)).ks K353 ks0 all0).ks K375 ks0 all0)
 have f418 := (((((((((((((o135_3.ext E143).ks K153 (ksS (Or.inl ne410) (ksS (Or.inl ne410) ks0)) all0).ext E164).ks K182 (ksS (Or.inl ne410) ks0) (allS ne412 all0)).ks K217 (ksS (Or.inl ne410) (ksS (Or.inl ne410) ks0)) (allS ne412 all0)).ks K231 ks0 all0).ext E243).ks K257 (ksS (Or.inl ne414) (ksS (Or.inl ne414) ks0)) all0).ext E272).ks K292 (ksS (Or.inl ne414) (ksS (Or.inl ne414) ks0)) all0).ks K332 (ksS (Or.inl ne414) (ksS (Or.inl ne414) ks0)) (allS ne416 all0)).ks K353 ks0 all0).ks K375 ks0 all0)
 have ne419 : b231_0 ≠ b243 := (Nat.ne_of_lt (Nat.lt_of_lt_of_le (o231_0).lt (Nat.le_of_eq g243.symm)))
 have f420 := (((o231_0.ext E243).ks K257).ext E272)
 have ne421 : b231_0 ≠ b292_0 := (Nat.ne_of_lt (Nat.lt_of_lt_of_le (f420).lt ge_b292_0))
 have f422 := (((((((o231_2.ext E243).ks K257 (ksS (Or.inl ne419) (ksS (Or.inl ne419) ks0)) all0).ext E272).ks K292 (ksS (Or.inl ne419) (ksS (Or.inl ne419) ks0)) all0).ks K332 (ksS (Or.inl ne419) (ksS (Or.inl ne419) ks0)) (allS ne421 all0)).ks K353 ks0 all0).ks K375 ks0 all0)
 have f423 := (((((((o231_3.ext E243).ks K257 (ksS (Or.inl ne419) (ksS (Or.inl ne419) ks0)) all0).ext E272).ks K292 (ksS (Or.inl ne419) (ksS (Or.inl ne419) ks0)) all0).ks K332 (ksS (Or.inl ne419) (ksS (Or.inl ne419) ks0)) (allS ne421 all0)).ks K353 ks0 all0).ks K375 ks0 all0)
 have f424 := (o353_2.ks K375 ks0 all0)
 have f425 := (o353_3.ks K375 ks0 all0)
 have ne426 : b60_1 ≠ b64 := (Nat.ne_of_lt (Nat.lt_of_lt_of_le (o60_1).lt (Nat.le_of_eq g64.symm)))
 have ne427 : b60_1 ≠ b70_0 := (Nat.ne_of_lt (Nat.lt_of_lt_of_le (f74).lt ge_b70_0))
 have ne428 : b60_1 ≠ b143 := (Nat.ne_of_lt (Nat.lt_of_lt_of_le (f146).lt (Nat.le_of_eq g143.symm)))
 have ne429 : b60_1 ≠ b153_0 := (Nat.ne_of_lt (Nat.lt_of_lt_of_le (f157).lt ge_b153_0))
 have ne430 : b60_1 ≠ b243 := (Nat.ne_of_lt (Nat.lt_of_lt_of_le (f246).lt (Nat.le_of_eq g243.symm)))
 have ne431 : b60_1 ≠ b292_0 := (Nat.ne_of_lt (Nat.lt_of_lt_of_le (f295).lt ge_b292_0))
 have f432 := (((((((((((((((((((o60_4.ext E64).ks K70 (ksS ne426 (ksS ne426 ks0)) all0).ext E77).ks K91 (ksS ne426 ks0) (allS ne427 all0)).ks K125 (ksS ne426 (ksS ne426 ks0)) (allS ne427 all0)).ks K135 ks0 all0).ext E143).ks K153 (ksS ne428 (ksS ne428 ks0)) all0).ext E164).ks K182 (ksS ne428 ks0) (allS ne429 all0)).ks K217 (ksS ne428 (ksS ne428 ks0)) (allS ne429 all0)).ks K231 ks0 all0).ext E243).ks K257 (ksS ne430 (ksS ne430 ks0)) all0).ext E272).ks K292 (ksS ne430 (ksS ne430 ks0)) all0).ks K332 (ksS ne430 (ksS ne430 ks0)) (allS ne431 all0)).ks K353 ks0 all0).ks K375 ks0 all0)
 have ne433 : b135_1 ≠ b143 := (Nat.ne_of_lt (Nat.lt_of_lt_of_le (o135_1).lt (Nat.le_of_eq g143.symm)))
 have ne434 : b135_1 ≠ b153_0 := (Nat.ne_of_lt (Nat.lt_of_lt_of_le (f161).lt ge_b153_0))
 have ne435 : b135_1 ≠ b243 := (Nat.ne_of_lt (Nat.lt_of_lt_of_le (f250).lt (Nat.le_of_eq g243.symm)))
 have ne436 : b135_1 ≠ b292_0 := (Nat.ne_of_lt (Nat.lt_of_lt_of_le (f299).lt ge_b292_0))
 have f437 := (((((((((((((o135_4.ext E143).ks K153 (ksS ne433 (ksS ne433 ks0)) all0).ext E164).ks K182 (ksS ne433 ks0) (allS ne434 all0)).ks K217 (ksS ne433 (ksS ne433 ks0)) (allS ne434 all0)).ks K231 ks0 all0).ext E243).ks K257 (ksS ne435 (ksS ne435 ks0)) all0).ext E272).ks K292 (ksS ne435 (ksS ne435 ks0)) all0).ks K332 (ksS ne435 (ksS ne435 ks0)) (allS ne436 all0)).ks K353 ks0 all0).ks K375 ks0 all0)
 have ne438 : b231_1 ≠ b243 := (Nat.ne_of_lt (Nat.lt_of_lt_of_le (o231_1).lt (Nat.le_of_eq g243.symm)))
 have ne439 : b231_1 ≠ b292_0 := (Nat.ne_of_lt (Nat.lt_of_lt_of_le (f303).lt ge_b292_0))
 have f440 := (((((((o231_4.ext E243).ks K257 (ksS ne438 (ksS ne438 ks0)) all0).ext E272).ks K292 (ksS ne438 (ksS ne438 ks0)) all0).ks K332 (ksS ne438 (ksS ne438 ks0)) (allS ne439 all0)).ks K353 ks0 all0).ks K375 ks0 all0)
 have f441 := (o353_4.ks K375 ks0 all0)
 obtain ⟨fs, hr, hrun, hended, hR442, hR443, hR444, hR445⟩ := X375.leaveW (s := s) hS272 ((Nat.le_trans hk272 (Nat.le_trans (Nat.le_trans (Nat.le_trans K292.1 K332.1) K353.1) K375.1))) (v := some (.ref b375_1)) (fun h => by rw [Bd.returns] at h; cases h)
 refine ⟨_, _, pre0 _ ?_, hrun, hended, _, _, rfl, ?_, ?_, hR442, hR443, hR444, hR445.mono (by decide) (by decide)⟩
 · show SG p e below s₁ (mkF m 0 #[vR a1] []) _
   refine st14 _ ?_
   show SG p e below T14 (mkF m 3 #[vR a1] [(.ref b14)]) _
   refine XS.dup X14.here hx rfl (hb hby d4_3) rfl rfl ?_
   show SG p e below T14 (mkF m 4 #[vR a1] [(.ref b14), (.ref b14)]) _
   refine st17.trans ?_
   show SG p e below T17 (mkF m 7 #[vR a1] [(.ref b14)]) _
   refine st20 _ ?_
   show SG p e below T20 (mkF m 9 #[vR a1] [(.ref b20), (.ref b14)]) _
   refine st30.trans ?_
   show SG p e below T30 (mkF m 12 #[vR a1] [(.ref b14)]) _
   refine XS.aloadN X30.here hx rfl (hb hby d4_12) rfl rfl ?_
   show SG p e below T30 (mkF m 13 #[vR a1] [(.ref a1), (.ref b14)]) _
   refine st38 _ ?_
   show SG p e below T38 (mkF m 16 #[vR a1] [(.long w3), (.ref b14)]) _
   refine st54.trans ?_
   show SG p e below T54 (mkF m 19 #[vR a1] [(.ref b14)]) _
   refine st60.trans ?_
   show SG p e below T60 (mkF m 22 #[vR a1] [(.ref b60_0)]) _
   refine st64 _ ?_
   show SG p e below T64 (mkF m 25 #[vR a1] [(.ref b64), (.ref b60_0)]) _
   refine XS.dup X64.here hx rfl (hb hby d4_25) rfl rfl ?_
   show SG p e below T64 (mkF m 26 #[vR a1] [(.ref b64), (.ref b64), (.ref b60_0)]) _
   refine st70.trans ?_
   show SG p e below T70 (mkF m 29 #[vR a1] [(.ref b64), (.ref b60_0)]) _
   refine st77 _ ?_
   show SG p e below T77 (mkF m 31 #[vR a1] [(.ref b77), (.ref b64), (.ref b60_0)]) _
   refine st91.trans ?_
   show SG p e below T91 (mkF m 34 #[vR a1] [(.ref b64), (.ref b60_0)]) _
   refine XS.aloadN X91.here hx rfl (hb hby d4_34) rfl rfl ?_
   show SG p e below T91 (mkF m 35 #[vR a1] [(.ref a1), (.ref b64), (.ref b60_0)]) _
   refine st104 _ ?_
   show SG p e below T104 (mkF m 38 #[vR a1] [(.long w3), (.ref b64), (.ref b60_0)]) _
   refine XS.aloadN X104.here hx rfl (hb hby d4_38) rfl rfl ?_
   show SG p e below T104 (mkF m 39 #[vR a1] [(.ref a1), (.long w3), (.ref b64), (.ref b60_0)]) _
   refine st106 _ ?_
   show SG p e below T106 (mkF m 42 #[vR a1] [(.long w10), (.long w3), (.ref b64), (.ref b60_0)]) _
   refine st107 _ ?_
   show SG p e below T107 (mkF m 45 #[vR a1] [(.long (ops w3 w10)), (.ref b64), (.ref b60_0)]) _
   refine st125.trans ?_
   show SG p e below T125 (mkF m 48 #[vR a1] [(.ref b64), (.ref b60_0)]) _
   refine st135.trans ?_
   show SG p e below T135 (mkF m 51 #[vR a1] [(.ref b135_0), (.ref b60_0)]) _
   refine st143 _ ?_
   show SG p e below T143 (mkF m 54 #[vR a1] [(.ref b143), (.ref b135_0), (.ref b60_0)]) _
   refine XS.dup X143.here hx rfl (hb hby d4_54) rfl rfl ?_
   show SG p e below T143 (mkF m 55 #[vR a1] [(.ref b143), (.ref b143), (.ref b135_0), (.ref b60_0)]) _
   refine st153.trans ?_
   show SG p e below T153 (mkF m 58 #[vR a1] [(.ref b143), (.ref b135_0), (.ref b60_0)]) _
   refine st164 _ ?_
   show SG p e below T164 (mkF m 60 #[vR a1] [(.ref b164), (.ref b143), (.ref b135_0), (.ref b60_0)]) _
   refine st182.trans ?_
   show SG p e below T182 (mkF m 63 #[vR a1] [(.ref b143), (.ref b135_0), (.ref b60_0)]) _
   refine XS.aloadN X182.here hx rfl (hb hby d4_63) rfl rfl ?_
   show SG p e below T182 (mkF m 64 #[vR a1] [(.ref a1), (.ref b143), (.ref b135_0), (.ref b60_0)]) _
   refine st199 _ ?_
   show SG p e below T199 (mkF m 67 #[vR a1] [(.long w11), (.ref b143), (.ref b135_0), (.ref b60_0)]) _
   refine st217.trans ?_
   show SG p e below T217 (mkF m 70 #[vR a1] [(.ref b143), (.ref b135_0), (.ref b60_0)]) _
   refine st231.trans ?_
   show SG p e below T231 (mkF m 73 #[vR a1] [(.ref b231_0), (.ref b135_0), (.ref b60_0)]) _
   refine st243 _ ?_
   show SG p e below T243 (mkF m 76 #[vR a1] [(.ref b243), (.ref b231_0), (.ref b135_0), (.ref b60_0)]) _
   refine XS.dup X243.here hx rfl (hb hby d4_76) rfl rfl ?_
   show SG p e below T243 (mkF m 77 #[vR a1] [(.ref b243), (.ref b243), (.ref b231_0), (.ref b135_0), (.ref b60_0)]) _
   refine st257.trans ?_
   show SG p e below T257 (mkF m 80 #[vR a1] [(.ref b243), (.ref b231_0), (.ref b135_0), (.ref b60_0)]) _
   refine st272 _ ?_
   show SG p e below T272 (mkF m 82 #[vR a1] [(.ref b272), (.ref b243), (.ref b231_0), (.ref b135_0), (.ref b60_0)]) _
   refine st292.trans ?_
   show SG p e below T292 (mkF m 85 #[vR a1] [(.ref b243), (.ref b231_0), (.ref b135_0), (.ref b60_0)]) _
   refine XS.aloadN X292.here hx rfl (hb hby d4_85) rfl rfl ?_
   show SG p e below T292 (mkF m 86 #[vR a1] [(.ref a1), (.ref b243), (.ref b231_0), (.ref b135_0), (.ref b60_0)]) _
   refine st311 _ ?_
   show SG p e below T311 (mkF m 89 #[vR a1] [(.long w11), (.ref b243), (.ref b231_0), (.ref b135_0), (.ref b60_0)]) _
   refine XS.aloadN X311.here hx rfl (hb hby d4_89) rfl rfl ?_
   show SG p e below T311 (mkF m 90 #[vR a1] [(.ref a1), (.long w11), (.ref b243), (.ref b231_0), (.ref b135_0), (.ref b60_0)]) _
   refine st313 _ ?_
   show SG p e below T313 (mkF m 93 #[vR a1] [(.long w12), (.long w11), (.ref b243), (.ref b231_0), (.ref b135_0), (.ref b60_0)]) _
   refine st314 _ ?_
   show SG p e below T314 (mkF m 96 #[vR a1] [(.long (ops w11 w12)), (.ref b243), (.ref b231_0), (.ref b135_0), (.ref b60_0)]) _
   refine st332.trans ?_
   show SG p e below T332 (mkF m 99 #[vR a1] [(.ref b243), (.ref b231_0), (.ref b135_0), (.ref b60_0)]) _
   refine st353.trans ?_
   show SG p e below T353 (mkF m 102 #[vR a1] [(.ref b353_0), (.ref b231_0), (.ref b135_0), (.ref b60_0)]) _
   refine st375 _ ?_
   show SG p e below T375 (mkF m 105 #[vR a1] [(.ref b375_1)]) _
   jvm_step X375.here [X375.here.top, hx, (hb hby d4_105), X375.method', Bd.returns, Value.isRef, FieldType.isReference]
   first | (intro acts; rw [hr _ acts rfl rfl rfl]) | rw [hr _ _ rfl rfl rfl]
   exact Steps.refl _
 · show Qr4_1 Z a1 w2 w3 w4 w5 k6 u7 k8 u9 w10 w11 w12 w13 h0 n0 _ T375.heap _
   exact ⟨N375, b14, b17_0, b54_0, b60_0, b60_1, b64, b70_0, b125_0, b135_0, b135_1, b143, b153_0, b217_0, b231_0, b231_1, b243, b257_0, b292_0, b332_0, b353_0, b353_1, b375_0, b375_1, k60_0, k135_0, k231_0, k353_0, k375_0, rfl, z18, z31, (Nat.le_trans KC14.1 ga55), (Nat.le_trans KC54.1 ge_b60_0), (Nat.le_trans KC54.1 ge_b60_1), z71, z92, (Nat.le_trans KC64.1 ga126), (Nat.le_trans KC125.1 ge_b135_0), (Nat.le_trans KC125.1 ge_b135_1), z154, z183, (Nat.le_trans KC143.1 ga218), (Nat.le_trans KC217.1 ge_b231_0), (Nat.le_trans KC217.1 ge_b231_1), z258, (Nat.le_trans KC243.1 ge_b257_0), z334, (Nat.le_trans KC272.1 ga333), (Nat.le_trans KC332.1 ge_b353_0), (Nat.le_trans KC332.1 ge_b353_1), (Nat.le_trans KC353.1 ge_b375_0), (Nat.le_trans KC353.1 ge_b375_1), KC375, f393, f394, f395, f396, o375_0, f408, f409, f417, f418, f422, f423, f424, f425, o375_1, o375_3, f432, f437, f440, f441⟩
 · rw [hh]
   show CHr Z EL s.vm h0 T375.vm T375.heap
   exact CHr.trans R375 (CHv.at X375 hZ272 (el_ok hw) R375.1)
theorem own_lp0 (x : Int64) : ¬ ((((0 : Int32) + ((10 : Int32) >>> ((0 : Int32) &&& 31))) + (SBG.strSizeOfL x)) < 0) := by
 have h := oszL_le x
 have z := own_oz16 (N := 10) (by decide) x
 simp only [own_ishr0, own_10, own_ssxL, own_add]
 exact own_n0 (by omega)
theorem own_lp1 (x : Int64) : ((((0 : Int32) + ((10 : Int32) >>> ((0 : Int32) &&& 31))) + (SBG.strSizeOfL x))).toNatClampNeg ≤ ((oz16 ((0 : Int32) + ((10 : Int32) >>> ((0 : Int32) &&& 31))) x)).toNatClampNeg := by
 have h := oszL_le x
 have z := own_oz16 (N := 10) (by decide) x
 simp only [own_ishr0, own_10, own_ssxL, own_add]
 rw [own_cl (by omega)]; exact z.1
theorem own_lp2 (x : Int64) : ¬ ((70 : Int32) < (oz16 ((0 : Int32) + ((10 : Int32) >>> ((0 : Int32) &&& 31))) x)) := by
 have h := oszL_le x
 have z := own_oz16 (N := 10) (by decide) x
 simp only [own_ishr0, own_10, own_ssxL, own_add]
 exact z.2
theorem own_lp3 (x : Int64) : ¬ ((((0 : Int32) + ((11 : Int32) >>> ((0 : Int32) &&& 31))) + (SBG.strSizeOfL x)) < 0) := by
 have h := oszL_le x
 have z := own_oz16 (N := 11) (by decide) x
 simp only [own_ishr0, own_11, own_ssxL, own_add]
 exact own_n0 (by omega)
theorem own_lp4 (x : Int64) : ((((0 : Int32) + ((11 : Int32) >>> ((0 : Int32) &&& 31))) + (SBG.strSizeOfL x))).toNatClampNeg ≤ ((oz16 ((0 : Int32) + ((11 : Int32) >>> ((0 : Int32) &&& 31))) x)).toNatClampNeg := by
 have h := oszL_le x
 have z := own_oz16 (N := 11) (by decide) x
 simp only [own_ishr0, own_11, own_ssxL, own_add]
 rw [own_cl (by omega)]; exact z.1
theorem own_lp5 (x : Int64) : ¬ ((70 : Int32) < (oz16 ((0 : Int32) + ((11 : Int32) >>> ((0 : Int32) &&& 31))) x)) := by
 have h := oszL_le x
 have z := own_oz16 (N := 11) (by decide) x
 simp only [own_ishr0, own_11, own_ssxL, own_add]
 exact z.2
theorem own_lp6 (x : Int64) : ¬ ((((0 : Int32) + ((8 : Int32) >>> ((0 : Int32) &&& 31))) + (SBG.strSizeOfL x)) < 0) := by
 have h := oszL_le x
 have z := own_oz16 (N := 8) (by decide) x
 simp only [own_ishr0, own_8, own_ssxL, own_add]
 exact own_n0 (by omega)
theorem own_lp7 (x : Int64) : ((((0 : Int32) + ((8 : Int32) >>> ((0 : Int32) &&& 31))) + (SBG.strSizeOfL x))).toNatClampNeg ≤ ((oz16 ((0 : Int32) + ((8 : Int32) >>> ((0 : Int32) &&& 31))) x)).toNatClampNeg := by
 have h := oszL_le x
 have z := own_oz16 (N := 8) (by decide) x
 simp only [own_ishr0, own_8, own_ssxL, own_add]
 rw [own_cl (by omega)]; exact z.1
theorem own_lp8 (x : Int64) : ¬ ((70 : Int32) < (oz16 ((0 : Int32) + ((8 : Int32) >>> ((0 : Int32) &&& 31))) x)) := by
 have h := oszL_le x
 have z := own_oz16 (N := 8) (by decide) x
 simp only [own_ishr0, own_8, own_ssxL, own_add]
 exact z.2
theorem own_lp9 (x : Int64) : ¬ ((((0 : Int32) + ((17 : Int32) >>> ((0 : Int32) &&& 31))) + (SBG.strSizeOfL x)) < 0) := by
 have h := oszL_le x
 have z := own_oz34 (N := 17) (by decide) x
 simp only [own_ishr0, own_17, own_ssxL, own_add]
 exact own_n0 (by omega)
theorem own_lp10 (x : Int64) : ((((0 : Int32) + ((17 : Int32) >>> ((0 : Int32) &&& 31))) + (SBG.strSizeOfL x))).toNatClampNeg ≤ ((oz34 ((0 : Int32) + ((17 : Int32) >>> ((0 : Int32) &&& 31))) x)).toNatClampNeg := by
 have h := oszL_le x
 have z := own_oz34 (N := 17) (by decide) x
 simp only [own_ishr0, own_17, own_ssxL, own_add]
 rw [own_cl (by omega)]; exact z.1
theorem own_lp11 (x : Int64) : ¬ ((70 : Int32) < (oz34 ((0 : Int32) + ((17 : Int32) >>> ((0 : Int32) &&& 31))) x)) := by
 have h := oszL_le x
 have z := own_oz34 (N := 17) (by decide) x
 simp only [own_ishr0, own_17, own_ssxL, own_add]
 exact z.2
theorem own_lz0 (x : Int64) : (((0 : Int32) + ((10 : Int32) >>> ((0 : Int32) &&& 31))) + (SBG.strSizeOfL x)) = Int32.ofNat (10 + oszL x) := by simp only [own_ishr0, own_10, own_ssxL, own_add]
theorem own_lt0 (x : Int64) (i : Nat) (hi : i < (Int32.ofNat (10 + oszL x)).toNatClampNeg) : ((SBG.ogc (decide (x < 0)) (x).toInt.natAbs (SBG.digitsL (x).toInt.natAbs) ((((0 : Int32) + ((10 : Int32) >>> ((0 : Int32) &&& 31))) + (SBG.strSizeOfL x))).toNatClampNeg (fun i => if i < 16 then (fun i => if (((0 : Int32) <<< ((0 : Int32) &&& 31))).toNatClampNeg ≤ i ∧ i < (((0 : Int32) <<< ((0 : Int32) &&& 31))).toNatClampNeg + ((10 : Int32)).toNatClampNeg then (fun i => ([112, 117, 115, 104, 101, 100, 95, 111, 107, 32] : List Int32).getD i 0) (((0 : Int32)).toNatClampNeg + (i - (((0 : Int32) <<< ((0 : Int32) &&& 31))).toNatClampNeg)) else (fun _ => (0 : Int32)) i) i else 0))) i = otxL (fun i => ([112, 117, 115, 104, 101, 100, 95, 111, 107, 32] : List Int32).getD i 0) 10 x i := by
 have h := oszL_le x
 rw [own_cl (by omega)] at hi
 simp only [own_ishr0, own_ishl0, own_10, own_ssxL, own_add, own_k0, own_k10]
 rw [own_cl (by omega)]
 exact own_txt (pf := (fun i => ([112, 117, 115, 104, 101, 100, 95, 111, 107, 32] : List Int32).getD i 0)) (by decide) hi
theorem own_lz1 (x : Int64) : (((0 : Int32) + ((11 : Int32) >>> ((0 : Int32) &&& 31))) + (SBG.strSizeOfL x)) = Int32.ofNat (11 + oszL x) := by simp only [own_ishr0, own_11, own_ssxL, own_add]
theorem own_lt1 (x : Int64) (i : Nat) (hi : i < (Int32.ofNat (11 + oszL x)).toNatClampNeg) : ((SBG.ogc (decide (x < 0)) (x).toInt.natAbs (SBG.digitsL (x).toInt.natAbs) ((((0 : Int32) + ((11 : Int32) >>> ((0 : Int32) &&& 31))) + (SBG.strSizeOfL x))).toNatClampNeg (fun i => if i < 16 then (fun i => if (((0 : Int32) <<< ((0 : Int32) &&& 31))).toNatClampNeg ≤ i ∧ i < (((0 : Int32) <<< ((0 : Int32) &&& 31))).toNatClampNeg + ((11 : Int32)).toNatClampNeg then (fun i => ([112, 117, 115, 104, 95, 112, 101, 114, 95, 115, 32] : List Int32).getD i 0) (((0 : Int32)).toNatClampNeg + (i - (((0 : Int32) <<< ((0 : Int32) &&& 31))).toNatClampNeg)) else (fun _ => (0 : Int32)) i) i else 0))) i = otxL (fun i => ([112, 117, 115, 104, 95, 112, 101, 114, 95, 115, 32] : List Int32).getD i 0) 11 x i := by
 have h := oszL_le x
 rw [own_cl (by omega)] at hi
 simp only [own_ishr0, own_ishl0, own_11, own_ssxL, own_add, own_k0, own_k11]
 rw [own_cl (by omega)]
 exact own_txt (pf := (fun i => ([112, 117, 115, 104, 95, 112, 101, 114, 95, 115, 32] : List Int32).getD i 0)) (by decide) hi
theorem own_lz2 (x : Int64) : (((0 : Int32) + ((8 : Int32) >>> ((0 : Int32) &&& 31))) + (SBG.strSizeOfL x)) = Int32.ofNat (8 + oszL x) := by simp only [own_ishr0, own_8, own_ssxL, own_add]
theorem own_lt2 (x : Int64) (i : Nat) (hi : i < (Int32.ofNat (8 + oszL x)).toNatClampNeg) : ((SBG.ogc (decide (x < 0)) (x).toInt.natAbs (SBG.digitsL (x).toInt.natAbs) ((((0 : Int32) + ((8 : Int32) >>> ((0 : Int32) &&& 31))) + (SBG.strSizeOfL x))).toNatClampNeg (fun i => if i < 16 then (fun i => if (((0 : Int32) <<< ((0 : Int32) &&& 31))).toNatClampNeg ≤ i ∧ i < (((0 : Int32) <<< ((0 : Int32) &&& 31))).toNatClampNeg + ((8 : Int32)).toNatClampNeg then (fun i => ([100, 114, 97, 105, 110, 101, 100, 32] : List Int32).getD i 0) (((0 : Int32)).toNatClampNeg + (i - (((0 : Int32) <<< ((0 : Int32) &&& 31))).toNatClampNeg)) else (fun _ => (0 : Int32)) i) i else 0))) i = otxL (fun i => ([100, 114, 97, 105, 110, 101, 100, 32] : List Int32).getD i 0) 8 x i := by
 have h := oszL_le x
 rw [own_cl (by omega)] at hi
 simp only [own_ishr0, own_ishl0, own_8, own_ssxL, own_add, own_k0, own_k8]
 rw [own_cl (by omega)]
 exact own_txt (pf := (fun i => ([100, 114, 97, 105, 110, 101, 100, 32] : List Int32).getD i 0)) (by decide) hi
theorem own_lz3 (x : Int64) : (((0 : Int32) + ((17 : Int32) >>> ((0 : Int32) &&& 31))) + (SBG.strSizeOfL x)) = Int32.ofNat (17 + oszL x) := by simp only [own_ishr0, own_17, own_ssxL, own_add]
theorem own_lt3 (x : Int64) (i : Nat) (hi : i < (Int32.ofNat (17 + oszL x)).toNatClampNeg) : ((SBG.ogc (decide (x < 0)) (x).toInt.natAbs (SBG.digitsL (x).toInt.natAbs) ((((0 : Int32) + ((17 : Int32) >>> ((0 : Int32) &&& 31))) + (SBG.strSizeOfL x))).toNatClampNeg (fun i => if i < 34 then (fun i => if (((0 : Int32) <<< ((0 : Int32) &&& 31))).toNatClampNeg ≤ i ∧ i < (((0 : Int32) <<< ((0 : Int32) &&& 31))).toNatClampNeg + ((17 : Int32)).toNatClampNeg then (fun i => ([112, 111, 112, 95, 102, 105, 110, 105, 115, 104, 95, 112, 101, 114, 95, 115, 32] : List Int32).getD i 0) (((0 : Int32)).toNatClampNeg + (i - (((0 : Int32) <<< ((0 : Int32) &&& 31))).toNatClampNeg)) else (fun i => if ((0 : Int32)).toNatClampNeg ≤ i ∧ i < ((0 : Int32)).toNatClampNeg + ((16 : Int32)).toNatClampNeg then (fun _ => (0 : Int32)) (((0 : Int32)).toNatClampNeg + (i - ((0 : Int32)).toNatClampNeg)) else (fun _ => (0 : Int32)) i) i) i else 0))) i = otxL (fun i => ([112, 111, 112, 95, 102, 105, 110, 105, 115, 104, 95, 112, 101, 114, 95, 115, 32] : List Int32).getD i 0) 17 x i := by
 have h := oszL_le x
 rw [own_cl (by omega)] at hi
 simp only [own_ishr0, own_ishl0, own_17, own_ssxL, own_add, own_k0, own_k17]
 rw [own_cl (by omega)]
 exact own_txt (pf := (fun i => ([112, 111, 112, 95, 102, 105, 110, 105, 115, 104, 95, 112, 101, 114, 95, 115, 32] : List Int32).getD i 0)) (by decide) hi
def OQL (Z : State) (x0 y0 x2 y3 : Int64) (h0 : Heap) (n0 : Nat) (v : Option Value) (h : Heap) (L : List Loc) : Prop := Fr n0 L ∧ ∃ la ea s0 d0 s1 d1 s2 d2 s3 d3 : Addr, ∃ ke k0 k1 k2 k3 : ClassId, v = some (.ref la) ∧ h0.size ≤ la ∧ h0.size ≤ ea ∧ h0.size ≤ s0 ∧ h0.size ≤ d0 ∧ h0.size ≤ s1 ∧ h0.size ≤ d1 ∧ h0.size ≤ s2 ∧ h0.size ≤ d2 ∧ h0.size ≤ s3 ∧ h0.size ≤ d3 ∧ KSx h0 h [] [] ∧ Exa Z h la sK8 ∧ Exa Z h s0 sK1 ∧ Exa Z h s1 sK1 ∧ Exa Z h s2 sK1 ∧ Exa Z h s3 sK1 ∧ Fld Z h la sK8 sK15 sK16 (.ref ea) ∧ Arv Z h ea ke (.object sK13) (4 : Int32) [(.ref s0), (.ref s1), (.ref s2), (.ref s3)] .null ∧ Fld Z h s0 sK1 "value" "[B" (.ref d0) ∧ Fld Z h s0 sK1 "coder" "B" (.int 0) ∧ BA Z h d0 k0 .byte (Int32.ofNat (10 + oszL x0)) (otxL (fun i => ([112, 117, 115, 104, 101, 100, 95, 111, 107, 32] : List Int32).getD i 0) 10 x0) ∧ Fld Z h s1 sK1 "value" "[B" (.ref d1) ∧ Fld Z h s1 sK1 "coder" "B" (.int 0) ∧ BA Z h d1 k1 .byte (Int32.ofNat (11 + oszL (ops x0 y0))) (otxL (fun i => ([112, 117, 115, 104, 95, 112, 101, 114, 95, 115, 32] : List Int32).getD i 0) 11 (ops x0 y0)) ∧ Fld Z h s2 sK1 "value" "[B" (.ref d2) ∧ Fld Z h s2 sK1 "coder" "B" (.int 0) ∧ BA Z h d2 k2 .byte (Int32.ofNat (8 + oszL x2)) (otxL (fun i => ([100, 114, 97, 105, 110, 101, 100, 32] : List Int32).getD i 0) 8 x2) ∧ Fld Z h s3 sK1 "value" "[B" (.ref d3) ∧ Fld Z h s3 sK1 "coder" "B" (.int 0) ∧ BA Z h d3 k3 .byte (Int32.ofNat (17 + oszL (ops x2 y3))) (otxL (fun i => ([112, 111, 112, 95, 102, 105, 110, 105, 115, 104, 95, 112, 101, 114, 95, 115, 32] : List Int32).getD i 0) 17 (ops x2 y3))
theorem own_lns (l : Launch) (Z : State) (a0 : Array Value) (hw : TW a0 Z) (a : Addr) (wS : Int32) (x0 : Int64) (d1 : Addr) (d2 : Addr) (kd1 : ClassId) (ud1 : Nat → Int32) (kd2 : ClassId) (ud2 : Nat → Int32) (y0 : Int64) (x2 : Int64) (y3 : Int64) (wA : Int32) (h0 : Heap) (n0 : Nat) (Z0 : n0 ≤ h0.size) (G0 : Sta Z h0 sK1 sK3 "Z" (.int wS)) (G1 : ¬ (wS = 0)) (G2 : Fld Z h0 a sK6 "pushedOk" "J" (.long x0)) (G3 : Sta Z h0 sK5 sK11 "[B" (.ref d1)) (G4 : Sta Z h0 sK5 sK12 "[B" (.ref d2)) (G5 : BA Z h0 d1 kd1 .byte (100 : Int32) ud1) (G6 : BA Z h0 d2 kd2 .byte (100 : Int32) ud2) (G7 : ud1 = (fun r => Int32.ofNat (48 + r % 10))) (G8 : ud2 = (fun r => Int32.ofNat (48 + r / 10))) (G9 : (Jvm.Cond.laysStatic sK5 sK11 "[B").before a0 Z = true) (G10 : (Jvm.Cond.laysStatic sK5 sK12 "[B").before a0 Z = true) (G11 : Fld Z h0 a sK6 "pushNanos" "J" (.long y0)) (G12 : Fld Z h0 a sK6 "drained" "J" (.long x2)) (G13 : Fld Z h0 a sK6 "drainNanos" "J" (.long y3)) (G14 : Sta Z h0 sK17 sK19 "Z" (.int wA)) (G15 : ¬ (wA = 0)) :
   OMetH EL l Z mN49 prog_5_method_2_code 1 (some (.object sK20)) [] (Rm 7 31 1148 135) h0 #[(.ref a)] (OQL Z x0 y0 x2 y3 h0 n0) := by
 refine own_impH (r4_1 l Z a0 hw a wS x0 d1 d2 kd1 ud1 kd2 ud2 y0 x2 y3 wA h0 n0 Z0 G0 G1 G2 G3 G4 G5 G6 G7 G8 G9 G10 (own_lp0 x0) (own_lp1 x0) (own_lp2 x0) G11 (own_lp3 (ops x0 y0)) (own_lp4 (ops x0 y0)) (own_lp5 (ops x0 y0)) G12 (own_lp6 x2) (own_lp7 x2) (own_lp8 x2) G13 (own_lp9 (ops x2 y3)) (own_lp10 (ops x2 y3)) (own_lp11 (ops x2 y3)) G14 G15) fun v h L q => ?_
 obtain ⟨N, _, _, _, s0, d0', _, _, _, s1, d1', _, _, _, s2, d2', _, _, _, _, s3, d3', ea, la, k0', k1', k2', k3', ke, e, _, _, _, g_s0, g_d0, _, _, _, g_s1, g_d1, _, _, _, g_s2, g_d2, _, _, _, _, g_s3, g_d3, g_ea, g_la, K, E0, E1, E2, E3, El, V0, C0, V1, C1, V2, C2, V3, C3, Fe, Ve, B0, B1, B2, B3⟩ := q
 exact ⟨N, la, ea, s0, d0', s1, d1', s2, d2', s3, d3', _, _, _, _, _, e, g_la, g_ea, g_s0, g_d0, g_s1, g_d1, g_s2, g_d2, g_s3, g_d3, K, El, E0, E1, E2, E3, Fe, Ve, V0, C0, (own_bz (own_lz0 x0) B0).congr fun i hi => own_lt0 x0 i hi, V1, C1, (own_bz (own_lz1 (ops x0 y0)) B1).congr fun i hi => own_lt1 (ops x0 y0) i hi, V2, C2, (own_bz (own_lz2 x2) B2).congr fun i hi => own_lt2 x2 i hi, V3, C3, (own_bz (own_lz3 (ops x2 y3)) B3).congr fun i hi => own_lt3 (ops x2 y3) i hi⟩
abbrev la72 (q1 : Int64) (q2 : Int64) (q3 : Int64) (q4 : Int64) (p5 : Int32) : Array Slot := #[vJ q1, vS, vJ q2, vS, vJ q3, vS, vJ q4, vS, vI p5, vU, vU, vU, vU, vU, vU, vU, vU, vU, vU]
abbrev la73 (q1 : Int64) (q2 : Int64) (q3 : Int64) (q4 : Int64) (p5 : Int32) : Array Slot := #[vJ q1, vS, vJ q2, vS, vJ q3, vS, vJ q4, vS, vI p5, vJ (q1 &&& 4294967295), vS, vU, vU, vU, vU, vU, vU, vU, vU]
abbrev la74 (q1 : Int64) (q2 : Int64) (q3 : Int64) (q4 : Int64) (p5 : Int32) : Array Slot := #[vJ q1, vS, vJ q2, vS, vJ q3, vS, vJ q4, vS, vI p5, vJ (q1 &&& 4294967295), vS, vJ (odm (p5 &&& 1) (q2 &&& 9223372036854775807) (0 : Int64)), vS, vU, vU, vU, vU, vU, vU]
abbrev la75 (q1 : Int64) (q2 : Int64) (q3 : Int64) (q4 : Int64) (p5 : Int32) : Array Slot := #[vJ q1, vS, vJ q2, vS, vJ q3, vS, vJ q4, vS, vI p5, vJ (q1 &&& 4294967295), vS, vJ (odm (p5 &&& 1) (q2 &&& 9223372036854775807) (0 : Int64)), vS, vJ (q3 &&& 4294967295), vS, vU, vU, vU, vU]
abbrev la76 (q1 : Int64) (q2 : Int64) (q3 : Int64) (q4 : Int64) (p5 : Int32) : Array Slot := #[vJ q1, vS, vJ q2, vS, vJ q3, vS, vJ q4, vS, vI p5, vJ (q1 &&& 4294967295), vS, vJ (odm (p5 &&& 1) (q2 &&& 9223372036854775807) (0 : Int64)), vS, vJ (q3 &&& 4294967295), vS, vJ (odm (p5 &&& 2) (q4 &&& 9223372036854775807) (0 : Int64)), vS, vU, vU]
theorem d1_0 : Dc rev48 0 (.aload_n 0) 1 := by decide +kernel
abbrev la77 (a1 : Addr) (q2 : Int64) (q3 : Int64) (q4 : Int64) (q5 : Int64) : Array Slot := #[vR a1, vJ q2, vS, vJ q3, vS, vJ q4, vS, vJ q5, vS]
theorem d1_1 : Dc rev48 1 (.invokespecial 1) 3 := by decide +kernel
theorem d2_0 : Dc rev49 0 (.aload_n 0) 1 := by decide +kernel
theorem d2_1 : Dc rev49 1 (.invokespecial 1) 3 := by decide +kernel
theorem d2_4 : Dc rev49 4 .return_ 1 := by decide +kernel
theorem pn_java_lang_Record : plainName "java/lang/Record" = true := by first | (simp [plainName, overriddenIn]; done) | decide +kernel
theorem ef_2_v (m : MethodId) (x0 : Addr) : entryFrame m #[(.ref x0)] 1 = mkF m 0 #[.val (.ref x0)] [] := by first | (simp [entryFrame, mkF, argsToLocals, Value.category]; done) | rfl
theorem r2_1 (l : Launch) (Z : State) (a0 : Array Value) (hw : TW a0 Z) (a1 : Addr) (h0 : Heap) (n0 : Nat) (Z0 : n0 ≤ h0.size) :
   OMet l Z mN50 jdk_30_method_1_code 1 none [] (Rm 1 0 0 12) h0 #[(.ref a1)] (OQp (none) h0 n0) := by
 refine MetFree.of_bodySF (plainFor_of_name pn_java_lang_Record) hisR ?_
 intro p e s m args below meth c s₁ Bd hml0 hP hK
 obtain ⟨rfl, hZ, hh⟩ := hP
 have hx := Bd.exec
 have hby := Bd.bytes
 have hml : c.maxLocals = 1 := hml0
 have hown : s.vm.findClass "java/lang/Record" = some m.cls := findClass_of_methodNamed Bd.named
 have X0 := own_X0 Bd
 have e0 : s₁.heap = h0 := by rw [← hh, Bd.state]; rfl
 have N0 := Fr.nil n0
 have pre0 : ∀ t, Steps p.tables e below (s₁.setTop (mkF m 0 #[vR a1] [])) t → Steps p.tables e below (s₁.setTop (entryFrame m #[(.ref a1)] 1)) t := fun t k => castTop (ef_2_v m a1) k
 obtain ⟨T2, X2, e2, st2⟩ := initO X0 hx hZ hown (tw hw 12 rfl) (tw hw 13 rfl) (tw hw 14 rfl) e0 (g := (mkF m 1 #[vR a1] [(.ref a1)])) rfl (by rw [hml]; rfl) rfl (hb hby d2_1) (by decide) (W := 0) (own_w _) (by decide)
 obtain ⟨fs, hr, hrun, hended, hW, hsame⟩ := X2.leave (v := none) (fun _ => rfl)
 refine ⟨_, _, pre0 _ ?_, hrun, hended, _, _, rfl, ?_, ⟨_, rfl⟩, hW, hsame.mono (by decide) (by decide)⟩
 · show SG p e below s₁ (mkF m 0 #[vR a1] []) _
   refine XS.aloadN X0.here hx rfl (hb hby d2_0) rfl rfl ?_
   show SG p e below s₁ (mkF m 1 #[vR a1] [(.ref a1)]) _
   refine st2 _ ?_
   show SG p e below T2 (mkF m 4 #[vR a1] []) _
   exact X2.returnOut hx Bd.returns (hb hby d2_4) hr
 · show OQp (none) h0 n0 _ T2.heap _
   rw [e2]
   exact ⟨rfl, N0, rfl⟩
theorem d1_4 : Dc rev48 4 (.aload_n 0) 1 := by decide +kernel
theorem d1_5 : Dc rev48 5 (.lload_n 1) 1 := by decide +kernel
theorem d1_6 : Dc rev48 6 (.putfield 7) 3 := by decide +kernel
theorem d1_9 : Dc rev48 9 (.aload_n 0) 1 := by decide +kernel
theorem d1_10 : Dc rev48 10 (.lload_n 3) 1 := by decide +kernel
theorem d1_11 : Dc rev48 11 (.putfield 13) 3 := by decide +kernel
theorem d1_14 : Dc rev48 14 (.aload_n 0) 1 := by decide +kernel
theorem d1_15 : Dc rev48 15 (.lload 5) 2 := by decide +kernel
theorem d1_17 : Dc rev48 17 (.putfield 16) 3 := by decide +kernel
theorem d1_20 : Dc rev48 20 (.aload_n 0) 1 := by decide +kernel
theorem d1_21 : Dc rev48 21 (.lload 7) 2 := by decide +kernel
theorem d1_23 : Dc rev48 23 (.putfield 19) 3 := by decide +kernel
theorem d1_26 : Dc rev48 26 .return_ 1 := by decide +kernel
theorem ef_1_vvvvv (m : MethodId) (x0 : Addr) (x1 : Int64) (x2 : Int64) (x3 : Int64) (x4 : Int64) : entryFrame m #[(.ref x0), (.long x1), (.long x2), (.long x3), (.long x4)] 9 = mkF m 0 #[.val (.ref x0), .val (.long x1), .second, .val (.long x2), .second, .val (.long x3), .second, .val (.long x4), .second] [] := by first | (simp [entryFrame, mkF, argsToLocals, Value.category]; done) | rfl
def Qr1_1 (Z : State) (a1 : Addr) (q2 : Int64) (q3 : Int64) (q4 : Int64) (q5 : Int64) (w6 : Int64) (w7 : Int64) (w8 : Int64) (w9 : Int64) (h0 : Heap) (n0 : Nat) (v : Option Value) (h : Heap) (L : List Loc) : Prop := Fr n0 L ∧ v = none ∧ KSx h0 h [(a1, Jvm.RoadKit.slotOf Z sK6 "pushedOk" "J"), (a1, Jvm.RoadKit.slotOf Z sK6 "pushNanos" "J"), (a1, Jvm.RoadKit.slotOf Z sK6 "drained" "J"), (a1, Jvm.RoadKit.slotOf Z sK6 "drainNanos" "J")] [] ∧ Fld Z h a1 sK6 "pushedOk" "J" (.long q2) ∧ Fld Z h a1 sK6 "pushNanos" "J" (.long q3) ∧ Fld Z h a1 sK6 "drained" "J" (.long q4) ∧ Fld Z h a1 sK6 "drainNanos" "J" (.long q5)
theorem r1_1 (l : Launch) (Z : State) (a0 : Array Value) (hw : TW a0 Z) (a1 : Addr) (q2 : Int64) (q3 : Int64) (q4 : Int64) (q5 : Int64) (w6 : Int64) (w7 : Int64) (w8 : Int64) (w9 : Int64) (h0 : Heap) (n0 : Nat) (Z0 : n0 ≤ h0.size) (H0 : Exa Z h0 a1 sK6) (H1 : Fld Z h0 a1 sK6 "pushedOk" "J" (.long w6)) (H2 : n0 ≤ a1) (H3 : Fld Z h0 a1 sK6 "pushNanos" "J" (.long w7)) (H4 : Fld Z h0 a1 sK6 "drained" "J" (.long w8)) (H5 : Fld Z h0 a1 sK6 "drainNanos" "J" (.long w9)) :
   OMet l Z mN51 prog_5_method_1_code 9 none [] (Rm 2 0 0 24) h0 #[(.ref a1), (.long q2), (.long q3), (.long q4), (.long q5)] (Qr1_1 Z a1 q2 q3 q4 q5 w6 w7 w8 w9 h0 n0) := by
 refine MetFree.of_bodySF (plainFor_of_name pn_com_example_eta4_eta4_bench_ThroughputFigures) hisR ?_
 intro p e s m args below meth c s₁ Bd hml0 hP hK
 obtain ⟨rfl, hZ, hh⟩ := hP
 have hx := Bd.exec
 have hby := Bd.bytes
 have hml : c.maxLocals = 9 := hml0
 have hown : s.vm.findClass sK6 = some m.cls := findClass_of_methodNamed Bd.named
 have hnm := (name_of_methodNamed Bd.named Bd.method).1
 have X0 := own_X0 Bd
 have e0 : s₁.heap = h0 := by rw [← hh, Bd.state]; rfl
 have N0 := Fr.nil n0
 have pre0 : ∀ t, Steps p.tables e below (s₁.setTop (mkF m 0 #[vR a1, vJ q2, vS, vJ q3, vS, vJ q4, vS, vJ q5, vS] [])) t → Steps p.tables e below (s₁.setTop (entryFrame m #[(.ref a1), (.long q2), (.long q3), (.long q4), (.long q5)] 9)) t := fun t k => castTop (ef_1_vvvvv m a1 q2 q3 q4 q5) k
 obtain ⟨_, _, ⟨T10, _, _, _⟩, -, X10, ⟨_, hQ, lq, yq, zq⟩, st10⟩ := X0.specialBack hx (y := mN50) rfl hown (mvT hZ (tw hw 7 rfl)) (mvT hZ (tw hw 8 rfl)) (mvT hZ (tw hw 11 rfl)) (by decide) (backOf (W := 0) (r2_1 l Z a0 hw a1 h0 n0 Z0 ) hZ (tw hw 11 rfl) (tw hw 10 rfl) (by decide) (by decide)) (g := (mkF m 1 (la77 a1 q2 q3 q4 q5) [(.ref a1)])) rfl (by rw [hml]; rfl) (Steps.refl _) (a := a1) (argsL := []) (rest := []) (lenOf pd_24 rfl) rfl (own_w _) (hb hby d1_1) (fun _ _ => ⟨rfl, e0, (by decide : 0 + 0 ≤ _), (by decide : 0 + 0 ≤ _)⟩)
 dsimp only [Pt.U, Pt.locs, Pt.cells, Pt.slots] at X10 lq yq zq st10 hQ
 replace X10 := own_mvX X10 (a := 0) (b := 0) yq zq
 obtain ⟨rfl, Nq, e10⟩ := hQ
 have N10 := own_mvN lq N0 Nq
 obtain ⟨T11, h11, X11, e11, W11, st11⟩ := putF X10 hx hZ hown (host := "") (Or.inl (tw hw 15 rfl)) Via.refl e10 H1 H0 (Or.inr ⟨(tw hw 16 rfl), rfl, hnm⟩) (tw hw 2 rfl) (ty := .long) (by decide) rfl rfl (g := (mkF m 6 (la77 a1 q2 q3 q4 q5) [(.long q2), (.ref a1)])) rfl rfl (hb hby d1_6)
 have Fw11 := Fld.same W11 H1
 have KC11 := KSx.wr (KSx.refl h0 [(a1, Jvm.RoadKit.slotOf Z sK6 "pushedOk" "J"), (a1, Jvm.RoadKit.slotOf Z sK6 "pushNanos" "J"), (a1, Jvm.RoadKit.slotOf Z sK6 "drained" "J"), (a1, Jvm.RoadKit.slotOf Z sK6 "drainNanos" "J")] []) W11 (Or.inl (List.mem_of_getElem? (i := 0) rfl))
 have N11 := Fr.snoc X11 N10 H2
 have f12 := (H0.wr W11)
 have f13 := (H3.other W11 (Or.inr (slot_ne (Or.inr (tw hw 18 rfl)) (Or.inr (tw hw 16 rfl)) (by decide) (t := .long) (t' := .long) (by decide) (by decide))))
 obtain ⟨T14, h14, X14, e14, W14, st14⟩ := putF X11 hx hZ hown (host := "") (Or.inl (tw hw 17 rfl)) Via.refl e11 f13 f12 (Or.inr ⟨(tw hw 18 rfl), rfl, hnm⟩) (tw hw 2 rfl) (ty := .long) (by decide) rfl rfl (g := (mkF m 11 (la77 a1 q2 q3 q4 q5) [(.long q3), (.ref a1)])) rfl rfl (hb hby d1_11)
 have Fw14 := Fld.same W14 f13
 have KC14 := KSx.wr KC11 W14 (Or.inl (List.mem_of_getElem? (i := 1) rfl))
 have N14 := Fr.snoc X14 N11 H2
 have f15 := (f12.wr W14)
 have f16 := ((H4.other W11 (Or.inr (slot_ne (Or.inr (tw hw 20 rfl)) (Or.inr (tw hw 16 rfl)) (by decide) (t := .long) (t' := .long) (by decide) (by decide)))).other W14 (Or.inr (slot_ne (Or.inr (tw hw 20 rfl)) (Or.inr (tw hw 18 rfl)) (by decide) (t := .long) (t' := .long) (by decide) (by decide))))
 obtain ⟨T17, h17, X17, e17, W17, st17⟩ := putF X14 hx hZ hown (host := "") (Or.inl (tw hw 19 rfl)) Via.refl e14 f16 f15 (Or.inr ⟨(tw hw 20 rfl), rfl, hnm⟩) (tw hw 2 rfl) (ty := .long) (by decide) rfl rfl (g := (mkF m 17 (la77 a1 q2 q3 q4 q5) [(.long q4), (.ref a1)])) rfl rfl (hb hby d1_17)
 have Fw17 := Fld.same W17 f16
 have KC17 := KSx.wr KC14 W17 (Or.inl (List.mem_of_getElem? (i := 2) rfl))
 have N17 := Fr.snoc X17 N14 H2
 have f18 := (f15.wr W17)
 have f19 := (((H5.other W11 (Or.inr (slot_ne (Or.inr (tw hw 22 rfl)) (Or.inr (tw hw 16 rfl)) (by decide) (t := .long) (t' := .long) (by decide) (by decide)))).other W14 (Or.inr (slot_ne (Or.inr (tw hw 22 rfl)) (Or.inr (tw hw 18 rfl)) (by decide) (t := .long) (t' := .long) (by decide) (by decide)))).other W17 (Or.inr (slot_ne (Or.inr (tw hw 22 rfl)) (Or.inr (tw hw 20 rfl)) (by decide) (t := .long) (t' := .long) (by decide) (by decide))))
 obtain ⟨T20, h20, X20, e20, W20, st20⟩ := putF X17 hx hZ hown (host := "") (Or.inl (tw hw 21 rfl)) Via.refl e17 f19 f18 (Or.inr ⟨(tw hw 22 rfl), rfl, hnm⟩) (tw hw 2 rfl) (ty := .long) (by decide) rfl rfl (g := (mkF m 23 (la77 a1 q2 q3 q4 q5) [(.long q5), (.ref a1)])) rfl rfl (hb hby d1_23)
 have Fw20 := Fld.same W20 f19
 have KC20 := KSx.wr KC17 W20 (Or.inl (List.mem_of_getElem? (i := 3) rfl))
 have N20 := Fr.snoc X20 N17 H2
 have f21 := (((Fw11.other W14 (Or.inr (slot_ne (Or.inr (tw hw 16 rfl)) (Or.inr (tw hw 18 rfl)) (by decide) (t := .long) (t' := .long) (by decide) (by decide)))).other W17 (Or.inr (slot_ne (Or.inr (tw hw 16 rfl)) (Or.inr (tw hw 20 rfl)) (by decide) (t := .long) (t' := .long) (by decide) (by decide)))).other W20 (Or.inr (slot_ne (Or.inr (tw hw 16 rfl)) (Or.inr (tw hw 22 rfl)) (by decide) (t := .long) (t' := .long) (by decide) (by decide))))
 have f22 := ((Fw14.other W17 (Or.inr (slot_ne (Or.inr (tw hw 18 rfl)) (Or.inr (tw hw 20 rfl)) (by decide) (t := .long) (t' := .long) (by decide) (by decide)))).other W20 (Or.inr (slot_ne (Or.inr (tw hw 18 rfl)) (Or.inr (tw hw 22 rfl)) (by decide) (t := .long) (t' := .long) (by decide) (by decide))))
 have f23 := (Fw17.other W20 (Or.inr (slot_ne (Or.inr (tw hw 20 rfl)) (Or.inr (tw hw 22 rfl)) (by decide) (t := .long) (t' := .long) (by decide) (by decide))))
 obtain ⟨fs, hr, hrun, hended, hW, hsame⟩ := X20.leave (v := none) (fun _ => rfl)
 refine ⟨_, _, pre0 _ ?_, hrun, hended, _, _, rfl, ?_, ⟨_, rfl⟩, hW, hsame.mono (by decide) (by decide)⟩
 · show SG p e below s₁ (mkF m 0 (la77 a1 q2 q3 q4 q5) []) _
   refine XS.aloadN X0.here hx rfl (hb hby d1_0) rfl rfl ?_
   show SG p e below s₁ (mkF m 1 (la77 a1 q2 q3 q4 q5) [(.ref a1)]) _
   refine st10.trans ?_
   show SG p e below T10 (mkF m 4 (la77 a1 q2 q3 q4 q5) []) _
   refine XS.aloadN X10.here hx rfl (hb hby d1_4) rfl rfl ?_
   refine XS.lloadN X10.here hx rfl (hb hby d1_5) rfl ?_
   show SG p e below T10 (mkF m 6 (la77 a1 q2 q3 q4 q5) [(.long q2), (.ref a1)]) _
   refine st11 _ ?_
   show SG p e below T11 (mkF m 9 (la77 a1 q2 q3 q4 q5) []) _
   refine XS.aloadN X11.here hx rfl (hb hby d1_9) rfl rfl ?_
   refine XS.lloadN X11.here hx rfl (hb hby d1_10) rfl ?_
   show SG p e below T11 (mkF m 11 (la77 a1 q2 q3 q4 q5) [(.long q3), (.ref a1)]) _
   refine st14 _ ?_
   show SG p e below T14 (mkF m 14 (la77 a1 q2 q3 q4 q5) []) _
   refine XS.aloadN X14.here hx rfl (hb hby d1_14) rfl rfl ?_
   refine XS.lload X14.here hx rfl (hb hby d1_15) rfl ?_
   show SG p e below T14 (mkF m 17 (la77 a1 q2 q3 q4 q5) [(.long q4), (.ref a1)]) _
   refine st17 _ ?_
   show SG p e below T17 (mkF m 20 (la77 a1 q2 q3 q4 q5) []) _
   refine XS.aloadN X17.here hx rfl (hb hby d1_20) rfl rfl ?_
   refine XS.lload X17.here hx rfl (hb hby d1_21) rfl ?_
   show SG p e below T17 (mkF m 23 (la77 a1 q2 q3 q4 q5) [(.long q5), (.ref a1)]) _
   refine st20 _ ?_
   show SG p e below T20 (mkF m 26 (la77 a1 q2 q3 q4 q5) []) _
   exact X20.returnOut hx Bd.returns (hb hby d1_26) hr
 · show Qr1_1 Z a1 q2 q3 q4 q5 w6 w7 w8 w9 h0 n0 _ T20.heap _
   rw [e20]
   exact ⟨N20, rfl, KC20, f21, f22, f23, Fw20⟩
theorem pd_37 : parseMethodDescriptor "(JJJJ)V" = some ⟨[.long, .long, .long, .long], none⟩ := by decide +kernel
abbrev la78 (q1 : Int64) (q2 : Int64) (q3 : Int64) (q4 : Int64) (p5 : Int32) (b6 : Addr) : Array Slot := #[vJ q1, vS, vJ q2, vS, vJ q3, vS, vJ q4, vS, vI p5, vJ (q1 &&& 4294967295), vS, vJ (odm (p5 &&& 1) (q2 &&& 9223372036854775807) (0 : Int64)), vS, vJ (q3 &&& 4294967295), vS, vJ (odm (p5 &&& 2) (q4 &&& 9223372036854775807) (0 : Int64)), vS, vR b6, vU]
theorem pd_38 : parseMethodDescriptor "()Ljava/util/List;" = some ⟨[], some (.object "java/util/List")⟩ := by decide +kernel
abbrev la79 (q1 : Int64) (q2 : Int64) (q3 : Int64) (q4 : Int64) (p5 : Int32) (b6 : Addr) (b7_0 : Addr) : Array Slot := #[vJ q1, vS, vJ q2, vS, vJ q3, vS, vJ q4, vS, vI p5, vJ (q1 &&& 4294967295), vS, vJ (odm (p5 &&& 1) (q2 &&& 9223372036854775807) (0 : Int64)), vS, vJ (q3 &&& 4294967295), vS, vJ (odm (p5 &&& 2) (q4 &&& 9223372036854775807) (0 : Int64)), vS, vR b6, vR b7_0]
theorem d42_0 : Dc rev50 0 (.aload_n 0) 1 := by decide +kernel
theorem d42_1 : Dc rev50 1 (.getfield 7) 3 := by decide +kernel
theorem d42_4 : Dc rev50 4 .arraylength 1 := by decide +kernel
theorem d42_5 : Dc rev50 5 .ireturn 1 := by decide +kernel
theorem ef_42_v (m : MethodId) (x0 : Addr) : entryFrame m #[(.ref x0)] 1 = mkF m 0 #[.val (.ref x0)] [] := by first | (simp [entryFrame, mkF, argsToLocals, Value.category]; done) | rfl
theorem r42_1 (l : Launch) (Z : State) (a0 : Array Value) (hw : TW a0 Z) (a1 : Addr) (w2 : Addr) (k3 : ClassId) (w4 : Addr) (w5 : Addr) (w6 : Addr) (w7 : Addr) (h0 : Heap) (n0 : Nat) (Z0 : n0 ≤ h0.size) (H0 : Fld Z h0 a1 sK8 sK15 sK16 (.ref w2)) (H1 : Arv Z h0 w2 k3 (.object sK13) (4 : Int32) [(.ref w4), (.ref w5), (.ref w6), (.ref w7)] .null) :
   OMet l Z mN52 jdk_45_method_3_code 1 (some .int) [] (Rm 0 0 0 0) h0 #[(.ref a1)] (OQp (some (.int 4)) h0 n0) := by
 refine MetFree.of_bodySF (plainFor_of_name pn_java_util_ImmutableCollections_ListN) hisR ?_
 intro p e s m args below meth c s₁ Bd hml0 hP hK
 obtain ⟨rfl, hZ, hh⟩ := hP
 have hx := Bd.exec
 have hby := Bd.bytes
 have hml : c.maxLocals = 1 := hml0
 have hown : s.vm.findClass sK8 = some m.cls := findClass_of_methodNamed Bd.named
 have X0 := own_X0 Bd
 have e0 : s₁.heap = h0 := by rw [← hh, Bd.state]; rfl
 have N0 := Fr.nil n0
 have pre0 : ∀ t, Steps p.tables e below (s₁.setTop (mkF m 0 #[vR a1] [])) t → Steps p.tables e below (s₁.setTop (entryFrame m #[(.ref a1)] 1)) t := fun t k => castTop (ef_42_v m a1) k
 obtain ⟨T8, X8, e8, st8⟩ := getF X0 hx hZ hown (host := "") (Or.inl (tw hw 240 rfl)) Via.refl e0 H0 (g := (mkF m 1 #[vR a1] [(.ref a1)])) rfl rfl (hb hby d42_1)
 have vc9 := H1
 obtain ⟨cl9, Ar9, q9, S9, N9, Hh9, G9⟩ := vc9
 obtain ⟨fs, hr, hrun, hended, hW, hsame⟩ := X8.leave (v := some (.int 4)) (fun h => by rw [Bd.returns] at h; cases h)
 refine ⟨_, _, pre0 _ ?_, hrun, hended, _, _, rfl, ?_, ⟨_, rfl⟩, hW, hsame.mono (by decide) (by decide)⟩
 · show SG p e below s₁ (mkF m 0 #[vR a1] []) _
   refine XS.aloadN X0.here hx rfl (hb hby d42_0) rfl rfl ?_
   show SG p e below s₁ (mkF m 1 #[vR a1] [(.ref a1)]) _
   refine st8 _ ?_
   show SG p e below T8 (mkF m 4 #[vR a1] [(.ref w2)]) _
   refine X8.arraylength hx (by rw [e8]; exact Ar9.1) (State.isArrayOf_alike hZ.alike Ar9.2.1) (g := (mkF m 4 #[vR a1] [(.ref w2)])) rfl rfl (hb hby d42_4) _ ?_
   rw [len_of S9 N9]
   show SG p e below T8 (mkF m 5 #[vR a1] [(.int 4)]) _
   exact retI X8 hx Bd.returns (hb hby d42_5) hr
 · show OQp (some (.int 4)) h0 n0 _ T8.heap _
   rw [e8]
   exact ⟨rfl, N0, rfl⟩
theorem d43_0 : Dc rev51 0 (.aload_n 0) 1 := by decide +kernel
theorem d43_1 : Dc rev51 1 (.getfield 7) 3 := by decide +kernel
theorem d43_4 : Dc rev51 4 (.iload_n 1) 1 := by decide +kernel
theorem d43_5 : Dc rev51 5 .aaload 1 := by decide +kernel
theorem d43_6 : Dc rev51 6 .areturn 1 := by decide +kernel
theorem ef_43_vv (m : MethodId) (x0 : Addr) (x1 : Int32) : entryFrame m #[(.ref x0), (.int x1)] 2 = mkF m 0 #[.val (.ref x0), .val (.int x1)] [] := by first | (simp [entryFrame, mkF, argsToLocals, Value.category]; done) | rfl
theorem r43_1 (l : Launch) (Z : State) (a0 : Array Value) (hw : TW a0 Z) (a1 : Addr) (p2 : Int32) (w3 : Addr) (k4 : ClassId) (w5 : Addr) (w6 : Addr) (w7 : Addr) (w8 : Addr) (a9 : Addr) (h0 : Heap) (n0 : Nat) (Z0 : n0 ≤ h0.size) (H0 : Fld Z h0 a1 sK8 sK15 sK16 (.ref w3)) (H1 : Arv Z h0 w3 k4 (.object sK13) (4 : Int32) [(.ref w5), (.ref w6), (.ref w7), (.ref w8)] .null) (H2 : ¬ (p2 < 0)) (H3 : p2 < 4) (H4 : ([(.ref w5), (.ref w6), (.ref w7), (.ref w8)] : List Value).getD (p2).toNatClampNeg .null = (.ref a9)) :
   OMet l Z mN54 jdk_45_method_4_code 2 (some (.object sK13)) [] (Rm 0 0 0 0) h0 #[(.ref a1), (.int p2)] (OQp (some (.ref a9)) h0 n0) := by
 refine MetFree.of_bodySF (plainFor_of_name pn_java_util_ImmutableCollections_ListN) hisR ?_
 intro p e s m args below meth c s₁ Bd hml0 hP hK
 obtain ⟨rfl, hZ, hh⟩ := hP
 have hx := Bd.exec
 have hby := Bd.bytes
 have hml : c.maxLocals = 2 := hml0
 have hown : s.vm.findClass sK8 = some m.cls := findClass_of_methodNamed Bd.named
 have X0 := own_X0 Bd
 have e0 : s₁.heap = h0 := by rw [← hh, Bd.state]; rfl
 have N0 := Fr.nil n0
 have pre0 : ∀ t, Steps p.tables e below (s₁.setTop (mkF m 0 #[vR a1, vI p2] [])) t → Steps p.tables e below (s₁.setTop (entryFrame m #[(.ref a1), (.int p2)] 2)) t := fun t k => castTop (ef_43_vv m a1 p2) k
 obtain ⟨T10, X10, e10, st10⟩ := getF X0 hx hZ hown (host := "") (Or.inl (tw hw 240 rfl)) Via.refl e0 H0 (g := (mkF m 1 #[vR a1, vI p2] [(.ref a1)])) rfl rfl (hb hby d43_1)
 have vc11 := H1
 obtain ⟨cl11, Ar11, q11, S11, N11, Hh11, G11⟩ := vc11
 have hin11 : ¬ (p2 < 0 ∨ cl11.slots.size ≤ (p2).toNatClampNeg) := inb_of S11 ⟨H2, H3⟩
 have hat11 : cl11.slots[(p2).toNatClampNeg]? = some (.ref a9) := Has.at Hh11 hin11 H4
 obtain ⟨fs, hr, hrun, hended, hW, hsame⟩ := X10.leave (v := some (.ref a9)) (fun h => by rw [Bd.returns] at h; cases h)
 refine ⟨_, _, pre0 _ ?_, hrun, hended, _, _, rfl, ?_, ⟨_, rfl⟩, hW, hsame.mono (by decide) (by decide)⟩
 · show SG p e below s₁ (mkF m 0 #[vR a1, vI p2] []) _
   refine XS.aloadN X0.here hx rfl (hb hby d43_0) rfl rfl ?_
   show SG p e below s₁ (mkF m 1 #[vR a1, vI p2] [(.ref a1)]) _
   refine st10 _ ?_
   show SG p e below T10 (mkF m 4 #[vR a1, vI p2] [(.ref w3)]) _
   refine XS.iloadN X10.here hx rfl (hb hby d43_4) rfl ?_
   show SG p e below T10 (mkF m 5 #[vR a1, vI p2] [(.int p2), (.ref w3)]) _
   refine X10.aaload hx (j := p2) (v := (.ref a9)) (by rw [e10]; exact Ar11.1) (State.isArrayOf_alike hZ.alike Ar11.2.1) rfl Ar11.2.2 hin11 hat11 (g := (mkF m 5 #[vR a1, vI p2] [(.int p2), (.ref w3)])) rfl rfl (hb hby d43_5) _ ?_
   show SG p e below T10 (mkF m 6 #[vR a1, vI p2] [(.ref a9)]) _
   jvm_step X10.here [X10.here.top, hx, (hb hby d43_6), X10.method', Bd.returns, Value.isRef, FieldType.isReference]
   first | (intro acts; rw [hr _ acts rfl rfl rfl]) | rw [hr _ _ rfl rfl rfl]
   exact Steps.refl _
 · show OQp (some (.ref a9)) h0 n0 _ T10.heap _
   rw [e10]
   exact ⟨rfl, N0, rfl⟩
theorem pd_39 : parseMethodDescriptor "(I)Ljava/lang/Object;" = some ⟨[.int], some (.object "java/lang/Object")⟩ := by decide +kernel
theorem d44_0 : Dc rev52 0 (.aload_n 0) 1 := by decide +kernel
theorem d44_1 : Dc rev52 1 (.aload_n 1) 1 := by decide +kernel
theorem d44_2 : Dc rev52 2 (.invokestatic 52) 3 := by decide +kernel
theorem d44_5 : Dc rev52 5 (.lstore 4) 2 := by decide +kernel
theorem d44_7 : Dc rev52 7 (.lload 4) 2 := by decide +kernel
theorem d44_9 : Dc rev52 9 (.lconst 0) 1 := by decide +kernel
theorem d44_10 : Dc rev52 10 .lcmp 1 := by decide +kernel
theorem d44_11 : Dc rev52 11 (.ifCond .lt 14) 3 := by decide +kernel
theorem d44_14 : Dc rev52 14 (.lload 4) 2 := by decide +kernel
theorem d44_16 : Dc rev52 16 (.lload_n 2) 1 := by decide +kernel
theorem d44_17 : Dc rev52 17 .lcmp 1 := by decide +kernel
theorem d44_18 : Dc rev52 18 (.ifCond .ne 7) 3 := by decide +kernel
theorem d44_21 : Dc rev52 21 (.iconst 1) 1 := by decide +kernel
theorem d44_22 : Dc rev52 22 (.goto 4) 3 := by decide +kernel
theorem d44_26 : Dc rev52 26 .ireturn 1 := by decide +kernel
theorem ef_44_vvv (m : MethodId) (x0 : Addr) (x1 : Addr) (x2 : Int64) : entryFrame m #[(.ref x0), (.ref x1), (.long x2)] 6 = mkF m 0 #[.val (.ref x0), .val (.ref x1), .val (.long x2), .second, .unset, .unset] [] := by first | (simp [entryFrame, mkF, argsToLocals, Value.category]; done) | rfl
theorem r44_1 (l : Launch) (Z : State) (a0 : Array Value) (hw : TW a0 Z) (a1 : Addr) (a2 : Addr) (q3 : Int64) (w4 : Int32) (w5 : Int32) (w6 : Addr) (k7 : ClassId) (u8 : Nat → Int32) (p9 : Int32) (x10 : Value) (w11 : Int32) (w12 : Addr) (k13 : ClassId) (u14 : Nat → Int32) (p15 : Int32) (h0 : Heap) (n0 : Nat) (Z0 : n0 ≤ h0.size) (H0 : Sta Z h0 sK1 sK3 "Z" (.int w4)) (H1 : ¬ (w4 = 0)) (H2 : Fld Z h0 a1 sK1 "coder" "B" (.int w5)) (H3 : w5 = 0) (H4 : Exa Z h0 a1 sK1) (H5 : Fld Z h0 a1 sK1 "value" "[B" (.ref w6)) (H6 : BA Z h0 w6 k7 .byte p9 u8) (H7 : Sta Z h0 sK7 sK9 sK10 x10) (H8 : (x10).isRef = true) (H9 : Fld Z h0 a2 sK1 "coder" "B" (.int w11)) (H10 : w11 = 0) (H11 : Exa Z h0 a2 sK1) (H12 : Fld Z h0 a2 sK1 "value" "[B" (.ref w12)) (H13 : BA Z h0 w12 k13 .byte p15 u14) (H14 : ¬ (q3 < 0)) (H15 : (p15).toNatClampNeg ≤ 100) (H16 : p9 = Int32.ofNat ((p15).toNatClampNeg + oszL q3)) (H17 : ∀ i, i < (p15).toNatClampNeg + oszL q3 → (u8) i = otxL u14 (p15).toNatClampNeg q3 i) (H18 : ¬ ((lcmpW q3 (0 : Int64)) < 0)) (H19 : (lcmpW q3 q3) = 0) :
   OMet l Z mN56 method_3_code 6 (some .boolean) [] (Rm 7 0 0 107) h0 #[(.ref a1), (.ref a2), (.long q3)] (OQp (some (.int 1)) h0 n0) := by
 refine MetFree.of_bodySF (plainFor_of_name pn_com_example_eta4_eta4_bench_ThroughputFiguresLinesPinLaw) hisR ?_
 intro p e s m args below meth c s₁ Bd hml0 hP hK
 obtain ⟨rfl, hZ, hh⟩ := hP
 have hx := Bd.exec
 have hby := Bd.bytes
 have hml : c.maxLocals = 6 := hml0
 have hown : s.vm.findClass sK14 = some m.cls := findClass_of_methodNamed Bd.named
 have X0 := own_X0 Bd
 have e0 : s₁.heap = h0 := by rw [← hh, Bd.state]; rfl
 have N0 := Fr.nil n0
 have pre0 : ∀ t, Steps p.tables e below (s₁.setTop (mkF m 0 #[vR a1, vR a2, vJ q3, vS, .unset, .unset] [])) t → Steps p.tables e below (s₁.setTop (entryFrame m #[(.ref a1), (.ref a2), (.long q3)] 6)) t := fun t k => castTop (ef_44_vvv m a1 a2 q3) k
 obtain ⟨_, _, ⟨T16, _, _, _⟩, -, X16, ⟨_, hQ, lq, yq, zq⟩, st16⟩ := Jvm.LawKit.callS X0 hx (y := mN33) hown (mvT hZ (tw hw 267 rfl)) (mvT hZ (tw hw 268 rfl)) (mvT hZ (tw hw 265 rfl)) (mvT hZ (tw hw 269 rfl)) (by decide) (backOf (W := 0) (own_val l Z a0 hw a1 w4 w5 w6 k7 p9 u8 x10 a2 w11 w12 k13 p15 u14 q3 h0 n0 Z0 H0 H1 H2 H3 H4 H5 H6 H7 H8 H9 H10 H11 H12 H13 H14 H15 H16 H17) hZ (tw hw 269 rfl) (tw hw 265 rfl) (by decide) (by decide)) (g := (mkF m 2 #[vR a1, vR a2, vJ q3, vS, vU, vU] [(.ref a2), (.ref a1)])) rfl (by rw [hml]; rfl) (argsL := [(.ref a1), (.ref a2)]) (rest := []) (lenOf pd_23 rfl) rfl (own_w _) (hb hby d44_2) (fun _ _ => ⟨rfl, e0, (by decide : 0 + 0 ≤ _), (by decide : 0 + 0 ≤ _)⟩)
 dsimp only [Pt.U, Pt.locs, Pt.cells, Pt.slots] at X16 lq yq zq st16 hQ
 replace X16 := own_mvX X16 (a := 0) (b := 0) yq zq
 obtain ⟨rfl, Nq, e16⟩ := hQ
 have N16 := own_mvN lq N0 Nq
 obtain ⟨fs, hr, hrun, hended, hW, hsame⟩ := X16.leave (v := some (.int 1)) (fun h => by rw [Bd.returns] at h; cases h)
 refine ⟨_, _, pre0 _ ?_, hrun, hended, _, _, rfl, ?_, ⟨_, rfl⟩, hW, hsame.mono (by decide) (by decide)⟩
 · show SG p e below s₁ (mkF m 0 #[vR a1, vR a2, vJ q3, vS, vU, vU] []) _
   refine XS.aloadN X0.here hx rfl (hb hby d44_0) rfl rfl ?_
   refine XS.aloadN X0.here hx rfl (hb hby d44_1) rfl rfl ?_
   show SG p e below s₁ (mkF m 2 #[vR a1, vR a2, vJ q3, vS, vU, vU] [(.ref a2), (.ref a1)]) _
   refine st16 _ ?_
   show SG p e below T16 (mkF m 5 #[vR a1, vR a2, vJ q3, vS, vU, vU] [(.long q3)]) _
   refine XS.lstore X16.here hx rfl (hb hby d44_5) rfl (l' := #[vR a1, vR a2, vJ q3, vS, vJ q3, vS]) rfl ?_
   show SG p e below T16 (mkF m 7 #[vR a1, vR a2, vJ q3, vS, vJ q3, vS] []) _
   refine XS.lload X16.here hx rfl (hb hby d44_7) rfl ?_
   refine XS.lconst X16.here hx rfl (hb hby d44_9) ?_
   show SG p e below T16 (mkF m 10 #[vR a1, vR a2, vJ q3, vS, vJ q3, vS] [(.long 0), (.long q3)]) _
   refine XS.lcmp X16.here hx rfl (hb hby d44_10) rfl ?_
   show SG p e below T16 (mkF m 11 #[vR a1, vR a2, vJ q3, vS, vJ q3, vS] [(.int (lcmpW q3 (0 : Int64)))]) _
   refine XS.ifNo X16.here hx rfl (hb hby d44_11) rfl ((if0 _ _).trans (flt H18).1) ?_
   show SG p e below T16 (mkF m 14 #[vR a1, vR a2, vJ q3, vS, vJ q3, vS] []) _
   refine XS.lload X16.here hx rfl (hb hby d44_14) rfl ?_
   refine XS.lloadN X16.here hx rfl (hb hby d44_16) rfl ?_
   show SG p e below T16 (mkF m 17 #[vR a1, vR a2, vJ q3, vS, vJ q3, vS] [(.long q3), (.long q3)]) _
   refine XS.lcmp X16.here hx rfl (hb hby d44_17) rfl ?_
   show SG p e below T16 (mkF m 18 #[vR a1, vR a2, vJ q3, vS, vJ q3, vS] [(.int (lcmpW q3 q3))]) _
   refine XS.ifNo X16.here hx rfl (hb hby d44_18) rfl ((if0 _ _).trans (teq H19).2) ?_
   show SG p e below T16 (mkF m 21 #[vR a1, vR a2, vJ q3, vS, vJ q3, vS] []) _
   refine XS.iconst X16.here hx rfl (hb hby d44_21) ?_
   refine XS.goto X16.here hx rfl (pc0 := 22) (pc' := 26) rfl (hb hby d44_22) (by decide) (by decide) ?_
   show SG p e below T16 (mkF m 26 #[vR a1, vR a2, vJ q3, vS, vJ q3, vS] [(.int 1)]) _
   exact retN X16 hx (t := .boolean) Bd.returns (by simp) (hb hby d44_26) hr
 · show OQp (some (.int 1)) h0 n0 _ T16.heap _
   rw [e16]
   exact ⟨rfl, N16, rfl⟩
theorem pd_40 : parseMethodDescriptor "(Ljava/lang/String;Ljava/lang/String;J)Z" = some ⟨[(.object "java/lang/String"), (.object "java/lang/String"), .long], some .boolean⟩ := by decide +kernel
theorem pd_41 : parseMethodDescriptor "(Ljava/lang/String;Ljava/lang/String;JJ)Z" = some ⟨[(.object "java/lang/String"), (.object "java/lang/String"), .long, .long], some .boolean⟩ := by decide +kernel
theorem ef_0_vvvvv (m : MethodId) (x0 : Int64) (x1 : Int64) (x2 : Int64) (x3 : Int64) (x4 : Int32) : entryFrame m #[(.long x0), (.long x1), (.long x2), (.long x3), (.int x4)] maxLocals = mkF m 0 #[.val (.long x0), .second, .val (.long x1), .second, .val (.long x2), .second, .val (.long x3), .second, .val (.int x4), .unset, .unset, .unset, .unset, .unset, .unset, .unset, .unset, .unset, .unset] [] := by first | (simp [entryFrame, mkF, argsToLocals, Value.category, maxLocals]; done) | rfl
theorem r0_1 (l : Launch) (Z : State) (a0 : Array Value) (hw : TW a0 Z) (q1 : Int64) (q2 : Int64) (q3 : Int64) (q4 : Int64) (p5 : Int32) (w6 : Int32) (w7 : Addr) (w8 : Addr) (k9 : ClassId) (u10 : Nat → Int32) (k11 : ClassId) (u12 : Nat → Int32) (w13 : Int32) (x14 : Value) (h0 : Heap) (n0 : Nat) (Z0 : n0 ≤ h0.size) (H0 : Sta Z h0 sK1 sK3 "Z" (.int w6)) (H1 : ¬ (w6 = 0)) (H2 : Sta Z h0 sK5 sK11 "[B" (.ref w7)) (H3 : Sta Z h0 sK5 sK12 "[B" (.ref w8)) (H4 : BA Z h0 w7 k9 .byte (100 : Int32) u10) (H5 : BA Z h0 w8 k11 .byte (100 : Int32) u12) (H6 : u10 = (fun r => Int32.ofNat (48 + r % 10))) (H7 : u12 = (fun r => Int32.ofNat (48 + r / 10))) (H8 : (Jvm.Cond.laysStatic sK5 sK11 "[B").before a0 Z = true) (H9 : (Jvm.Cond.laysStatic sK5 sK12 "[B").before a0 Z = true) (H10 : Sta Z h0 sK17 sK19 "Z" (.int w13)) (H11 : ¬ (w13 = 0)) (H12 : Sta Z h0 sK7 sK9 sK10 x14) (H13 : (x14).isRef = true) (H14 : ¬ ((q1 &&& 4294967295) < 0)) (H15 : (Int32.ofNat (10 + oszL (q1 &&& 4294967295))) = Int32.ofNat (((10 : Int32)).toNatClampNeg + oszL (q1 &&& 4294967295))) (H16 : ∀ i, i < ((10 : Int32)).toNatClampNeg + oszL (q1 &&& 4294967295) → ((otxL (fun i => ([112, 117, 115, 104, 101, 100, 95, 111, 107, 32] : List Int32).getD i 0) 10 (q1 &&& 4294967295))) i = otxL (fun i => ([112, 117, 115, 104, 101, 100, 95, 111, 107, 32] : List Int32).getD i 0) ((10 : Int32)).toNatClampNeg (q1 &&& 4294967295) i) (H17 : ¬ ((lcmpW (q1 &&& 4294967295) (0 : Int64)) < 0)) (H18 : (lcmpW (q1 &&& 4294967295) (q1 &&& 4294967295)) = 0) (H19 : ((q1 &&& 4294967295)).toInt < 4294967296) (H20 : ¬ ((odm (p5 &&& 1) (q2 &&& 9223372036854775807) (0 : Int64)) < 0)) (H21 : (Int32.ofNat (11 + oszL (ops (q1 &&& 4294967295) (odm (p5 &&& 1) (q2 &&& 9223372036854775807) (0 : Int64))))) = Int32.ofNat (((11 : Int32)).toNatClampNeg + oszL (ops (q1 &&& 4294967295) (odm (p5 &&& 1) (q2 &&& 9223372036854775807) (0 : Int64))))) (H22 : ∀ i, i < ((11 : Int32)).toNatClampNeg + oszL (ops (q1 &&& 4294967295) (odm (p5 &&& 1) (q2 &&& 9223372036854775807) (0 : Int64))) → ((otxL (fun i => ([112, 117, 115, 104, 95, 112, 101, 114, 95, 115, 32] : List Int32).getD i 0) 11 (ops (q1 &&& 4294967295) (odm (p5 &&& 1) (q2 &&& 9223372036854775807) (0 : Int64))))) i = otxL (fun i => ([112, 117, 115, 104, 95, 112, 101, 114, 95, 115, 32] : List Int32).getD i 0) ((11 : Int32)).toNatClampNeg (ops (q1 &&& 4294967295) (odm (p5 &&& 1) (q2 &&& 9223372036854775807) (0 : Int64))) i) (H23 : ¬ ((q3 &&& 4294967295) < 0)) (H24 : (Int32.ofNat (8 + oszL (q3 &&& 4294967295))) = Int32.ofNat (((8 : Int32)).toNatClampNeg + oszL (q3 &&& 4294967295))) (H25 : ∀ i, i < ((8 : Int32)).toNatClampNeg + oszL (q3 &&& 4294967295) → ((otxL (fun i => ([100, 114, 97, 105, 110, 101, 100, 32] : List Int32).getD i 0) 8 (q3 &&& 4294967295))) i = otxL (fun i => ([100, 114, 97, 105, 110, 101, 100, 32] : List Int32).getD i 0) ((8 : Int32)).toNatClampNeg (q3 &&& 4294967295) i) (H26 : ¬ ((lcmpW (q3 &&& 4294967295) (0 : Int64)) < 0)) (H27 : (lcmpW (q3 &&& 4294967295) (q3 &&& 4294967295)) = 0) (H28 : ((q3 &&& 4294967295)).toInt < 4294967296) (H29 : ¬ ((odm (p5 &&& 2) (q4 &&& 9223372036854775807) (0 : Int64)) < 0)) (H30 : (Int32.ofNat (17 + oszL (ops (q3 &&& 4294967295) (odm (p5 &&& 2) (q4 &&& 9223372036854775807) (0 : Int64))))) = Int32.ofNat (((17 : Int32)).toNatClampNeg + oszL (ops (q3 &&& 4294967295) (odm (p5 &&& 2) (q4 &&& 9223372036854775807) (0 : Int64))))) (H31 : ∀ i, i < ((17 : Int32)).toNatClampNeg + oszL (ops (q3 &&& 4294967295) (odm (p5 &&& 2) (q4 &&& 9223372036854775807) (0 : Int64))) → ((otxL (fun i => ([112, 111, 112, 95, 102, 105, 110, 105, 115, 104, 95, 112, 101, 114, 95, 115, 32] : List Int32).getD i 0) 17 (ops (q3 &&& 4294967295) (odm (p5 &&& 2) (q4 &&& 9223372036854775807) (0 : Int64))))) i = otxL (fun i => ([112, 111, 112, 95, 102, 105, 110, 105, 115, 104, 95, 112, 101, 114, 95, 115, 32] : List Int32).getD i 0) ((17 : Int32)).toNatClampNeg (ops (q3 &&& 4294967295) (odm (p5 &&& 2) (q4 &&& 9223372036854775807) (0 : Int64))) i) :
   OMetH EL l Z x code maxLocals ret tables_1 room_1 h0 #[(.long q1), (.long q2), (.long q3), (.long q4), (.int p5)] (OQl (some (.int 1)) n0) := by
 refine MetFree.of_bodySF (plainFor_of_name pn_com_example_eta4_eta4_bench_ThroughputFiguresLinesPinLaw) hisR ?_
 intro p e s m args below meth c s₁ Bd hml0 hP hK
 obtain ⟨rfl, hZ, hh, hCH⟩ := hP
 have hx := Bd.exec
 have hby := Bd.bytes
 have hml : c.maxLocals = 19 := hml0
 have hown : s.vm.findClass sK14 = some m.cls := findClass_of_methodNamed Bd.named
 have X0 := own_X0 Bd
 have e0 : s₁.heap = h0 := by rw [← hh, Bd.state]; rfl
 have N0 := Fr.nil n0
 have R0 : CHr Z EL s.vm h0 s.vm h0 := CHr.refl hCH
 have pre0 : ∀ t, Steps p.tables e below (s₁.setTop (mkF m 0 #[vJ q1, vS, vJ q2, vS, vJ q3, vS, vJ q4, vS, vI p5, .unset, .unset, .unset, .unset, .unset, .unset, .unset, .unset, .unset, .unset] [])) t → Steps p.tables e below (s₁.setTop (entryFrame m #[(.long q1), (.long q2), (.long q3), (.long q4), (.int p5)] maxLocals)) t := fun t k => castTop (ef_0_vvvvv m q1 q2 q3 q4 p5) k
 obtain ⟨T15, h15, X15, e15, E15, A15, D15, -, st15⟩ := newO X0 hx hZ hown (tw hw 1 rfl) (tw hw 2 rfl) (tw hw 3 rfl) e0 (g := (mkF m 52 (la76 q1 q2 q3 q4 p5) [])) rfl (hb hby at_52) (by decide) (by decide)
 obtain ⟨b15, g15⟩ : ∃ z, z = h0.size := ⟨_, rfl⟩
 rw [← g15] at A15 D15 st15
 have KC15 := KSx.ext (KSx.refl h0 [] []) E15
 have R15 := CHr.trans R0 (CHr.ext E15 R0.1)
 have g16 : n0 ≤ b15 := Nat.le_trans Z0 (Nat.le_of_eq g15.symm)
 have Z15 : n0 ≤ h15.size := Nat.le_trans Z0 E15.1
 obtain ⟨_, _, ⟨T17, _, _, _⟩, -, X17, ⟨_, hQ, lq, yq, zq⟩, st17⟩ := X15.specialBack hx (y := mN51) rfl hown (mvT hZ (tw hw 4 rfl)) (mvT hZ (tw hw 5 rfl)) (mvT hZ (tw hw 6 rfl)) (by decide) (backOf (W := 1) (r1_1 l Z a0 hw b15 (q1 &&& 4294967295) (odm (p5 &&& 1) (q2 &&& 9223372036854775807) (0 : Int64)) (q3 &&& 4294967295) (odm (p5 &&& 2) (q4 &&& 9223372036854775807) (0 : Int64)) (0 : Int64) (0 : Int64) (0 : Int64) (0 : Int64) h15 n0 Z15 A15 (D15 (Or.inr (tw hw 16 rfl)) (ty := .long) (by decide)) g16 (D15 (Or.inr (tw hw 18 rfl)) (ty := .long) (by decide)) (D15 (Or.inr (tw hw 20 rfl)) (ty := .long) (by decide)) (D15 (Or.inr (tw hw 22 rfl)) (ty := .long) (by decide))) hZ (tw hw 6 rfl) (tw hw 3 rfl) (by decide) (by decide)) (g := (mkF m 64 (la76 q1 q2 q3 q4 p5) [(.long (odm (p5 &&& 2) (q4 &&& 9223372036854775807) (0 : Int64))), (.long (q3 &&& 4294967295)), (.long (odm (p5 &&& 1) (q2 &&& 9223372036854775807) (0 : Int64))), (.long (q1 &&& 4294967295)), (.ref b15), (.ref b15)])) rfl (by rw [hml]; rfl) (Steps.refl _) (a := b15) (argsL := [(.long (q1 &&& 4294967295)), (.long (odm (p5 &&& 1) (q2 &&& 9223372036854775807) (0 : Int64))), (.long (q3 &&& 4294967295)), (.long (odm (p5 &&& 2) (q4 &&& 9223372036854775807) (0 : Int64)))]) (rest := [(.ref b15)]) (lenOf pd_37 rfl) rfl (own_w _) (hb hby at_64) (fun _ _ => ⟨rfl, e15, (by decide : 1 + 0 ≤ _), (by decide : 4 + 0 ≤ _)⟩)
 dsimp only [Pt.U, Pt.locs, Pt.cells, Pt.slots] at X17 lq yq zq st17 hQ
 replace X17 := own_mvX X17 (a := 1) (b := 4) yq zq
 obtain ⟨Nq, rfl, K17, o17_0, o17_1, o17_2, o17_3⟩ := hQ
 have N17 := own_mvN lq N0 Nq
 have z18 : h0.size ≤ b15 := Nat.le_trans (KSx.refl h0 [] []).1 (Nat.le_of_eq g15.symm)
 have KC17 := KSx.trans KC15 K17 (ksS (Or.inr z18) (ksS (Or.inr z18) (ksS (Or.inr z18) (ksS (Or.inr z18) ks0)))) all0
 have R17 := CHr.trans R15 (CHr.ks K17 (ksS (Safe.exa hZ.alike A15 (by decide) (by decide)) (ksS (Safe.exa hZ.alike A15 (by decide) (by decide)) (ksS (Safe.exa hZ.alike A15 (by decide) (by decide)) (ksS (Safe.exa hZ.alike A15 (by decide) (by decide)) ks0)))) all0 R15.1)
 have f19 := ((H0.ext E15).ks K17)
 have f20 := ((H2.ext E15).ks K17)
 have f21 := ((H3.ext E15).ks K17)
 have ne22 : w7 ≠ b15 := (Nat.ne_of_lt (Nat.lt_of_lt_of_le (H4).lt (Nat.le_of_eq g15.symm)))
 have f23 := ((H4.ext E15).ks K17 (ksS ne22 (ksS ne22 (ksS ne22 (ksS ne22 ks0)))) all0)
 have ne24 : w8 ≠ b15 := (Nat.ne_of_lt (Nat.lt_of_lt_of_le (H5).lt (Nat.le_of_eq g15.symm)))
 have f25 := ((H5.ext E15).ks K17 (ksS ne24 (ksS ne24 (ksS ne24 (ksS ne24 ks0)))) all0)
 have f26 := ((H10.ext E15).ks K17)
 have Z17 : n0 ≤ T17.heap.size := Nat.le_trans Z15 K17.1
 have f27 := (A15.ks K17)
 obtain ⟨cq28, kq28, q28a, q28b, q28c⟩ := isOf hZ rfl f27
 obtain ⟨_, _, ⟨T28, _, _, _⟩, -, X28, hs28, hg28, ⟨_, hQ, lq, yq, zq, ch28⟩, st28⟩ := X17.virtualBackS hx (y := mN49) (z := mN49) hown (mvT hZ (tw hw 23 rfl)) (mvT hZ (tw hw 24 rfl)) (notFace_of_selects (args := #[]) (mvT hZ (tw hw 26 rfl))) (mvT hZ (tw hw 26 rfl)) (mvT hZ (tw hw 25 rfl)) (by decide) (backOfSH (s := s) (vm0 := s.vm) (W := 0) (own_lns l Z a0 hw b15 w6 (q1 &&& 4294967295) w7 w8 k9 u10 k11 u12 (odm (p5 &&& 1) (q2 &&& 9223372036854775807) (0 : Int64)) (q3 &&& 4294967295) (odm (p5 &&& 2) (q4 &&& 9223372036854775807) (0 : Int64)) w13 T17.heap n0 Z17 f19 H1 o17_0 f20 f21 f23 f25 H6 H7 H8 H9 o17_1 o17_2 o17_3 f26 H11) hZ (tw hw 27 rfl) (tw hw 3 rfl) (by decide) (by decide) (el_ok hw) R17.1) q28a q28c (g := (mkF m 71 (la78 q1 q2 q3 q4 p5 b15) [(.ref b15)])) rfl (by rw [hml]; rfl) (Steps.refl _) (argsL := []) (rest := []) (lenOf pd_38 rfl) rfl (own_w _) (hb hby at_71) (fun _ _ => ⟨rfl, rfl, (by decide : 1 + 31 ≤ _), (by decide : 4 + 1148 ≤ _)⟩)
 dsimp only [Pt.U, Pt.locs, Pt.cells, Pt.slots] at X28 lq yq zq st28 hQ hs28 hg28
 replace X28 := own_mvX X28 (a := 32) (b := 1152) yq zq
 obtain ⟨Nq, b28_0, b28_1, b28_2, b28_3, b28_4, b28_5, b28_6, b28_7, b28_8, b28_9, k28_0, k28_1, k28_2, k28_3, k28_4, rfl, ge_b28_0, ge_b28_1, ge_b28_2, ge_b28_3, ge_b28_4, ge_b28_5, ge_b28_6, ge_b28_7, ge_b28_8, ge_b28_9, K28, o28_0, o28_1, o28_2, o28_3, o28_4, o28_5, o28_6, o28_7, o28_8, o28_9, o28_10, o28_11, o28_12, o28_13, o28_14, o28_15, o28_16, o28_17, o28_18⟩ := hQ
 have N28 := own_mvN lq N17 Nq
 have KC28 := KSx.trans KC17 K28 ks0 all0
 have R28 := CHr.trans R17 ch28
 have hS28 : s.Since T28.vm T28.heap.size := hs28
 have hZ28 : Z.Warmed39 (s.setVm T28.vm).vm := State.Warmed39.trans (t := s) hZ hs28.1
 have ho28 : (s.setVm T28.vm).vm.findClass sK14 = some m.cls := by rw [show (s.setVm T28.vm).vm = T28.vm from rfl, hs28.1.alike.findClass]; exact hown
 replace X28 : Stand p l e room_1 (s.setVm T28.vm) m #[(.long q1), (.long q2), (.long q3), (.long q4), (.int p5)] below meth c T28 _ _ _ := X28
 have Z28 : n0 ≤ T28.heap.size := Nat.le_trans Z17 K28.1
 obtain ⟨cq29, kq29, q29a, q29b, q29c⟩ := isOf hZ28 rfl o28_0
 obtain ⟨_, _, ⟨T29, _, _, _⟩, -, X29, ⟨_, hQ, lq, yq, zq⟩, st29⟩ := X28.interfaceBack hx (xi := mN53) (y := mN52) ho28 (mvT hZ28 (tw hw 244 rfl)) (mvT hZ28 (tw hw 245 rfl)) (mvT hZ28 (tw hw 246 rfl)) (mvT hZ28 (tw hw 247 rfl)) (mvT hZ28 (tw hw 248 rfl)) (mvT hZ28 (tw hw 249 rfl)) (mvT hZ28 (tw hw 250 rfl)) (mvT hZ28 (tw hw 251 rfl)) (by decide) (backOf (W := 0) (r42_1 l Z a0 hw b28_0 b28_1 k28_0 b28_2 b28_4 b28_6 b28_8 T28.heap n0 Z28 o28_5 o28_6) hZ28 (tw hw 252 rfl) (tw hw 216 rfl) (by decide) (by decide)) q29a q29b q29c (g := (mkF m 78 (la79 q1 q2 q3 q4 p5 b15 b28_0) [(.ref b28_0)])) rfl (by rw [hml]; rfl) (Steps.refl _) (argsL := []) (rest := []) (lenOf pd_5 rfl) rfl (own_w _) (hb hby at_78) (fun _ _ => ⟨rfl, rfl, (by decide : 32 + 0 ≤ _), (by decide : 1152 + 0 ≤ _)⟩)
 dsimp only [Pt.U, Pt.locs, Pt.cells, Pt.slots] at X29 lq yq zq st29 hQ
 replace X29 := own_mvX X29 (a := 32) (b := 1152) yq zq
 obtain ⟨rfl, Nq, e29⟩ := hQ
 have N29 := own_mvN lq N28 Nq
 obtain ⟨cq30, kq30, q30a, q30b, q30c⟩ := isOf hZ28 e29 o28_0
 obtain ⟨_, _, ⟨T30, _, _, _⟩, -, X30, ⟨_, hQ, lq, yq, zq⟩, st30⟩ := X29.interfaceBack hx (xi := mN55) (y := mN54) ho28 (mvT hZ28 (tw hw 253 rfl)) (mvT hZ28 (tw hw 254 rfl)) (mvT hZ28 (tw hw 255 rfl)) (mvT hZ28 (tw hw 256 rfl)) (mvT hZ28 (tw hw 257 rfl)) (mvT hZ28 (tw hw 258 rfl)) (mvT hZ28 (tw hw 259 rfl)) (mvT hZ28 (tw hw 251 rfl)) (by decide) (backOf (W := 0) (r43_1 l Z a0 hw b28_0 (0 : Int32) b28_1 k28_0 b28_2 b28_4 b28_6 b28_8 b28_2 T28.heap n0 Z28 o28_5 o28_6 (by first | decide | rfl) (by first | decide | rfl) rfl) hZ28 (tw hw 260 rfl) (tw hw 216 rfl) (by decide) (by decide)) q30a q30b q30c (g := (mkF m 92 (la79 q1 q2 q3 q4 p5 b15 b28_0) [(.int 0), (.ref b28_0)])) rfl (by rw [hml]; rfl) (Steps.refl _) (argsL := [(.int 0)]) (rest := []) (lenOf pd_39 rfl) rfl (own_w _) (hb hby at_92) (fun _ _ => ⟨rfl, e29, (by decide : 32 + 0 ≤ _), (by decide : 1152 + 0 ≤ _)⟩)
 dsimp only [Pt.U, Pt.locs, Pt.cells, Pt.slots] at X30 lq yq zq st30 hQ
 replace X30 := own_mvX X30 (a := 32) (b := 1152) yq zq
 obtain ⟨rfl, Nq, e30⟩ := hQ
 have N30 := own_mvN lq N29 Nq
 obtain ⟨T31, X31, e31, st31⟩ := castY X30 hx hZ28 ho28 (tw hw 261 rfl) e30 (Ins.self o28_1) (g := (mkF m 97 (la79 q1 q2 q3 q4 p5 b15 b28_0) [(.ref b28_2)])) rfl rfl (hb hby at_97)
 obtain ⟨b32, T32, h32, j32, b32_1, k32, X32, e32, E32, hS32, hk32, hZ32, ho32, A32, Fc32, Fv32, V32, lt32, lu32, ch32, -, sx32, st32⟩ := ldcCH (s := s) X31 hx hZ28 ho28 (tw hw 262 rfl) (fun d hd => hw d (str_in d hd)) e31 hS28 (Nat.le_refl _) (el_ok hw) (List.mem_of_getElem? (i := 4) rfl) R28.1 (vs := [(.int 112), (.int 117), (.int 115), (.int 104), (.int 101), (.int 100), (.int 95), (.int 111), (.int 107), (.int 32)]) (z := (10 : Int32)) ⟨by decide, by decide +kernel⟩ (by decide) rfl (g := (mkF m 100 (la79 q1 q2 q3 q4 p5 b15 b28_0) [(.ref b28_2)])) rfl (hb hby at_100) (n := 40) (by decide) (by decide) (by decide) (by decide)
 have KC32 := KSx.ext KC28 E32
 have R32 := CHr.trans R28 ch32
 have Bl32 : BA Z h32 b32_1 k32 .byte (10 : Int32) (fun i => ([112, 117, 115, 104, 101, 100, 95, 111, 107, 32] : List Int32).getD i 0) := BA.of_arv V32 (fun i hi => by match i, hi with | 0, _ => rfl | 1, _ => rfl | 2, _ => rfl | 3, _ => rfl | 4, _ => rfl | 5, _ => rfl | 6, _ => rfl | 7, _ => rfl | 8, _ => rfl | 9, _ => rfl | _ + 10, hi => exact absurd hi (by simp only [show (10 : Int32).toNatClampNeg = 10 from rfl]; omega))
 have f33 := ((f19.ks K28).ext E32)
 have f34 := (o28_8.ext E32)
 have f35 := (o28_1.ext E32)
 have f36 := (o28_7.ext E32)
 have f37 := (o28_9.ext E32)
 have f38 := ((((H12.ext E15).ks K17).ks K28).ext E32)
 have Z32 : n0 ≤ h32.size := Nat.le_trans Z28 E32.1
 obtain ⟨_, _, ⟨T39, _, _, _⟩, -, X39, ⟨_, hQ, lq, yq, zq⟩, st39⟩ := Jvm.LawKit.callS X32 hx (y := mN56) ho32 (mvT hZ32 (tw hw 263 rfl)) (mvT hZ32 (tw hw 264 rfl)) (mvT hZ32 (tw hw 265 rfl)) (mvT hZ32 (tw hw 266 rfl)) (by decide) (backOf (W := 0) (r44_1 l Z a0 hw b28_2 b32 (q1 &&& 4294967295) w6 (0 : Int32) b28_3 k28_1 _ (Int32.ofNat (10 + oszL (q1 &&& 4294967295))) x14 (0 : Int32) b32_1 k32 _ (10 : Int32) h32 n0 Z32 f33 H1 f34 rfl f35 f36 f37 f38 H13 Fc32 rfl A32 Fv32 Bl32 H14 (by first | decide | rfl) H15 H16 H17 H18) hZ32 (tw hw 266 rfl) (tw hw 265 rfl) (by decide) (by decide)) (g := (mkF m 104 (la79 q1 q2 q3 q4 p5 b15 b28_0) [(.long (q1 &&& 4294967295)), (.ref b32), (.ref b28_2)])) rfl (by rw [hml]; rfl) (argsL := [(.ref b28_2), (.ref b32), (.long (q1 &&& 4294967295))]) (rest := []) (lenOf pd_40 rfl) rfl (own_w _) (hb hby at_104) (fun _ _ => ⟨rfl, e32, (by decide : 34 + 0 ≤ _), (by decide : 1196 + 0 ≤ _)⟩)
 dsimp only [Pt.U, Pt.locs, Pt.cells, Pt.slots] at X39 lq yq zq st39 hQ
 replace X39 := own_mvX X39 (a := 34) (b := 1196) yq zq
 obtain ⟨rfl, Nq, e39⟩ := hQ
 have N39 := own_mvN lq N30 Nq
 have f40 := (o28_5.ext E32)
 have f41 := (o28_6.ext E32)
 have f42 := (o28_0.ext E32)
 obtain ⟨cq43, kq43, q43a, q43b, q43c⟩ := isOf hZ32 e39 f42
 obtain ⟨_, _, ⟨T43, _, _, _⟩, -, X43, ⟨_, hQ, lq, yq, zq⟩, st43⟩ := X39.interfaceBack hx (xi := mN55) (y := mN54) ho32 (mvT hZ32 (tw hw 253 rfl)) (mvT hZ32 (tw hw 254 rfl)) (mvT hZ32 (tw hw 255 rfl)) (mvT hZ32 (tw hw 256 rfl)) (mvT hZ32 (tw hw 257 rfl)) (mvT hZ32 (tw hw 258 rfl)) (mvT hZ32 (tw hw 259 rfl)) (mvT hZ32 (tw hw 251 rfl)) (by decide) (backOf (W := 0) (r43_1 l Z a0 hw b28_0 (1 : Int32) b28_1 k28_0 b28_2 b28_4 b28_6 b28_8 b28_4 h32 n0 Z32 f40 f41 (by first | decide | rfl) (by first | decide | rfl) rfl) hZ32 (tw hw 260 rfl) (tw hw 216 rfl) (by decide) (by decide)) q43a q43b q43c (g := (mkF m 113 (la79 q1 q2 q3 q4 p5 b15 b28_0) [(.int 1), (.ref b28_0)])) rfl (by rw [hml]; rfl) (Steps.refl _) (argsL := [(.int 1)]) (rest := []) (lenOf pd_39 rfl) rfl (own_w _) (hb hby at_113) (fun _ _ => ⟨rfl, e39, (by decide : 34 + 0 ≤ _), (by decide : 1196 + 0 ≤ _)⟩)
 dsimp only [Pt.U, Pt.locs, Pt.cells, Pt.slots] at X43 lq yq zq st43 hQ
 replace X43 := own_mvX X43 (a := 34) (b := 1196) yq zq
 obtain ⟨rfl, Nq, e43⟩ := hQ
 have N43 := own_mvN lq N39 Nq
 have f44 := (o28_2.ext E32)
 obtain ⟨T45, X45, e45, st45⟩ := castY X43 hx hZ32 ho32 (tw hw 261 rfl) e43 (Ins.self f44) (g := (mkF m 118 (la79 q1 q2 q3 q4 p5 b15 b28_0) [(.ref b28_4)])) rfl rfl (hb hby at_118)
 obtain ⟨b46, T46, h46, j46, b46_1, k46, X46, e46, E46, hS46, hk46, hZ46, ho46, A46, Fc46, Fv46, V46, lt46, lu46, ch46, -, sx46, st46⟩ := ldcCH (s := s) X45 hx hZ32 ho32 (tw hw 306 rfl) (fun d hd => hw d (str_in d hd)) e45 hS32 hk32 (el_ok hw) (List.mem_of_getElem? (i := 5) rfl) R32.1 (vs := [(.int 112), (.int 117), (.int 115), (.int 104), (.int 95), (.int 112), (.int 101), (.int 114), (.int 95), (.int 115), (.int 32)]) (z := (11 : Int32)) ⟨by decide, by decide +kernel⟩ (by decide) rfl (g := (mkF m 121 (la79 q1 q2 q3 q4 p5 b15 b28_0) [(.ref b28_4)])) rfl (hb hby at_121) (n := 44) (by decide) (by decide) (by decide) (by decide)
 have KC46 := KSx.ext KC32 E46
 have R46 := CHr.trans R32 ch46
 have Bl46 : BA Z h46 b46_1 k46 .byte (11 : Int32) (fun i => ([112, 117, 115, 104, 95, 112, 101, 114, 95, 115, 32] : List Int32).getD i 0) := BA.of_arv V46 (fun i hi => by match i, hi with | 0, _ => rfl | 1, _ => rfl | 2, _ => rfl | 3, _ => rfl | 4, _ => rfl | 5, _ => rfl | 6, _ => rfl | 7, _ => rfl | 8, _ => rfl | 9, _ => rfl | 10, _ => rfl | _ + 11, hi => exact absurd hi (by simp only [show (11 : Int32).toNatClampNeg = 11 from rfl]; omega))
 have f47 := (f33.ext E46)
 have f48 := ((o28_11.ext E32).ext E46)
 have f49 := (f44.ext E46)
 have f50 := ((o28_10.ext E32).ext E46)
 have f51 := ((o28_12.ext E32).ext E46)
 have f52 := (f38.ext E46)
 have Z46 : n0 ≤ h46.size := Nat.le_trans Z32 E46.1
 obtain ⟨_, _, ⟨T53, _, _, _⟩, -, X53, ⟨_, hQ, lq, yq, zq⟩, st53⟩ := Jvm.LawKit.callS X46 hx (y := mN34) ho46 (mvT hZ46 (tw hw 307 rfl)) (mvT hZ46 (tw hw 308 rfl)) (mvT hZ46 (tw hw 265 rfl)) (mvT hZ46 (tw hw 309 rfl)) (by decide) (backOf (W := 0) (own_rtl l Z a0 hw b28_4 w6 (0 : Int32) b28_5 k28_2 (Int32.ofNat (11 + oszL (ops (q1 &&& 4294967295) (odm (p5 &&& 1) (q2 &&& 9223372036854775807) (0 : Int64))))) _ x14 b46 (0 : Int32) b46_1 k46 (11 : Int32) _ (q1 &&& 4294967295) (odm (p5 &&& 1) (q2 &&& 9223372036854775807) (0 : Int64)) h46 n0 Z46 f47 H1 f48 rfl f49 f50 f51 f52 H13 Fc46 rfl A46 Fv46 Bl46 H14 H19 H20 (by first | decide | rfl) H21 H22) hZ46 (tw hw 309 rfl) (tw hw 265 rfl) (by decide) (by decide)) (g := (mkF m 127 (la79 q1 q2 q3 q4 p5 b15 b28_0) [(.long (odm (p5 &&& 1) (q2 &&& 9223372036854775807) (0 : Int64))), (.long (q1 &&& 4294967295)), (.ref b46), (.ref b28_4)])) rfl (by rw [hml]; rfl) (argsL := [(.ref b28_4), (.ref b46), (.long (q1 &&& 4294967295)), (.long (odm (p5 &&& 1) (q2 &&& 9223372036854775807) (0 : Int64)))]) (rest := []) (lenOf pd_41 rfl) rfl (own_w _) (hb hby at_127) (fun _ _ => ⟨rfl, e46, (by decide : 36 + 0 ≤ _), (by decide : 1244 + 0 ≤ _)⟩)
 dsimp only [Pt.U, Pt.locs, Pt.cells, Pt.slots] at X53 lq yq zq st53 hQ
 replace X53 := own_mvX X53 (a := 36) (b := 1244) yq zq
 obtain ⟨rfl, Nq, e53⟩ := hQ
 have N53 := own_mvN lq N43 Nq
 have f54 := (f40.ext E46)
 have f55 := (f41.ext E46)
 have f56 := (f42.ext E46)
 obtain ⟨cq57, kq57, q57a, q57b, q57c⟩ := isOf hZ46 e53 f56
 obtain ⟨_, _, ⟨T57, _, _, _⟩, -, X57, ⟨_, hQ, lq, yq, zq⟩, st57⟩ := X53.interfaceBack hx (xi := mN55) (y := mN54) ho46 (mvT hZ46 (tw hw 253 rfl)) (mvT hZ46 (tw hw 254 rfl)) (mvT hZ46 (tw hw 255 rfl)) (mvT hZ46 (tw hw 256 rfl)) (mvT hZ46 (tw hw 257 rfl)) (mvT hZ46 (tw hw 258 rfl)) (mvT hZ46 (tw hw 259 rfl)) (mvT hZ46 (tw hw 251 rfl)) (by decide) (backOf (W := 0) (r43_1 l Z a0 hw b28_0 (2 : Int32) b28_1 k28_0 b28_2 b28_4 b28_6 b28_8 b28_6 h46 n0 Z46 f54 f55 (by first | decide | rfl) (by first | decide | rfl) rfl) hZ46 (tw hw 260 rfl) (tw hw 216 rfl) (by decide) (by decide)) q57a q57b q57c (g := (mkF m 136 (la79 q1 q2 q3 q4 p5 b15 b28_0) [(.int 2), (.ref b28_0)])) rfl (by rw [hml]; rfl) (Steps.refl _) (argsL := [(.int 2)]) (rest := []) (lenOf pd_39 rfl) rfl (own_w _) (hb hby at_136) (fun _ _ => ⟨rfl, e53, (by decide : 36 + 0 ≤ _), (by decide : 1244 + 0 ≤ _)⟩)
 dsimp only [Pt.U, Pt.locs, Pt.cells, Pt.slots] at X57 lq yq zq st57 hQ
 replace X57 := own_mvX X57 (a := 36) (b := 1244) yq zq
 obtain ⟨rfl, Nq, e57⟩ := hQ
 have N57 := own_mvN lq N53 Nq
 have f58 := ((o28_3.ext E32).ext E46)
 obtain ⟨T59, X59, e59, st59⟩ := castY X57 hx hZ46 ho46 (tw hw 261 rfl) e57 (Ins.self f58) (g := (mkF m 141 (la79 q1 q2 q3 q4 p5 b15 b28_0) [(.ref b28_6)])) rfl rfl (hb hby at_141)
 obtain ⟨b60, T60, h60, j60, b60_1, k60, X60, e60, E60, hS60, hk60, hZ60, ho60, A60, Fc60, Fv60, V60, lt60, lu60, ch60, -, sx60, st60⟩ := ldcCH (s := s) X59 hx hZ46 ho46 (tw hw 310 rfl) (fun d hd => hw d (str_in d hd)) e59 hS46 hk46 (el_ok hw) (List.mem_of_getElem? (i := 6) rfl) R46.1 (vs := [(.int 100), (.int 114), (.int 97), (.int 105), (.int 110), (.int 101), (.int 100), (.int 32)]) (z := (8 : Int32)) ⟨by decide, by decide +kernel⟩ (by decide) rfl (g := (mkF m 144 (la79 q1 q2 q3 q4 p5 b15 b28_0) [(.ref b28_6)])) rfl (hb hby at_144) (n := 32) (by decide) (by decide) (by decide) (by decide)
 have KC60 := KSx.ext KC46 E60
 have R60 := CHr.trans R46 ch60
 have Bl60 : BA Z h60 b60_1 k60 .byte (8 : Int32) (fun i => ([100, 114, 97, 105, 110, 101, 100, 32] : List Int32).getD i 0) := BA.of_arv V60 (fun i hi => by match i, hi with | 0, _ => rfl | 1, _ => rfl | 2, _ => rfl | 3, _ => rfl | 4, _ => rfl | 5, _ => rfl | 6, _ => rfl | 7, _ => rfl | _ + 8, hi => exact absurd hi (by simp only [show (8 : Int32).toNatClampNeg = 8 from rfl]; omega))
 have f61 := (f47.ext E60)
 have f62 := (((o28_14.ext E32).ext E46).ext E60)
 have f63 := (f58.ext E60)
 have f64 := (((o28_13.ext E32).ext E46).ext E60)
 have f65 := (((o28_15.ext E32).ext E46).ext E60)
 have f66 := (f52.ext E60)
 have Z60 : n0 ≤ h60.size := Nat.le_trans Z46 E60.1
 obtain ⟨_, _, ⟨T67, _, _, _⟩, -, X67, ⟨_, hQ, lq, yq, zq⟩, st67⟩ := Jvm.LawKit.callS X60 hx (y := mN56) ho60 (mvT hZ60 (tw hw 263 rfl)) (mvT hZ60 (tw hw 264 rfl)) (mvT hZ60 (tw hw 265 rfl)) (mvT hZ60 (tw hw 266 rfl)) (by decide) (backOf (W := 0) (r44_1 l Z a0 hw b28_6 b60 (q3 &&& 4294967295) w6 (0 : Int32) b28_7 k28_3 _ (Int32.ofNat (8 + oszL (q3 &&& 4294967295))) x14 (0 : Int32) b60_1 k60 _ (8 : Int32) h60 n0 Z60 f61 H1 f62 rfl f63 f64 f65 f66 H13 Fc60 rfl A60 Fv60 Bl60 H23 (by first | decide | rfl) H24 H25 H26 H27) hZ60 (tw hw 266 rfl) (tw hw 265 rfl) (by decide) (by decide)) (g := (mkF m 148 (la79 q1 q2 q3 q4 p5 b15 b28_0) [(.long (q3 &&& 4294967295)), (.ref b60), (.ref b28_6)])) rfl (by rw [hml]; rfl) (argsL := [(.ref b28_6), (.ref b60), (.long (q3 &&& 4294967295))]) (rest := []) (lenOf pd_40 rfl) rfl (own_w _) (hb hby at_148) (fun _ _ => ⟨rfl, e60, (by decide : 38 + 0 ≤ _), (by decide : 1280 + 0 ≤ _)⟩)
 dsimp only [Pt.U, Pt.locs, Pt.cells, Pt.slots] at X67 lq yq zq st67 hQ
 replace X67 := own_mvX X67 (a := 38) (b := 1280) yq zq
 obtain ⟨rfl, Nq, e67⟩ := hQ
 have N67 := own_mvN lq N57 Nq
 have f68 := (f54.ext E60)
 have f69 := (f55.ext E60)
 have f70 := (f56.ext E60)
 obtain ⟨cq71, kq71, q71a, q71b, q71c⟩ := isOf hZ60 e67 f70
 obtain ⟨_, _, ⟨T71, _, _, _⟩, -, X71, ⟨_, hQ, lq, yq, zq⟩, st71⟩ := X67.interfaceBack hx (xi := mN55) (y := mN54) ho60 (mvT hZ60 (tw hw 253 rfl)) (mvT hZ60 (tw hw 254 rfl)) (mvT hZ60 (tw hw 255 rfl)) (mvT hZ60 (tw hw 256 rfl)) (mvT hZ60 (tw hw 257 rfl)) (mvT hZ60 (tw hw 258 rfl)) (mvT hZ60 (tw hw 259 rfl)) (mvT hZ60 (tw hw 251 rfl)) (by decide) (backOf (W := 0) (r43_1 l Z a0 hw b28_0 (3 : Int32) b28_1 k28_0 b28_2 b28_4 b28_6 b28_8 b28_8 h60 n0 Z60 f68 f69 (by first | decide | rfl) (by first | decide | rfl) rfl) hZ60 (tw hw 260 rfl) (tw hw 216 rfl) (by decide) (by decide)) q71a q71b q71c (g := (mkF m 157 (la79 q1 q2 q3 q4 p5 b15 b28_0) [(.int 3), (.ref b28_0)])) rfl (by rw [hml]; rfl) (Steps.refl _) (argsL := [(.int 3)]) (rest := []) (lenOf pd_39 rfl) rfl (own_w _) (hb hby at_157) (fun _ _ => ⟨rfl, e67, (by decide : 38 + 0 ≤ _), (by decide : 1280 + 0 ≤ _)⟩)
 dsimp only [Pt.U, Pt.locs, Pt.cells, Pt.slots] at X71 lq yq zq st71 hQ
 replace X71 := own_mvX X71 (a := 38) (b := 1280) yq zq
 obtain ⟨rfl, Nq, e71⟩ := hQ
 have N71 := own_mvN lq N67 Nq
 have f72 := (((o28_4.ext E32).ext E46).ext E60)
 obtain ⟨T73, X73, e73, st73⟩ := castY X71 hx hZ60 ho60 (tw hw 261 rfl) e71 (Ins.self f72) (g := (mkF m 162 (la79 q1 q2 q3 q4 p5 b15 b28_0) [(.ref b28_8)])) rfl rfl (hb hby at_162)
 obtain ⟨b74, T74, h74, j74, b74_1, k74, X74, e74, E74, hS74, hk74, hZ74, ho74, A74, Fc74, Fv74, V74, lt74, lu74, ch74, -, sx74, st74⟩ := ldcCH (s := s) X73 hx hZ60 ho60 (tw hw 311 rfl) (fun d hd => hw d (str_in d hd)) e73 hS60 hk60 (el_ok hw) (List.mem_of_getElem? (i := 7) rfl) R60.1 (vs := [(.int 112), (.int 111), (.int 112), (.int 95), (.int 102), (.int 105), (.int 110), (.int 105), (.int 115), (.int 104), (.int 95), (.int 112), (.int 101), (.int 114), (.int 95), (.int 115), (.int 32)]) (z := (17 : Int32)) ⟨by decide, by decide +kernel⟩ (by decide) rfl (g := (mkF m 165 (la79 q1 q2 q3 q4 p5 b15 b28_0) [(.ref b28_8)])) rfl (hb hby at_165) (n := 68) (by decide) (by decide) (by decide) (by decide)
 have KC74 := KSx.ext KC60 E74
 have R74 := CHr.trans R60 ch74
 have Bl74 : BA Z h74 b74_1 k74 .byte (17 : Int32) (fun i => ([112, 111, 112, 95, 102, 105, 110, 105, 115, 104, 95, 112, 101, 114, 95, 115, 32] : List Int32).getD i 0) := BA.of_arv V74 (fun i hi => by match i, hi with | 0, _ => rfl | 1, _ => rfl | 2, _ => rfl | 3, _ => rfl | 4, _ => rfl | 5, _ => rfl | 6, _ => rfl | 7, _ => rfl | 8, _ => rfl | 9, _ => rfl | 10, _ => rfl | 11, _ => rfl | 12, _ => rfl | 13, _ => rfl | 14, _ => rfl | 15, _ => rfl | 16, _ => rfl | _ + 17, hi => exact absurd hi (by simp only [show (17 : Int32).toNatClampNeg = 17 from rfl]; omega))
 have f75 := (f61.ext E74)
 have f76 := ((((o28_17.ext E32).ext E46).ext E60).ext E74)
 have f77 := (f72.ext E74)
 have f78 := ((((o28_16.ext E32).ext E46).ext E60).ext E74)
 have f79 := ((((o28_18.ext E32).ext E46).ext E60).ext E74)
 have f80 := (f66.ext E74)
 have Z74 : n0 ≤ h74.size := Nat.le_trans Z60 E74.1
 obtain ⟨_, _, ⟨T81, _, _, _⟩, -, X81, ⟨_, hQ, lq, yq, zq⟩, st81⟩ := Jvm.LawKit.callS X74 hx (y := mN34) ho74 (mvT hZ74 (tw hw 307 rfl)) (mvT hZ74 (tw hw 308 rfl)) (mvT hZ74 (tw hw 265 rfl)) (mvT hZ74 (tw hw 309 rfl)) (by decide) (backOf (W := 0) (own_rtl l Z a0 hw b28_8 w6 (0 : Int32) b28_9 k28_4 (Int32.ofNat (17 + oszL (ops (q3 &&& 4294967295) (odm (p5 &&& 2) (q4 &&& 9223372036854775807) (0 : Int64))))) _ x14 b74 (0 : Int32) b74_1 k74 (17 : Int32) _ (q3 &&& 4294967295) (odm (p5 &&& 2) (q4 &&& 9223372036854775807) (0 : Int64)) h74 n0 Z74 f75 H1 f76 rfl f77 f78 f79 f80 H13 Fc74 rfl A74 Fv74 Bl74 H23 H28 H29 (by first | decide | rfl) H30 H31) hZ74 (tw hw 309 rfl) (tw hw 265 rfl) (by decide) (by decide)) (g := (mkF m 171 (la79 q1 q2 q3 q4 p5 b15 b28_0) [(.long (odm (p5 &&& 2) (q4 &&& 9223372036854775807) (0 : Int64))), (.long (q3 &&& 4294967295)), (.ref b74), (.ref b28_8)])) rfl (by rw [hml]; rfl) (argsL := [(.ref b28_8), (.ref b74), (.long (q3 &&& 4294967295)), (.long (odm (p5 &&& 2) (q4 &&& 9223372036854775807) (0 : Int64)))]) (rest := []) (lenOf pd_41 rfl) rfl (own_w _) (hb hby at_171) (fun _ _ => ⟨rfl, e74, (by decide : 40 + 0 ≤ _), (by decide : 1352 + 0 ≤ _)⟩)
 dsimp only [Pt.U, Pt.locs, Pt.cells, Pt.slots] at X81 lq yq zq st81 hQ
 replace X81 := own_mvX X81 (a := 40) (b := 1352) yq zq
 obtain ⟨rfl, Nq, e81⟩ := hQ
 have N81 := own_mvN lq N71 Nq
 obtain ⟨fs, hr, hrun, hended, hR82, hR83, hR84, hR85⟩ := X81.leaveW (s := s) hS74 (by rw [e81]; exact hk74) (v := some (.int 1)) (fun h => by rw [Bd.returns] at h; cases h)
 refine ⟨_, _, pre0 _ ?_, hrun, hended, _, _, rfl, ?_, ?_, hR82, hR83, hR84, hR85.mono (by decide) (by decide)⟩
 · show SG p e below s₁ (mkF m 0 (la72 q1 q2 q3 q4 p5) []) _
   refine XS.lloadN X0.here hx rfl (hb hby at_0) rfl ?_
   show SG p e below s₁ (mkF m 1 (la72 q1 q2 q3 q4 p5) [(.long q1)]) _
   refine X0.ldc2Long hx hown (mvT hZ (tw hw 0 rfl)) (g := (mkF m 1 (la72 q1 q2 q3 q4 p5) [(.long q1)])) rfl (hb hby at_1) _ ?_
   show SG p e below s₁ (mkF m 4 (la72 q1 q2 q3 q4 p5) [(.long 4294967295), (.long q1)]) _
   refine XS.land X0.here hx rfl (hb hby at_4) rfl ?_
   show SG p e below s₁ (mkF m 5 (la72 q1 q2 q3 q4 p5) [(.long (q1 &&& 4294967295))]) _
   refine XS.lstore X0.here hx rfl (hb hby at_5) rfl (l' := #[vJ q1, vS, vJ q2, vS, vJ q3, vS, vJ q4, vS, vI p5, vJ (q1 &&& 4294967295), vS, vU, vU, vU, vU, vU, vU, vU, vU]) rfl ?_
   show SG p e below s₁ (mkF m 7 (la73 q1 q2 q3 q4 p5) []) _
   refine XS.iload X0.here hx rfl (hb hby at_7) rfl ?_
   refine XS.iconst X0.here hx rfl (hb hby at_9) ?_
   show SG p e below s₁ (mkF m 10 (la73 q1 q2 q3 q4 p5) [(.int 1), (.int p5)]) _
   refine XS.iand X0.here hx rfl (hb hby at_10) rfl ?_
   show SG p e below s₁ (mkF m 11 (la73 q1 q2 q3 q4 p5) [(.int (p5 &&& 1))]) _
   have dm86 : ∀ t, SG p e below s₁ (mkF m 23 (la73 q1 q2 q3 q4 p5) [(.long (odm (p5 &&& 1) (q2 &&& 9223372036854775807) (0 : Int64)))]) t → SG p e below s₁ (mkF m 11 (la73 q1 q2 q3 q4 p5) [(.int (p5 &&& 1))]) t := by
     intro t k
     by_cases hc : (p5 &&& 1) = 0
     · rw [show (odm (p5 &&& 1) (q2 &&& 9223372036854775807) (0 : Int64)) = (q2 &&& 9223372036854775807) from if_pos hc] at k
       refine XS.ifYes X0.here hx rfl (pc0 := 11) (pc' := 18) rfl (hb hby at_11) rfl ((if0 _ _).trans (teq hc).1) (by decide) (by decide) ?_
       show SG p e below s₁ (mkF m 18 (la73 q1 q2 q3 q4 p5) []) _
       refine XS.lloadN X0.here hx rfl (hb hby at_18) rfl ?_
       show SG p e below s₁ (mkF m 19 (la73 q1 q2 q3 q4 p5) [(.long q2)]) _
       refine X0.ldc2Long hx hown (mvT hZ (tw hw 312 rfl)) (g := (mkF m 19 (la73 q1 q2 q3 q4 p5) [(.long q2)])) rfl (hb hby at_19) _ ?_
       show SG p e below s₁ (mkF m 22 (la73 q1 q2 q3 q4 p5) [(.long 9223372036854775807), (.long q2)]) _
       refine XS.land X0.here hx rfl (hb hby at_22) rfl ?_
       exact k
     · rw [show (odm (p5 &&& 1) (q2 &&& 9223372036854775807) (0 : Int64)) = 0 from if_neg hc] at k
       refine XS.ifNo X0.here hx rfl (hb hby at_11) rfl ((if0 _ _).trans (feq hc).1) ?_
       show SG p e below s₁ (mkF m 14 (la73 q1 q2 q3 q4 p5) []) _
       refine XS.lconst X0.here hx rfl (hb hby at_14) ?_
       refine XS.goto X0.here hx rfl (pc0 := 15) (pc' := 23) rfl (hb hby at_15) (by decide) (by decide) ?_
       exact k
   refine dm86 _ ?_
   show SG p e below s₁ (mkF m 23 (la73 q1 q2 q3 q4 p5) [(.long (odm (p5 &&& 1) (q2 &&& 9223372036854775807) (0 : Int64)))]) _
   refine XS.lstore X0.here hx rfl (hb hby at_23) rfl (l' := #[vJ q1, vS, vJ q2, vS, vJ q3, vS, vJ q4, vS, vI p5, vJ (q1 &&& 4294967295), vS, vJ (odm (p5 &&& 1) (q2 &&& 9223372036854775807) (0 : Int64)), vS, vU, vU, vU, vU, vU, vU]) rfl ?_
   show SG p e below s₁ (mkF m 25 (la74 q1 q2 q3 q4 p5) []) _
   refine XS.lload X0.here hx rfl (hb hby at_25) rfl ?_
   show SG p e below s₁ (mkF m 27 (la74 q1 q2 q3 q4 p5) [(.long q3)]) _
   refine X0.ldc2Long hx hown (mvT hZ (tw hw 0 rfl)) (g := (mkF m 27 (la74 q1 q2 q3 q4 p5) [(.long q3)])) rfl (hb hby at_27) _ ?_
   show SG p e below s₁ (mkF m 30 (la74 q1 q2 q3 q4 p5) [(.long 4294967295), (.long q3)]) _
   refine XS.land X0.here hx rfl (hb hby at_30) rfl ?_
   show SG p e below s₁ (mkF m 31 (la74 q1 q2 q3 q4 p5) [(.long (q3 &&& 4294967295))]) _
   refine XS.lstore X0.here hx rfl (hb hby at_31) rfl (l' := #[vJ q1, vS, vJ q2, vS, vJ q3, vS, vJ q4, vS, vI p5, vJ (q1 &&& 4294967295), vS, vJ (odm (p5 &&& 1) (q2 &&& 9223372036854775807) (0 : Int64)), vS, vJ (q3 &&& 4294967295), vS, vU, vU, vU, vU]) rfl ?_
   show SG p e below s₁ (mkF m 33 (la75 q1 q2 q3 q4 p5) []) _
   refine XS.iload X0.here hx rfl (hb hby at_33) rfl ?_
   refine XS.iconst X0.here hx rfl (hb hby at_35) ?_
   show SG p e below s₁ (mkF m 36 (la75 q1 q2 q3 q4 p5) [(.int 2), (.int p5)]) _
   refine XS.iand X0.here hx rfl (hb hby at_36) rfl ?_
   show SG p e below s₁ (mkF m 37 (la75 q1 q2 q3 q4 p5) [(.int (p5 &&& 2))]) _
   have dm87 : ∀ t, SG p e below s₁ (mkF m 50 (la75 q1 q2 q3 q4 p5) [(.long (odm (p5 &&& 2) (q4 &&& 9223372036854775807) (0 : Int64)))]) t → SG p e below s₁ (mkF m 37 (la75 q1 q2 q3 q4 p5) [(.int (p5 &&& 2))]) t := by
     intro t k
     by_cases hc : (p5 &&& 2) = 0
     · rw [show (odm (p5 &&& 2) (q4 &&& 9223372036854775807) (0 : Int64)) = (q4 &&& 9223372036854775807) from if_pos hc] at k
       refine XS.ifYes X0.here hx rfl (pc0 := 37) (pc' := 44) rfl (hb hby at_37) rfl ((if0 _ _).trans (teq hc).1) (by decide) (by decide) ?_
       show SG p e below s₁ (mkF m 44 (la75 q1 q2 q3 q4 p5) []) _
       refine XS.lload X0.here hx rfl (hb hby at_44) rfl ?_
       show SG p e below s₁ (mkF m 46 (la75 q1 q2 q3 q4 p5) [(.long q4)]) _
       refine X0.ldc2Long hx hown (mvT hZ (tw hw 312 rfl)) (g := (mkF m 46 (la75 q1 q2 q3 q4 p5) [(.long q4)])) rfl (hb hby at_46) _ ?_
       show SG p e below s₁ (mkF m 49 (la75 q1 q2 q3 q4 p5) [(.long 9223372036854775807), (.long q4)]) _
       refine XS.land X0.here hx rfl (hb hby at_49) rfl ?_
       exact k
     · rw [show (odm (p5 &&& 2) (q4 &&& 9223372036854775807) (0 : Int64)) = 0 from if_neg hc] at k
       refine XS.ifNo X0.here hx rfl (hb hby at_37) rfl ((if0 _ _).trans (feq hc).1) ?_
       show SG p e below s₁ (mkF m 40 (la75 q1 q2 q3 q4 p5) []) _
       refine XS.lconst X0.here hx rfl (hb hby at_40) ?_
       refine XS.goto X0.here hx rfl (pc0 := 41) (pc' := 50) rfl (hb hby at_41) (by decide) (by decide) ?_
       exact k
   refine dm87 _ ?_
   show SG p e below s₁ (mkF m 50 (la75 q1 q2 q3 q4 p5) [(.long (odm (p5 &&& 2) (q4 &&& 9223372036854775807) (0 : Int64)))]) _
   refine XS.lstore X0.here hx rfl (hb hby at_50) rfl (l' := #[vJ q1, vS, vJ q2, vS, vJ q3, vS, vJ q4, vS, vI p5, vJ (q1 &&& 4294967295), vS, vJ (odm (p5 &&& 1) (q2 &&& 9223372036854775807) (0 : Int64)), vS, vJ (q3 &&& 4294967295), vS, vJ (odm (p5 &&& 2) (q4 &&& 9223372036854775807) (0 : Int64)), vS, vU, vU]) rfl ?_
   show SG p e below s₁ (mkF m 52 (la76 q1 q2 q3 q4 p5) []) _
   refine st15 _ ?_
   show SG p e below T15 (mkF m 55 (la76 q1 q2 q3 q4 p5) [(.ref b15)]) _
   refine XS.dup X15.here hx rfl (hb hby at_55) rfl rfl ?_
   refine XS.lload X15.here hx rfl (hb hby at_56) rfl ?_
   show SG p e below T15 (mkF m 58 (la76 q1 q2 q3 q4 p5) [(.long (q1 &&& 4294967295)), (.ref b15), (.ref b15)]) _
   refine XS.lload X15.here hx rfl (hb hby at_58) rfl ?_
   refine XS.lload X15.here hx rfl (hb hby at_60) rfl ?_
   show SG p e below T15 (mkF m 62 (la76 q1 q2 q3 q4 p5) [(.long (q3 &&& 4294967295)), (.long (odm (p5 &&& 1) (q2 &&& 9223372036854775807) (0 : Int64))), (.long (q1 &&& 4294967295)), (.ref b15), (.ref b15)]) _
   refine XS.lload X15.here hx rfl (hb hby at_62) rfl ?_
   show SG p e below T15 (mkF m 64 (la76 q1 q2 q3 q4 p5) [(.long (odm (p5 &&& 2) (q4 &&& 9223372036854775807) (0 : Int64))), (.long (q3 &&& 4294967295)), (.long (odm (p5 &&& 1) (q2 &&& 9223372036854775807) (0 : Int64))), (.long (q1 &&& 4294967295)), (.ref b15), (.ref b15)]) _
   refine st17.trans ?_
   show SG p e below T17 (mkF m 67 (la76 q1 q2 q3 q4 p5) [(.ref b15)]) _
   refine XS.astore X17.here hx rfl (hb hby at_67) rfl rfl (l' := #[vJ q1, vS, vJ q2, vS, vJ q3, vS, vJ q4, vS, vI p5, vJ (q1 &&& 4294967295), vS, vJ (odm (p5 &&& 1) (q2 &&& 9223372036854775807) (0 : Int64)), vS, vJ (q3 &&& 4294967295), vS, vJ (odm (p5 &&& 2) (q4 &&& 9223372036854775807) (0 : Int64)), vS, vR b15, vU]) rfl ?_
   show SG p e below T17 (mkF m 69 (la78 q1 q2 q3 q4 p5 b15) []) _
   refine XS.aload X17.here hx rfl (hb hby at_69) rfl rfl ?_
   show SG p e below T17 (mkF m 71 (la78 q1 q2 q3 q4 p5 b15) [(.ref b15)]) _
   refine st28.trans ?_
   show SG p e below T28 (mkF m 74 (la78 q1 q2 q3 q4 p5 b15) [(.ref b28_0)]) _
   refine XS.astore X28.here hx rfl (hb hby at_74) rfl rfl (l' := #[vJ q1, vS, vJ q2, vS, vJ q3, vS, vJ q4, vS, vI p5, vJ (q1 &&& 4294967295), vS, vJ (odm (p5 &&& 1) (q2 &&& 9223372036854775807) (0 : Int64)), vS, vJ (q3 &&& 4294967295), vS, vJ (odm (p5 &&& 2) (q4 &&& 9223372036854775807) (0 : Int64)), vS, vR b15, vR b28_0]) rfl ?_
   show SG p e below T28 (mkF m 76 (la79 q1 q2 q3 q4 p5 b15 b28_0) []) _
   refine XS.aload X28.here hx rfl (hb hby at_76) rfl rfl ?_
   show SG p e below T28 (mkF m 78 (la79 q1 q2 q3 q4 p5 b15 b28_0) [(.ref b28_0)]) _
   refine st29.trans ?_
   show SG p e below T29 (mkF m 83 (la79 q1 q2 q3 q4 p5 b15 b28_0) [(.int 4)]) _
   refine XS.iconst X29.here hx rfl (hb hby at_83) ?_
   refine XS.icmpYes X29.here hx rfl (pc0 := 84) (pc' := 89) rfl (hb hby at_84) rfl (teq (rfl : (4 : Int32) = 4)).1 (by decide) (by decide) ?_
   show SG p e below T29 (mkF m 89 (la79 q1 q2 q3 q4 p5 b15 b28_0) []) _
   refine XS.aload X29.here hx rfl (hb hby at_89) rfl rfl ?_
   refine XS.iconst X29.here hx rfl (hb hby at_91) ?_
   show SG p e below T29 (mkF m 92 (la79 q1 q2 q3 q4 p5 b15 b28_0) [(.int 0), (.ref b28_0)]) _
   refine st30.trans ?_
   show SG p e below T30 (mkF m 97 (la79 q1 q2 q3 q4 p5 b15 b28_0) [(.ref b28_2)]) _
   refine st31 _ ?_
   show SG p e below T31 (mkF m 100 (la79 q1 q2 q3 q4 p5 b15 b28_0) [(.ref b28_2)]) _
   refine st32 _ ?_
   show SG p e below T32 (mkF m 102 (la79 q1 q2 q3 q4 p5 b15 b28_0) [(.ref b32), (.ref b28_2)]) _
   refine XS.lload X32.here hx rfl (hb hby at_102) rfl ?_
   show SG p e below T32 (mkF m 104 (la79 q1 q2 q3 q4 p5 b15 b28_0) [(.long (q1 &&& 4294967295)), (.ref b32), (.ref b28_2)]) _
   refine st39 _ ?_
   show SG p e below T39 (mkF m 107 (la79 q1 q2 q3 q4 p5 b15 b28_0) [(.int 1)]) _
   refine XS.ifNo X39.here hx rfl (hb hby at_107) rfl ((if0 _ _).trans (feq (by decide : ¬ ((1 : Int32) = 0))).1) ?_
   show SG p e below T39 (mkF m 110 (la79 q1 q2 q3 q4 p5 b15 b28_0) []) _
   refine XS.aload X39.here hx rfl (hb hby at_110) rfl rfl ?_
   refine XS.iconst X39.here hx rfl (hb hby at_112) ?_
   show SG p e below T39 (mkF m 113 (la79 q1 q2 q3 q4 p5 b15 b28_0) [(.int 1), (.ref b28_0)]) _
   refine st43.trans ?_
   show SG p e below T43 (mkF m 118 (la79 q1 q2 q3 q4 p5 b15 b28_0) [(.ref b28_4)]) _
   refine st45 _ ?_
   show SG p e below T45 (mkF m 121 (la79 q1 q2 q3 q4 p5 b15 b28_0) [(.ref b28_4)]) _
   refine st46 _ ?_
   show SG p e below T46 (mkF m 123 (la79 q1 q2 q3 q4 p5 b15 b28_0) [(.ref b46), (.ref b28_4)]) _
   refine XS.lload X46.here hx rfl (hb hby at_123) rfl ?_
   refine XS.lload X46.here hx rfl (hb hby at_125) rfl ?_
   show SG p e below T46 (mkF m 127 (la79 q1 q2 q3 q4 p5 b15 b28_0) [(.long (odm (p5 &&& 1) (q2 &&& 9223372036854775807) (0 : Int64))), (.long (q1 &&& 4294967295)), (.ref b46), (.ref b28_4)]) _
   refine st53 _ ?_
   show SG p e below T53 (mkF m 130 (la79 q1 q2 q3 q4 p5 b15 b28_0) [(.int 1)]) _
   refine XS.ifNo X53.here hx rfl (hb hby at_130) rfl ((if0 _ _).trans (feq (by decide : ¬ ((1 : Int32) = 0))).1) ?_
   show SG p e below T53 (mkF m 133 (la79 q1 q2 q3 q4 p5 b15 b28_0) []) _
   refine XS.aload X53.here hx rfl (hb hby at_133) rfl rfl ?_
   refine XS.iconst X53.here hx rfl (hb hby at_135) ?_
   show SG p e below T53 (mkF m 136 (la79 q1 q2 q3 q4 p5 b15 b28_0) [(.int 2), (.ref b28_0)]) _
   refine st57.trans ?_
   show SG p e below T57 (mkF m 141 (la79 q1 q2 q3 q4 p5 b15 b28_0) [(.ref b28_6)]) _
   refine st59 _ ?_
   show SG p e below T59 (mkF m 144 (la79 q1 q2 q3 q4 p5 b15 b28_0) [(.ref b28_6)]) _
   refine st60 _ ?_
   show SG p e below T60 (mkF m 146 (la79 q1 q2 q3 q4 p5 b15 b28_0) [(.ref b60), (.ref b28_6)]) _
   refine XS.lload X60.here hx rfl (hb hby at_146) rfl ?_
   show SG p e below T60 (mkF m 148 (la79 q1 q2 q3 q4 p5 b15 b28_0) [(.long (q3 &&& 4294967295)), (.ref b60), (.ref b28_6)]) _
   refine st67 _ ?_
   show SG p e below T67 (mkF m 151 (la79 q1 q2 q3 q4 p5 b15 b28_0) [(.int 1)]) _
   refine XS.ifNo X67.here hx rfl (hb hby at_151) rfl ((if0 _ _).trans (feq (by decide : ¬ ((1 : Int32) = 0))).1) ?_
   show SG p e below T67 (mkF m 154 (la79 q1 q2 q3 q4 p5 b15 b28_0) []) _
   refine XS.aload X67.here hx rfl (hb hby at_154) rfl rfl ?_
   refine XS.iconst X67.here hx rfl (hb hby at_156) ?_
   show SG p e below T67 (mkF m 157 (la79 q1 q2 q3 q4 p5 b15 b28_0) [(.int 3), (.ref b28_0)]) _
   refine st71.trans ?_
   show SG p e below T71 (mkF m 162 (la79 q1 q2 q3 q4 p5 b15 b28_0) [(.ref b28_8)]) _
   refine st73 _ ?_
   show SG p e below T73 (mkF m 165 (la79 q1 q2 q3 q4 p5 b15 b28_0) [(.ref b28_8)]) _
   refine st74 _ ?_
   show SG p e below T74 (mkF m 167 (la79 q1 q2 q3 q4 p5 b15 b28_0) [(.ref b74), (.ref b28_8)]) _
   refine XS.lload X74.here hx rfl (hb hby at_167) rfl ?_
   refine XS.lload X74.here hx rfl (hb hby at_169) rfl ?_
   show SG p e below T74 (mkF m 171 (la79 q1 q2 q3 q4 p5 b15 b28_0) [(.long (odm (p5 &&& 2) (q4 &&& 9223372036854775807) (0 : Int64))), (.long (q3 &&& 4294967295)), (.ref b74), (.ref b28_8)]) _
   refine st81 _ ?_
   show SG p e below T81 (mkF m 174 (la79 q1 q2 q3 q4 p5 b15 b28_0) [(.int 1)]) _
   refine XS.ifNo X81.here hx rfl (hb hby at_174) rfl ((if0 _ _).trans (feq (by decide : ¬ ((1 : Int32) = 0))).1) ?_
   show SG p e below T81 (mkF m 177 (la79 q1 q2 q3 q4 p5 b15 b28_0) []) _
   refine XS.iconst X81.here hx rfl (hb hby at_177) ?_
   refine XS.goto X81.here hx rfl (pc0 := 178) (pc' := 182) rfl (hb hby at_178) (by decide) (by decide) ?_
   show SG p e below T81 (mkF m 182 (la79 q1 q2 q3 q4 p5 b15 b28_0) [(.int 1)]) _
   exact retN X81 hx (t := .boolean) Bd.returns (by simp) (hb hby at_182) hr
 · show OQl (some (.int 1)) n0 _ T81.heap _
   exact ⟨rfl, N81⟩
 · rw [hh]
   show CHr Z EL s.vm h0 T81.vm T81.heap
   rw [e81]
   exact CHr.trans R74 (CHv.at X81 hZ74 (el_ok hw) R74.1)
theorem comes_1 {Post : Tables → Env → Array Value → State → Outcome → State → Prop} (hpost : ∀ tb e args s v u, (limb_1_1.after args s (.returned v) u = true ∧ limb_1_2.after args s (.returned v) u = true ∧ True) → ReturnedEndW s (.returned v) u (Jvm.fieldLocs frame_1_writes args s ++ Jvm.arrayLocs frame_1_arrays args s ++ Jvm.staticLocs frame_1_statics s) 72 9152 → Post tb e args s (.returned v) u) :
   ArmFor flags0 classFile x code maxLocals ret World_1 tables_1 room_1 Calls_1 rest_1 Pre_1 Post := by
 intro l hfl _ _ p e ha hc hk s m args below hf hA hF happ hP
 obtain ⟨hcalls, hrest, hpre⟩ := hP
 obtain ⟨-, -, -, hnamed, -, -, -, hat⟩ := (Spec.applies_iff hf).mp happ
 obtain ⟨hg, hn⟩ := and_e (Cond.before_iff.mp (show (Jvm.Cond.and given_1 narrow_1).before args s = true from hpre))
 obtain ⟨gg0, gr0⟩ := and_e hg
 obtain ⟨gg1, gr1⟩ := and_e gr0
 obtain ⟨gg2, gr2⟩ := and_e gr1
 obtain ⟨gg3, gr3⟩ := and_e gr2
 obtain ⟨gg4, gr4⟩ := and_e gr3
 obtain ⟨w0, w1, w2, w3, w4, rfl⟩ : ∃ w0 w1 w2 w3 w4 : Value, args = #[w0, w1, w2, w3, w4] := by
   have hs : args.size = 5 := by simpa [Cond.value, given_1] using gg0
   obtain ⟨L⟩ := args
   match L, hs with
   | [w0, w1, w2, w3, w4], _ => exact ⟨w0, w1, w2, w3, w4, rfl⟩
 have hw := fun d (hd : d ∈ tables_1) => atoms_spec (ws := Jvm.Cond.code x code maxLocals ret :: tables_1) hat d (List.mem_cons_of_mem _ hd)
 have hfit : Fit s := fun {y c} hc i hi => by
   obtain ⟨ha, rfl⟩ := Array.getElem?_eq_some_iff.mp hc
   have q := List.all_eq_true.mp ((Array.all_eq_true_iff_forall_mem.mp hF) _ (Array.getElem_mem ha)) i (List.mem_range.mpr hi)
   simpa [Array.getElem?_eq_getElem hi] using q
 obtain ⟨i0, ei0⟩ := isL_v gg1
 obtain rfl : w0 = (.long i0) := Option.some.inj ei0
 obtain ⟨i1, ei1⟩ := isL_v gg2
 obtain rfl : w1 = (.long i1) := Option.some.inj ei1
 obtain ⟨i2, ei2⟩ := isL_v gg3
 obtain rfl : w2 = (.long i2) := Option.some.inj ei2
 obtain ⟨i3, ei3⟩ := isL_v gg4
 obtain rfl : w3 = (.long i3) := Option.some.inj ei3
 obtain ⟨i4, ei4⟩ := is_v gr4
 obtain rfl : w4 = (.int i4) := Option.some.inj ei4
 obtain ⟨hsets, hown0⟩ := atoms_of _ (rest_1_c_eq ▸ (show rest_1_c.before _ s = true from hrest))
 obtain ⟨w_c1, ev_c1⟩ := exa_v (Cond.before_iff.mp (hsets _ (List.mem_of_getElem? (i := 22) rfl)))
 have E_c1 := Exa.start ev_c1 (Cond.before_iff.mp (hsets _ (List.mem_of_getElem? (i := 22) rfl)))
 have S_c1 := Sta.start ev_c1 (Or.inl (hsets _ (List.mem_of_getElem? (i := 21) rfl)))
 obtain ⟨w_c2, ev_c2⟩ := exa_v (Cond.before_iff.mp (hsets _ (List.mem_of_getElem? (i := 28) rfl)))
 have E_c2 := Exa.start ev_c2 (Cond.before_iff.mp (hsets _ (List.mem_of_getElem? (i := 28) rfl)))
 have S_c2 := Sta.start ev_c2 (Or.inl (hsets _ (List.mem_of_getElem? (i := 27) rfl)))
 obtain ⟨wS, evS, hwS⟩ := own_cs (Cond.before_iff.mp (hsets _ (List.mem_of_getElem? (i := 1) rfl))) (Cond.before_iff.mp (hsets _ (List.mem_of_getElem? (i := 2) rfl)))
 have SS := Sta.start evS (Or.inl (hsets _ (List.mem_of_getElem? (i := 0) rfl)))
 have SA := Sta.start (own_ci (Cond.before_iff.mp (hsets _ (List.mem_of_getElem? (i := 25) rfl)))) (Or.inl (hsets _ (List.mem_of_getElem? (i := 24) rfl)))
 obtain ⟨oF, evF, hoF⟩ := own_rf (Cond.before_iff.mp (hsets _ (List.mem_of_getElem? (i := 8) rfl)))
 have SF := Sta.start evF (Or.inl (hsets _ (List.mem_of_getElem? (i := 7) rfl)))
 obtain ⟨d1, kd1, evd1, Bd1⟩ := own_tab (n := 100) (F := fun r => Int32.ofNat (48 + r % 10)) (tw hw 43 rfl) (hsets _ (List.mem_of_getElem? (i := 12) rfl)) (hsets _ (List.mem_of_getElem? (i := 13) rfl)) (hsets _ (List.mem_of_getElem? (i := 14) rfl)) rfl (by decide) (fun r hr => by rw [← SBG.ones_num r hr]; rfl) (by decide)
 have Sd1 := Sta.start evd1 (Or.inl (hsets _ (List.mem_of_getElem? (i := 11) rfl)))
 obtain ⟨d2, kd2, evd2, Bd2⟩ := own_tab (n := 100) (F := fun r => Int32.ofNat (48 + r / 10)) (tw hw 43 rfl) (hsets _ (List.mem_of_getElem? (i := 17) rfl)) (hsets _ (List.mem_of_getElem? (i := 18) rfl)) (hsets _ (List.mem_of_getElem? (i := 19) rfl)) rfl (by decide) (fun r hr => by rw [← SBG.tens_num r hr]; rfl) (by decide)
 have Sd2 := Sta.start evd2 (Or.inl (hsets _ (List.mem_of_getElem? (i := 16) rfl)))
 have hCH : CHv s EL s.vm s.heap := CHv.start (el_ok hw) (fun q hq => hcalls.1 q hq) (hsets _ (List.mem_of_getElem? (i := 2) rfl)) (tw hw 43 rfl) (tw hw 49 rfl)
 suffices M : OMetH EL l s x code maxLocals ret tables_1 room_1 s.heap #[(.long i0), (.long i1), (.long i2), (.long i3), (.int i4)] (OQl (some (.int 1)) s.heap.size) by
   obtain ⟨n, o, h1, h2, h3, _, L, rfl, ⟨rfl, N⟩, -, hq1, hq2, hq3, hq4⟩ := M p e ha hc hk s m _ below hf ((Spec.applies_iff_loose hf).mp happ).1 ⟨rfl, State.Warmed39.refl s, rfl, hCH⟩ trivial
   exact ⟨n, _, h1, h2, h3, hpost _ _ _ _ _ _ ⟨Cond.after_iff.mpr rfl, Cond.after_iff.mpr (eq_i res_at (Term.int_eval (1)) rfl), trivial⟩ ⟨hq1, hq2, hq3, (hq4.sift fun y hy => Or.inr (N y hy)).mono (by decide) (by decide)⟩⟩
 exact r0_1 l s _ hw i0 i1 i2 i3 i4 wS d1 d2 kd1 (fun r => Int32.ofNat (48 + r % 10)) kd2 (fun r => Int32.ofNat (48 + r / 10)) (1 : Int32) oF s.heap s.heap.size (Nat.le_refl _) SS hwS Sd1 Sd2 Bd1 Bd2 rfl rfl (hsets _ (List.mem_of_getElem? (i := 10) rfl)) (hsets _ (List.mem_of_getElem? (i := 15) rfl)) SA (by decide) SF hoF (own_m32 _).1 rfl (fun _ _ => rfl) (fun k => (own_m32 _).1 ((lw_lt _ _).mp k)) ((lw_eq _ _).mpr rfl) (own_m32 _).2 (own_mif _ _) rfl (fun _ _ => rfl) (own_m32 _).1 rfl (fun _ _ => rfl) (fun k => (own_m32 _).1 ((lw_lt _ _).mp k)) ((lw_eq _ _).mpr rfl) (own_m32 _).2 (own_mif _ _) rfl (fun _ _ => rfl)
theorem main_1_1 : Claimed_1_1 := comes_1 fun _ _ _ _ _ _ h hF => ⟨h.1, hF⟩
theorem main_1_2 : Claimed_1_2 := comes_1 fun _ _ _ _ _ _ h hF => ⟨h.2.1, hF⟩
end Jvm.Pilot.@@N@@
namespace Jvm.Pilot.@@N@@
open Jvm Jvm.ClassFile Sem Op Lib Jvm.Free Jvm.Stand Jvm.Pilot.@@N@@.Jvm.D
/-! MADE BY PROGRAM (witnessworld.py) out of the Statement's table words and the real class files: 37 classes; the members and pool entries that the words name. The judged class is class 1, her method 1. -/
namespace start1
open Jvm.ClassFile
def u (s : String) : CpInfo := .utf8 (stringToUtf16 s)
/-- a pool by its gaps: so many unusable entries, then the entry; so many at the end -/
def gap : Nat → List CpInfo → List CpInfo
  | 0, r => r
  | n + 1, r => .unusable :: gap n r
def poolList (es : List (Nat × CpInfo)) (last : Nat) : List CpInfo := es.foldr (fun e r => gap e.1 (e.2 :: r)) (gap last [])
def pool (es : List (Nat × CpInfo)) (last : Nat) : Array CpInfo := ⟨poolList es last⟩
def fileOf (pool : Array CpInfo) (this : Nat) (attrs : Array Attribute := #[]) (ms : Array MethodInfo := #[]) (fl : Nat := 33) (sup : Nat := 0) (ifs : Array Nat := #[]) (fds : Array FieldInfo := #[]) : ClassFile where
  minorVersion := 0
  majorVersion := 65
  constantPool := pool
  accessFlags := fl
  thisClass := this
  superClass := sup
  interfaces := ifs
  fields := fds
  methods := ms
  attributes := attrs
def plain (name : String) (sup : Option ClassId) : Class where
  name := name
  kind := .ordinary
  loader := none
  accessFlags := 33
  super := sup
  interfaces := #[]
  cf := none
  fields := #[]
  methods := #[]
  instanceTypes := #[]
  staticTypes := #[]
  resolved := #[]
  callSites := []
  init := .initialized
  statics := none
  mirror := none

def pool0 : Array CpInfo := pool [(5, u "<init>"), (0, u "()V"), (1, .class_ 10), (1, u "java/lang/Object"), (85, u "clone"), (0, u "()Ljava/lang/Object;")] 26

def k0c0 : Code := { maxStack := 0, maxLocals := 1, code := object_method_1_code, exceptionTable := #[], attributes := #[] }
def k0m0 : Method := { name := "<init>", desc := "()V", sig := { parameters := [], returnType := none }, accessFlags := 1, code := some k0c0 }
def k0m1 : Method := { name := "clone", desc := "()Ljava/lang/Object;", sig := { parameters := [], returnType := some (.object "java/lang/Object") }, accessFlags := 260, code := none }
/-- java/lang/Object -/
def k0 : Class := { plain "java/lang/Object" none with
  accessFlags := 33
  interfaces := #[]
  cf := some (fileOf pool0 8 #[] #[{ accessFlags := 1, nameIndex := 5, descriptorIndex := 6, attributes := #[] }, { accessFlags := 260, nameIndex := 96, descriptorIndex := 97, attributes := #[] }] 33 0 #[] #[])
  fields := #[]
  methods := #[k0m0, k0m1]
  instanceTypes := #[]
  staticTypes := #[]
  resolved := Array.replicate 124 none
  statics := none }

def pool1 : Array CpInfo := pool [(2, .class_ 4), (1, u "java/lang/Object"), (0, u "<init>"), (0, u "()V"), (0, .long 4294967295), (3, .long 9223372036854775807), (1, .class_ 14), (0, u "com/example/eta4/eta4/bench/ThroughputFigures"), (0, .methodref 13 16), (0, .nameAndType 5 17), (0, u "(JJJJ)V"), (0, .methodref 13 19), (0, .nameAndType 20 21), (0, u "lines"), (0, u "()Ljava/util/List;"), (0, .interfaceMethodref 23 24), (0, .class_ 25), (0, .nameAndType 26 27), (0, u "java/util/List"), (0, u "size"), (0, u "()I"), (0, .interfaceMethodref 23 29), (0, .nameAndType 30 31), (0, u "get"), (0, u "(I)Ljava/lang/Object;"), (0, .class_ 33), (0, u "java/lang/String"), (0, .string 35), (0, u "pushed_ok "), (0, .methodref 37 38), (0, .class_ 39), (0, .nameAndType 40 41), (0, u "com/example/eta4/eta4/bench/ThroughputFiguresLinesPinLaw"), (0, u "countLine"), (0, u "(Ljava/lang/String;Ljava/lang/String;J)Z"), (0, .string 43), (0, u "push_per_s "), (0, .methodref 37 45), (0, .nameAndType 46 47), (0, u "rateLine"), (0, u "(Ljava/lang/String;Ljava/lang/String;JJ)Z"), (0, .string 49), (0, u "drained "), (0, .string 51), (0, u "pop_finish_per_s "), (0, .methodref 37 53), (0, .nameAndType 54 55), (0, u "value"), (0, u "(Ljava/lang/String;Ljava/lang/String;)J"), (0, .long 1000000000), (1, .long 18446744073709551615), (1, .methodref 37 61), (0, .nameAndType 62 63), (0, u "hasPrefix"), (0, u "(Ljava/lang/String;Ljava/lang/String;)Z"), (0, .methodref 32 65), (0, .nameAndType 66 27), (0, u "length"), (0, .methodref 37 68), (0, .nameAndType 69 70), (0, u "parse"), (0, u "(Ljava/lang/String;I)J"), (0, .methodref 32 72), (0, .nameAndType 73 74), (0, u "charAt"), (0, u "(I)C"), (0, .methodref 37 76), (0, .nameAndType 77 78), (0, u "same"), (0, u "(Ljava/lang/String;Ljava/lang/String;I)Z"), (0, .long 10), (1, .methodref 37 82), (0, .nameAndType 83 84), (0, u "acc"), (0, u "(JLjava/lang/String;III)J"), (2, u "law"), (0, u "(JJJJI)Z")] 3

def k1m0 : Method := { name := "<init>", desc := "()V", sig := { parameters := [], returnType := none }, accessFlags := 1, code := none }
def k1c1 : Code := { maxStack := 10, maxLocals := 19, code := code, exceptionTable := #[], attributes := #[] }
def k1m1 : Method := { name := "law", desc := "(JJJJI)Z", sig := { parameters := [.long, .long, .long, .long, .int], returnType := some .boolean }, accessFlags := 9, code := some k1c1 }
def k1c2 : Code := { maxStack := 4, maxLocals := 6, code := method_3_code, exceptionTable := #[], attributes := #[] }
def k1m2 : Method := { name := "countLine", desc := "(Ljava/lang/String;Ljava/lang/String;J)Z", sig := { parameters := [(.object "java/lang/String"), (.object "java/lang/String"), .long], returnType := some .boolean }, accessFlags := 10, code := some k1c2 }
def k1c3 : Code := { maxStack := 6, maxLocals := 10, code := method_4_code, exceptionTable := #[], attributes := #[] }
def k1m3 : Method := { name := "rateLine", desc := "(Ljava/lang/String;Ljava/lang/String;JJ)Z", sig := { parameters := [(.object "java/lang/String"), (.object "java/lang/String"), .long, .long], returnType := some .boolean }, accessFlags := 10, code := some k1c3 }
def k1c4 : Code := { maxStack := 2, maxLocals := 2, code := method_5_code, exceptionTable := #[], attributes := #[] }
def k1m4 : Method := { name := "value", desc := "(Ljava/lang/String;Ljava/lang/String;)J", sig := { parameters := [(.object "java/lang/String"), (.object "java/lang/String")], returnType := some .long }, accessFlags := 10, code := some k1c4 }
def k1c5 : Code := { maxStack := 3, maxLocals := 3, code := method_6_code, exceptionTable := #[], attributes := #[] }
def k1m5 : Method := { name := "same", desc := "(Ljava/lang/String;Ljava/lang/String;I)Z", sig := { parameters := [(.object "java/lang/String"), (.object "java/lang/String"), .int], returnType := some .boolean }, accessFlags := 10, code := some k1c5 }
def k1c6 : Code := { maxStack := 3, maxLocals := 2, code := method_7_code, exceptionTable := #[], attributes := #[] }
def k1m6 : Method := { name := "hasPrefix", desc := "(Ljava/lang/String;Ljava/lang/String;)Z", sig := { parameters := [(.object "java/lang/String"), (.object "java/lang/String")], returnType := some .boolean }, accessFlags := 10, code := some k1c6 }
def k1c7 : Code := { maxStack := 4, maxLocals := 7, code := method_8_code, exceptionTable := #[], attributes := #[] }
def k1m7 : Method := { name := "acc", desc := "(JLjava/lang/String;III)J", sig := { parameters := [.long, (.object "java/lang/String"), .int, .int, .int], returnType := some .long }, accessFlags := 10, code := some k1c7 }
def k1c8 : Code := { maxStack := 6, maxLocals := 5, code := method_9_code, exceptionTable := #[], attributes := #[] }
def k1m8 : Method := { name := "parse", desc := "(Ljava/lang/String;I)J", sig := { parameters := [(.object "java/lang/String"), .int], returnType := some .long }, accessFlags := 10, code := some k1c8 }
/-- com/example/eta4/eta4/bench/ThroughputFiguresLinesPinLaw -/
def k1 : Class := { plain "com/example/eta4/eta4/bench/ThroughputFiguresLinesPinLaw" (some 0) with
  accessFlags := 49
  interfaces := #[]
  cf := some (fileOf pool1 37 #[] #[{ accessFlags := 1, nameIndex := 5, descriptorIndex := 6, attributes := #[] }, { accessFlags := 9, nameIndex := 87, descriptorIndex := 88, attributes := #[] }, { accessFlags := 10, nameIndex := 40, descriptorIndex := 41, attributes := #[] }, { accessFlags := 10, nameIndex := 46, descriptorIndex := 47, attributes := #[] }, { accessFlags := 10, nameIndex := 54, descriptorIndex := 55, attributes := #[] }, { accessFlags := 10, nameIndex := 77, descriptorIndex := 78, attributes := #[] }, { accessFlags := 10, nameIndex := 62, descriptorIndex := 63, attributes := #[] }, { accessFlags := 10, nameIndex := 83, descriptorIndex := 84, attributes := #[] }, { accessFlags := 10, nameIndex := 69, descriptorIndex := 70, attributes := #[] }] 49 2 #[] #[])
  fields := #[]
  methods := #[k1m0, k1m1, k1m2, k1m3, k1m4, k1m5, k1m6, k1m7, k1m8]
  instanceTypes := #[]
  staticTypes := #[]
  resolved := Array.replicate 92 none
  statics := none }

def pool2 : Array CpInfo := pool [(1, .methodref 2 3), (0, .class_ 4), (0, .nameAndType 5 6), (0, u "java/lang/Object"), (0, u "<init>"), (0, u "()V"), (0, .class_ 8), (0, u "java/lang/Record")] 13

def k2c0 : Code := { maxStack := 1, maxLocals := 1, code := jdk_30_method_1_code, exceptionTable := #[], attributes := #[] }
def k2m0 : Method := { name := "<init>", desc := "()V", sig := { parameters := [], returnType := none }, accessFlags := 4, code := some k2c0 }
/-- java/lang/Record -/
def k2 : Class := { plain "java/lang/Record" (some 0) with
  accessFlags := 1057
  interfaces := #[]
  cf := some (fileOf pool2 7 #[] #[{ accessFlags := 4, nameIndex := 5, descriptorIndex := 6, attributes := #[] }] 1057 2 #[] #[])
  fields := #[]
  methods := #[k2m0]
  instanceTypes := #[]
  staticTypes := #[]
  resolved := Array.replicate 22 none
  statics := none }

def pool3 : Array CpInfo := pool [(1, .methodref 2 3), (0, .class_ 4), (0, .nameAndType 5 6), (0, u "java/lang/Record"), (0, u "<init>"), (0, u "()V"), (0, .fieldref 8 9), (0, .class_ 10), (0, .nameAndType 11 12), (0, u "com/example/eta4/eta4/bench/ThroughputFigures"), (0, u "pushedOk"), (0, u "J"), (0, .fieldref 8 14), (0, .nameAndType 15 12), (0, u "pushNanos"), (0, .fieldref 8 17), (0, .nameAndType 18 12), (0, u "drained"), (0, .fieldref 8 20), (0, .nameAndType 21 12), (0, u "drainNanos"), (0, .class_ 23), (0, u "java/lang/StringBuilder"), (0, .methodref 22 3), (0, .string 26), (0, u "pushed_ok "), (0, .methodref 22 28), (0, .nameAndType 29 30), (0, u "append"), (0, u "(Ljava/lang/String;)Ljava/lang/StringBuilder;"), (0, .methodref 22 32), (0, .nameAndType 29 33), (0, u "(J)Ljava/lang/StringBuilder;"), (0, .methodref 22 35), (0, .nameAndType 36 37), (0, u "toString"), (0, u "()Ljava/lang/String;"), (0, .string 39), (0, u "push_per_s "), (0, .methodref 8 41), (0, .nameAndType 42 43), (0, u "perSecond"), (0, u "(JJ)J"), (0, .string 45), (0, u "drained "), (0, .string 47), (0, u "pop_finish_per_s "), (0, .interfaceMethodref 49 50), (0, .class_ 51), (0, .nameAndType 52 53), (0, u "java/util/List"), (0, u "of"), (0, u "(Ljava/lang/Object;Ljava/lang/Object;Ljava/lang/Object;Ljava/lang/Object;)Ljava/util/List;"), (0, .long 1000000000), (12, u "NANOS_PER_SECOND"), (1, u "(JJJJ)V"), (3, u "lines"), (0, u "()Ljava/util/List;")] 29

def k3c0 : Code := { maxStack := 3, maxLocals := 9, code := prog_5_method_1_code, exceptionTable := #[], attributes := #[] }
def k3m0 : Method := { name := "<init>", desc := "(JJJJ)V", sig := { parameters := [.long, .long, .long, .long], returnType := none }, accessFlags := 1, code := some k3c0 }
def k3c1 : Code := { maxStack := 8, maxLocals := 1, code := prog_5_method_2_code, exceptionTable := #[], attributes := #[] }
def k3m1 : Method := { name := "lines", desc := "()Ljava/util/List;", sig := { parameters := [], returnType := some (.object "java/util/List") }, accessFlags := 1, code := some k3c1 }
def k3c2 : Code := { maxStack := 4, maxLocals := 4, code := prog_5_method_3_code, exceptionTable := #[], attributes := #[] }
def k3m2 : Method := { name := "perSecond", desc := "(JJ)J", sig := { parameters := [.long, .long], returnType := some .long }, accessFlags := 10, code := some k3c2 }
/-- com/example/eta4/eta4/bench/ThroughputFigures -/
def k3 : Class := { plain "com/example/eta4/eta4/bench/ThroughputFigures" (some 2) with
  accessFlags := 49
  interfaces := #[]
  cf := some (fileOf pool3 8 #[] #[{ accessFlags := 1, nameIndex := 5, descriptorIndex := 69, attributes := #[] }, { accessFlags := 1, nameIndex := 73, descriptorIndex := 74, attributes := #[] }, { accessFlags := 10, nameIndex := 42, descriptorIndex := 43, attributes := #[] }] 49 2 #[] #[{ accessFlags := 18, nameIndex := 11, descriptorIndex := 12, attributes := #[] }, { accessFlags := 18, nameIndex := 15, descriptorIndex := 12, attributes := #[] }, { accessFlags := 18, nameIndex := 18, descriptorIndex := 12, attributes := #[] }, { accessFlags := 18, nameIndex := 21, descriptorIndex := 12, attributes := #[] }, { accessFlags := 26, nameIndex := 67, descriptorIndex := 12, attributes := #[] }])
  fields := #[{ name := "pushedOk", type := .long, accessFlags := 18, slot := 0, constantValue := 0 }, { name := "pushNanos", type := .long, accessFlags := 18, slot := 1, constantValue := 0 }, { name := "drained", type := .long, accessFlags := 18, slot := 2, constantValue := 0 }, { name := "drainNanos", type := .long, accessFlags := 18, slot := 3, constantValue := 0 }, { name := "NANOS_PER_SECOND", type := .long, accessFlags := 26, slot := 0, constantValue := 0 }]
  methods := #[k3m0, k3m1, k3m2]
  instanceTypes := #[.long, .long, .long, .long]
  staticTypes := #[.long]
  resolved := Array.replicate 104 none
  statics := none }

def pool4 : Array CpInfo := pool [(1, .class_ 2), (0, u "java/lang/Appendable"), (0, .class_ 4), (0, u "java/lang/Object")] 9

/-- java/lang/Appendable -/
def k4 : Class := { plain "java/lang/Appendable" (some 0) with
  accessFlags := 1537
  interfaces := #[]
  cf := some (fileOf pool4 1 #[] #[] 1537 3 #[] #[])
  fields := #[]
  methods := #[]
  instanceTypes := #[]
  staticTypes := #[]
  resolved := Array.replicate 14 none
  statics := none }

def pool5 : Array CpInfo := pool [(2, .class_ 4), (1, u "java/lang/CharSequence"), (42, .class_ 48), (0, u "java/lang/CharSequence$1CodePointIterator"), (10, .class_ 60), (0, u "java/lang/CharSequence$1CharIterator"), (5, .class_ 67), (0, u "java/lang/Object")] 63

/-- java/lang/CharSequence -/
def k5 : Class := { plain "java/lang/CharSequence" (some 0) with
  accessFlags := 1537
  interfaces := #[]
  cf := some (fileOf pool5 2 #[.nestMembers #[47, 59]] #[] 1537 66 #[] #[])
  fields := #[]
  methods := #[]
  instanceTypes := #[]
  staticTypes := #[]
  resolved := Array.replicate 131 none
  statics := none }

def pool6 : Array CpInfo := pool [(1, .class_ 2), (0, u "java/lang/String"), (0, .methodref 4 5), (0, .class_ 6), (0, .nameAndType 7 8), (0, u "java/lang/Object"), (0, u "<init>"), (0, u "()V"), (1, .class_ 12), (1, u "java/lang/AbstractStringBuilder"), (0, u "EMPTYVALUE"), (0, u "[B"), (0, .fieldref 10 16), (0, .nameAndType 17 14), (0, u "value"), (0, .fieldref 1 19), (0, .nameAndType 20 21), (0, u "COMPACT_STRINGS"), (0, u "Z"), (0, .fieldref 10 23), (0, .nameAndType 24 25), (0, u "coder"), (0, u "B"), (6, .methodref 1 33), (0, .nameAndType 34 35), (0, u "length"), (0, u "()I"), (3, .integer 2147483647), (0, .methodref 1 41), (0, .nameAndType 24 42), (0, u "()B"), (2, u "append"), (0, u "(Ljava/lang/String;)Ljava/lang/AbstractStringBuilder;"), (1, .class_ 49), (0, u "java/lang/CharSequence"), (19, u "(Ljava/lang/String;)V"), (5, u "maybeLatin1"), (3, .fieldref 10 80), (0, .nameAndType 81 82), (0, u "count"), (0, u "I"), (0, .methodref 10 84), (0, .nameAndType 85 86), (0, u "isLatin1"), (0, u "()Z"), (13, .methodref 10 101), (0, .nameAndType 102 103), (0, u "ensureCapacityInternal"), (0, u "(I)V"), (0, .methodref 10 105), (0, .nameAndType 106 107), (0, u "newCapacity"), (0, u "(I)I"), (0, .methodref 109 110), (0, .class_ 111), (0, .nameAndType 112 113), (0, u "java/util/Arrays"), (0, u "copyOf"), (0, u "([BI)[B"), (0, .methodref 115 116), (0, .class_ 117), (0, .nameAndType 118 119), (0, u "jdk/internal/util/ArraysSupport"), (0, u "newLength"), (0, u "(III)I"), (68, u "getChars"), (19, .methodref 10 209), (0, .nameAndType 210 211), (0, u "putStringAt"), (0, u "(ILjava/lang/String;)V"), (5, u "inflateIfNeededFor"), (2, .nameAndType 221 222), (0, u "getBytes"), (0, u "([BIB)V"), (24, u "stringSize"), (6, .methodref 255 256), (0, .class_ 257), (0, .nameAndType 247 258), (0, u "java/lang/Long"), (0, u "(J)I"), (0, .methodref 255 260), (0, .nameAndType 188 261), (0, u "(JI[B)I"), (135, .methodref 10 398), (0, .nameAndType 217 69), (0, .methodref 1 220), (3, u "()[B"), (40, .class_ 445), (0, u "java/lang/Appendable"), (67, u "(J)Ljava/lang/AbstractStringBuilder;"), (38, u "getValue")] 56

def k6m0 : Method := { name := "<init>", desc := "()V", sig := { parameters := [], returnType := none }, accessFlags := 0, code := none }
def k6c1 : Code := { maxStack := 2, maxLocals := 2, code := jdk_68_method_2_code, exceptionTable := #[], attributes := #[] }
def k6m1 : Method := { name := "<init>", desc := "(I)V", sig := { parameters := [.int], returnType := none }, accessFlags := 0, code := some k6c1 }
def k6c2 : Code := { maxStack := 1, maxLocals := 1, code := jdk_68_method_6_code, exceptionTable := #[], attributes := #[] }
def k6m2 : Method := { name := "length", desc := "()I", sig := { parameters := [], returnType := some .int }, accessFlags := 1, code := some k6c2 }
def k6c3 : Code := { maxStack := 4, maxLocals := 3, code := jdk_68_method_9_code, exceptionTable := #[], attributes := #[] }
def k6m3 : Method := { name := "ensureCapacityInternal", desc := "(I)V", sig := { parameters := [.int], returnType := none }, accessFlags := 2, code := some k6c3 }
def k6c4 : Code := { maxStack := 5, maxLocals := 6, code := jdk_68_method_10_code, exceptionTable := #[], attributes := #[] }
def k6m4 : Method := { name := "newCapacity", desc := "(I)I", sig := { parameters := [.int], returnType := some .int }, accessFlags := 2, code := some k6c4 }
def k6c5 : Code := { maxStack := 3, maxLocals := 3, code := jdk_68_method_22_code, exceptionTable := #[], attributes := #[] }
def k6m5 : Method := { name := "append", desc := "(Ljava/lang/String;)Ljava/lang/AbstractStringBuilder;", sig := { parameters := [(.object "java/lang/String")], returnType := some (.object "java/lang/AbstractStringBuilder") }, accessFlags := 1, code := some k6c5 }
def k6c6 : Code := { maxStack := 5, maxLocals := 5, code := jdk_68_method_33_code, exceptionTable := #[], attributes := #[] }
def k6m6 : Method := { name := "append", desc := "(J)Ljava/lang/AbstractStringBuilder;", sig := { parameters := [.long], returnType := some (.object "java/lang/AbstractStringBuilder") }, accessFlags := 1, code := some k6c6 }
def k6c7 : Code := { maxStack := 1, maxLocals := 1, code := jdk_68_method_64_code, exceptionTable := #[], attributes := #[] }
def k6m7 : Method := { name := "getValue", desc := "()[B", sig := { parameters := [], returnType := some (.array .byte) }, accessFlags := 16, code := some k6c7 }
def k6c8 : Code := { maxStack := 1, maxLocals := 1, code := jdk_68_method_68_code, exceptionTable := #[], attributes := #[] }
def k6m8 : Method := { name := "isLatin1", desc := "()Z", sig := { parameters := [], returnType := some .boolean }, accessFlags := 16, code := some k6c8 }
def k6c9 : Code := { maxStack := 2, maxLocals := 2, code := jdk_68_method_71_code, exceptionTable := #[], attributes := #[] }
def k6m9 : Method := { name := "inflateIfNeededFor", desc := "(Ljava/lang/String;)V", sig := { parameters := [(.object "java/lang/String")], returnType := none }, accessFlags := 2, code := some k6c9 }
def k6c10 : Code := { maxStack := 4, maxLocals := 3, code := jdk_68_method_73_code, exceptionTable := #[], attributes := #[] }
def k6m10 : Method := { name := "putStringAt", desc := "(ILjava/lang/String;)V", sig := { parameters := [.int, (.object "java/lang/String")], returnType := none }, accessFlags := 2, code := some k6c10 }
/-- java/lang/AbstractStringBuilder -/
def k6 : Class := { plain "java/lang/AbstractStringBuilder" (some 0) with
  accessFlags := 1056
  interfaces := #[4, 5]
  cf := some (fileOf pool6 10 #[] #[{ accessFlags := 0, nameIndex := 7, descriptorIndex := 8, attributes := #[] }, { accessFlags := 0, nameIndex := 7, descriptorIndex := 103, attributes := #[] }, { accessFlags := 1, nameIndex := 34, descriptorIndex := 35, attributes := #[] }, { accessFlags := 2, nameIndex := 102, descriptorIndex := 103, attributes := #[] }, { accessFlags := 2, nameIndex := 106, descriptorIndex := 107, attributes := #[] }, { accessFlags := 1, nameIndex := 45, descriptorIndex := 46, attributes := #[] }, { accessFlags := 1, nameIndex := 45, descriptorIndex := 513, attributes := #[] }, { accessFlags := 16, nameIndex := 552, descriptorIndex := 403, attributes := #[] }, { accessFlags := 16, nameIndex := 85, descriptorIndex := 86, attributes := #[] }, { accessFlags := 2, nameIndex := 217, descriptorIndex := 69, attributes := #[] }, { accessFlags := 2, nameIndex := 210, descriptorIndex := 211, attributes := #[] }] 1056 4 #[444, 48] #[{ accessFlags := 0, nameIndex := 17, descriptorIndex := 14, attributes := #[] }, { accessFlags := 0, nameIndex := 24, descriptorIndex := 25, attributes := #[] }, { accessFlags := 0, nameIndex := 75, descriptorIndex := 21, attributes := #[] }, { accessFlags := 0, nameIndex := 81, descriptorIndex := 82, attributes := #[] }, { accessFlags := 26, nameIndex := 13, descriptorIndex := 14, attributes := #[] }])
  fields := #[{ name := "value", type := (.array .byte), accessFlags := 0, slot := 0, constantValue := 0 }, { name := "coder", type := .byte, accessFlags := 0, slot := 1, constantValue := 0 }, { name := "maybeLatin1", type := .boolean, accessFlags := 0, slot := 2, constantValue := 0 }, { name := "count", type := .int, accessFlags := 0, slot := 3, constantValue := 0 }, { name := "EMPTYVALUE", type := (.array .byte), accessFlags := 26, slot := 0, constantValue := 0 }]
  methods := #[k6m0, k6m1, k6m2, k6m3, k6m4, k6m5, k6m6, k6m7, k6m8, k6m9, k6m10]
  instanceTypes := #[(.array .byte), .byte, .boolean, .int]
  staticTypes := #[(.array .byte)]
  resolved := Array.replicate 609 none
  statics := none }

def pool7 : Array CpInfo := pool [(1, .class_ 2), (0, u "java/io/Serializable"), (0, .class_ 4), (0, u "java/lang/Object")] 2

/-- java/io/Serializable -/
def k7 : Class := { plain "java/io/Serializable" (some 0) with
  accessFlags := 1537
  interfaces := #[]
  cf := some (fileOf pool7 1 #[] #[] 1537 3 #[] #[])
  fields := #[]
  methods := #[]
  instanceTypes := #[]
  staticTypes := #[]
  resolved := Array.replicate 7 none
  statics := none }

def pool8 : Array CpInfo := pool [(1, .class_ 2), (0, u "java/lang/Comparable"), (0, .class_ 4), (0, u "java/lang/Object")] 7

/-- java/lang/Comparable -/
def k8 : Class := { plain "java/lang/Comparable" (some 0) with
  accessFlags := 1537
  interfaces := #[]
  cf := some (fileOf pool8 1 #[] #[] 1537 3 #[] #[])
  fields := #[]
  methods := #[]
  instanceTypes := #[]
  staticTypes := #[]
  resolved := Array.replicate 12 none
  statics := none }

def pool9 : Array CpInfo := pool [(1, .methodref 2 3), (0, .class_ 4), (0, .nameAndType 5 6), (0, u "java/lang/AbstractStringBuilder"), (0, u "<init>"), (0, u "(I)V"), (11, .class_ 20), (1, u "java/lang/String"), (3, .class_ 26), (1, u "java/lang/StringBuilder"), (0, u "append"), (0, u "(Ljava/lang/String;)Ljava/lang/StringBuilder;"), (0, .methodref 2 30), (0, .nameAndType 27 31), (0, u "(Ljava/lang/String;)Ljava/lang/AbstractStringBuilder;"), (24, .methodref 2 57), (0, .nameAndType 27 58), (0, u "(J)Ljava/lang/AbstractStringBuilder;"), (78, .methodref 18 138), (0, .nameAndType 5 139), (0, u "(Ljava/lang/StringBuilder;)V"), (5, u "()V"), (10, u "()I"), (124, u "(J)Ljava/lang/StringBuilder;"), (61, .methodref 2 344), (0, .nameAndType 345 156), (0, u "length"), (3, .class_ 350), (0, u "java/lang/Appendable"), (0, .class_ 352), (0, u "java/io/Serializable"), (0, .class_ 354), (0, u "java/lang/Comparable"), (0, .class_ 356), (0, u "java/lang/CharSequence"), (0, u "serialVersionUID"), (0, u "J"), (40, u "toString"), (0, u "()Ljava/lang/String;")] 21

def k9c0 : Code := { maxStack := 2, maxLocals := 1, code := jdk_67_method_1_code, exceptionTable := #[], attributes := #[] }
def k9m0 : Method := { name := "<init>", desc := "()V", sig := { parameters := [], returnType := none }, accessFlags := 1, code := some k9c0 }
def k9c1 : Code := { maxStack := 2, maxLocals := 2, code := jdk_67_method_7_code, exceptionTable := #[], attributes := #[] }
def k9m1 : Method := { name := "append", desc := "(Ljava/lang/String;)Ljava/lang/StringBuilder;", sig := { parameters := [(.object "java/lang/String")], returnType := some (.object "java/lang/StringBuilder") }, accessFlags := 1, code := some k9c1 }
def k9c2 : Code := { maxStack := 3, maxLocals := 3, code := jdk_67_method_16_code, exceptionTable := #[], attributes := #[] }
def k9m2 : Method := { name := "append", desc := "(J)Ljava/lang/StringBuilder;", sig := { parameters := [.long], returnType := some (.object "java/lang/StringBuilder") }, accessFlags := 1, code := some k9c2 }
def k9c3 : Code := { maxStack := 3, maxLocals := 1, code := jdk_67_method_42_code, exceptionTable := #[], attributes := #[] }
def k9m3 : Method := { name := "toString", desc := "()Ljava/lang/String;", sig := { parameters := [], returnType := some (.object "java/lang/String") }, accessFlags := 1, code := some k9c3 }
def k9c4 : Code := { maxStack := 1, maxLocals := 1, code := jdk_67_method_93_code, exceptionTable := #[], attributes := #[] }
def k9m4 : Method := { name := "length", desc := "()I", sig := { parameters := [], returnType := some .int }, accessFlags := 4161, code := some k9c4 }
/-- java/lang/StringBuilder -/
def k9 : Class := { plain "java/lang/StringBuilder" (some 6) with
  accessFlags := 49
  interfaces := #[4, 7, 8, 5]
  cf := some (fileOf pool9 24 #[] #[{ accessFlags := 1, nameIndex := 5, descriptorIndex := 145, attributes := #[] }, { accessFlags := 1, nameIndex := 27, descriptorIndex := 28, attributes := #[] }, { accessFlags := 1, nameIndex := 27, descriptorIndex := 281, attributes := #[] }, { accessFlags := 1, nameIndex := 399, descriptorIndex := 400, attributes := #[] }, { accessFlags := 4161, nameIndex := 345, descriptorIndex := 156, attributes := #[] }] 49 2 #[349, 351, 353, 355] #[{ accessFlags := 24, nameIndex := 357, descriptorIndex := 358, attributes := #[] }])
  fields := #[{ name := "serialVersionUID", type := .long, accessFlags := 24, slot := 0, constantValue := 0 }]
  methods := #[k9m0, k9m1, k9m2, k9m3, k9m4]
  instanceTypes := #[(.array .byte), .byte, .boolean, .int]
  staticTypes := #[.long]
  resolved := Array.replicate 422 none
  statics := none }

def pool10 : Array CpInfo := pool [(1, .class_ 2), (0, u "java/lang/constant/Constable"), (0, .class_ 4), (0, u "java/lang/Object")] 6

/-- java/lang/constant/Constable -/
def k10 : Class := { plain "java/lang/constant/Constable" (some 0) with
  accessFlags := 1537
  interfaces := #[]
  cf := some (fileOf pool10 1 #[] #[] 1537 3 #[] #[])
  fields := #[]
  methods := #[]
  instanceTypes := #[]
  staticTypes := #[]
  resolved := Array.replicate 11 none
  statics := none }

def pool11 : Array CpInfo := pool [(1, .class_ 2), (0, u "java/lang/constant/ConstantDesc"), (0, .class_ 4), (0, u "java/lang/Object")] 32

/-- java/lang/constant/ConstantDesc -/
def k11 : Class := { plain "java/lang/constant/ConstantDesc" (some 0) with
  accessFlags := 1537
  interfaces := #[]
  cf := some (fileOf pool11 1 #[] #[] 1537 3 #[] #[])
  fields := #[]
  methods := #[]
  instanceTypes := #[]
  staticTypes := #[]
  resolved := Array.replicate 37 none
  statics := none }

def pool12 : Array CpInfo := pool [(1, .methodref 2 3), (0, .class_ 4), (0, .nameAndType 5 6), (0, u "java/lang/Object"), (0, u "<init>"), (0, u "()V"), (2, .fieldref 10 11), (0, .class_ 12), (0, .nameAndType 13 14), (0, u "java/lang/String"), (0, u "value"), (0, u "[B"), (0, .fieldref 10 16), (0, .nameAndType 17 18), (0, u "coder"), (0, u "B"), (2, u "hash"), (0, u "I"), (2, u "hashIsZero"), (0, u "Z"), (11, .fieldref 10 39), (0, .nameAndType 40 26), (0, u "COMPACT_STRINGS"), (13, .methodref 55 56), (0, .class_ 57), (0, .nameAndType 58 59), (0, u "java/util/Arrays"), (0, u "copyOfRange"), (0, u "([BII)[B"), (47, .class_ 109), (1, u "java/lang/StringLatin1"), (32, u "()Z"), (50, .class_ 195), (1, u "java/lang/System"), (16, .methodref 193 213), (0, .nameAndType 214 215), (0, u "arraycopy"), (0, u "(Ljava/lang/Object;ILjava/lang/Object;II)V"), (118, u "()I"), (0, .methodref 10 336), (0, .nameAndType 17 337), (0, u "()B"), (2, u "()[B"), (22, u "([BI)C"), (27, u "(II)V"), (35, u "(I)C"), (61, .methodref 10 490), (0, .nameAndType 5 491), (0, u "(Ljava/lang/AbstractStringBuilder;Ljava/lang/Void;)V"), (0, .methodref 10 493), (0, .nameAndType 494 142), (0, u "isLatin1"), (0, .methodref 107 496), (0, .nameAndType 497 363), (0, u "charAt"), (3, u "checkIndex"), (4, .nameAndType 507 334), (0, u "length"), (24, u "getBytes"), (16, .methodref 550 506), (0, .class_ 551), (0, u "java/lang/AbstractStringBuilder"), (0, .methodref 550 553), (0, .nameAndType 554 340), (0, u "getValue"), (20, .class_ 576), (0, u "java/lang/CharSequence"), (22, u "CASE_INSENSITIVE_ORDER"), (0, u "Ljava/util/Comparator;"), (220, u "([BIB)V"), (225, .methodref 550 493), (5, .fieldref 1054 1055), (0, .class_ 1056), (0, .nameAndType 1057 1058), (0, u "jdk/internal/util/Preconditions"), (0, u "SIOOBE_FORMATTER"), (0, u "Ljava/util/function/BiFunction;"), (0, .methodref 1054 1060), (0, .nameAndType 501 1061), (0, u "(IILjava/util/function/BiFunction;)I"), (39, u "serialPersistentFields"), (0, u "[Ljava/io/ObjectStreamField;"), (0, .class_ 1104), (0, u "java/lang/String$CaseInsensitiveComparator"), (1, .class_ 1107), (0, u "java/io/Serializable"), (0, .class_ 1109), (0, u "java/lang/Comparable"), (0, .class_ 1111), (0, u "java/lang/constant/Constable"), (0, .class_ 1113), (0, u "java/lang/constant/ConstantDesc"), (2, u "serialVersionUID"), (0, u "J"), (3, u "REPL"), (0, u "C"), (2, u "LATIN1"), (1, u "UTF16"), (105, u "(Ljava/lang/StringBuilder;)V")] 217

def k12m0 : Method := { name := "<init>", desc := "()V", sig := { parameters := [], returnType := none }, accessFlags := 1, code := none }
def k12c1 : Code := { maxStack := 3, maxLocals := 2, code := jdk_42_method_53_code, exceptionTable := #[], attributes := #[] }
def k12m1 : Method := { name := "<init>", desc := "(Ljava/lang/StringBuilder;)V", sig := { parameters := [(.object "java/lang/StringBuilder")], returnType := none }, accessFlags := 1, code := some k12c1 }
def k12c2 : Code := { maxStack := 2, maxLocals := 1, code := jdk_42_method_54_code, exceptionTable := #[], attributes := #[] }
def k12m2 : Method := { name := "length", desc := "()I", sig := { parameters := [], returnType := some .int }, accessFlags := 1, code := some k12c2 }
def k12c3 : Code := { maxStack := 2, maxLocals := 2, code := jdk_42_method_56_code, exceptionTable := #[], attributes := #[] }
def k12m3 : Method := { name := "charAt", desc := "(I)C", sig := { parameters := [.int], returnType := some .char }, accessFlags := 1, code := some k12c3 }
def k12c4 : Code := { maxStack := 5, maxLocals := 4, code := jdk_42_method_147_code, exceptionTable := #[], attributes := #[] }
def k12m4 : Method := { name := "getBytes", desc := "([BIB)V", sig := { parameters := [(.array .byte), .int, .byte], returnType := none }, accessFlags := 0, code := some k12c4 }
def k12c5 : Code := { maxStack := 5, maxLocals := 5, code := jdk_42_method_150_code, exceptionTable := #[], attributes := #[] }
def k12m5 : Method := { name := "<init>", desc := "(Ljava/lang/AbstractStringBuilder;Ljava/lang/Void;)V", sig := { parameters := [(.object "java/lang/AbstractStringBuilder"), (.object "java/lang/Void")], returnType := none }, accessFlags := 0, code := some k12c5 }
def k12c6 : Code := { maxStack := 1, maxLocals := 1, code := jdk_42_method_152_code, exceptionTable := #[], attributes := #[] }
def k12m6 : Method := { name := "coder", desc := "()B", sig := { parameters := [], returnType := some .byte }, accessFlags := 0, code := some k12c6 }
def k12c7 : Code := { maxStack := 1, maxLocals := 1, code := jdk_42_method_154_code, exceptionTable := #[], attributes := #[] }
def k12m7 : Method := { name := "isLatin1", desc := "()Z", sig := { parameters := [], returnType := some .boolean }, accessFlags := 0, code := some k12c7 }
def k12c8 : Code := { maxStack := 3, maxLocals := 2, code := jdk_42_method_155_code, exceptionTable := #[], attributes := #[] }
def k12m8 : Method := { name := "checkIndex", desc := "(II)V", sig := { parameters := [.int, .int], returnType := none }, accessFlags := 8, code := some k12c8 }
/-- java/lang/String -/
def k12 : Class := { plain "java/lang/String" (some 0) with
  accessFlags := 49
  interfaces := #[7, 8, 5, 10, 11]
  cf := some (fileOf pool12 10 #[.nestMembers #[1103]] #[{ accessFlags := 1, nameIndex := 5, descriptorIndex := 6, attributes := #[] }, { accessFlags := 1, nameIndex := 5, descriptorIndex := 1233, attributes := #[] }, { accessFlags := 1, nameIndex := 507, descriptorIndex := 334, attributes := #[] }, { accessFlags := 1, nameIndex := 497, descriptorIndex := 427, attributes := #[] }, { accessFlags := 0, nameIndex := 532, descriptorIndex := 821, attributes := #[] }, { accessFlags := 0, nameIndex := 5, descriptorIndex := 491, attributes := #[] }, { accessFlags := 0, nameIndex := 17, descriptorIndex := 337, attributes := #[] }, { accessFlags := 0, nameIndex := 494, descriptorIndex := 142, attributes := #[] }, { accessFlags := 8, nameIndex := 501, descriptorIndex := 391, attributes := #[] }] 49 2 #[1106, 1108, 575, 1110, 1112] #[{ accessFlags := 18, nameIndex := 13, descriptorIndex := 14, attributes := #[] }, { accessFlags := 18, nameIndex := 17, descriptorIndex := 18, attributes := #[] }, { accessFlags := 2, nameIndex := 21, descriptorIndex := 22, attributes := #[] }, { accessFlags := 2, nameIndex := 25, descriptorIndex := 26, attributes := #[] }, { accessFlags := 26, nameIndex := 1116, descriptorIndex := 1117, attributes := #[] }, { accessFlags := 24, nameIndex := 40, descriptorIndex := 26, attributes := #[] }, { accessFlags := 26, nameIndex := 1101, descriptorIndex := 1102, attributes := #[] }, { accessFlags := 26, nameIndex := 1121, descriptorIndex := 1122, attributes := #[] }, { accessFlags := 25, nameIndex := 599, descriptorIndex := 600, attributes := #[] }, { accessFlags := 24, nameIndex := 1125, descriptorIndex := 18, attributes := #[] }, { accessFlags := 24, nameIndex := 1127, descriptorIndex := 18, attributes := #[] }])
  fields := #[{ name := "value", type := (.array .byte), accessFlags := 18, slot := 0, constantValue := 0 }, { name := "coder", type := .byte, accessFlags := 18, slot := 1, constantValue := 0 }, { name := "hash", type := .int, accessFlags := 2, slot := 2, constantValue := 0 }, { name := "hashIsZero", type := .boolean, accessFlags := 2, slot := 3, constantValue := 0 }, { name := "serialVersionUID", type := .long, accessFlags := 26, slot := 0, constantValue := 0 }, { name := "COMPACT_STRINGS", type := .boolean, accessFlags := 24, slot := 1, constantValue := 0 }, { name := "serialPersistentFields", type := (.array (.object "java/io/ObjectStreamField")), accessFlags := 26, slot := 2, constantValue := 0 }, { name := "REPL", type := .char, accessFlags := 26, slot := 3, constantValue := 0 }, { name := "CASE_INSENSITIVE_ORDER", type := (.object "java/util/Comparator"), accessFlags := 25, slot := 4, constantValue := 0 }, { name := "LATIN1", type := .byte, accessFlags := 24, slot := 5, constantValue := 0 }, { name := "UTF16", type := .byte, accessFlags := 24, slot := 6, constantValue := 0 }]
  methods := #[k12m0, k12m1, k12m2, k12m3, k12m4, k12m5, k12m6, k12m7, k12m8]
  instanceTypes := #[(.array .byte), .byte, .int, .boolean]
  staticTypes := #[.long, .boolean, (.array (.object "java/io/ObjectStreamField")), .char, (.object "java/util/Comparator"), .byte, .byte]
  resolved := Array.replicate 1451 none
  statics := some 0 }

def pool13 : Array CpInfo := pool [(2, .class_ 4), (1, u "java/lang/Object"), (0, u "<init>"), (0, u "()V"), (1, .class_ 10), (1, u "java/lang/System"), (0, u "allowSecurityManager"), (0, u "I"), (16, u "cons"), (0, u "Ljava/io/Console;"), (77, .class_ 110), (1, u "java/lang/System$CallersHolder"), (43, u "initialErrStream"), (0, u "Ljava/io/PrintStream;"), (19, u "security"), (0, u "Ljava/lang/SecurityManager;"), (31, .class_ 209), (0, u "java/lang/System$1"), (7, u "props"), (0, u "Ljava/util/Properties;"), (2, u "lineSeparator"), (0, u "Ljava/lang/String;"), (96, .class_ 321), (1, u "java/lang/System$LoggerFinder"), (5, .class_ 328), (0, u "java/lang/System$Logger"), (67, u "err"), (2, u "out"), (91, u "notSupportedJnuEncoding"), (15, u "in"), (17, u "initialIn"), (0, u "Ljava/io/InputStream;"), (35, u "bootLayer"), (0, u "Ljava/lang/ModuleLayer;"), (99, .class_ 664), (0, u "java/lang/System$2"), (9, u "NEVER"), (2, u "MAYBE"), (49, u "arraycopy"), (0, u "(Ljava/lang/Object;ILjava/lang/Object;II)V"), (72, .class_ 802), (0, u "java/lang/System$Logger$Level")] 31

def k13m0 : Method := { name := "<init>", desc := "()V", sig := { parameters := [], returnType := none }, accessFlags := 2, code := none }
def k13m1 : Method := { name := "arraycopy", desc := "(Ljava/lang/Object;ILjava/lang/Object;II)V", sig := { parameters := [(.object "java/lang/Object"), .int, (.object "java/lang/Object"), .int, .int], returnType := none }, accessFlags := 265, code := none }
/-- java/lang/System -/
def k13 : Class := { plain "java/lang/System" (some 0) with
  accessFlags := 49
  interfaces := #[]
  cf := some (fileOf pool13 8 #[.nestMembers #[319, 327, 801, 108, 663, 208]] #[{ accessFlags := 2, nameIndex := 5, descriptorIndex := 6, attributes := #[] }, { accessFlags := 265, nameIndex := 727, descriptorIndex := 728, attributes := #[] }] 49 2 #[] #[{ accessFlags := 25, nameIndex := 507, descriptorIndex := 526, attributes := #[] }, { accessFlags := 25, nameIndex := 399, descriptorIndex := 155, attributes := #[] }, { accessFlags := 25, nameIndex := 396, descriptorIndex := 155, attributes := #[] }, { accessFlags := 10, nameIndex := 525, descriptorIndex := 526, attributes := #[] }, { accessFlags := 26, nameIndex := 674, descriptorIndex := 12, attributes := #[] }, { accessFlags := 26, nameIndex := 677, descriptorIndex := 12, attributes := #[] }, { accessFlags := 10, nameIndex := 11, descriptorIndex := 12, attributes := #[] }, { accessFlags := 74, nameIndex := 175, descriptorIndex := 176, attributes := #[] }, { accessFlags := 10, nameIndex := 491, descriptorIndex := 222, attributes := #[] }, { accessFlags := 74, nameIndex := 29, descriptorIndex := 30, attributes := #[] }, { accessFlags := 74, nameIndex := 154, descriptorIndex := 155, attributes := #[] }, { accessFlags := 10, nameIndex := 217, descriptorIndex := 218, attributes := #[] }, { accessFlags := 10, nameIndex := 221, descriptorIndex := 222, attributes := #[] }, { accessFlags := 8, nameIndex := 562, descriptorIndex := 563, attributes := #[] }])
  fields := #[{ name := "in", type := (.object "java/io/InputStream"), accessFlags := 25, slot := 0, constantValue := 0 }, { name := "out", type := (.object "java/io/PrintStream"), accessFlags := 25, slot := 1, constantValue := 0 }, { name := "err", type := (.object "java/io/PrintStream"), accessFlags := 25, slot := 2, constantValue := 0 }, { name := "initialIn", type := (.object "java/io/InputStream"), accessFlags := 10, slot := 3, constantValue := 0 }, { name := "NEVER", type := .int, accessFlags := 26, slot := 4, constantValue := 0 }, { name := "MAYBE", type := .int, accessFlags := 26, slot := 5, constantValue := 0 }, { name := "allowSecurityManager", type := .int, accessFlags := 10, slot := 6, constantValue := 0 }, { name := "security", type := (.object "java/lang/SecurityManager"), accessFlags := 74, slot := 7, constantValue := 0 }, { name := "notSupportedJnuEncoding", type := (.object "java/lang/String"), accessFlags := 10, slot := 8, constantValue := 0 }, { name := "cons", type := (.object "java/io/Console"), accessFlags := 74, slot := 9, constantValue := 0 }, { name := "initialErrStream", type := (.object "java/io/PrintStream"), accessFlags := 74, slot := 10, constantValue := 0 }, { name := "props", type := (.object "java/util/Properties"), accessFlags := 10, slot := 11, constantValue := 0 }, { name := "lineSeparator", type := (.object "java/lang/String"), accessFlags := 10, slot := 12, constantValue := 0 }, { name := "bootLayer", type := (.object "java/lang/ModuleLayer"), accessFlags := 8, slot := 13, constantValue := 0 }]
  methods := #[k13m0, k13m1]
  instanceTypes := #[]
  staticTypes := #[(.object "java/io/InputStream"), (.object "java/io/PrintStream"), (.object "java/io/PrintStream"), (.object "java/io/InputStream"), .int, .int, .int, (.object "java/lang/SecurityManager"), (.object "java/lang/String"), (.object "java/io/Console"), (.object "java/io/PrintStream"), (.object "java/util/Properties"), (.object "java/lang/String"), (.object "java/lang/ModuleLayer")]
  resolved := Array.replicate 834 none
  statics := none }

def pool14 : Array CpInfo := pool [(2, .class_ 4), (1, u "java/lang/Object"), (0, u "<init>"), (0, u "()V"), (1, .class_ 10), (1, u "java/lang/Number"), (2, .class_ 14), (0, u "java/io/Serializable"), (0, u "serialVersionUID"), (0, u "J")] 20

def k14m0 : Method := { name := "<init>", desc := "()V", sig := { parameters := [], returnType := none }, accessFlags := 1, code := none }
/-- java/lang/Number -/
def k14 : Class := { plain "java/lang/Number" (some 0) with
  accessFlags := 1057
  interfaces := #[7]
  cf := some (fileOf pool14 8 #[] #[{ accessFlags := 1, nameIndex := 5, descriptorIndex := 6, attributes := #[] }] 1057 2 #[13] #[{ accessFlags := 26, nameIndex := 15, descriptorIndex := 16, attributes := #[] }])
  fields := #[{ name := "serialVersionUID", type := .long, accessFlags := 26, slot := 0, constantValue := 0 }]
  methods := #[k14m0]
  instanceTypes := #[]
  staticTypes := #[.long]
  resolved := Array.replicate 37 none
  statics := none }

def pool15 : Array CpInfo := pool [(1, .class_ 2), (0, u "java/lang/Long"), (15, .class_ 20), (1, u "java/lang/Integer"), (32, .long 10), (47, u "(J)I"), (18, u "stringSize"), (2, u "getChars"), (0, u "(JI[B)I"), (4, .long 18446744071562067968), (1, .long 100), (1, .fieldref 18 134), (0, .nameAndType 135 136), (0, u "DigitOnes"), (0, u "[B"), (0, .fieldref 18 138), (0, .nameAndType 139 136), (0, u "DigitTens"), (0, .long 18446744073709551606), (94, .class_ 237), (1, u "java/lang/Long$LongCache"), (33, .class_ 272), (0, u "java/lang/Number"), (2, u "value"), (0, u "J"), (84, u "TYPE"), (0, u "Ljava/lang/Class;"), (0, .class_ 364), (0, u "java/lang/Comparable"), (0, .class_ 366), (0, u "java/lang/constant/Constable"), (0, .class_ 368), (0, u "java/lang/constant/ConstantDesc"), (0, u "MIN_VALUE"), (1, u "MAX_VALUE"), (4, u "SIZE"), (0, u "I"), (1, u "BYTES"), (1, u "serialVersionUID")] 142

def k15c0 : Code := { maxStack := 4, maxLocals := 11, code := jdk_35_method_14_code, exceptionTable := #[], attributes := #[] }
def k15m0 : Method := { name := "getChars", desc := "(JI[B)I", sig := { parameters := [.long, .int, (.array .byte)], returnType := some .int }, accessFlags := 8, code := some k15c0 }
def k15c1 : Code := { maxStack := 4, maxLocals := 6, code := jdk_35_method_15_code, exceptionTable := #[], attributes := #[] }
def k15m1 : Method := { name := "stringSize", desc := "(J)I", sig := { parameters := [.long], returnType := some .int }, accessFlags := 8, code := some k15c1 }
/-- java/lang/Long -/
def k15 : Class := { plain "java/lang/Long" (some 14) with
  accessFlags := 49
  interfaces := #[8, 10, 11]
  cf := some (fileOf pool15 1 #[.nestMembers #[235]] #[{ accessFlags := 8, nameIndex := 123, descriptorIndex := 124, attributes := #[] }, { accessFlags := 8, nameIndex := 120, descriptorIndex := 101, attributes := #[] }] 49 271 #[363, 365, 367] #[{ accessFlags := 25, nameIndex := 369, descriptorIndex := 276, attributes := #[] }, { accessFlags := 25, nameIndex := 371, descriptorIndex := 276, attributes := #[] }, { accessFlags := 25, nameIndex := 361, descriptorIndex := 362, attributes := #[] }, { accessFlags := 18, nameIndex := 275, descriptorIndex := 276, attributes := #[] }, { accessFlags := 25, nameIndex := 376, descriptorIndex := 377, attributes := #[] }, { accessFlags := 25, nameIndex := 379, descriptorIndex := 377, attributes := #[] }, { accessFlags := 26, nameIndex := 381, descriptorIndex := 276, attributes := #[] }])
  fields := #[{ name := "MIN_VALUE", type := .long, accessFlags := 25, slot := 0, constantValue := 0 }, { name := "MAX_VALUE", type := .long, accessFlags := 25, slot := 1, constantValue := 0 }, { name := "TYPE", type := (.object "java/lang/Class"), accessFlags := 25, slot := 2, constantValue := 0 }, { name := "value", type := .long, accessFlags := 18, slot := 0, constantValue := 0 }, { name := "SIZE", type := .int, accessFlags := 25, slot := 3, constantValue := 0 }, { name := "BYTES", type := .int, accessFlags := 25, slot := 4, constantValue := 0 }, { name := "serialVersionUID", type := .long, accessFlags := 26, slot := 5, constantValue := 0 }]
  methods := #[k15m0, k15m1]
  instanceTypes := #[.long]
  staticTypes := #[.long, .long, (.object "java/lang/Class"), .int, .int, .long]
  resolved := Array.replicate 524 none
  statics := none }

def pool16 : Array CpInfo := pool [(1, .class_ 2), (0, u "java/lang/Integer"), (16, u "digits"), (0, u "[C"), (64, u "DigitOnes"), (0, u "[B"), (2, u "DigitTens"), (99, .class_ 190), (0, u "java/lang/Integer$IntegerCache"), (3, u "I"), (8, .class_ 204), (0, u "java/lang/Number"), (2, u "value"), (94, u "TYPE"), (0, u "Ljava/lang/Class;"), (0, .class_ 305), (0, u "java/lang/Comparable"), (0, .class_ 307), (0, u "java/lang/constant/Constable"), (0, .class_ 309), (0, u "java/lang/constant/ConstantDesc"), (0, u "MIN_VALUE"), (1, u "MAX_VALUE"), (3, u "SIZE"), (1, u "BYTES"), (1, u "serialVersionUID"), (0, u "J")] 131

/-- java/lang/Integer -/
def k16 : Class := { plain "java/lang/Integer" (some 14) with
  accessFlags := 49
  interfaces := #[8, 10, 11]
  cf := some (fileOf pool16 1 #[.nestMembers #[189]] #[] 49 203 #[304, 306, 308] #[{ accessFlags := 25, nameIndex := 310, descriptorIndex := 194, attributes := #[] }, { accessFlags := 25, nameIndex := 312, descriptorIndex := 194, attributes := #[] }, { accessFlags := 25, nameIndex := 302, descriptorIndex := 303, attributes := #[] }, { accessFlags := 24, nameIndex := 19, descriptorIndex := 20, attributes := #[] }, { accessFlags := 24, nameIndex := 89, descriptorIndex := 86, attributes := #[] }, { accessFlags := 24, nameIndex := 85, descriptorIndex := 86, attributes := #[] }, { accessFlags := 18, nameIndex := 207, descriptorIndex := 194, attributes := #[] }, { accessFlags := 25, nameIndex := 316, descriptorIndex := 194, attributes := #[] }, { accessFlags := 25, nameIndex := 318, descriptorIndex := 194, attributes := #[] }, { accessFlags := 26, nameIndex := 320, descriptorIndex := 321, attributes := #[] }])
  fields := #[{ name := "MIN_VALUE", type := .int, accessFlags := 25, slot := 0, constantValue := 0 }, { name := "MAX_VALUE", type := .int, accessFlags := 25, slot := 1, constantValue := 0 }, { name := "TYPE", type := (.object "java/lang/Class"), accessFlags := 25, slot := 2, constantValue := 0 }, { name := "digits", type := (.array .char), accessFlags := 24, slot := 3, constantValue := 0 }, { name := "DigitTens", type := (.array .byte), accessFlags := 24, slot := 4, constantValue := 0 }, { name := "DigitOnes", type := (.array .byte), accessFlags := 24, slot := 5, constantValue := 0 }, { name := "value", type := .int, accessFlags := 18, slot := 0, constantValue := 0 }, { name := "SIZE", type := .int, accessFlags := 25, slot := 6, constantValue := 0 }, { name := "BYTES", type := .int, accessFlags := 25, slot := 7, constantValue := 0 }, { name := "serialVersionUID", type := .long, accessFlags := 26, slot := 8, constantValue := 0 }]
  methods := #[]
  instanceTypes := #[.int]
  staticTypes := #[.int, .int, (.object "java/lang/Class"), (.array .char), (.array .byte), (.array .byte), .int, .int, .long]
  resolved := Array.replicate 453 none
  statics := some 1 }

def pool17 : Array CpInfo := pool [(2, .class_ 4), (1, u "java/lang/Object"), (0, u "<init>"), (0, u "()V"), (7, .class_ 16), (1, u "java/util/Arrays"), (57, .class_ 76), (1, u "java/util/Arrays$NaturalOrder"), (32, u "()Ljava/lang/Object;"), (3, .class_ 115), (1, u "java/util/Arrays$LegacyMergeSort"), (1, u "Z"), (10, .nameAndType 129 109), (0, u "clone"), (9, u "copyOfRange"), (10, .methodref 151 152), (0, .class_ 153), (0, .nameAndType 154 155), (0, u "java/lang/System"), (0, u "arraycopy"), (0, u "(Ljava/lang/Object;ILjava/lang/Object;II)V"), (146, u "copyOf"), (1, .methodref 305 306), (0, .class_ 307), (0, .nameAndType 308 309), (0, u "java/lang/Math"), (0, u "min"), (0, u "(II)I"), (0, .methodref 311 128), (0, .class_ 312), (0, u "[B"), (26, .methodref 14 340), (0, .nameAndType 341 342), (0, u "copyOfRangeByte"), (0, u "([BII)[B"), (0, .methodref 14 344), (0, .nameAndType 345 346), (0, u "checkLength"), (0, u "(II)V"), (28, .class_ 376), (0, u "java/util/Arrays$ArrayList"), (68, u "$assertionsDisabled"), (269, u "MIN_ARRAY_SORT_GRAN"), (0, u "I"), (2, u "INSERTIONSORT_THRESHOLD"), (149, u "([BI)[B"), (105, .class_ 976), (0, u "java/util/Arrays$ArrayItr")] 52

def k17m0 : Method := { name := "<init>", desc := "()V", sig := { parameters := [], returnType := none }, accessFlags := 2, code := none }
def k17c1 : Code := { maxStack := 6, maxLocals := 3, code := jdk_65_method_121_code, exceptionTable := #[], attributes := #[] }
def k17m1 : Method := { name := "copyOf", desc := "([BI)[B", sig := { parameters := [(.array .byte), .int], returnType := some (.array .byte) }, accessFlags := 9, code := some k17c1 }
def k17c2 : Code := { maxStack := 4, maxLocals := 2, code := jdk_65_method_131_code, exceptionTable := #[], attributes := #[] }
def k17m2 : Method := { name := "checkLength", desc := "(II)V", sig := { parameters := [.int, .int], returnType := none }, accessFlags := 10, code := some k17c2 }
def k17c3 : Code := { maxStack := 3, maxLocals := 3, code := jdk_65_method_132_code, exceptionTable := #[], attributes := #[] }
def k17m3 : Method := { name := "copyOfRange", desc := "([BII)[B", sig := { parameters := [(.array .byte), .int, .int], returnType := some (.array .byte) }, accessFlags := 9, code := some k17c3 }
def k17c4 : Code := { maxStack := 6, maxLocals := 5, code := jdk_65_method_133_code, exceptionTable := #[], attributes := #[] }
def k17m4 : Method := { name := "copyOfRangeByte", desc := "([BII)[B", sig := { parameters := [(.array .byte), .int, .int], returnType := some (.array .byte) }, accessFlags := 10, code := some k17c4 }
/-- java/util/Arrays -/
def k17 : Class := { plain "java/util/Arrays" (some 0) with
  accessFlags := 49
  interfaces := #[]
  cf := some (fileOf pool17 14 #[.nestMembers #[975, 375, 113, 74]] #[{ accessFlags := 2, nameIndex := 5, descriptorIndex := 6, attributes := #[] }, { accessFlags := 9, nameIndex := 302, descriptorIndex := 869, attributes := #[] }, { accessFlags := 10, nameIndex := 345, descriptorIndex := 346, attributes := #[] }, { accessFlags := 9, nameIndex := 139, descriptorIndex := 342, attributes := #[] }, { accessFlags := 10, nameIndex := 341, descriptorIndex := 342, attributes := #[] }] 49 2 #[] #[{ accessFlags := 26, nameIndex := 715, descriptorIndex := 716, attributes := #[] }, { accessFlags := 26, nameIndex := 719, descriptorIndex := 716, attributes := #[] }, { accessFlags := 4120, nameIndex := 445, descriptorIndex := 117, attributes := #[] }])
  fields := #[{ name := "MIN_ARRAY_SORT_GRAN", type := .int, accessFlags := 26, slot := 0, constantValue := 0 }, { name := "INSERTIONSORT_THRESHOLD", type := .int, accessFlags := 26, slot := 1, constantValue := 0 }, { name := "$assertionsDisabled", type := .boolean, accessFlags := 4120, slot := 2, constantValue := 0 }]
  methods := #[k17m0, k17m1, k17m2, k17m3, k17m4]
  instanceTypes := #[]
  staticTypes := #[.int, .int, .boolean]
  resolved := Array.replicate 1029 none
  statics := none }

def pool18 : Array CpInfo := pool [(1, .class_ 2), (0, u "java/lang/Math"), (1, .class_ 6), (1, u "java/lang/Object"), (0, u "<init>"), (0, u "()V"), (89, .class_ 100), (1, u "java/lang/Math$RandomNumberGeneratorHolder"), (71, u "negativeZeroFloatBits"), (0, u "J"), (2, u "negativeZeroDoubleBits"), (21, u "max"), (2, u "min"), (43, u "$assertionsDisabled"), (0, u "Z"), (88, u "(II)I"), (2, u "twoToTheDoubleScaleDown"), (0, u "D"), (4, u "twoToTheDoubleScaleUp"), (9, u "E"), (3, u "PI"), (2, u "TAU"), (2, u "DEGREES_TO_RADIANS"), (0, u "RADIANS_TO_DEGREES")] 94

def k18m0 : Method := { name := "<init>", desc := "()V", sig := { parameters := [], returnType := none }, accessFlags := 2, code := none }
def k18c1 : Code := { maxStack := 2, maxLocals := 2, code := jdk_29_method_65_code, exceptionTable := #[], attributes := #[] }
def k18m1 : Method := { name := "max", desc := "(II)I", sig := { parameters := [.int, .int], returnType := some .int }, accessFlags := 9, code := some k18c1 }
def k18c2 : Code := { maxStack := 2, maxLocals := 2, code := jdk_29_method_69_code, exceptionTable := #[], attributes := #[] }
def k18m2 : Method := { name := "min", desc := "(II)I", sig := { parameters := [.int, .int], returnType := some .int }, accessFlags := 9, code := some k18c2 }
/-- java/lang/Math -/
def k18 : Class := { plain "java/lang/Math" (some 0) with
  accessFlags := 49
  interfaces := #[]
  cf := some (fileOf pool18 1 #[.nestMembers #[98]] #[{ accessFlags := 2, nameIndex := 7, descriptorIndex := 8, attributes := #[] }, { accessFlags := 9, nameIndex := 198, descriptorIndex := 335, attributes := #[] }, { accessFlags := 9, nameIndex := 201, descriptorIndex := 335, attributes := #[] }] 49 4 #[] #[{ accessFlags := 25, nameIndex := 354, descriptorIndex := 339, attributes := #[] }, { accessFlags := 25, nameIndex := 358, descriptorIndex := 339, attributes := #[] }, { accessFlags := 25, nameIndex := 361, descriptorIndex := 339, attributes := #[] }, { accessFlags := 26, nameIndex := 364, descriptorIndex := 339, attributes := #[] }, { accessFlags := 26, nameIndex := 365, descriptorIndex := 339, attributes := #[] }, { accessFlags := 26, nameIndex := 172, descriptorIndex := 173, attributes := #[] }, { accessFlags := 26, nameIndex := 176, descriptorIndex := 173, attributes := #[] }, { accessFlags := 8, nameIndex := 344, descriptorIndex := 339, attributes := #[] }, { accessFlags := 8, nameIndex := 338, descriptorIndex := 339, attributes := #[] }, { accessFlags := 4120, nameIndex := 245, descriptorIndex := 246, attributes := #[] }])
  fields := #[{ name := "E", type := .double, accessFlags := 25, slot := 0, constantValue := 0 }, { name := "PI", type := .double, accessFlags := 25, slot := 1, constantValue := 0 }, { name := "TAU", type := .double, accessFlags := 25, slot := 2, constantValue := 0 }, { name := "DEGREES_TO_RADIANS", type := .double, accessFlags := 26, slot := 3, constantValue := 0 }, { name := "RADIANS_TO_DEGREES", type := .double, accessFlags := 26, slot := 4, constantValue := 0 }, { name := "negativeZeroFloatBits", type := .long, accessFlags := 26, slot := 5, constantValue := 0 }, { name := "negativeZeroDoubleBits", type := .long, accessFlags := 26, slot := 6, constantValue := 0 }, { name := "twoToTheDoubleScaleUp", type := .double, accessFlags := 8, slot := 7, constantValue := 0 }, { name := "twoToTheDoubleScaleDown", type := .double, accessFlags := 8, slot := 8, constantValue := 0 }, { name := "$assertionsDisabled", type := .boolean, accessFlags := 4120, slot := 9, constantValue := 0 }]
  methods := #[k18m0, k18m1, k18m2]
  instanceTypes := #[]
  staticTypes := #[.double, .double, .double, .double, .double, .long, .long, .double, .double, .boolean]
  resolved := Array.replicate 460 none
  statics := none }

def pool19 : Array CpInfo := pool [(9, u "<init>"), (6, .class_ 18), (1, u "java/lang/Object"), (0, u "()V"), (1, .class_ 23), (1, u "jdk/internal/util/ArraysSupport"), (0, u "LOG2_ARRAY_LONG_INDEX_SCALE"), (0, u "I"), (2, u "U"), (0, u "Ljdk/internal/misc/Unsafe;"), (8, u "BIG_ENDIAN"), (0, u "Z"), (8, u "LOG2_BYTE_BIT_SIZE"), (4, u "LOG2_ARRAY_INT_INDEX_SCALE"), (54, u "JLA"), (0, u "Ljdk/internal/access/JavaLangAccess;"), (11, u "LOG2_ARRAY_BOOLEAN_INDEX_SCALE"), (9, u "LOG2_ARRAY_BYTE_INDEX_SCALE"), (5, u "LOG2_ARRAY_CHAR_INDEX_SCALE"), (5, u "LOG2_ARRAY_SHORT_INDEX_SCALE"), (18, u "LOG2_ARRAY_FLOAT_INDEX_SCALE"), (24, u "LOG2_ARRAY_DOUBLE_INDEX_SCALE"), (6, .methodref 195 196), (0, .class_ 197), (0, .nameAndType 198 199), (0, u "java/lang/Math"), (0, u "max"), (0, u "(II)I"), (0, .integer 2147483639), (76, u "T_BOOLEAN"), (2, u "T_CHAR"), (1, u "T_FLOAT"), (1, u "T_DOUBLE"), (1, u "T_BYTE"), (1, u "T_SHORT"), (1, u "T_INT"), (1, u "T_LONG"), (1, u "SOFT_MAX_ARRAY_LENGTH"), (56, u "newLength"), (0, u "(III)I")] 25

def k19m0 : Method := { name := "<init>", desc := "()V", sig := { parameters := [], returnType := none }, accessFlags := 2, code := none }
def k19c1 : Code := { maxStack := 3, maxLocals := 4, code := jdk_48_method_27_code, exceptionTable := #[], attributes := #[] }
def k19m1 : Method := { name := "newLength", desc := "(III)I", sig := { parameters := [.int, .int, .int], returnType := some .int }, accessFlags := 9, code := some k19c1 }
/-- jdk/internal/util/ArraysSupport -/
def k19 : Class := { plain "jdk/internal/util/ArraysSupport" (some 0) with
  accessFlags := 33
  interfaces := #[]
  cf := some (fileOf pool19 21 #[] #[{ accessFlags := 2, nameIndex := 9, descriptorIndex := 19, attributes := #[] }, { accessFlags := 9, nameIndex := 351, descriptorIndex := 352, attributes := #[] }] 33 16 #[] #[{ accessFlags := 24, nameIndex := 28, descriptorIndex := 29, attributes := #[] }, { accessFlags := 26, nameIndex := 38, descriptorIndex := 39, attributes := #[] }, { accessFlags := 25, nameIndex := 121, descriptorIndex := 25, attributes := #[] }, { accessFlags := 25, nameIndex := 131, descriptorIndex := 25, attributes := #[] }, { accessFlags := 25, nameIndex := 137, descriptorIndex := 25, attributes := #[] }, { accessFlags := 25, nameIndex := 143, descriptorIndex := 25, attributes := #[] }, { accessFlags := 25, nameIndex := 53, descriptorIndex := 25, attributes := #[] }, { accessFlags := 25, nameIndex := 24, descriptorIndex := 25, attributes := #[] }, { accessFlags := 25, nameIndex := 162, descriptorIndex := 25, attributes := #[] }, { accessFlags := 25, nameIndex := 187, descriptorIndex := 25, attributes := #[] }, { accessFlags := 26, nameIndex := 48, descriptorIndex := 25, attributes := #[] }, { accessFlags := 25, nameIndex := 277, descriptorIndex := 25, attributes := #[] }, { accessFlags := 25, nameIndex := 280, descriptorIndex := 25, attributes := #[] }, { accessFlags := 25, nameIndex := 282, descriptorIndex := 25, attributes := #[] }, { accessFlags := 25, nameIndex := 284, descriptorIndex := 25, attributes := #[] }, { accessFlags := 25, nameIndex := 286, descriptorIndex := 25, attributes := #[] }, { accessFlags := 25, nameIndex := 288, descriptorIndex := 25, attributes := #[] }, { accessFlags := 25, nameIndex := 290, descriptorIndex := 25, attributes := #[] }, { accessFlags := 25, nameIndex := 292, descriptorIndex := 25, attributes := #[] }, { accessFlags := 26, nameIndex := 108, descriptorIndex := 109, attributes := #[] }, { accessFlags := 25, nameIndex := 294, descriptorIndex := 25, attributes := #[] }])
  fields := #[{ name := "U", type := (.object "jdk/internal/misc/Unsafe"), accessFlags := 24, slot := 0, constantValue := 0 }, { name := "BIG_ENDIAN", type := .boolean, accessFlags := 26, slot := 1, constantValue := 0 }, { name := "LOG2_ARRAY_BOOLEAN_INDEX_SCALE", type := .int, accessFlags := 25, slot := 2, constantValue := 0 }, { name := "LOG2_ARRAY_BYTE_INDEX_SCALE", type := .int, accessFlags := 25, slot := 3, constantValue := 0 }, { name := "LOG2_ARRAY_CHAR_INDEX_SCALE", type := .int, accessFlags := 25, slot := 4, constantValue := 0 }, { name := "LOG2_ARRAY_SHORT_INDEX_SCALE", type := .int, accessFlags := 25, slot := 5, constantValue := 0 }, { name := "LOG2_ARRAY_INT_INDEX_SCALE", type := .int, accessFlags := 25, slot := 6, constantValue := 0 }, { name := "LOG2_ARRAY_LONG_INDEX_SCALE", type := .int, accessFlags := 25, slot := 7, constantValue := 0 }, { name := "LOG2_ARRAY_FLOAT_INDEX_SCALE", type := .int, accessFlags := 25, slot := 8, constantValue := 0 }, { name := "LOG2_ARRAY_DOUBLE_INDEX_SCALE", type := .int, accessFlags := 25, slot := 9, constantValue := 0 }, { name := "LOG2_BYTE_BIT_SIZE", type := .int, accessFlags := 26, slot := 10, constantValue := 0 }, { name := "T_BOOLEAN", type := .int, accessFlags := 25, slot := 11, constantValue := 0 }, { name := "T_CHAR", type := .int, accessFlags := 25, slot := 12, constantValue := 0 }, { name := "T_FLOAT", type := .int, accessFlags := 25, slot := 13, constantValue := 0 }, { name := "T_DOUBLE", type := .int, accessFlags := 25, slot := 14, constantValue := 0 }, { name := "T_BYTE", type := .int, accessFlags := 25, slot := 15, constantValue := 0 }, { name := "T_SHORT", type := .int, accessFlags := 25, slot := 16, constantValue := 0 }, { name := "T_INT", type := .int, accessFlags := 25, slot := 17, constantValue := 0 }, { name := "T_LONG", type := .int, accessFlags := 25, slot := 18, constantValue := 0 }, { name := "JLA", type := (.object "jdk/internal/access/JavaLangAccess"), accessFlags := 26, slot := 19, constantValue := 0 }, { name := "SOFT_MAX_ARRAY_LENGTH", type := .int, accessFlags := 25, slot := 20, constantValue := 0 }]
  methods := #[k19m0, k19m1]
  instanceTypes := #[]
  staticTypes := #[(.object "jdk/internal/misc/Unsafe"), .boolean, .int, .int, .int, .int, .int, .int, .int, .int, .int, .int, .int, .int, .int, .int, .int, .int, .int, (.object "jdk/internal/access/JavaLangAccess"), .int]
  resolved := Array.replicate 378 none
  statics := none }

def pool20 : Array CpInfo := pool [(8, .class_ 10), (1, u "java/lang/Iterable"), (24, .class_ 36), (0, u "java/lang/Object")] 25

/-- java/lang/Iterable -/
def k20 : Class := { plain "java/lang/Iterable" (some 0) with
  accessFlags := 1537
  interfaces := #[]
  cf := some (fileOf pool20 8 #[] #[] 1537 35 #[] #[])
  fields := #[]
  methods := #[]
  instanceTypes := #[]
  staticTypes := #[]
  resolved := Array.replicate 62 none
  statics := none }

def pool21 : Array CpInfo := pool [(10, .class_ 12), (1, u "java/util/Collection"), (47, .class_ 61), (0, u "java/lang/Object"), (0, .class_ 63), (0, u "java/lang/Iterable")] 51

/-- java/util/Collection -/
def k21 : Class := { plain "java/util/Collection" (some 0) with
  accessFlags := 1537
  interfaces := #[20]
  cf := some (fileOf pool21 10 #[] #[] 1537 60 #[62] #[])
  fields := #[]
  methods := #[]
  instanceTypes := #[]
  staticTypes := #[]
  resolved := Array.replicate 115 none
  statics := none }

def pool22 : Array CpInfo := pool [(8, .class_ 10), (1, u "java/util/SequencedCollection"), (15, .class_ 27), (0, u "java/lang/Object"), (0, .class_ 29), (0, u "java/util/Collection")] 27

/-- java/util/SequencedCollection -/
def k22 : Class := { plain "java/util/SequencedCollection" (some 0) with
  accessFlags := 1537
  interfaces := #[21]
  cf := some (fileOf pool22 8 #[] #[] 1537 26 #[28] #[])
  fields := #[]
  methods := #[]
  instanceTypes := #[]
  staticTypes := #[]
  resolved := Array.replicate 57 none
  statics := none }

def pool23 : Array CpInfo := pool [(8, .class_ 10), (1, u "java/util/List"), (64, u "get"), (0, u "(I)Ljava/lang/Object;"), (2, u "size"), (0, u "()I"), (7, u "of"), (2, .class_ 93), (1, u "java/util/ImmutableCollections"), (9, .class_ 104), (0, u "java/lang/Object"), (0, .methodref 91 106), (0, .nameAndType 107 108), (0, u "listFromTrustedArray"), (0, u "([Ljava/lang/Object;)Ljava/util/List;"), (11, .class_ 121), (0, u "java/util/SequencedCollection"), (85, u "(Ljava/lang/Object;Ljava/lang/Object;Ljava/lang/Object;Ljava/lang/Object;)Ljava/util/List;")] 43

def k23m0 : Method := { name := "size", desc := "()I", sig := { parameters := [], returnType := some .int }, accessFlags := 1025, code := none }
def k23m1 : Method := { name := "get", desc := "(I)Ljava/lang/Object;", sig := { parameters := [.int], returnType := some (.object "java/lang/Object") }, accessFlags := 1025, code := none }
def k23c2 : Code := { maxStack := 4, maxLocals := 4, code := jdk_40_method_40_code, exceptionTable := #[], attributes := #[] }
def k23m2 : Method := { name := "of", desc := "(Ljava/lang/Object;Ljava/lang/Object;Ljava/lang/Object;Ljava/lang/Object;)Ljava/util/List;", sig := { parameters := [(.object "java/lang/Object"), (.object "java/lang/Object"), (.object "java/lang/Object"), (.object "java/lang/Object")], returnType := some (.object "java/util/List") }, accessFlags := 9, code := some k23c2 }
/-- java/util/List -/
def k23 : Class := { plain "java/util/List" (some 0) with
  accessFlags := 1537
  interfaces := #[22]
  cf := some (fileOf pool23 8 #[] #[{ accessFlags := 1025, nameIndex := 79, descriptorIndex := 80, attributes := #[] }, { accessFlags := 1025, nameIndex := 75, descriptorIndex := 76, attributes := #[] }, { accessFlags := 9, nameIndex := 88, descriptorIndex := 207, attributes := #[] }] 1537 103 #[120] #[])
  fields := #[]
  methods := #[k23m0, k23m1, k23m2]
  instanceTypes := #[]
  staticTypes := #[]
  resolved := Array.replicate 251 none
  statics := none }

def pool24 : Array CpInfo := pool [(2, .class_ 4), (1, u "java/lang/Object"), (0, u "<init>"), (0, u "()V"), (3, .class_ 11), (0, u "java/util/ImmutableCollections$List12"), (0, .class_ 13), (0, u "java/util/ImmutableCollections$ListN"), (3, u "Z"), (18, u "([Ljava/lang/Object;)Ljava/util/List;"), (0, .methodref 38 39), (0, .class_ 40), (0, .nameAndType 41 42), (0, u "java/util/Objects"), (0, u "requireNonNull"), (0, u "(Ljava/lang/Object;)Ljava/lang/Object;"), (0, .methodref 12 44), (0, .nameAndType 5 45), (0, u "([Ljava/lang/Object;Z)V"), (0, .fieldref 47 48), (0, .class_ 49), (0, .nameAndType 50 17), (0, u "java/util/ImmutableCollections"), (0, u "$assertionsDisabled"), (5, u "[Ljava/lang/Object;"), (5, u "EMPTY_LIST"), (0, u "Ljava/util/ImmutableCollections$ListN;"), (8, u "EMPTY_LIST_NULLS"), (22, u "SALT32L"), (0, u "J"), (2, u "REVERSE"), (6, u "archivedObjects"), (2, u "EMPTY"), (0, u "Ljava/lang/Object;"), (0, .class_ 112), (0, u "java/util/ImmutableCollections$SetN"), (5, u "EMPTY_SET"), (0, u "Ljava/util/ImmutableCollections$SetN;"), (0, .class_ 121), (0, u "java/util/ImmutableCollections$MapN"), (3, u "EMPTY_MAP"), (0, u "Ljava/util/ImmutableCollections$MapN;"), (4, u "EXPAND_FACTOR"), (0, u "I"), (26, u "listFromTrustedArray"), (9, .class_ 170), (0, u "java/util/ImmutableCollections$MapN$MapNIterator"), (0, .class_ 172), (0, u "java/util/ImmutableCollections$MapN$1"), (0, .class_ 174), (0, u "java/util/ImmutableCollections$Map1"), (0, .class_ 176), (0, u "java/util/ImmutableCollections$AbstractImmutableMap"), (0, .class_ 178), (0, u "java/util/ImmutableCollections$SetN$SetNIterator"), (0, .class_ 180), (0, u "java/util/ImmutableCollections$Set12"), (0, .class_ 182), (0, u "java/util/ImmutableCollections$Set12$1"), (0, .class_ 184), (0, u "java/util/ImmutableCollections$AbstractImmutableSet"), (0, .class_ 186), (0, u "java/util/ImmutableCollections$SubList"), (0, .class_ 188), (0, u "java/util/ImmutableCollections$ListItr"), (0, .class_ 190), (0, u "java/util/ImmutableCollections$AbstractImmutableList"), (0, .class_ 192), (0, u "java/util/ImmutableCollections$AbstractImmutableCollection"), (0, .class_ 194), (0, u "java/util/ImmutableCollections$Access"), (0, .class_ 196), (0, u "java/util/ImmutableCollections$Access$1")] 16

def k24m0 : Method := { name := "<init>", desc := "()V", sig := { parameters := [], returnType := none }, accessFlags := 2, code := none }
def k24c1 : Code := { maxStack := 5, maxLocals := 5, code := jdk_56_method_5_code, exceptionTable := #[], attributes := #[] }
def k24m1 : Method := { name := "listFromTrustedArray", desc := "([Ljava/lang/Object;)Ljava/util/List;", sig := { parameters := [(.array (.object "java/lang/Object"))], returnType := some (.object "java/util/List") }, accessFlags := 136, code := some k24c1 }
/-- java/util/ImmutableCollections -/
def k24 : Class := { plain "java/util/ImmutableCollections" (some 0) with
  accessFlags := 32
  interfaces := #[]
  cf := some (fileOf pool24 47 #[.nestMembers #[120, 169, 171, 173, 175, 111, 177, 179, 181, 183, 12, 10, 185, 187, 189, 191, 193, 195]] #[{ accessFlags := 2, nameIndex := 5, descriptorIndex := 6, attributes := #[] }, { accessFlags := 136, nameIndex := 159, descriptorIndex := 36, attributes := #[] }] 32 2 #[] #[{ accessFlags := 26, nameIndex := 95, descriptorIndex := 96, attributes := #[] }, { accessFlags := 26, nameIndex := 99, descriptorIndex := 17, attributes := #[] }, { accessFlags := 10, nameIndex := 106, descriptorIndex := 56, attributes := #[] }, { accessFlags := 26, nameIndex := 109, descriptorIndex := 110, attributes := #[] }, { accessFlags := 24, nameIndex := 62, descriptorIndex := 63, attributes := #[] }, { accessFlags := 24, nameIndex := 72, descriptorIndex := 63, attributes := #[] }, { accessFlags := 24, nameIndex := 118, descriptorIndex := 119, attributes := #[] }, { accessFlags := 24, nameIndex := 125, descriptorIndex := 126, attributes := #[] }, { accessFlags := 24, nameIndex := 131, descriptorIndex := 132, attributes := #[] }, { accessFlags := 4120, nameIndex := 50, descriptorIndex := 17, attributes := #[] }])
  fields := #[{ name := "SALT32L", type := .long, accessFlags := 26, slot := 0, constantValue := 0 }, { name := "REVERSE", type := .boolean, accessFlags := 26, slot := 1, constantValue := 0 }, { name := "archivedObjects", type := (.array (.object "java/lang/Object")), accessFlags := 10, slot := 2, constantValue := 0 }, { name := "EMPTY", type := (.object "java/lang/Object"), accessFlags := 26, slot := 3, constantValue := 0 }, { name := "EMPTY_LIST", type := (.object "java/util/ImmutableCollections$ListN"), accessFlags := 24, slot := 4, constantValue := 0 }, { name := "EMPTY_LIST_NULLS", type := (.object "java/util/ImmutableCollections$ListN"), accessFlags := 24, slot := 5, constantValue := 0 }, { name := "EMPTY_SET", type := (.object "java/util/ImmutableCollections$SetN"), accessFlags := 24, slot := 6, constantValue := 0 }, { name := "EMPTY_MAP", type := (.object "java/util/ImmutableCollections$MapN"), accessFlags := 24, slot := 7, constantValue := 0 }, { name := "EXPAND_FACTOR", type := .int, accessFlags := 24, slot := 8, constantValue := 0 }, { name := "$assertionsDisabled", type := .boolean, accessFlags := 4120, slot := 9, constantValue := 0 }]
  methods := #[k24m0, k24m1]
  instanceTypes := #[]
  staticTypes := #[.long, .boolean, (.array (.object "java/lang/Object")), (.object "java/lang/Object"), (.object "java/util/ImmutableCollections$ListN"), (.object "java/util/ImmutableCollections$ListN"), (.object "java/util/ImmutableCollections$SetN"), (.object "java/util/ImmutableCollections$MapN"), .int, .boolean]
  resolved := Array.replicate 213 none
  statics := some 2 }

def pool25 : Array CpInfo := pool [(2, .class_ 4), (1, u "java/lang/Object"), (0, u "<init>"), (0, u "()V"), (35, .class_ 44), (1, u "java/util/Objects"), (0, u "requireNonNull"), (0, u "(Ljava/lang/Object;)Ljava/lang/Object;")] 137

def k25m0 : Method := { name := "<init>", desc := "()V", sig := { parameters := [], returnType := none }, accessFlags := 2, code := none }
def k25c1 : Code := { maxStack := 2, maxLocals := 1, code := jdk_31_method_10_code, exceptionTable := #[], attributes := #[] }
def k25m1 : Method := { name := "requireNonNull", desc := "(Ljava/lang/Object;)Ljava/lang/Object;", sig := { parameters := [(.object "java/lang/Object")], returnType := some (.object "java/lang/Object") }, accessFlags := 9, code := some k25c1 }
/-- java/util/Objects -/
def k25 : Class := { plain "java/util/Objects" (some 0) with
  accessFlags := 49
  interfaces := #[]
  cf := some (fileOf pool25 42 #[] #[{ accessFlags := 2, nameIndex := 5, descriptorIndex := 6, attributes := #[] }, { accessFlags := 9, nameIndex := 45, descriptorIndex := 46, attributes := #[] }] 49 2 #[] #[])
  fields := #[]
  methods := #[k25m0, k25m1]
  instanceTypes := #[]
  staticTypes := #[]
  resolved := Array.replicate 184 none
  statics := none }

def pool26 : Array CpInfo := pool [(1, .methodref 2 3), (0, .class_ 4), (0, .nameAndType 5 6), (0, u "java/lang/Object"), (0, u "<init>"), (0, u "()V"), (1, .class_ 10), (1, u "java/util/AbstractCollection"), (66, .class_ 78), (0, u "java/util/Collection")] 81

def k26c0 : Code := { maxStack := 1, maxLocals := 1, code := jdk_22_method_1_code, exceptionTable := #[], attributes := #[] }
def k26m0 : Method := { name := "<init>", desc := "()V", sig := { parameters := [], returnType := none }, accessFlags := 4, code := some k26c0 }
/-- java/util/AbstractCollection -/
def k26 : Class := { plain "java/util/AbstractCollection" (some 0) with
  accessFlags := 1057
  interfaces := #[21]
  cf := some (fileOf pool26 8 #[] #[{ accessFlags := 4, nameIndex := 5, descriptorIndex := 6, attributes := #[] }] 1057 2 #[77] #[])
  fields := #[]
  methods := #[k26m0]
  instanceTypes := #[]
  staticTypes := #[]
  resolved := Array.replicate 160 none
  statics := none }

def pool27 : Array CpInfo := pool [(1, .methodref 2 3), (0, .class_ 4), (0, .nameAndType 5 6), (0, u "java/util/AbstractCollection"), (0, u "<init>"), (0, u "()V"), (1, .class_ 10), (1, u "java/util/ImmutableCollections"), (2, .class_ 14), (0, u "java/util/ImmutableCollections$AbstractImmutableCollection")] 41

def k27c0 : Code := { maxStack := 1, maxLocals := 1, code := jdk_47_method_1_code, exceptionTable := #[], attributes := #[] }
def k27m0 : Method := { name := "<init>", desc := "()V", sig := { parameters := [], returnType := none }, accessFlags := 0, code := some k27c0 }
/-- java/util/ImmutableCollections$AbstractImmutableCollection -/
def k27 : Class := { plain "java/util/ImmutableCollections$AbstractImmutableCollection" (some 26) with
  accessFlags := 1056
  interfaces := #[]
  cf := some (fileOf pool27 13 #[.nestHost 8] #[{ accessFlags := 0, nameIndex := 5, descriptorIndex := 6, attributes := #[] }] 1056 2 #[] #[])
  fields := #[]
  methods := #[k27m0]
  instanceTypes := #[]
  staticTypes := #[]
  resolved := Array.replicate 56 none
  statics := none }

def pool28 : Array CpInfo := pool [(1, .class_ 2), (0, u "java/util/RandomAccess"), (0, .class_ 4), (0, u "java/lang/Object")] 2

/-- java/util/RandomAccess -/
def k28 : Class := { plain "java/util/RandomAccess" (some 0) with
  accessFlags := 1537
  interfaces := #[]
  cf := some (fileOf pool28 1 #[] #[] 1537 3 #[] #[])
  fields := #[]
  methods := #[]
  instanceTypes := #[]
  staticTypes := #[]
  resolved := Array.replicate 7 none
  statics := none }

def pool29 : Array CpInfo := pool [(1, .methodref 2 3), (0, .class_ 4), (0, .nameAndType 5 6), (0, u "java/util/ImmutableCollections$AbstractImmutableCollection"), (0, u "<init>"), (0, u "()V"), (1, .class_ 10), (1, u "java/util/ImmutableCollections"), (3, .class_ 16), (1, u "java/util/ImmutableCollections$AbstractImmutableList"), (60, .class_ 78), (0, u "java/util/List"), (45, .class_ 125), (0, u "java/util/RandomAccess")] 70

def k29c0 : Code := { maxStack := 1, maxLocals := 1, code := jdk_46_method_1_code, exceptionTable := #[], attributes := #[] }
def k29m0 : Method := { name := "<init>", desc := "()V", sig := { parameters := [], returnType := none }, accessFlags := 0, code := some k29c0 }
/-- java/util/ImmutableCollections$AbstractImmutableList -/
def k29 : Class := { plain "java/util/ImmutableCollections$AbstractImmutableList" (some 27) with
  accessFlags := 1056
  interfaces := #[23, 28]
  cf := some (fileOf pool29 14 #[.nestHost 8] #[{ accessFlags := 0, nameIndex := 5, descriptorIndex := 6, attributes := #[] }] 1056 2 #[77, 124] #[])
  fields := #[]
  methods := #[k29m0]
  instanceTypes := #[]
  staticTypes := #[]
  resolved := Array.replicate 196 none
  statics := none }

def pool30 : Array CpInfo := pool [(1, .methodref 2 3), (0, .class_ 4), (0, .nameAndType 5 6), (0, u "java/util/ImmutableCollections$AbstractImmutableList"), (0, u "<init>"), (0, u "()V"), (0, .fieldref 8 9), (0, .class_ 10), (0, .nameAndType 11 12), (0, u "java/util/ImmutableCollections$ListN"), (0, u "elements"), (0, u "[Ljava/lang/Object;"), (0, .fieldref 8 14), (0, .nameAndType 15 16), (0, u "allowNulls"), (0, u "Z"), (42, .class_ 60), (0, u "java/io/Serializable"), (4, u "([Ljava/lang/Object;Z)V"), (11, u "size"), (0, u "()I"), (0, u "get"), (0, u "(I)Ljava/lang/Object;"), (33, .class_ 115), (0, u "java/util/ImmutableCollections")] 3

def k30c0 : Code := { maxStack := 2, maxLocals := 3, code := jdk_45_method_1_code, exceptionTable := #[], attributes := #[] }
def k30m0 : Method := { name := "<init>", desc := "([Ljava/lang/Object;Z)V", sig := { parameters := [(.array (.object "java/lang/Object")), .boolean], returnType := none }, accessFlags := 2, code := some k30c0 }
def k30c1 : Code := { maxStack := 1, maxLocals := 1, code := jdk_45_method_3_code, exceptionTable := #[], attributes := #[] }
def k30m1 : Method := { name := "size", desc := "()I", sig := { parameters := [], returnType := some .int }, accessFlags := 1, code := some k30c1 }
def k30c2 : Code := { maxStack := 2, maxLocals := 2, code := jdk_45_method_4_code, exceptionTable := #[], attributes := #[] }
def k30m2 : Method := { name := "get", desc := "(I)Ljava/lang/Object;", sig := { parameters := [.int], returnType := some (.object "java/lang/Object") }, accessFlags := 1, code := some k30c2 }
/-- java/util/ImmutableCollections$ListN -/
def k30 : Class := { plain "java/util/ImmutableCollections$ListN" (some 29) with
  accessFlags := 48
  interfaces := #[7]
  cf := some (fileOf pool30 8 #[.nestHost 114] #[{ accessFlags := 2, nameIndex := 5, descriptorIndex := 65, attributes := #[] }, { accessFlags := 1, nameIndex := 77, descriptorIndex := 78, attributes := #[] }, { accessFlags := 1, nameIndex := 79, descriptorIndex := 80, attributes := #[] }] 48 2 #[59] #[{ accessFlags := 18, nameIndex := 11, descriptorIndex := 12, attributes := #[] }, { accessFlags := 18, nameIndex := 15, descriptorIndex := 16, attributes := #[] }])
  fields := #[{ name := "elements", type := (.array (.object "java/lang/Object")), accessFlags := 18, slot := 0, constantValue := 0 }, { name := "allowNulls", type := .boolean, accessFlags := 18, slot := 1, constantValue := 0 }]
  methods := #[k30m0, k30m1, k30m2]
  instanceTypes := #[(.array (.object "java/lang/Object")), .boolean]
  staticTypes := #[]
  resolved := Array.replicate 119 none
  statics := none }

def pool31 : Array CpInfo := pool [(1, .class_ 2), (0, u "java/lang/String"), (1, .class_ 6), (1, u "java/lang/Object"), (0, u "<init>"), (0, u "()V"), (0, .methodref 1 10), (0, .nameAndType 11 12), (0, u "checkIndex"), (0, u "(II)V"), (1, .class_ 16), (1, u "java/lang/StringLatin1"), (36, u "([BI)C"), (67, u "$assertionsDisabled"), (0, u "Z"), (98, .class_ 223), (1, u "java/lang/StringLatin1$LinesSpliterator"), (28, u "charAt"), (137, .class_ 391), (0, u "java/lang/StringLatin1$CharsSpliterator")] 3

def k31m0 : Method := { name := "<init>", desc := "()V", sig := { parameters := [], returnType := none }, accessFlags := 0, code := none }
def k31c1 : Code := { maxStack := 2, maxLocals := 2, code := jdk_43_method_2_code, exceptionTable := #[], attributes := #[] }
def k31m1 : Method := { name := "charAt", desc := "([BI)C", sig := { parameters := [(.array .byte), .int], returnType := some .char }, accessFlags := 9, code := some k31c1 }
/-- java/lang/StringLatin1 -/
def k31 : Class := { plain "java/lang/StringLatin1" (some 0) with
  accessFlags := 48
  interfaces := #[]
  cf := some (fileOf pool31 14 #[.nestMembers #[390, 221]] #[{ accessFlags := 0, nameIndex := 7, descriptorIndex := 8, attributes := #[] }, { accessFlags := 9, nameIndex := 252, descriptorIndex := 53, attributes := #[] }] 48 4 #[] #[{ accessFlags := 4120, nameIndex := 121, descriptorIndex := 122, attributes := #[] }])
  fields := #[{ name := "$assertionsDisabled", type := .boolean, accessFlags := 4120, slot := 0, constantValue := 0 }]
  methods := #[k31m0, k31m1]
  instanceTypes := #[]
  staticTypes := #[.boolean]
  resolved := Array.replicate 395 none
  statics := none }

def pool32 : Array CpInfo := pool [(2, .class_ 4), (1, u "java/lang/Object"), (0, u "<init>"), (0, u "()V"), (17, .class_ 26), (1, u "jdk/internal/util/Preconditions"), (6, u "checkIndex"), (21, .class_ 56), (0, u "jdk/internal/util/Preconditions$4"), (57, .class_ 115), (0, u "jdk/internal/util/Preconditions$1"), (7, u "SIOOBE_FORMATTER"), (0, u "Ljava/util/function/BiFunction;"), (0, .class_ 126), (0, u "jdk/internal/util/Preconditions$2"), (3, u "AIOOBE_FORMATTER"), (0, .class_ 132), (0, u "jdk/internal/util/Preconditions$3"), (3, u "IOOBE_FORMATTER"), (41, u "(IILjava/util/function/BiFunction;)I")] 15

def k32m0 : Method := { name := "<init>", desc := "()V", sig := { parameters := [], returnType := none }, accessFlags := 1, code := none }
def k32c1 : Code := { maxStack := 3, maxLocals := 3, code := jdk_41_method_11_code, exceptionTable := #[], attributes := #[] }
def k32m1 : Method := { name := "checkIndex", desc := "(IILjava/util/function/BiFunction;)I", sig := { parameters := [.int, .int, (.object "java/util/function/BiFunction")], returnType := some .int }, accessFlags := 9, code := some k32c1 }
/-- jdk/internal/util/Preconditions -/
def k32 : Class := { plain "jdk/internal/util/Preconditions" (some 0) with
  accessFlags := 33
  interfaces := #[]
  cf := some (fileOf pool32 24 #[.nestMembers #[55, 131, 125, 114]] #[{ accessFlags := 1, nameIndex := 5, descriptorIndex := 6, attributes := #[] }, { accessFlags := 9, nameIndex := 33, descriptorIndex := 178, attributes := #[] }] 33 2 #[] #[{ accessFlags := 25, nameIndex := 123, descriptorIndex := 124, attributes := #[] }, { accessFlags := 25, nameIndex := 130, descriptorIndex := 124, attributes := #[] }, { accessFlags := 25, nameIndex := 136, descriptorIndex := 124, attributes := #[] }])
  fields := #[{ name := "SIOOBE_FORMATTER", type := (.object "java/util/function/BiFunction"), accessFlags := 25, slot := 0, constantValue := 0 }, { name := "AIOOBE_FORMATTER", type := (.object "java/util/function/BiFunction"), accessFlags := 25, slot := 1, constantValue := 0 }, { name := "IOOBE_FORMATTER", type := (.object "java/util/function/BiFunction"), accessFlags := 25, slot := 2, constantValue := 0 }]
  methods := #[k32m0, k32m1]
  instanceTypes := #[]
  staticTypes := #[(.object "java/util/function/BiFunction"), (.object "java/util/function/BiFunction"), (.object "java/util/function/BiFunction")]
  resolved := Array.replicate 194 none
  statics := some 3 }

def pool33 : Array CpInfo := pool [(1, .class_ 2), (0, u "java/lang/Cloneable"), (0, .class_ 4), (0, u "java/lang/Object")] 2

/-- java/lang/Cloneable -/
def k33 : Class := { plain "java/lang/Cloneable" (some 0) with
  accessFlags := 1537
  interfaces := #[]
  cf := some (fileOf pool33 1 #[] #[] 1537 3 #[] #[])
  fields := #[]
  methods := #[]
  instanceTypes := #[]
  staticTypes := #[]
  resolved := Array.replicate 7 none
  statics := none }

/-- the primitive byte -/
def k34 : Class := { plain "byte" none with kind := .primitive 'B', accessFlags := 0x411 }
/-- [B -/
def k35 : Class := { plain "[B" (some 0) with kind := .array 34 .byte, interfaces := #[33, 7], accessFlags := 1041 }

/-- [Ljava/lang/Object; -/
def k36 : Class := { plain "[Ljava/lang/Object;" (some 0) with kind := .array 0 (.object "java/lang/Object"), interfaces := #[33, 7], accessFlags := 1041 }

def heap : Heap := #[{ cls := 12, slots := #[.long 0, .int 1, .null, .int 0, .null, .int 0, .int 0], vm := .statics 12 },
  { cls := 16, slots := #[.int 0, .int 0, .null, .null, .ref 7, .ref 6, .int 0, .int 0, .long 0], vm := .statics 16 },
  { cls := 24, slots := #[.long 0, .int 0, .null, .ref 4, .ref 5, .null, .null, .null, .int 0, .int 1], vm := .statics 24 },
  { cls := 32, slots := #[.null, .null, .null], vm := .statics 32 },
  { cls := 0, slots := #[], vm := .none },
  { cls := 30, slots := #[.null, .int 0], vm := .none },
  { cls := 35, slots := #[.int 48, .int 49, .int 50, .int 51, .int 52, .int 53, .int 54, .int 55, .int 56, .int 57, .int 48, .int 49, .int 50, .int 51, .int 52, .int 53, .int 54, .int 55, .int 56, .int 57, .int 48, .int 49, .int 50, .int 51, .int 52, .int 53, .int 54, .int 55, .int 56, .int 57, .int 48, .int 49, .int 50, .int 51, .int 52, .int 53, .int 54, .int 55, .int 56, .int 57, .int 48, .int 49, .int 50, .int 51, .int 52, .int 53, .int 54, .int 55, .int 56, .int 57, .int 48, .int 49, .int 50, .int 51, .int 52, .int 53, .int 54, .int 55, .int 56, .int 57, .int 48, .int 49, .int 50, .int 51, .int 52, .int 53, .int 54, .int 55, .int 56, .int 57, .int 48, .int 49, .int 50, .int 51, .int 52, .int 53, .int 54, .int 55, .int 56, .int 57, .int 48, .int 49, .int 50, .int 51, .int 52, .int 53, .int 54, .int 55, .int 56, .int 57, .int 48, .int 49, .int 50, .int 51, .int 52, .int 53, .int 54, .int 55, .int 56, .int 57], vm := .none },
  { cls := 35, slots := #[.int 48, .int 48, .int 48, .int 48, .int 48, .int 48, .int 48, .int 48, .int 48, .int 48, .int 49, .int 49, .int 49, .int 49, .int 49, .int 49, .int 49, .int 49, .int 49, .int 49, .int 50, .int 50, .int 50, .int 50, .int 50, .int 50, .int 50, .int 50, .int 50, .int 50, .int 51, .int 51, .int 51, .int 51, .int 51, .int 51, .int 51, .int 51, .int 51, .int 51, .int 52, .int 52, .int 52, .int 52, .int 52, .int 52, .int 52, .int 52, .int 52, .int 52, .int 53, .int 53, .int 53, .int 53, .int 53, .int 53, .int 53, .int 53, .int 53, .int 53, .int 54, .int 54, .int 54, .int 54, .int 54, .int 54, .int 54, .int 54, .int 54, .int 54, .int 55, .int 55, .int 55, .int 55, .int 55, .int 55, .int 55, .int 55, .int 55, .int 55, .int 56, .int 56, .int 56, .int 56, .int 56, .int 56, .int 56, .int 56, .int 56, .int 56, .int 57, .int 57, .int 57, .int 57, .int 57, .int 57, .int 57, .int 57, .int 57, .int 57], vm := .none }]
def classes : Array Class := #[k0, k1, k2, k3, k4, k5, k6, k7, k8, k9, k10, k11, k12, k13, k14, k15, k16, k17, k18, k19, k20, k21, k22, k23, k24, k25, k26, k27, k28, k29, k30, k31, k32, k33, k34, k35, k36]
def interned : List (Array UInt16 × Addr) := []
def slotsUsed : Nat := 231
def theMethod : MethodId := ⟨1, 1⟩
def args0 : Array Value := #[.long 5, .long 7, .long 6, .long 9, .int 0]
def aboutOver (below : List Frame) : State where
  vm := { classes := classes, interned := interned.toArray }
  heap := heap
  slotsUsed := slotsUsed
  threads := #[{ frames := .invoking theMethod args0 :: below }]
def below0 : List Frame := [.native { method := ⟨0, 0⟩, args := #[] }]
def about1 : State := aboutOver below0
def p0 : Program := .bare "" "" ""
def e0 : Env := launch0.env 0 0 0
theorem w_frames : about1.frames = Frame.invoking theMethod args0 :: below0 := rfl
set_option maxRecDepth 65536 in
theorem w_args : argsFit about1.vm theMethod args0 = true := by decide +kernel
set_option maxRecDepth 65536 in
theorem w_heap : heapFits about1 = true := by decide +kernel
set_option maxRecDepth 65536 in
theorem w_runnable : about1.curStatus? = some .runnable := by decide +kernel
set_option maxRecDepth 65536 in
theorem w_alone : about1.alone = true := by decide +kernel
set_option maxRecDepth 65536 in
theorem w_named : about1.methodNamed? x = some theMethod := by decide +kernel
set_option maxRecDepth 65536 in
theorem w_hears : about1.hears theMethod below0 = true := by decide +kernel
set_option maxRecDepth 65536 in
theorem w_ripe : about1.ripe theMethod args0 below0 = true := by decide +kernel
theorem w_running : about1.status = .running := rfl
set_option maxRecDepth 65536 in
theorem w_room : about1.hasRoom e0.platform room_1 = true :=
  launch0.hasRoom_least _ room_1 (by decide +kernel) (by decide +kernel) (by decide +kernel) (by decide +kernel) (by decide +kernel) (by decide +kernel)
theorem allAtoms_all (ts : List Jvm.Cond) (a : Array Jvm.Value) (st : Jvm.State) : (allAtoms ts).before a st = ts.all (fun c => c.before a st) := by
  induction ts with
  | nil => rfl
  | cons c t ih =>
    show (Jvm.Cond.and c (allAtoms t)).before a st = _
    rw [Jvm.Cond.before_and, ih, List.all_cons]
def words1 : List Jvm.Cond := Jvm.Cond.code x code maxLocals ret :: tables_1
/-- a 'code' word, met by the world's own term for the bytes: nothing is compared byte by byte -/
theorem code_word {y : MethodName} {bytes : ByteArray} {mx : Nat} {rt : Option FieldType} {a : Array Value} {s : State} {m : MethodId} {meth : Method} {c : Code} (h1 : s.methodNamed? y = some m) (h2 : s.vm.method? m = some meth) (h3 : meth.code = some c) (h4 : c.code = bytes)
    (h5 : (c.maxLocals == mx && c.exceptionTable.isEmpty && decide (c.maxStack ≤ mostOperands) && decide (meth.sig.returnType = rt) && !meth.locks && decide (parseMethodDescriptor y.desc = some meth.sig)) = true) : (Jvm.Cond.code y bytes mx rt).before a s = true := by
  simp only [Bool.and_eq_true, beq_iff_eq, Bool.not_eq_true', decide_eq_true_eq] at h5
  obtain ⟨⟨⟨⟨⟨g1, g2⟩, g3⟩, g4⟩, g5⟩, g6⟩ := h5
  simp [Cond.before, Cond.holds, Cond.value, h1, h2, h3, h4, g1, g2, g3, g4, g5, g6]
def isCode : Jvm.Cond → Bool
  | .code _ _ _ _ => true
  | _ => false
theorem all_split {L : List Jvm.Cond} {P : Jvm.Cond → Bool} (h1 : L.all (fun c => isCode c || P c) = true) (h2 : ∀ c ∈ L.filter isCode, P c = true) : L.all P = true := by
  refine List.all_eq_true.mpr fun c hc => ?_
  have h := List.all_eq_true.mp h1 c hc
  rcases Bool.eq_false_or_eq_true (isCode c) with hi | hi
  · exact h2 c (List.mem_filter.mpr ⟨hc, hi⟩)
  · simpa [hi] using h
set_option maxRecDepth 65536 in
theorem w_c0 : (Jvm.Cond.code x code maxLocals ret).before args0 about1 = true := code_word (m := ⟨1, 1⟩) (meth := k1m1) (c := k1c1) (by decide +kernel) rfl rfl rfl (by decide +kernel)
set_option maxRecDepth 65536 in
theorem w_c1 : (Jvm.Cond.code ({ cls := "com/example/eta4/eta4/bench/ThroughputFigures", name := "<init>", desc := "(JJJJ)V" } : Jvm.MethodName) prog_5_method_1_code (9 : Nat) (Option.none : Option Jvm.ClassFile.FieldType)).before args0 about1 = true := code_word (m := ⟨3, 0⟩) (meth := k3m0) (c := k3c0) (by decide +kernel) rfl rfl rfl (by decide +kernel)
set_option maxRecDepth 65536 in
theorem w_c2 : (Jvm.Cond.code ({ cls := "java/lang/Record", name := "<init>", desc := "()V" } : Jvm.MethodName) jdk_30_method_1_code (1 : Nat) (Option.none : Option Jvm.ClassFile.FieldType)).before args0 about1 = true := code_word (m := ⟨2, 0⟩) (meth := k2m0) (c := k2c0) (by decide +kernel) rfl rfl rfl (by decide +kernel)
set_option maxRecDepth 65536 in
theorem w_c3 : (Jvm.Cond.code ({ cls := "java/lang/Object", name := "<init>", desc := "()V" } : Jvm.MethodName) object_method_1_code (1 : Nat) (Option.none : Option Jvm.ClassFile.FieldType)).before args0 about1 = true := code_word (m := ⟨0, 0⟩) (meth := k0m0) (c := k0c0) (by decide +kernel) rfl rfl rfl (by decide +kernel)
set_option maxRecDepth 65536 in
theorem w_c4 : (Jvm.Cond.code ({ cls := "com/example/eta4/eta4/bench/ThroughputFigures", name := "lines", desc := "()Ljava/util/List;" } : Jvm.MethodName) prog_5_method_2_code (1 : Nat) (Option.some (Jvm.ClassFile.FieldType.object "java/util/List"))).before args0 about1 = true := code_word (m := ⟨3, 1⟩) (meth := k3m1) (c := k3c1) (by decide +kernel) rfl rfl rfl (by decide +kernel)
set_option maxRecDepth 65536 in
theorem w_c5 : (Jvm.Cond.code ({ cls := "java/lang/StringBuilder", name := "<init>", desc := "()V" } : Jvm.MethodName) jdk_67_method_1_code (1 : Nat) (Option.none : Option Jvm.ClassFile.FieldType)).before args0 about1 = true := code_word (m := ⟨9, 0⟩) (meth := k9m0) (c := k9c0) (by decide +kernel) rfl rfl rfl (by decide +kernel)
set_option maxRecDepth 65536 in
theorem w_c6 : (Jvm.Cond.code ({ cls := "java/lang/AbstractStringBuilder", name := "<init>", desc := "(I)V" } : Jvm.MethodName) jdk_68_method_2_code (2 : Nat) (Option.none : Option Jvm.ClassFile.FieldType)).before args0 about1 = true := code_word (m := ⟨6, 1⟩) (meth := k6m1) (c := k6c1) (by decide +kernel) rfl rfl rfl (by decide +kernel)
set_option maxRecDepth 65536 in
theorem w_c7 : (Jvm.Cond.code ({ cls := "java/lang/StringBuilder", name := "append", desc := "(Ljava/lang/String;)Ljava/lang/StringBuilder;" } : Jvm.MethodName) jdk_67_method_7_code (2 : Nat) (Option.some (Jvm.ClassFile.FieldType.object "java/lang/StringBuilder"))).before args0 about1 = true := code_word (m := ⟨9, 1⟩) (meth := k9m1) (c := k9c1) (by decide +kernel) rfl rfl rfl (by decide +kernel)
set_option maxRecDepth 65536 in
theorem w_c8 : (Jvm.Cond.code ({ cls := "java/lang/AbstractStringBuilder", name := "append", desc := "(Ljava/lang/String;)Ljava/lang/AbstractStringBuilder;" } : Jvm.MethodName) jdk_68_method_22_code (3 : Nat) (Option.some (Jvm.ClassFile.FieldType.object "java/lang/AbstractStringBuilder"))).before args0 about1 = true := code_word (m := ⟨6, 5⟩) (meth := k6m5) (c := k6c5) (by decide +kernel) rfl rfl rfl (by decide +kernel)
set_option maxRecDepth 65536 in
theorem w_c9 : (Jvm.Cond.code ({ cls := "java/lang/String", name := "length", desc := "()I" } : Jvm.MethodName) jdk_42_method_54_code (1 : Nat) (Option.some Jvm.ClassFile.FieldType.int)).before args0 about1 = true := code_word (m := ⟨12, 2⟩) (meth := k12m2) (c := k12c2) (by decide +kernel) rfl rfl rfl (by decide +kernel)
set_option maxRecDepth 65536 in
theorem w_c10 : (Jvm.Cond.code ({ cls := "java/lang/String", name := "coder", desc := "()B" } : Jvm.MethodName) jdk_42_method_152_code (1 : Nat) (Option.some Jvm.ClassFile.FieldType.byte)).before args0 about1 = true := code_word (m := ⟨12, 6⟩) (meth := k12m6) (c := k12c6) (by decide +kernel) rfl rfl rfl (by decide +kernel)
set_option maxRecDepth 65536 in
theorem w_c11 : (Jvm.Cond.code ({ cls := "java/lang/AbstractStringBuilder", name := "ensureCapacityInternal", desc := "(I)V" } : Jvm.MethodName) jdk_68_method_9_code (3 : Nat) (Option.none : Option Jvm.ClassFile.FieldType)).before args0 about1 = true := code_word (m := ⟨6, 3⟩) (meth := k6m3) (c := k6c3) (by decide +kernel) rfl rfl rfl (by decide +kernel)
set_option maxRecDepth 65536 in
theorem w_c12 : (Jvm.Cond.code ({ cls := "java/lang/AbstractStringBuilder", name := "putStringAt", desc := "(ILjava/lang/String;)V" } : Jvm.MethodName) jdk_68_method_73_code (3 : Nat) (Option.none : Option Jvm.ClassFile.FieldType)).before args0 about1 = true := code_word (m := ⟨6, 10⟩) (meth := k6m10) (c := k6c10) (by decide +kernel) rfl rfl rfl (by decide +kernel)
set_option maxRecDepth 65536 in
theorem w_c13 : (Jvm.Cond.code ({ cls := "java/lang/AbstractStringBuilder", name := "inflateIfNeededFor", desc := "(Ljava/lang/String;)V" } : Jvm.MethodName) jdk_68_method_71_code (2 : Nat) (Option.none : Option Jvm.ClassFile.FieldType)).before args0 about1 = true := code_word (m := ⟨6, 9⟩) (meth := k6m9) (c := k6c9) (by decide +kernel) rfl rfl rfl (by decide +kernel)
set_option maxRecDepth 65536 in
theorem w_c14 : (Jvm.Cond.code ({ cls := "java/lang/String", name := "getBytes", desc := "([BIB)V" } : Jvm.MethodName) jdk_42_method_147_code (4 : Nat) (Option.none : Option Jvm.ClassFile.FieldType)).before args0 about1 = true := code_word (m := ⟨12, 4⟩) (meth := k12m4) (c := k12c4) (by decide +kernel) rfl rfl rfl (by decide +kernel)
set_option maxRecDepth 65536 in
theorem w_c15 : (Jvm.Cond.code ({ cls := "java/lang/StringBuilder", name := "append", desc := "(J)Ljava/lang/StringBuilder;" } : Jvm.MethodName) jdk_67_method_16_code (3 : Nat) (Option.some (Jvm.ClassFile.FieldType.object "java/lang/StringBuilder"))).before args0 about1 = true := code_word (m := ⟨9, 2⟩) (meth := k9m2) (c := k9c2) (by decide +kernel) rfl rfl rfl (by decide +kernel)
set_option maxRecDepth 65536 in
theorem w_c16 : (Jvm.Cond.code ({ cls := "java/lang/AbstractStringBuilder", name := "append", desc := "(J)Ljava/lang/AbstractStringBuilder;" } : Jvm.MethodName) jdk_68_method_33_code (5 : Nat) (Option.some (Jvm.ClassFile.FieldType.object "java/lang/AbstractStringBuilder"))).before args0 about1 = true := code_word (m := ⟨6, 6⟩) (meth := k6m6) (c := k6c6) (by decide +kernel) rfl rfl rfl (by decide +kernel)
set_option maxRecDepth 65536 in
theorem w_c17 : (Jvm.Cond.code ({ cls := "java/lang/Long", name := "stringSize", desc := "(J)I" } : Jvm.MethodName) jdk_35_method_15_code (6 : Nat) (Option.some Jvm.ClassFile.FieldType.int)).before args0 about1 = true := code_word (m := ⟨15, 1⟩) (meth := k15m1) (c := k15c1) (by decide +kernel) rfl rfl rfl (by decide +kernel)
set_option maxRecDepth 65536 in
theorem w_c18 : (Jvm.Cond.code ({ cls := "java/lang/AbstractStringBuilder", name := "isLatin1", desc := "()Z" } : Jvm.MethodName) jdk_68_method_68_code (1 : Nat) (Option.some Jvm.ClassFile.FieldType.boolean)).before args0 about1 = true := code_word (m := ⟨6, 8⟩) (meth := k6m8) (c := k6c8) (by decide +kernel) rfl rfl rfl (by decide +kernel)
set_option maxRecDepth 65536 in
theorem w_c19 : (Jvm.Cond.code ({ cls := "java/lang/Long", name := "getChars", desc := "(JI[B)I" } : Jvm.MethodName) jdk_35_method_14_code (11 : Nat) (Option.some Jvm.ClassFile.FieldType.int)).before args0 about1 = true := code_word (m := ⟨15, 0⟩) (meth := k15m0) (c := k15c0) (by decide +kernel) rfl rfl rfl (by decide +kernel)
set_option maxRecDepth 65536 in
theorem w_c20 : (Jvm.Cond.code ({ cls := "java/lang/StringBuilder", name := "toString", desc := "()Ljava/lang/String;" } : Jvm.MethodName) jdk_67_method_42_code (1 : Nat) (Option.some (Jvm.ClassFile.FieldType.object "java/lang/String"))).before args0 about1 = true := code_word (m := ⟨9, 3⟩) (meth := k9m3) (c := k9c3) (by decide +kernel) rfl rfl rfl (by decide +kernel)
set_option maxRecDepth 65536 in
theorem w_c21 : (Jvm.Cond.code ({ cls := "java/lang/String", name := "<init>", desc := "(Ljava/lang/StringBuilder;)V" } : Jvm.MethodName) jdk_42_method_53_code (2 : Nat) (Option.none : Option Jvm.ClassFile.FieldType)).before args0 about1 = true := code_word (m := ⟨12, 1⟩) (meth := k12m1) (c := k12c1) (by decide +kernel) rfl rfl rfl (by decide +kernel)
set_option maxRecDepth 65536 in
theorem w_c22 : (Jvm.Cond.code ({ cls := "java/lang/String", name := "<init>", desc := "(Ljava/lang/AbstractStringBuilder;Ljava/lang/Void;)V" } : Jvm.MethodName) jdk_42_method_150_code (5 : Nat) (Option.none : Option Jvm.ClassFile.FieldType)).before args0 about1 = true := code_word (m := ⟨12, 5⟩) (meth := k12m5) (c := k12c5) (by decide +kernel) rfl rfl rfl (by decide +kernel)
set_option maxRecDepth 65536 in
theorem w_c23 : (Jvm.Cond.code ({ cls := "java/lang/AbstractStringBuilder", name := "getValue", desc := "()[B" } : Jvm.MethodName) jdk_68_method_64_code (1 : Nat) (Option.some (Jvm.ClassFile.FieldType.array Jvm.ClassFile.FieldType.byte))).before args0 about1 = true := code_word (m := ⟨6, 7⟩) (meth := k6m7) (c := k6c7) (by decide +kernel) rfl rfl rfl (by decide +kernel)
set_option maxRecDepth 65536 in
theorem w_c24 : (Jvm.Cond.code ({ cls := "java/lang/StringBuilder", name := "length", desc := "()I" } : Jvm.MethodName) jdk_67_method_93_code (1 : Nat) (Option.some Jvm.ClassFile.FieldType.int)).before args0 about1 = true := code_word (m := ⟨9, 4⟩) (meth := k9m4) (c := k9c4) (by decide +kernel) rfl rfl rfl (by decide +kernel)
set_option maxRecDepth 65536 in
theorem w_c25 : (Jvm.Cond.code ({ cls := "java/lang/AbstractStringBuilder", name := "length", desc := "()I" } : Jvm.MethodName) jdk_68_method_6_code (1 : Nat) (Option.some Jvm.ClassFile.FieldType.int)).before args0 about1 = true := code_word (m := ⟨6, 2⟩) (meth := k6m2) (c := k6c2) (by decide +kernel) rfl rfl rfl (by decide +kernel)
set_option maxRecDepth 65536 in
theorem w_c26 : (Jvm.Cond.code ({ cls := "java/util/Arrays", name := "copyOfRange", desc := "([BII)[B" } : Jvm.MethodName) jdk_65_method_132_code (3 : Nat) (Option.some (Jvm.ClassFile.FieldType.array Jvm.ClassFile.FieldType.byte))).before args0 about1 = true := code_word (m := ⟨17, 3⟩) (meth := k17m3) (c := k17c3) (by decide +kernel) rfl rfl rfl (by decide +kernel)
set_option maxRecDepth 65536 in
theorem w_c27 : (Jvm.Cond.code ({ cls := "java/util/Arrays", name := "copyOfRangeByte", desc := "([BII)[B" } : Jvm.MethodName) jdk_65_method_133_code (5 : Nat) (Option.some (Jvm.ClassFile.FieldType.array Jvm.ClassFile.FieldType.byte))).before args0 about1 = true := code_word (m := ⟨17, 4⟩) (meth := k17m4) (c := k17c4) (by decide +kernel) rfl rfl rfl (by decide +kernel)
set_option maxRecDepth 65536 in
theorem w_c28 : (Jvm.Cond.code ({ cls := "java/util/Arrays", name := "checkLength", desc := "(II)V" } : Jvm.MethodName) jdk_65_method_131_code (2 : Nat) (Option.none : Option Jvm.ClassFile.FieldType)).before args0 about1 = true := code_word (m := ⟨17, 2⟩) (meth := k17m2) (c := k17c2) (by decide +kernel) rfl rfl rfl (by decide +kernel)
set_option maxRecDepth 65536 in
theorem w_c29 : (Jvm.Cond.code ({ cls := "java/lang/Math", name := "min", desc := "(II)I" } : Jvm.MethodName) jdk_29_method_69_code (2 : Nat) (Option.some Jvm.ClassFile.FieldType.int)).before args0 about1 = true := code_word (m := ⟨18, 2⟩) (meth := k18m2) (c := k18c2) (by decide +kernel) rfl rfl rfl (by decide +kernel)
set_option maxRecDepth 65536 in
theorem w_c30 : (Jvm.Cond.code ({ cls := "com/example/eta4/eta4/bench/ThroughputFigures", name := "perSecond", desc := "(JJ)J" } : Jvm.MethodName) prog_5_method_3_code (4 : Nat) (Option.some Jvm.ClassFile.FieldType.long)).before args0 about1 = true := code_word (m := ⟨3, 2⟩) (meth := k3m2) (c := k3c2) (by decide +kernel) rfl rfl rfl (by decide +kernel)
set_option maxRecDepth 65536 in
theorem w_c31 : (Jvm.Cond.code ({ cls := "java/lang/AbstractStringBuilder", name := "newCapacity", desc := "(I)I" } : Jvm.MethodName) jdk_68_method_10_code (6 : Nat) (Option.some Jvm.ClassFile.FieldType.int)).before args0 about1 = true := code_word (m := ⟨6, 4⟩) (meth := k6m4) (c := k6c4) (by decide +kernel) rfl rfl rfl (by decide +kernel)
set_option maxRecDepth 65536 in
theorem w_c32 : (Jvm.Cond.code ({ cls := "jdk/internal/util/ArraysSupport", name := "newLength", desc := "(III)I" } : Jvm.MethodName) jdk_48_method_27_code (4 : Nat) (Option.some Jvm.ClassFile.FieldType.int)).before args0 about1 = true := code_word (m := ⟨19, 1⟩) (meth := k19m1) (c := k19c1) (by decide +kernel) rfl rfl rfl (by decide +kernel)
set_option maxRecDepth 65536 in
theorem w_c33 : (Jvm.Cond.code ({ cls := "java/lang/Math", name := "max", desc := "(II)I" } : Jvm.MethodName) jdk_29_method_65_code (2 : Nat) (Option.some Jvm.ClassFile.FieldType.int)).before args0 about1 = true := code_word (m := ⟨18, 1⟩) (meth := k18m1) (c := k18c1) (by decide +kernel) rfl rfl rfl (by decide +kernel)
set_option maxRecDepth 65536 in
theorem w_c34 : (Jvm.Cond.code ({ cls := "java/util/Arrays", name := "copyOf", desc := "([BI)[B" } : Jvm.MethodName) jdk_65_method_121_code (3 : Nat) (Option.some (Jvm.ClassFile.FieldType.array Jvm.ClassFile.FieldType.byte))).before args0 about1 = true := code_word (m := ⟨17, 1⟩) (meth := k17m1) (c := k17c1) (by decide +kernel) rfl rfl rfl (by decide +kernel)
set_option maxRecDepth 65536 in
theorem w_c35 : (Jvm.Cond.code ({ cls := "java/util/List", name := "of", desc := "(Ljava/lang/Object;Ljava/lang/Object;Ljava/lang/Object;Ljava/lang/Object;)Ljava/util/List;" } : Jvm.MethodName) jdk_40_method_40_code (4 : Nat) (Option.some (Jvm.ClassFile.FieldType.object "java/util/List"))).before args0 about1 = true := code_word (m := ⟨23, 2⟩) (meth := k23m2) (c := k23c2) (by decide +kernel) rfl rfl rfl (by decide +kernel)
set_option maxRecDepth 65536 in
theorem w_c36 : (Jvm.Cond.code ({ cls := "java/util/ImmutableCollections", name := "listFromTrustedArray", desc := "([Ljava/lang/Object;)Ljava/util/List;" } : Jvm.MethodName) jdk_56_method_5_code (5 : Nat) (Option.some (Jvm.ClassFile.FieldType.object "java/util/List"))).before args0 about1 = true := code_word (m := ⟨24, 1⟩) (meth := k24m1) (c := k24c1) (by decide +kernel) rfl rfl rfl (by decide +kernel)
set_option maxRecDepth 65536 in
theorem w_c37 : (Jvm.Cond.code ({ cls := "java/util/Objects", name := "requireNonNull", desc := "(Ljava/lang/Object;)Ljava/lang/Object;" } : Jvm.MethodName) jdk_31_method_10_code (1 : Nat) (Option.some (Jvm.ClassFile.FieldType.object "java/lang/Object"))).before args0 about1 = true := code_word (m := ⟨25, 1⟩) (meth := k25m1) (c := k25c1) (by decide +kernel) rfl rfl rfl (by decide +kernel)
set_option maxRecDepth 65536 in
theorem w_c38 : (Jvm.Cond.code ({ cls := "java/util/ImmutableCollections$ListN", name := "<init>", desc := "([Ljava/lang/Object;Z)V" } : Jvm.MethodName) jdk_45_method_1_code (3 : Nat) (Option.none : Option Jvm.ClassFile.FieldType)).before args0 about1 = true := code_word (m := ⟨30, 0⟩) (meth := k30m0) (c := k30c0) (by decide +kernel) rfl rfl rfl (by decide +kernel)
set_option maxRecDepth 65536 in
theorem w_c39 : (Jvm.Cond.code ({ cls := "java/util/ImmutableCollections$AbstractImmutableList", name := "<init>", desc := "()V" } : Jvm.MethodName) jdk_46_method_1_code (1 : Nat) (Option.none : Option Jvm.ClassFile.FieldType)).before args0 about1 = true := code_word (m := ⟨29, 0⟩) (meth := k29m0) (c := k29c0) (by decide +kernel) rfl rfl rfl (by decide +kernel)
set_option maxRecDepth 65536 in
theorem w_c40 : (Jvm.Cond.code ({ cls := "java/util/ImmutableCollections$AbstractImmutableCollection", name := "<init>", desc := "()V" } : Jvm.MethodName) jdk_47_method_1_code (1 : Nat) (Option.none : Option Jvm.ClassFile.FieldType)).before args0 about1 = true := code_word (m := ⟨27, 0⟩) (meth := k27m0) (c := k27c0) (by decide +kernel) rfl rfl rfl (by decide +kernel)
set_option maxRecDepth 65536 in
theorem w_c41 : (Jvm.Cond.code ({ cls := "java/util/AbstractCollection", name := "<init>", desc := "()V" } : Jvm.MethodName) jdk_22_method_1_code (1 : Nat) (Option.none : Option Jvm.ClassFile.FieldType)).before args0 about1 = true := code_word (m := ⟨26, 0⟩) (meth := k26m0) (c := k26c0) (by decide +kernel) rfl rfl rfl (by decide +kernel)
set_option maxRecDepth 65536 in
theorem w_c42 : (Jvm.Cond.code ({ cls := "java/util/ImmutableCollections$ListN", name := "size", desc := "()I" } : Jvm.MethodName) jdk_45_method_3_code (1 : Nat) (Option.some Jvm.ClassFile.FieldType.int)).before args0 about1 = true := code_word (m := ⟨30, 1⟩) (meth := k30m1) (c := k30c1) (by decide +kernel) rfl rfl rfl (by decide +kernel)
set_option maxRecDepth 65536 in
theorem w_c43 : (Jvm.Cond.code ({ cls := "java/util/ImmutableCollections$ListN", name := "get", desc := "(I)Ljava/lang/Object;" } : Jvm.MethodName) jdk_45_method_4_code (2 : Nat) (Option.some (Jvm.ClassFile.FieldType.object "java/lang/Object"))).before args0 about1 = true := code_word (m := ⟨30, 2⟩) (meth := k30m2) (c := k30c2) (by decide +kernel) rfl rfl rfl (by decide +kernel)
set_option maxRecDepth 65536 in
theorem w_c44 : (Jvm.Cond.code ({ cls := "com/example/eta4/eta4/bench/ThroughputFiguresLinesPinLaw", name := "countLine", desc := "(Ljava/lang/String;Ljava/lang/String;J)Z" } : Jvm.MethodName) method_3_code (6 : Nat) (Option.some Jvm.ClassFile.FieldType.boolean)).before args0 about1 = true := code_word (m := ⟨1, 2⟩) (meth := k1m2) (c := k1c2) (by decide +kernel) rfl rfl rfl (by decide +kernel)
set_option maxRecDepth 65536 in
theorem w_c45 : (Jvm.Cond.code ({ cls := "com/example/eta4/eta4/bench/ThroughputFiguresLinesPinLaw", name := "value", desc := "(Ljava/lang/String;Ljava/lang/String;)J" } : Jvm.MethodName) method_5_code (2 : Nat) (Option.some Jvm.ClassFile.FieldType.long)).before args0 about1 = true := code_word (m := ⟨1, 4⟩) (meth := k1m4) (c := k1c4) (by decide +kernel) rfl rfl rfl (by decide +kernel)
set_option maxRecDepth 65536 in
theorem w_c46 : (Jvm.Cond.code ({ cls := "com/example/eta4/eta4/bench/ThroughputFiguresLinesPinLaw", name := "hasPrefix", desc := "(Ljava/lang/String;Ljava/lang/String;)Z" } : Jvm.MethodName) method_7_code (2 : Nat) (Option.some Jvm.ClassFile.FieldType.boolean)).before args0 about1 = true := code_word (m := ⟨1, 6⟩) (meth := k1m6) (c := k1c6) (by decide +kernel) rfl rfl rfl (by decide +kernel)
set_option maxRecDepth 65536 in
theorem w_c47 : (Jvm.Cond.code ({ cls := "com/example/eta4/eta4/bench/ThroughputFiguresLinesPinLaw", name := "same", desc := "(Ljava/lang/String;Ljava/lang/String;I)Z" } : Jvm.MethodName) method_6_code (3 : Nat) (Option.some Jvm.ClassFile.FieldType.boolean)).before args0 about1 = true := code_word (m := ⟨1, 5⟩) (meth := k1m5) (c := k1c5) (by decide +kernel) rfl rfl rfl (by decide +kernel)
set_option maxRecDepth 65536 in
theorem w_c48 : (Jvm.Cond.code ({ cls := "java/lang/String", name := "charAt", desc := "(I)C" } : Jvm.MethodName) jdk_42_method_56_code (2 : Nat) (Option.some Jvm.ClassFile.FieldType.char)).before args0 about1 = true := code_word (m := ⟨12, 3⟩) (meth := k12m3) (c := k12c3) (by decide +kernel) rfl rfl rfl (by decide +kernel)
set_option maxRecDepth 65536 in
theorem w_c49 : (Jvm.Cond.code ({ cls := "java/lang/String", name := "isLatin1", desc := "()Z" } : Jvm.MethodName) jdk_42_method_154_code (1 : Nat) (Option.some Jvm.ClassFile.FieldType.boolean)).before args0 about1 = true := code_word (m := ⟨12, 7⟩) (meth := k12m7) (c := k12c7) (by decide +kernel) rfl rfl rfl (by decide +kernel)
set_option maxRecDepth 65536 in
theorem w_c50 : (Jvm.Cond.code ({ cls := "java/lang/StringLatin1", name := "charAt", desc := "([BI)C" } : Jvm.MethodName) jdk_43_method_2_code (2 : Nat) (Option.some Jvm.ClassFile.FieldType.char)).before args0 about1 = true := code_word (m := ⟨31, 1⟩) (meth := k31m1) (c := k31c1) (by decide +kernel) rfl rfl rfl (by decide +kernel)
set_option maxRecDepth 65536 in
theorem w_c51 : (Jvm.Cond.code ({ cls := "java/lang/String", name := "checkIndex", desc := "(II)V" } : Jvm.MethodName) jdk_42_method_155_code (2 : Nat) (Option.none : Option Jvm.ClassFile.FieldType)).before args0 about1 = true := code_word (m := ⟨12, 8⟩) (meth := k12m8) (c := k12c8) (by decide +kernel) rfl rfl rfl (by decide +kernel)
set_option maxRecDepth 65536 in
theorem w_c52 : (Jvm.Cond.code ({ cls := "jdk/internal/util/Preconditions", name := "checkIndex", desc := "(IILjava/util/function/BiFunction;)I" } : Jvm.MethodName) jdk_41_method_11_code (3 : Nat) (Option.some Jvm.ClassFile.FieldType.int)).before args0 about1 = true := code_word (m := ⟨32, 1⟩) (meth := k32m1) (c := k32c1) (by decide +kernel) rfl rfl rfl (by decide +kernel)
set_option maxRecDepth 65536 in
theorem w_c53 : (Jvm.Cond.code ({ cls := "com/example/eta4/eta4/bench/ThroughputFiguresLinesPinLaw", name := "parse", desc := "(Ljava/lang/String;I)J" } : Jvm.MethodName) method_9_code (5 : Nat) (Option.some Jvm.ClassFile.FieldType.long)).before args0 about1 = true := code_word (m := ⟨1, 8⟩) (meth := k1m8) (c := k1c8) (by decide +kernel) rfl rfl rfl (by decide +kernel)
set_option maxRecDepth 65536 in
theorem w_c54 : (Jvm.Cond.code ({ cls := "com/example/eta4/eta4/bench/ThroughputFiguresLinesPinLaw", name := "acc", desc := "(JLjava/lang/String;III)J" } : Jvm.MethodName) method_8_code (7 : Nat) (Option.some Jvm.ClassFile.FieldType.long)).before args0 about1 = true := code_word (m := ⟨1, 7⟩) (meth := k1m7) (c := k1c7) (by decide +kernel) rfl rfl rfl (by decide +kernel)
set_option maxRecDepth 65536 in
theorem w_c55 : (Jvm.Cond.code ({ cls := "com/example/eta4/eta4/bench/ThroughputFiguresLinesPinLaw", name := "rateLine", desc := "(Ljava/lang/String;Ljava/lang/String;JJ)Z" } : Jvm.MethodName) method_4_code (10 : Nat) (Option.some Jvm.ClassFile.FieldType.boolean)).before args0 about1 = true := code_word (m := ⟨1, 3⟩) (meth := k1m3) (c := k1c3) (by decide +kernel) rfl rfl rfl (by decide +kernel)
def codes1 : List Jvm.Cond := [Jvm.Cond.code x code maxLocals ret, Jvm.Cond.code ({ cls := "com/example/eta4/eta4/bench/ThroughputFigures", name := "<init>", desc := "(JJJJ)V" } : Jvm.MethodName) prog_5_method_1_code (9 : Nat) (Option.none : Option Jvm.ClassFile.FieldType), Jvm.Cond.code ({ cls := "java/lang/Record", name := "<init>", desc := "()V" } : Jvm.MethodName) jdk_30_method_1_code (1 : Nat) (Option.none : Option Jvm.ClassFile.FieldType), Jvm.Cond.code ({ cls := "java/lang/Object", name := "<init>", desc := "()V" } : Jvm.MethodName) object_method_1_code (1 : Nat) (Option.none : Option Jvm.ClassFile.FieldType), Jvm.Cond.code ({ cls := "com/example/eta4/eta4/bench/ThroughputFigures", name := "lines", desc := "()Ljava/util/List;" } : Jvm.MethodName) prog_5_method_2_code (1 : Nat) (Option.some (Jvm.ClassFile.FieldType.object "java/util/List")), Jvm.Cond.code ({ cls := "java/lang/StringBuilder", name := "<init>", desc := "()V" } : Jvm.MethodName) jdk_67_method_1_code (1 : Nat) (Option.none : Option Jvm.ClassFile.FieldType), Jvm.Cond.code ({ cls := "java/lang/AbstractStringBuilder", name := "<init>", desc := "(I)V" } : Jvm.MethodName) jdk_68_method_2_code (2 : Nat) (Option.none : Option Jvm.ClassFile.FieldType), Jvm.Cond.code ({ cls := "java/lang/StringBuilder", name := "append", desc := "(Ljava/lang/String;)Ljava/lang/StringBuilder;" } : Jvm.MethodName) jdk_67_method_7_code (2 : Nat) (Option.some (Jvm.ClassFile.FieldType.object "java/lang/StringBuilder")), Jvm.Cond.code ({ cls := "java/lang/AbstractStringBuilder", name := "append", desc := "(Ljava/lang/String;)Ljava/lang/AbstractStringBuilder;" } : Jvm.MethodName) jdk_68_method_22_code (3 : Nat) (Option.some (Jvm.ClassFile.FieldType.object "java/lang/AbstractStringBuilder")), Jvm.Cond.code ({ cls := "java/lang/String", name := "length", desc := "()I" } : Jvm.MethodName) jdk_42_method_54_code (1 : Nat) (Option.some Jvm.ClassFile.FieldType.int), Jvm.Cond.code ({ cls := "java/lang/String", name := "coder", desc := "()B" } : Jvm.MethodName) jdk_42_method_152_code (1 : Nat) (Option.some Jvm.ClassFile.FieldType.byte), Jvm.Cond.code ({ cls := "java/lang/AbstractStringBuilder", name := "ensureCapacityInternal", desc := "(I)V" } : Jvm.MethodName) jdk_68_method_9_code (3 : Nat) (Option.none : Option Jvm.ClassFile.FieldType), Jvm.Cond.code ({ cls := "java/lang/AbstractStringBuilder", name := "putStringAt", desc := "(ILjava/lang/String;)V" } : Jvm.MethodName) jdk_68_method_73_code (3 : Nat) (Option.none : Option Jvm.ClassFile.FieldType), Jvm.Cond.code ({ cls := "java/lang/AbstractStringBuilder", name := "inflateIfNeededFor", desc := "(Ljava/lang/String;)V" } : Jvm.MethodName) jdk_68_method_71_code (2 : Nat) (Option.none : Option Jvm.ClassFile.FieldType), Jvm.Cond.code ({ cls := "java/lang/String", name := "getBytes", desc := "([BIB)V" } : Jvm.MethodName) jdk_42_method_147_code (4 : Nat) (Option.none : Option Jvm.ClassFile.FieldType), Jvm.Cond.code ({ cls := "java/lang/StringBuilder", name := "append", desc := "(J)Ljava/lang/StringBuilder;" } : Jvm.MethodName) jdk_67_method_16_code (3 : Nat) (Option.some (Jvm.ClassFile.FieldType.object "java/lang/StringBuilder")), Jvm.Cond.code ({ cls := "java/lang/AbstractStringBuilder", name := "append", desc := "(J)Ljava/lang/AbstractStringBuilder;" } : Jvm.MethodName) jdk_68_method_33_code (5 : Nat) (Option.some (Jvm.ClassFile.FieldType.object "java/lang/AbstractStringBuilder")), Jvm.Cond.code ({ cls := "java/lang/Long", name := "stringSize", desc := "(J)I" } : Jvm.MethodName) jdk_35_method_15_code (6 : Nat) (Option.some Jvm.ClassFile.FieldType.int), Jvm.Cond.code ({ cls := "java/lang/AbstractStringBuilder", name := "isLatin1", desc := "()Z" } : Jvm.MethodName) jdk_68_method_68_code (1 : Nat) (Option.some Jvm.ClassFile.FieldType.boolean), Jvm.Cond.code ({ cls := "java/lang/Long", name := "getChars", desc := "(JI[B)I" } : Jvm.MethodName) jdk_35_method_14_code (11 : Nat) (Option.some Jvm.ClassFile.FieldType.int), Jvm.Cond.code ({ cls := "java/lang/StringBuilder", name := "toString", desc := "()Ljava/lang/String;" } : Jvm.MethodName) jdk_67_method_42_code (1 : Nat) (Option.some (Jvm.ClassFile.FieldType.object "java/lang/String")), Jvm.Cond.code ({ cls := "java/lang/String", name := "<init>", desc := "(Ljava/lang/StringBuilder;)V" } : Jvm.MethodName) jdk_42_method_53_code (2 : Nat) (Option.none : Option Jvm.ClassFile.FieldType), Jvm.Cond.code ({ cls := "java/lang/String", name := "<init>", desc := "(Ljava/lang/AbstractStringBuilder;Ljava/lang/Void;)V" } : Jvm.MethodName) jdk_42_method_150_code (5 : Nat) (Option.none : Option Jvm.ClassFile.FieldType), Jvm.Cond.code ({ cls := "java/lang/AbstractStringBuilder", name := "getValue", desc := "()[B" } : Jvm.MethodName) jdk_68_method_64_code (1 : Nat) (Option.some (Jvm.ClassFile.FieldType.array Jvm.ClassFile.FieldType.byte)), Jvm.Cond.code ({ cls := "java/lang/StringBuilder", name := "length", desc := "()I" } : Jvm.MethodName) jdk_67_method_93_code (1 : Nat) (Option.some Jvm.ClassFile.FieldType.int), Jvm.Cond.code ({ cls := "java/lang/AbstractStringBuilder", name := "length", desc := "()I" } : Jvm.MethodName) jdk_68_method_6_code (1 : Nat) (Option.some Jvm.ClassFile.FieldType.int), Jvm.Cond.code ({ cls := "java/util/Arrays", name := "copyOfRange", desc := "([BII)[B" } : Jvm.MethodName) jdk_65_method_132_code (3 : Nat) (Option.some (Jvm.ClassFile.FieldType.array Jvm.ClassFile.FieldType.byte)), Jvm.Cond.code ({ cls := "java/util/Arrays", name := "copyOfRangeByte", desc := "([BII)[B" } : Jvm.MethodName) jdk_65_method_133_code (5 : Nat) (Option.some (Jvm.ClassFile.FieldType.array Jvm.ClassFile.FieldType.byte)), Jvm.Cond.code ({ cls := "java/util/Arrays", name := "checkLength", desc := "(II)V" } : Jvm.MethodName) jdk_65_method_131_code (2 : Nat) (Option.none : Option Jvm.ClassFile.FieldType), Jvm.Cond.code ({ cls := "java/lang/Math", name := "min", desc := "(II)I" } : Jvm.MethodName) jdk_29_method_69_code (2 : Nat) (Option.some Jvm.ClassFile.FieldType.int), Jvm.Cond.code ({ cls := "com/example/eta4/eta4/bench/ThroughputFigures", name := "perSecond", desc := "(JJ)J" } : Jvm.MethodName) prog_5_method_3_code (4 : Nat) (Option.some Jvm.ClassFile.FieldType.long), Jvm.Cond.code ({ cls := "java/lang/AbstractStringBuilder", name := "newCapacity", desc := "(I)I" } : Jvm.MethodName) jdk_68_method_10_code (6 : Nat) (Option.some Jvm.ClassFile.FieldType.int), Jvm.Cond.code ({ cls := "jdk/internal/util/ArraysSupport", name := "newLength", desc := "(III)I" } : Jvm.MethodName) jdk_48_method_27_code (4 : Nat) (Option.some Jvm.ClassFile.FieldType.int), Jvm.Cond.code ({ cls := "java/lang/Math", name := "max", desc := "(II)I" } : Jvm.MethodName) jdk_29_method_65_code (2 : Nat) (Option.some Jvm.ClassFile.FieldType.int), Jvm.Cond.code ({ cls := "java/util/Arrays", name := "copyOf", desc := "([BI)[B" } : Jvm.MethodName) jdk_65_method_121_code (3 : Nat) (Option.some (Jvm.ClassFile.FieldType.array Jvm.ClassFile.FieldType.byte)), Jvm.Cond.code ({ cls := "java/util/List", name := "of", desc := "(Ljava/lang/Object;Ljava/lang/Object;Ljava/lang/Object;Ljava/lang/Object;)Ljava/util/List;" } : Jvm.MethodName) jdk_40_method_40_code (4 : Nat) (Option.some (Jvm.ClassFile.FieldType.object "java/util/List")), Jvm.Cond.code ({ cls := "java/util/ImmutableCollections", name := "listFromTrustedArray", desc := "([Ljava/lang/Object;)Ljava/util/List;" } : Jvm.MethodName) jdk_56_method_5_code (5 : Nat) (Option.some (Jvm.ClassFile.FieldType.object "java/util/List")), Jvm.Cond.code ({ cls := "java/util/Objects", name := "requireNonNull", desc := "(Ljava/lang/Object;)Ljava/lang/Object;" } : Jvm.MethodName) jdk_31_method_10_code (1 : Nat) (Option.some (Jvm.ClassFile.FieldType.object "java/lang/Object")), Jvm.Cond.code ({ cls := "java/util/ImmutableCollections$ListN", name := "<init>", desc := "([Ljava/lang/Object;Z)V" } : Jvm.MethodName) jdk_45_method_1_code (3 : Nat) (Option.none : Option Jvm.ClassFile.FieldType), Jvm.Cond.code ({ cls := "java/util/ImmutableCollections$AbstractImmutableList", name := "<init>", desc := "()V" } : Jvm.MethodName) jdk_46_method_1_code (1 : Nat) (Option.none : Option Jvm.ClassFile.FieldType), Jvm.Cond.code ({ cls := "java/util/ImmutableCollections$AbstractImmutableCollection", name := "<init>", desc := "()V" } : Jvm.MethodName) jdk_47_method_1_code (1 : Nat) (Option.none : Option Jvm.ClassFile.FieldType), Jvm.Cond.code ({ cls := "java/util/AbstractCollection", name := "<init>", desc := "()V" } : Jvm.MethodName) jdk_22_method_1_code (1 : Nat) (Option.none : Option Jvm.ClassFile.FieldType), Jvm.Cond.code ({ cls := "java/util/ImmutableCollections$ListN", name := "size", desc := "()I" } : Jvm.MethodName) jdk_45_method_3_code (1 : Nat) (Option.some Jvm.ClassFile.FieldType.int), Jvm.Cond.code ({ cls := "java/util/ImmutableCollections$ListN", name := "get", desc := "(I)Ljava/lang/Object;" } : Jvm.MethodName) jdk_45_method_4_code (2 : Nat) (Option.some (Jvm.ClassFile.FieldType.object "java/lang/Object")), Jvm.Cond.code ({ cls := "com/example/eta4/eta4/bench/ThroughputFiguresLinesPinLaw", name := "countLine", desc := "(Ljava/lang/String;Ljava/lang/String;J)Z" } : Jvm.MethodName) method_3_code (6 : Nat) (Option.some Jvm.ClassFile.FieldType.boolean), Jvm.Cond.code ({ cls := "com/example/eta4/eta4/bench/ThroughputFiguresLinesPinLaw", name := "value", desc := "(Ljava/lang/String;Ljava/lang/String;)J" } : Jvm.MethodName) method_5_code (2 : Nat) (Option.some Jvm.ClassFile.FieldType.long), Jvm.Cond.code ({ cls := "com/example/eta4/eta4/bench/ThroughputFiguresLinesPinLaw", name := "hasPrefix", desc := "(Ljava/lang/String;Ljava/lang/String;)Z" } : Jvm.MethodName) method_7_code (2 : Nat) (Option.some Jvm.ClassFile.FieldType.boolean), Jvm.Cond.code ({ cls := "com/example/eta4/eta4/bench/ThroughputFiguresLinesPinLaw", name := "same", desc := "(Ljava/lang/String;Ljava/lang/String;I)Z" } : Jvm.MethodName) method_6_code (3 : Nat) (Option.some Jvm.ClassFile.FieldType.boolean), Jvm.Cond.code ({ cls := "java/lang/String", name := "charAt", desc := "(I)C" } : Jvm.MethodName) jdk_42_method_56_code (2 : Nat) (Option.some Jvm.ClassFile.FieldType.char), Jvm.Cond.code ({ cls := "java/lang/String", name := "isLatin1", desc := "()Z" } : Jvm.MethodName) jdk_42_method_154_code (1 : Nat) (Option.some Jvm.ClassFile.FieldType.boolean), Jvm.Cond.code ({ cls := "java/lang/StringLatin1", name := "charAt", desc := "([BI)C" } : Jvm.MethodName) jdk_43_method_2_code (2 : Nat) (Option.some Jvm.ClassFile.FieldType.char), Jvm.Cond.code ({ cls := "java/lang/String", name := "checkIndex", desc := "(II)V" } : Jvm.MethodName) jdk_42_method_155_code (2 : Nat) (Option.none : Option Jvm.ClassFile.FieldType), Jvm.Cond.code ({ cls := "jdk/internal/util/Preconditions", name := "checkIndex", desc := "(IILjava/util/function/BiFunction;)I" } : Jvm.MethodName) jdk_41_method_11_code (3 : Nat) (Option.some Jvm.ClassFile.FieldType.int), Jvm.Cond.code ({ cls := "com/example/eta4/eta4/bench/ThroughputFiguresLinesPinLaw", name := "parse", desc := "(Ljava/lang/String;I)J" } : Jvm.MethodName) method_9_code (5 : Nat) (Option.some Jvm.ClassFile.FieldType.long), Jvm.Cond.code ({ cls := "com/example/eta4/eta4/bench/ThroughputFiguresLinesPinLaw", name := "acc", desc := "(JLjava/lang/String;III)J" } : Jvm.MethodName) method_8_code (7 : Nat) (Option.some Jvm.ClassFile.FieldType.long), Jvm.Cond.code ({ cls := "com/example/eta4/eta4/bench/ThroughputFiguresLinesPinLaw", name := "rateLine", desc := "(Ljava/lang/String;Ljava/lang/String;JJ)Z" } : Jvm.MethodName) method_4_code (10 : Nat) (Option.some Jvm.ClassFile.FieldType.boolean)]
set_option maxRecDepth 65536 in
theorem codes_eq : words1.filter isCode = codes1 := rfl
theorem w_codes : ∀ c ∈ words1.filter isCode, c.before args0 about1 = true := by
  rw [codes_eq]
  intro c hc
  simp only [codes1, List.mem_cons, List.not_mem_nil, or_false] at hc
  rcases hc with rfl | rfl | rfl | rfl | rfl | rfl | rfl | rfl | rfl | rfl | rfl | rfl | rfl | rfl | rfl | rfl | rfl | rfl | rfl | rfl | rfl | rfl | rfl | rfl | rfl | rfl | rfl | rfl | rfl | rfl | rfl | rfl | rfl | rfl | rfl | rfl | rfl | rfl | rfl | rfl | rfl | rfl | rfl | rfl | rfl | rfl | rfl | rfl | rfl | rfl | rfl | rfl | rfl | rfl | rfl | rfl
  · exact w_c0
  · exact w_c1
  · exact w_c2
  · exact w_c3
  · exact w_c4
  · exact w_c5
  · exact w_c6
  · exact w_c7
  · exact w_c8
  · exact w_c9
  · exact w_c10
  · exact w_c11
  · exact w_c12
  · exact w_c13
  · exact w_c14
  · exact w_c15
  · exact w_c16
  · exact w_c17
  · exact w_c18
  · exact w_c19
  · exact w_c20
  · exact w_c21
  · exact w_c22
  · exact w_c23
  · exact w_c24
  · exact w_c25
  · exact w_c26
  · exact w_c27
  · exact w_c28
  · exact w_c29
  · exact w_c30
  · exact w_c31
  · exact w_c32
  · exact w_c33
  · exact w_c34
  · exact w_c35
  · exact w_c36
  · exact w_c37
  · exact w_c38
  · exact w_c39
  · exact w_c40
  · exact w_c41
  · exact w_c42
  · exact w_c43
  · exact w_c44
  · exact w_c45
  · exact w_c46
  · exact w_c47
  · exact w_c48
  · exact w_c49
  · exact w_c50
  · exact w_c51
  · exact w_c52
  · exact w_c53
  · exact w_c54
  · exact w_c55
set_option maxRecDepth 65536 in
theorem w_t1 : (words1.take 24).all (fun c => isCode c || c.before args0 about1) = true := by decide +kernel
set_option maxRecDepth 65536 in
theorem w_t2 : ((words1.drop 24).take 24).all (fun c => isCode c || c.before args0 about1) = true := by decide +kernel
set_option maxRecDepth 65536 in
theorem w_t3 : (((words1.drop 24).drop 24).take 24).all (fun c => isCode c || c.before args0 about1) = true := by decide +kernel
set_option maxRecDepth 65536 in
theorem w_t4 : ((((words1.drop 24).drop 24).drop 24).take 24).all (fun c => isCode c || c.before args0 about1) = true := by decide +kernel
set_option maxRecDepth 65536 in
theorem w_t5 : (((((words1.drop 24).drop 24).drop 24).drop 24).take 24).all (fun c => isCode c || c.before args0 about1) = true := by decide +kernel
set_option maxRecDepth 65536 in
theorem w_t6 : ((((((words1.drop 24).drop 24).drop 24).drop 24).drop 24).take 24).all (fun c => isCode c || c.before args0 about1) = true := by decide +kernel
set_option maxRecDepth 65536 in
theorem w_t7 : (((((((words1.drop 24).drop 24).drop 24).drop 24).drop 24).drop 24).take 24).all (fun c => isCode c || c.before args0 about1) = true := by decide +kernel
set_option maxRecDepth 65536 in
theorem w_t8 : ((((((((words1.drop 24).drop 24).drop 24).drop 24).drop 24).drop 24).drop 24).take 24).all (fun c => isCode c || c.before args0 about1) = true := by decide +kernel
set_option maxRecDepth 65536 in
theorem w_t9 : (((((((((words1.drop 24).drop 24).drop 24).drop 24).drop 24).drop 24).drop 24).drop 24).take 24).all (fun c => isCode c || c.before args0 about1) = true := by decide +kernel
set_option maxRecDepth 65536 in
theorem w_t10 : ((((((((((words1.drop 24).drop 24).drop 24).drop 24).drop 24).drop 24).drop 24).drop 24).drop 24).take 24).all (fun c => isCode c || c.before args0 about1) = true := by decide +kernel
set_option maxRecDepth 65536 in
theorem w_t11 : (((((((((((words1.drop 24).drop 24).drop 24).drop 24).drop 24).drop 24).drop 24).drop 24).drop 24).drop 24).take 24).all (fun c => isCode c || c.before args0 about1) = true := by decide +kernel
set_option maxRecDepth 65536 in
theorem w_t12 : ((((((((((((words1.drop 24).drop 24).drop 24).drop 24).drop 24).drop 24).drop 24).drop 24).drop 24).drop 24).drop 24).take 24).all (fun c => isCode c || c.before args0 about1) = true := by decide +kernel
set_option maxRecDepth 65536 in
theorem w_t13 : (((((((((((((words1.drop 24).drop 24).drop 24).drop 24).drop 24).drop 24).drop 24).drop 24).drop 24).drop 24).drop 24).drop 24).take 24).all (fun c => isCode c || c.before args0 about1) = true := by decide +kernel
set_option maxRecDepth 65536 in
theorem w_t14 : (((((((((((((words1.drop 24).drop 24).drop 24).drop 24).drop 24).drop 24).drop 24).drop 24).drop 24).drop 24).drop 24).drop 24).drop 24).all (fun c => isCode c || c.before args0 about1) = true := by decide +kernel
theorem w_tables : (allAtoms (Jvm.Cond.code x code maxLocals ret :: tables_1)).before args0 about1 = true := by
  rw [allAtoms_all]
  show words1.all (fun c => c.before args0 about1) = true
  refine all_split ?_ w_codes
  rw [← List.take_append_drop 24 words1, List.all_append, w_t1, ← List.take_append_drop 24 (words1.drop 24), List.all_append, w_t2, ← List.take_append_drop 24 ((words1.drop 24).drop 24), List.all_append, w_t3, ← List.take_append_drop 24 (((words1.drop 24).drop 24).drop 24), List.all_append, w_t4, ← List.take_append_drop 24 ((((words1.drop 24).drop 24).drop 24).drop 24), List.all_append, w_t5, ← List.take_append_drop 24 (((((words1.drop 24).drop 24).drop 24).drop 24).drop 24), List.all_append, w_t6, ← List.take_append_drop 24 ((((((words1.drop 24).drop 24).drop 24).drop 24).drop 24).drop 24), List.all_append, w_t7, ← List.take_append_drop 24 (((((((words1.drop 24).drop 24).drop 24).drop 24).drop 24).drop 24).drop 24), List.all_append, w_t8, ← List.take_append_drop 24 ((((((((words1.drop 24).drop 24).drop 24).drop 24).drop 24).drop 24).drop 24).drop 24), List.all_append, w_t9, ← List.take_append_drop 24 (((((((((words1.drop 24).drop 24).drop 24).drop 24).drop 24).drop 24).drop 24).drop 24).drop 24), List.all_append, w_t10, ← List.take_append_drop 24 ((((((((((words1.drop 24).drop 24).drop 24).drop 24).drop 24).drop 24).drop 24).drop 24).drop 24).drop 24), List.all_append, w_t11, ← List.take_append_drop 24 (((((((((((words1.drop 24).drop 24).drop 24).drop 24).drop 24).drop 24).drop 24).drop 24).drop 24).drop 24).drop 24), List.all_append, w_t12, ← List.take_append_drop 24 ((((((((((((words1.drop 24).drop 24).drop 24).drop 24).drop 24).drop 24).drop 24).drop 24).drop 24).drop 24).drop 24).drop 24), List.all_append, w_t13, w_t14]
  rfl
set_option maxRecDepth 65536 in
theorem w_rest : rest_1_c.before args0 about1 = true := by decide +kernel
set_option maxRecDepth 65536 in
theorem w_case : (Jvm.Cond.and given_1 narrow_1).before args0 about1 = true := by decide +kernel
set_option maxRecDepth 65536 in
theorem w_consts : constsHeld consts_1 about1 := Jvm.Lit.constsHeldB_iff.mp (by decide +kernel)
theorem w_applies : (headSpec (Jvm.Cond.code x code maxLocals ret :: tables_1) room_1).applies x e0.platform about1 = true :=
  (Spec.applies_iff w_frames).mpr ⟨w_running, w_runnable, w_alone, w_named, w_hears, w_ripe, w_room, w_tables⟩
theorem atStart : AtStart classFile x code maxLocals ret World_1 tables_1 room_1 Calls_1 rest_1 Pre_1 launch0 p0 e0 about1 theMethod args0 below0 :=
  ⟨lists_1, trivial, launch0.admits_env _ _ _, launch0.least_env, fairChoices_fair.cas, fairChoices_fair.clock, w_frames, w_args, w_heap, w_applies, ⟨w_consts, trivial⟩, w_rest, w_case⟩
end start1
theorem witness_1 : WitnessClaimed_1 := ⟨start1.p0, start1.e0, start1.about1, start1.theMethod, start1.args0, start1.below0, start1.atStart⟩
end Jvm.Pilot.@@N@@
