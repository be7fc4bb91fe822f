import JvmDerived
import JvmDerived.Pilot.@@N@@Statement
import JvmDerived.Pilot.@@N@@Code
set_option linter.unusedVariables false
set_option linter.unusedSimpArgs false
namespace Jvm.RoadKit
open Sem ClassFile Op Lib Jvm.Stand Jvm.Free Jvm.LawKit
section New
variable {p : Program} {l : Launch} {e : Env} {R : Room} {s : State} {m : MethodId} {args : Array Value} {below : List Frame} {meth : Method} {c : Code} {T : State} {locs : List Loc} {cells slots : Nat}
theorem retI (X : Stand p l e R s m args below meth c T locs cells slots) (hx : p.tables.exec = Jvm.exec) {pc : Nat} {Ls : Array Slot} {z : Int32} {rest : List Value} (hret : meth.sig.returnType = some .int) (hd : decode c.code pc = .ok (.ireturn, 1)) {fs : List Frame}
    (hl : ∀ (f : JFrame) (acts : List Action), f.method = m → f.locked = none → f.entered = [] → (doReturn e (T.setTop f) acts (some (.int z))).1 = T.setFrames fs) : Steps p.tables e below (T.setTop (mkF m pc Ls (.int z :: rest))) (T.setFrames fs) := by
  have hm' : T.vm.method? m = some meth := X.method'
  have hn : narrow .int (.int z) = .int z := rfl
  show Steps p.tables e below (T.setTop { method := m, pc := pc, locals := Ls, stack := _ :: rest, locked := none }) _
  jvm_step X.here [X.here.top, hx, hd, hm', hret, hn]
  first | (intro acts; rw [hl _ acts rfl rfl rfl]) | rw [hl _ _ rfl rfl rfl]
  exact Steps.refl _
theorem lremM {g : JFrame} {target : State} (X : Stand p l e R s m args below meth c T locs cells slots) (hx : p.tables.exec = Jvm.exec) (hg : g.method = m) {x y : Int64} {rest : List Value} (hd : decode c.code g.pc = .ok (.lrem, 1)) (hs : g.stack = .long y :: .long x :: rest) (hy : y ≠ 0)
    (hr : Steps p.tables e below (T.setTop { g with pc := g.pc + 1, stack := .long (x % y) :: rest }) target) : Steps p.tables e below (T.setTop g) target := by
  have q : x - x / y * y = x % y := lrem_mod x y
  exact XS.lrem X.here hx hg hd hs hy (by rw [q]; exact hr)
theorem own_mvX (X : Stand p l e R s m args below meth c T locs cells slots) {a b : Nat} (y : cells = a) (z : slots = b) : Stand p l e R s m args below meth c T locs a b := by subst y z; exact X
theorem own_mvN {k : Nat} {A B L : List Loc} (q : L = A ++ B) (N : Fr k A) (N' : Fr k B) : Fr k L := q ▸ N.app N'
end New
section Own
variable {Z : State} {h0 h h' : Heap} {ws ws' : List (Addr × Nat)} {wa wa' : List Addr} {a : Addr} {sl : Nat} {v : Value} {C n d : String}
/-- own: what a call leaves as it was, by places (ws) and whole cells (wa): every cell is kept in class, kind and size; a place that isn't listed keeps its value -/
def KSx (h h' : Heap) (ws : List (Addr × Nat)) (wa : List Addr) : Prop := h.size ≤ h'.size ∧ ∀ (x : Addr) (c : Cell), h[x]? = some c → ∃ c' : Cell, h'[x]? = some c' ∧ c'.cls = c.cls ∧ c'.vm = c.vm ∧ c'.slots.size = c.slots.size ∧ (∀ j, (∀ p ∈ ws, x ≠ p.1 ∨ j ≠ p.2) → (∀ p ∈ wa, x ≠ p) → c'.slots[j]? = c.slots[j]?) ∧ ((c.vm.isStatics = true ∨ ((∀ p ∈ ws, x ≠ p.1) ∧ ∀ p ∈ wa, x ≠ p)) → c' = c)
theorem ks0 {P : Addr × Nat → Prop} : ∀ p ∈ ([] : List (Addr × Nat)), P p := fun _ q => nomatch q
theorem ksS {P : Addr × Nat → Prop} {y : Addr × Nat} {L : List (Addr × Nat)} (q : P y) (r : ∀ p ∈ L, P p) : ∀ p ∈ y :: L, P p := fun x z => (List.mem_cons.mp z).elim (fun u => u ▸ q) (r x)
theorem KSx.refl (h : Heap) (ws : List (Addr × Nat)) (wa : List Addr) : KSx h h ws wa := ⟨Nat.le_refl _, fun _ c q => ⟨c, q, rfl, rfl, rfl, fun _ _ _ => rfl, fun _ => rfl⟩⟩
theorem KSx.ext (K : KSx h0 h ws wa) (E : Ext h h') : KSx h0 h' ws wa := ⟨Nat.le_trans K.1 E.1, fun x c q => by obtain ⟨c', q', r⟩ := K.2 x c q; exact ⟨c', E.2 x c' q', r⟩⟩
theorem KSx.trans (K : KSx h0 h ws wa) (K' : KSx h h' ws' wa') (q : ∀ p ∈ ws', p ∈ ws ∨ h0.size ≤ p.1) (q2 : ∀ p ∈ wa', p ∈ wa ∨ h0.size ≤ p) : KSx h0 h' ws wa := by
  refine ⟨Nat.le_trans K.1 K'.1, fun x c hc => ?_⟩
  obtain ⟨c1, a1, a2, a3, a4, a5, a6⟩ := K.2 x c hc
  obtain ⟨c2, b1, b2, b3, b4, b5, b6⟩ := K'.2 x c1 a1
  have hx : x < h0.size := (Array.getElem?_eq_some_iff.mp hc).1
  refine ⟨c2, b1, b2.trans a2, b3.trans a3, b4.trans a4, fun j hj hj2 => ?_, fun hs => ?_⟩
  · refine (b5 j (fun p hp => ?_) fun p hp => ?_).trans (a5 j hj hj2)
    · rcases q p hp with w | g
      · exact hj p w
      · exact Or.inl fun e => by subst e; exact absurd hx (Nat.not_lt.mpr g)
    · rcases q2 p hp with w | g
      · exact hj2 p w
      · exact fun e => by subst e; exact absurd hx (Nat.not_lt.mpr g)
  · have e1 : c1 = c := a6 hs
    refine (b6 ?_).trans e1
    rcases hs with w | ⟨w, w2⟩
    · exact Or.inl (by rw [e1]; exact w)
    · refine Or.inr ⟨fun p hp => ?_, fun p hp => ?_⟩
      · rcases q p hp with y | g
        · exact w p y
        · exact fun e => by subst e; exact absurd hx (Nat.not_lt.mpr g)
      · rcases q2 p hp with y | g
        · exact w2 p y
        · exact fun e => by subst e; exact absurd hx (Nat.not_lt.mpr g)
theorem KSx.of_wr (W : Wr h h' a sl v) : KSx h h' [(a, sl)] [] := by
  refine ⟨Nat.le_of_eq W.size.symm, fun x c hc => ?_⟩
  obtain ⟨c', e1, e2, e3, e4, e5, e6, e7⟩ := wr_at W hc
  refine ⟨c', e1, e2, e3, e4, fun j hj _ => ?_, fun hs => ?_⟩
  · rcases hj (a, sl) (List.mem_singleton.mpr rfl) with y | y
    · rw [e5 y]
    · exact e6 j y
  · rcases hs with y | y
    · by_cases z : x = a
      · rw [(e7 z).2.2] at y; cases y
      · exact e5 z
    · exact e5 (y.1 (a, sl) (List.mem_singleton.mpr rfl))
theorem KSx.of_wrA (W : Wr h h' a sl v) : KSx h h' [] [a] := by
  refine ⟨Nat.le_of_eq W.size.symm, fun x c hc => ?_⟩
  obtain ⟨c', e1, e2, e3, e4, e5, e6, e7⟩ := wr_at W hc
  refine ⟨c', e1, e2, e3, e4, fun j _ hj => ?_, fun hs => ?_⟩
  · rw [e5 (hj a (List.mem_singleton.mpr rfl))]
  · rcases hs with y | y
    · by_cases z : x = a
      · rw [(e7 z).2.2] at y; cases y
      · exact e5 z
    · exact e5 (y.2 a (List.mem_singleton.mpr rfl))
theorem KSx.wr (K : KSx h0 h ws wa) (W : Wr h h' a sl v) (q : (a, sl) ∈ ws ∨ h0.size ≤ a) : KSx h0 h' ws wa := K.trans (KSx.of_wr W) (fun p hp => by cases List.mem_singleton.mp hp; exact q) all0
theorem KSx.wrA (K : KSx h0 h ws wa) (W : Wr h h' a sl v) (q : a ∈ wa ∨ h0.size ≤ a) : KSx h0 h' ws wa := K.trans (KSx.of_wrA W) ks0 (fun p hp => by cases List.mem_singleton.mp hp; exact q)
theorem KSx.of_keep {L : List Addr} (K : Keep h h' L) (hs : ∀ x ∈ L, ∀ cell : Cell, h[x]? = some cell → cell.vm.isStatics = false) : KSx h h' [] L := by
  refine ⟨K.1, fun x c hc => ?_⟩
  obtain ⟨c', e1, e2, e3, e4⟩ := K.2.2 x c hc
  have key : (∀ p ∈ L, x ≠ p) → c' = c := fun q => Option.some.inj (e1.symm.trans (K.2.1 x c hc fun m => q x m rfl))
  refine ⟨c', e1, e2, e3, e4, fun j _ hj => by rw [key hj], fun hst => ?_⟩
  rcases hst with y | y
  · by_cases z : x ∈ L
    · rw [hs x z c hc] at y; cases y
    · exact key fun p hp e => z (e ▸ hp)
  · exact key y.2
theorem Fld.ks (F : Fld Z h a C n d v) (K : KSx h h' ws wa) (q : ∀ p ∈ ws, a ≠ p.1 ∨ slotOf Z C n d ≠ p.2) (q2 : ∀ p ∈ wa, a ≠ p) : Fld Z h' a C n d v := by
  obtain ⟨cell, cf, k, i, f, h1, h2, h3, h4, h5, h6, h7⟩ := F
  obtain ⟨c', e1, e2, e3, -, e5, -⟩ := K.2 _ _ h1
  refine ⟨c', cf, k, i, f, e1, h2, h3, by rw [e3]; exact h4, by rw [e3]; exact h5, by rw [e2]; exact h6, ?_⟩
  refine (e5 _ (fun p hp => ?_) q2).trans h7
  simpa [slotOf, h2] using q p hp
theorem Exa.ks (F : Exa Z h a C) (K : KSx h h' ws wa) : Exa Z h' a C := by
  obtain ⟨cell, k, h1, h2, h3, h4, h5⟩ := F
  obtain ⟨c', e1, e2, e3, e4, -⟩ := K.2 _ _ h1
  exact ⟨c', k, e1, by rw [e2]; exact h2, by rw [e2]; exact h3, by rw [e3]; exact h4, by rw [e4]; exact h5⟩
theorem Sta.ks (F : Sta Z h C n d v) (K : KSx h h' ws wa) : Sta Z h' C n d v := by
  obtain ⟨cf, i, k, f, st, cell, h1, h2, h3, h4, h5, h6, h7⟩ := F
  obtain ⟨c', e1, -, -, -, -, e6⟩ := K.2 _ _ h5
  exact ⟨cf, i, k, f, st, cell, h1, h2, h3, h4, (e6 (Or.inl h6)) ▸ e1, h6, h7⟩
theorem Arr.ks {c : Cell} {ty : FieldType} (F : Arr Z h a c ty) (K : KSx h h' ws wa) (q : ∀ p ∈ ws, a ≠ p.1) (q2 : ∀ p ∈ wa, a ≠ p) : Arr Z h' a c ty := by
  obtain ⟨c', e1, -, -, -, -, e6⟩ := K.2 _ _ F.1
  exact ⟨(e6 (Or.inr ⟨q, q2⟩)) ▸ e1, F.2⟩
theorem Arv.ks {k : ClassId} {ty : FieldType} {z : Int32} {vs : List Value} {dv : Value} (F : Arv Z h a k ty z vs dv) (K : KSx h h' ws wa) (q : ∀ p ∈ ws, a ≠ p.1) (q2 : ∀ p ∈ wa, a ≠ p) : Arv Z h' a k ty z vs dv := by obtain ⟨c, A, r⟩ := F; exact ⟨c, A.ks K q q2, r⟩
theorem own_fi {args : Array Value} {s : State} {t : Term} {k : Int32} (ht : t.eval args s none [] s = some (.ref a)) (hq : (Cond.eq (.field t C n d) (.int k)).value args s none s [] = some true) : Fld s s.heap a C n d (.int k) := by
  have e2 : (Term.int k).eval args s none [] s = some (.int k) := Term.int_eval k
  obtain ⟨x, y, e1, e3, -, k2⟩ := cmp_v (Or.inl hq)
  cases e2.symm.trans e3
  obtain ⟨z, rfl⟩ := k2
  have q : z = k := by simpa [Cond.value, e1, e2] using hq
  subst q
  exact Fld.start (by rw [← fld_at ht]; exact e1)
theorem own_fr {args : Array Value} {s : State} {t u : Term} {b : Addr} (ht : t.eval args s none [] s = some (.ref a)) (hu : u.eval args s none [] s = some (.ref b)) (hq : (Cond.eq (.field t C n d) u).value args s none s [] = some true) : Fld s s.heap a C n d (.ref b) := by
  obtain ⟨x, y, e1, e3, k1, k2⟩ := cmp_v (Or.inl hq)
  cases hu.symm.trans e3
  have hr : x.isRef = true := k2.2
  have q : x = .ref b := gotT (eq_R e1 hu hr rfl) hq
  subst q
  exact Fld.start (by rw [← fld_at ht]; exact e1)
theorem own_len {args : Array Value} {s : State} {t : Term} {k : Int32} {cl : Cell} {ty : FieldType} (ht : t.eval args s none [] s = some (.ref a)) (A : Arr s s.heap a cl ty) (hq : (Cond.eq (.length t) (.int k)).value args s none s [] = some true) : cl.slots.size < 2 ^ 31 ∧ cl.slots.size.toInt32 = k := by
  have e2 : (Term.int k).eval args s none [] s = some (.int k) := Term.int_eval k
  have ha : s.arrayAt? a = some cl := A.fin (Vm.Alike.refl _)
  obtain ⟨x, y, e1, e3, -, k2⟩ := cmp_v (Or.inl hq)
  cases e2.symm.trans e3
  obtain ⟨z, rfl⟩ := k2
  have q : z = k := by simpa [Cond.value, e1, e2] using hq
  subst q
  by_cases hl : cl.slots.size < 2 ^ 31
  · rw [len_f ht ha hl] at e1
    cases e1; exact ⟨hl, rfl⟩
  · simp [Term.eval, ht, ha, hl] at e1
theorem own_el {args : Array Value} {s : State} {t u : Term} {k : Int32} {b : Addr} {cl : Cell} {ty : FieldType} (ht : t.eval args s none [] s = some (.ref a)) (hu : u.eval args s none [] s = some (.ref b)) (A : Arr s s.heap a cl ty) (hq : (Cond.eq (.elem t (.int k)) u).value args s none s [] = some true) : cl.slots[k.toNatClampNeg]? = some (.ref b) := by
  obtain ⟨x, y, e1, e3, k1, k2⟩ := cmp_v (Or.inl hq)
  cases hu.symm.trans e3
  have q : x = .ref b := gotT (eq_R e1 hu k2.2 rfl) hq
  subst q
  exact (elem_in e1 ht (Term.int_eval k) A.1).2
theorem own_sel {s : State} {a0 args : Array Value} {y : MethodName} {k : Nat} (hZ : Z.Warmed39 s.vm) (wi : (Cond.instantiable y.cls k).before a0 Z = true) (wp : (Cond.privateMethod y).before a0 Z = true) (wm : (Cond.instanceMethod y).before a0 Z = true) (hy : y.cls ≠ "java/lang/invoke/MethodHandle" ∧ y.cls ≠ "java/lang/invoke/VarHandle") : (Cond.selects y.cls y y).before args s = true := by
  obtain ⟨c, kc, h1, h2, -, h4, -⟩ := Cond.instantiable_spec (mvT (args := args) hZ wi)
  exact selects_self_of_private h1 h2 (Bool.or_eq_false_iff.mp h4).1 (Cond.privateMethod_at (mvP hZ wp (args := args))) (mvT hZ wm) hy
end Own
end Jvm.RoadKit
namespace Jvm.RoadKit
open Sem ClassFile Op Lib Jvm.Stand Jvm.Free Jvm.LawKit
section BAs
variable {Z : State} {h h' : Heap} {a b : Addr} {k k' : ClassId} {ty : FieldType} {z z' : Int32} {f g : Nat → Int32} {ws : List (Addr × Nat)} {wa : List Addr} {sl : Nat} {v : Value}
/-- own: an array of ints (bytes, chars) as a function -/
def BA (Z : State) (h : Heap) (a : Addr) (k : ClassId) (ty : FieldType) (z : Int32) (f : Nat → Int32) : Prop := ∃ c : Cell, Arr Z h a c ty ∧ c.cls = k ∧ c.slots.size = z.toNatClampNeg ∧ ¬ z < 0 ∧ (∀ i, i < c.slots.size → c.slots[i]? = some (.int (f i))) ∧ ∀ i, i < c.slots.size → fits ty (.int (f i)) = true
theorem BA.lt (F : BA Z h a k ty z f) : a < h.size := by obtain ⟨c, A, -⟩ := F; exact A.lt
theorem BA.ext (F : BA Z h a k ty z f) (E : Ext h h') : BA Z h' a k ty z f := by obtain ⟨c, A, r⟩ := F; exact ⟨c, A.ext E, r⟩
theorem BA.other (F : BA Z h b k ty z f) (W : Wr h h' a sl v) (q : b ≠ a) : BA Z h' b k ty z f := by obtain ⟨c, A, r⟩ := F; exact ⟨c, A.other W q, r⟩
theorem BA.ks (F : BA Z h a k ty z f) (K : KSx h h' ws wa) (q : ∀ p ∈ ws, a ≠ p.1) (q2 : ∀ p ∈ wa, a ≠ p) : BA Z h' a k ty z f := by obtain ⟨c, A, r⟩ := F; exact ⟨c, A.ks K q q2, r⟩
theorem BA.congr (F : BA Z h a k ty z f) (e : ∀ i, i < z.toNatClampNeg → f i = g i) : BA Z h a k ty z g := by
  obtain ⟨c, A, q1, S, q3, H, G⟩ := F
  exact ⟨c, A, q1, S, q3, fun i hi => by rw [← e i (S ▸ hi)]; exact H i hi, fun i hi => by rw [← e i (S ▸ hi)]; exact G i hi⟩
theorem BA.set {x j : Int32} (F : BA Z h a k ty z f) (W : Wr h h' a j.toNatClampNeg (.int x)) (hf : fits ty (.int x) = true) : BA Z h' a k ty z (fun i => if i = j.toNatClampNeg then x else f i) := by
  obtain ⟨c, A, q1, S, q3, H, G⟩ := F
  have hs : (c.setSlot j.toNatClampNeg (.int x)).slots.size = c.slots.size := by simp [Cell.setSlot]
  refine ⟨_, A.same W, q1, by rw [hs]; exact S, q3, fun i hi => ?_, fun i hi => ?_⟩
  · rw [hs] at hi
    show _ = some (Value.int (if i = j.toNatClampNeg then x else f i))
    by_cases e : i = j.toNatClampNeg
    · subst e; simp [Cell.setSlot, hi]
    · rw [if_neg e]
      refine Eq.trans ?_ (H i hi)
      simp only [Cell.setSlot]
      exact Array.getElem?_setIfInBounds_ne (Ne.symm e)
  · rw [hs] at hi
    show fits ty (Value.int (if i = j.toNatClampNeg then x else f i)) = true
    by_cases e : i = j.toNatClampNeg
    · rw [if_pos e]; exact hf
    · rw [if_neg e]; exact G i hi
theorem BA.new (A : Arr Z h a (newA k ty z) ty) (q : ¬ z < 0) (hd : defaultValue ty = .int 0) (hf : fits ty (.int 0) = true) : BA Z h a k ty z (fun _ => 0) :=
  ⟨_, A, rfl, sz_new _ _ _, q, fun i hi => by rw [← hd]; simp only [newA] at hi ⊢; rw [Array.size_replicate] at hi; simp [hi], fun _ _ => hf⟩
theorem BA.arv (F : BA Z h a k ty z f) {vs : List Value} (hv : ∀ i, i < z.toNatClampNeg → vs.getD i (.int 0) = .int (f i)) : Arv Z h a k ty z vs (.int 0) := by
  obtain ⟨c, A, q1, S, q3, H, G⟩ := F
  exact ⟨c, A, q1, S, q3, fun i hi => by rw [hv i (S ▸ hi)]; exact H i hi, fun i hi => by rw [hv i (S ▸ hi)]; exact G i hi⟩
theorem BA.of_arv {vs : List Value} {dv : Value} (F : Arv Z h a k ty z vs dv) (hv : ∀ i, i < z.toNatClampNeg → vs.getD i dv = .int (f i)) : BA Z h a k ty z f := by
  obtain ⟨c, A, q1, S, q3, H, G⟩ := F
  exact ⟨c, A, q1, S, q3, fun i hi => by rw [← hv i (S ▸ hi)]; exact H i hi, fun i hi => by rw [← hv i (S ▸ hi)]; exact G i hi⟩
def vls (n : Nat) (f : Nat → Int32) : List Value := (List.range n).map fun i => Value.int (f i)
theorem vls_at {n i : Nat} {d : Value} (hi : i < n) : (vls n f).getD i d = .int (f i) := by simp [vls, hi]
theorem BA.vls (F : BA Z h a k ty z f) : Arv Z h a k ty z (vls z.toNatClampNeg f) (.int 0) := F.arv fun i hi => vls_at hi
theorem BA.nostat (F : BA Z h a k ty z f) : ∀ cell : Cell, h[a]? = some cell → cell.vm.isStatics = false := by obtain ⟨c, A, -⟩ := F; exact A.nostat
variable {p : Program} {l : Launch} {e : Env} {R : Room} {s : State} {m : MethodId} {args : Array Value} {below : List Frame} {meth : Method} {c : Code} {T : State} {locs : List Loc} {cells slots : Nat}
theorem cpB (X : Stand p l e R s m args below meth c T locs cells slots) (hx : p.tables.exec = Jvm.exec) (hZ : Z.Warmed39 s.vm) {a0 : Array Value} {own : String} {index : Nat} (hown : s.vm.findClass own = some m.cls)
    (w1 : (Cond.methodLink own index Jvm.Stand.acN).before a0 Z = true) (w2 : (Cond.native Jvm.Stand.acN).before a0 Z = true) (w3 : (Cond.static Jvm.Stand.acN).before a0 Z = true) (w4 : (Cond.initialized "java/lang/System").before a0 Z = true) (eT : T.heap = h)
    {sp dp nn : Int32} (A : BA Z h a k ty z f) (B : BA Z h b k' ty z' g) (hty : refKind ty = false)
    (h1 : ¬ sp < 0) (h2 : ¬ dp < 0) (h3 : ¬ nn < 0) (h4 : sp.toNatClampNeg + nn.toNatClampNeg ≤ z.toNatClampNeg) (h5 : dp.toNatClampNeg + nn.toNatClampNeg ≤ z'.toNatClampNeg) {n0 : Nat} (N : Fr n0 locs) (ge : n0 ≤ b)
    {g0 : JFrame} (hg : g0.method = m) (hsize : g0.locals.size = c.maxLocals) {rest : List Value} (hs : g0.stack = .int nn :: .int dp :: .ref b :: .int sp :: .ref a :: rest) (hd : decode c.code g0.pc = .ok (.invokestatic index, 3))
    (hf : 1 ≤ R.frames) {W : Nat} (hW : 2 * g0.monitorRoom + (rest.map fun v => v.category).sum ≤ W) (hlo : W + (nativeFrameWords "java/lang/System" "arraycopy" 5 + 11) ≤ R.locals) :
    ∃ T' h' L, Stand p l e R s m args below meth c T' L cells slots ∧ T'.heap = h' ∧ Fr n0 L ∧ KSx h h' [] [b] ∧ BA Z h' b k' ty z' (fun i => if dp.toNatClampNeg ≤ i ∧ i < dp.toNatClampNeg + nn.toNatClampNeg then f (sp.toNatClampNeg + (i - dp.toNatClampNeg)) else g i) ∧
      ∀ target, Steps p.tables e below (T'.setTop { g0 with pc := g0.pc + 3, stack := rest }) target → Steps p.tables e below (T.setTop g0) target := by
  have hl : (vls z'.toNatClampNeg g).length = z'.toNatClampNeg := by simp [vls]
  obtain ⟨T', h', L, X', e', N', K', V', st⟩ := cpA X hx hZ hown w1 w2 w3 w4 eT A.vls B.vls (Or.inl ⟨rfl, hty⟩) h1 h2 h3 h4 h5 rfl (by rw [hl]; exact h5) N ge hg hsize hs hd hf hW hlo
  refine ⟨T', h', L, X', e', N', KSx.of_keep K' (fun x hx' => by cases List.mem_singleton.mp hx'; exact B.nostat), BA.of_arv V' fun i hi => ?_, st⟩
  have hlt : (List.take dp.toNatClampNeg (vls z'.toNatClampNeg g)).length = dp.toNatClampNeg := by rw [List.length_take, hl]; omega
  rw [List.append_assoc, List.getD_eq_getElem?_getD]
  by_cases c1 : i < dp.toNatClampNeg
  · rw [if_neg (by omega), List.getElem?_append_left (by rw [hlt]; exact c1), List.getElem?_take_of_lt c1]
    simp [vls, hi]
  · rw [List.getElem?_append_right (by rw [hlt]; omega), hlt]
    by_cases c2 : i < dp.toNatClampNeg + nn.toNatClampNeg
    · rw [if_pos ⟨by omega, c2⟩, List.getElem?_append_left (by simp; omega)]
      have q : i - dp.toNatClampNeg < nn.toNatClampNeg := by omega
      have q2 : sp.toNatClampNeg + (i - dp.toNatClampNeg) < z.toNatClampNeg := by omega
      simp [vls, q, q2]
    · rw [if_neg (by omega), List.getElem?_append_right (by simp; omega), List.getElem?_drop]
      have q : dp.toNatClampNeg + nn.toNatClampNeg + (i - dp.toNatClampNeg - nn.toNatClampNeg) = i := by omega
      simp [vls, q, hi]
/-- own: a class that declares a selected method is no interface, so no method of it is one's -/
theorem own_nf {s : State} {args : Array Value} {C : String} {y w : MethodName} (hc : y.cls = w.cls) (hsel : (Cond.selects C w w).before args s = true) : NotFace s y := fun r0 h0 => by
  obtain ⟨c2, r2, m2, q1, q2, q3, q4, kP, hkP, hkPi⟩ := Cond.selects_spec hsel
  have e1 := findClass_of_methodNamed h0
  have e2 := findClass_of_methodNamed q3
  rw [hc] at e1
  have e3 : r0.cls = m2.cls := Option.some.inj (e1.symm.trans e2)
  exact ⟨kP, by rw [e3]; exact hkP, hkPi⟩
theorem own_decl {s : State} {args : Array Value} {y : MethodName} {bytes : ByteArray} {ml : Nat} {rt : Option FieldType} (h1 : (Cond.instanceMethod y).before args s = true) (h2 : (Cond.code y bytes ml rt).before args s = true) : (Cond.declares y).before args s = true := by
  obtain ⟨m, meth, e1, e2, e3, -⟩ := Cond.instanceMethod_spec h1
  obtain ⟨meth', c, g1, -, -, -, -, -, -, g8⟩ := Cond.code_spec e1 h2
  cases e2.symm.trans g1
  simp [Cond.before, Cond.holds, Cond.value, e1, e2, e3, g8]
theorem own_same {s : State} {args : Array Value} {y : MethodName} (hx : y.cls ≠ "java/lang/invoke/MethodHandle" ∧ y.cls ≠ "java/lang/invoke/VarHandle") (h1 : (Cond.instanceMethod y).before args s = true) (hf : NotFace s y) : (Cond.sameMethod y.cls y.cls y.name y.desc).before args s = true := by
  obtain ⟨m, meth, e1, -⟩ := Cond.instanceMethod_spec h1
  obtain ⟨k, hk, hki⟩ := hf _ e1
  have e2 := State.methodFound?_of_named e1 hx
  have e1' : s.methodNamed? ⟨y.cls, y.name, y.desc⟩ = some m := e1
  simp [Cond.before, Cond.holds, Cond.value, findClass_of_methodNamed e1, e2, e1', hk, hki]
theorem KSx.more {ws' : List (Addr × Nat)} {wa' : List Addr} (K : KSx h h' ws wa) (q : ∀ p ∈ ws, p ∈ ws') (q2 : ∀ p ∈ wa, p ∈ wa') : KSx h h' ws' wa' := ⟨K.1, fun x c hc => by obtain ⟨c', e1, e2, e3, e4, e5, e6⟩ := K.2 x c hc; exact ⟨c', e1, e2, e3, e4, fun j a1 a2 => e5 j (fun p hp => a1 p (q p hp)) (fun p hp => a2 p (q2 p hp)), fun r => e6 (r.imp id fun z => ⟨fun p hp => z.1 p (q p hp), fun p hp => z.2 p (q2 p hp)⟩)⟩⟩
theorem own_alt {b b' : Addr} {m n : Nat} (q : b' = b ∨ n ≤ b') (g : m ≤ b) (w : m ≤ n) : m ≤ b' := q.elim (fun e => by rw [e]; exact g) (fun e => Nat.le_trans w e)
theorem own_bz (e : z = z') (B : BA Z h a k ty z f) : BA Z h a k ty z' f := e ▸ B
end BAs
end Jvm.RoadKit
namespace Jvm.RoadKit
open Sem ClassFile Op Lib Jvm.Stand Jvm.Free Jvm.LawKit
section Starts
variable {args : Array Value} {s : State}
theorem own_cs {t : Term} (h1 : (Cond.isInt t).value args s none s [] = some true) (h2 : (Cond.not (Cond.eq t (.int 0))).value args s none s [] = some true) : ∃ w : Int32, t.eval args s none [] s = some (.int w) ∧ ¬ (w = (0 : Int32)) := by
  obtain ⟨w, ew⟩ := is_v h1
  refine ⟨w, ew, fun e => ?_⟩
  subst e
  have e2 : (Term.int 0).eval args s none [] s = some (.int 0) := Term.int_eval 0
  simp [Cond.value, ew, e2] at h2
theorem own_rf {t : Term} (h1 : (Cond.isRef t).value args s none s [] = some true) : ∃ v : Value, t.eval args s none [] s = some v ∧ v.isRef = true := by
  cases ev : t.eval args s none [] s with
  | none => simp [Cond.value, ev] at h1
  | some v => exact ⟨v, rfl, by cases v <;> simp_all [Cond.value, Value.isRef]⟩
/-- own: a JDK table of bytes, out of its words -/
theorem own_tab {C name : String} {rhs : Term} {n : Nat} {k : Int32} {F : Nat → Int32} (harr : (Cond.arrayClass .byte).before args s = true) (w2 : (Cond.exactly (.static C name "[B") "[B").before args s = true) (w3 : (Cond.eq (.length (.static C name "[B")) (.int k)).before args s = true)
    (w4 : (Cond.all (.static C name "[B") (.eq (.elem (.static C name "[B") (.index 0)) rhs)).before args s = true) (hk : k = Int32.ofNat n) (hn : n < 2 ^ 31)
    (hrhs : ∀ r, r < n → rhs.eval args s none [r] s = some (.int (F r))) (hF : ∀ r, r < n → fits .byte (.int (F r)) = true) : ∃ (d : Addr) (c : ClassId), (Term.static C name "[B").eval args s none [] s = some (.ref d) ∧ BA s s.heap d c .byte k F := by
  obtain ⟨d, cB, D, kB, hev, hfcB, hcellD, hkB, hstatD, hclsD, -⟩ := Cond.exactly_spec w2
  have hevAll : ∀ idx, (Term.static C name "[B").eval args s none idx s = some (.ref d) := fun idx => by
    have : (Term.static C name "[B").eval args s none idx s = (Term.static C name "[B").eval args s none [] s := by simp only [Term.eval]
    rw [this]; exact hev
  have hl := Cond.eq_int w3 rfl
  obtain ⟨d', D', hev', harrAt, hlen⟩ := Term.length_spec hl
  cases hev.symm.trans hev'
  obtain ⟨hcellD', hknD, -, -⟩ := State.arrayAt?_spec harrAt
  cases hcellD.symm.trans hcellD'
  have h31 := Jvm.Free.SBG.length_lt hev harrAt hl
  have hsz : D.slots.size = n := by
    have h2 : Int32.ofNat D.slots.size = Int32.ofNat n := by rw [← hk]; exact (Value.int.inj hlen).symm
    have := congrArg Int32.toInt h2
    rw [Int32.toInt_ofNat_small h31, Int32.toInt_ofNat_small hn] at this; omega
  obtain ⟨cB', kB', comp, hnameB, hkB', hkindB⟩ := Cond.arrayClass_spec harr
  have eBA : ("[" ++ FieldType.toString .byte) = "[B" := by decide
  rw [eBA] at hnameB
  cases hfcB.symm.trans hnameB
  cases hkB.symm.trans hkB'
  have hc : (Int32.ofNat n).toNatClampNeg = n := by show (Int32.ofNat n).toInt.toNat = n; rw [Int32.toInt_ofNat_small hn]; rfl
  refine ⟨d, D.cls, hev, D, ⟨hcellD, ⟨(fun q h => by rw [h] at hstatD; cases hstatD), kB, (by rw [hclsD]; exact hkB), comp, hkindB⟩, hknD⟩, rfl, by rw [hk, hc, hsz], by rw [hk]; exact Int32.ofNat_not_neg hn, fun r hr => ?_, fun r hr => hF r (by omega)⟩
  have h := Cond.all_elim (hevAll []) harrAt (Jvm.Free.AList.val_of_holds w4) r hr
  have eL : (Term.elem (.static C name "[B") (.index 0)).eval args s none [r] s = D.slots[r]? := Jvm.Free.SBG.elem_at (ix := .index 0) (hevAll [r]) harrAt hr h31 rfl
  obtain ⟨x, y, e1, e3, -, k2⟩ := cmp_v (Or.inl h)
  cases (hrhs r (by omega)).symm.trans e3
  obtain ⟨z, rfl⟩ := k2
  have q : z = F r := by simpa [Cond.value, e1, e3] using h
  subst q
  rw [← eL]; exact e1
end Starts
end Jvm.RoadKit
namespace Jvm.Free.SBG
open Sem ClassFile Op Lib Jvm.Free.AList Jvm.Stand Jvm.Free.SB Jvm.Free.SubstrLeaves
/-- own: the char of the q-th digit from the right -/
def odg (n q : Nat) : Int32 := Int32.ofNat (48 + n / 10 ^ q % 10)
theorem odg_byte : ∀ t : Fin 58, (Int32.ofNat t.1).toInt8.toInt32 = Int32.ofNat t.1 := by decide +kernel
theorem own_put_at {A : Cell} {pos i : Nat} {x : Int32} (hi : i < A.slots.size) : (put A pos x).slots[i]? = if i = pos then some (.int x.toInt8.toInt32) else A.slots[i]? := by
  by_cases e : i = pos
  · subst e; rw [if_pos rfl]; simp [put, Cell.setSlot, hi]
  · rw [if_neg e]; simp only [put, Cell.setSlot]; exact Array.getElem?_setIfInBounds_ne (Ne.symm e)
theorem own_put_size {A : Cell} {pos : Nat} {x : Int32} : (put A pos x).slots.size = A.slots.size := (put_facts A pos x).2.2
theorem odg0 (n : Nat) : odg n 0 = Int32.ofNat (48 + n % 10) := by simp [odg]
theorem odg1 (n : Nat) : odg n 1 = Int32.ofNat (48 + n / 10 % 10) := by simp [odg]
theorem odg2 (n q : Nat) : odg n (q + 2) = odg (n / 100) q := by
  have : 10 ^ (q + 2) = 100 * 10 ^ q := by rw [Nat.pow_add, Nat.mul_comm]
  rw [odg, odg, this, Nat.div_div_eq_div_mul]
theorem own_wN (f n : Nat) : wN (f + 1) n = if 100 ≤ n then 2 + wN f (n / 100) else if 9 < n then 2 else 1 := rfl
theorem own_wN0 (n : Nat) : wN 0 n = 0 := rfl
theorem own_dlS (D1 D2 : Cell) (f : Nat) (A : Cell) (n pos : Nat) : digLoop D1 D2 (f + 1) A n pos = if 100 ≤ n then digLoop D1 D2 f (put (put A (pos - 1) (iAt D1 (n % 100))) (pos - 2) (iAt D2 (n % 100))) (n / 100) (pos - 2)
      else if 9 < n then (put (put A (pos - 1) (iAt D1 n)) (pos - 2) (iAt D2 n), pos - 2) else (put A (pos - 1) (iAt D1 n), pos - 1) := rfl
theorem own_dl {D1 D2 : Cell} (hD1 : ∀ r, r < 100 → iAt D1 r = Int32.ofNat (48 + r % 10)) (hD2 : ∀ r, r < 100 → iAt D2 r = Int32.ofNat (48 + r / 10)) :
    ∀ (f : Nat) (A : Cell) (n pos : Nat), n < 100 ^ f → wN f n ≤ pos → pos ≤ A.slots.size → ∀ i, i < A.slots.size → (digLoop D1 D2 f A n pos).1.slots[i]? = if pos ≤ i + wN f n ∧ i < pos then some (.int (odg n (pos - 1 - i))) else A.slots[i]? := by
  intro f
  induction f with
  | zero => intro A n pos hn hw hp i hi; rw [if_neg (by rw [own_wN0]; omega)]; rfl
  | succ f ih =>
    intro A n pos hn hw hp i hi
    have b1 : (iAt D1 (n % 100)).toInt8.toInt32 = odg n 0 := by
      rw [hD1 _ (by omega), odg0, show n % 100 % 10 = n % 10 by omega]
      exact odg_byte ⟨48 + n % 10, by omega⟩
    have b2 : (iAt D2 (n % 100)).toInt8.toInt32 = odg n 1 := by
      rw [hD2 _ (by omega), odg1, show n % 100 / 10 = n / 10 % 10 by omega]
      exact odg_byte ⟨48 + n / 10 % 10, by omega⟩
    by_cases h1 : 100 ≤ n
    · have ew : wN (f + 1) n = 2 + wN f (n / 100) := by rw [own_wN, if_pos h1]
      rw [ew] at hw
      rw [own_dlS, if_pos h1, ew]
      have hn' : n / 100 < 100 ^ f := by rw [Nat.pow_succ] at hn; exact Nat.div_lt_of_lt_mul (by rw [Nat.mul_comm]; exact hn)
      rw [ih _ (n / 100) (pos - 2) hn' (by omega) (by rw [own_put_size, own_put_size]; omega) i (by rw [own_put_size, own_put_size]; exact hi)]
      by_cases c1 : pos - 2 ≤ i + wN f (n / 100) ∧ i < pos - 2
      · rw [if_pos c1, if_pos (by omega), show pos - 1 - i = (pos - 2 - 1 - i) + 2 by omega, odg2]
      · rw [if_neg c1, own_put_at (by rw [own_put_size]; exact hi), own_put_at hi]
        by_cases c2 : i = pos - 2
        · rw [if_pos c2, if_pos (by omega), b2, show pos - 1 - i = 1 by omega]
        · rw [if_neg c2]
          by_cases c3 : i = pos - 1
          · rw [if_pos c3, if_pos (by omega), b1, show pos - 1 - i = 0 by omega]
          · rw [if_neg c3, if_neg (by omega)]
    · have e100 : n % 100 = n := Nat.mod_eq_of_lt (by omega)
      rw [e100] at b1 b2
      by_cases h2 : 9 < n
      · have ew : wN (f + 1) n = 2 := by rw [own_wN, if_neg h1, if_pos h2]
        rw [ew] at hw
        rw [own_dlS, if_neg h1, if_pos h2, ew]
        show (put (put A (pos - 1) (iAt D1 n)) (pos - 2) (iAt D2 n)).slots[i]? = _
        rw [own_put_at (by rw [own_put_size]; exact hi), own_put_at hi]
        by_cases c2 : i = pos - 2
        · rw [if_pos c2, if_pos (by omega), b2, show pos - 1 - i = 1 by omega]
        · rw [if_neg c2]
          by_cases c3 : i = pos - 1
          · rw [if_pos c3, if_pos (by omega), b1, show pos - 1 - i = 0 by omega]
          · rw [if_neg c3, if_neg (by omega)]
      · have ew : wN (f + 1) n = 1 := by rw [own_wN, if_neg h1, if_neg h2]
        rw [ew] at hw
        rw [own_dlS, if_neg h1, if_neg h2, ew]
        show (put A (pos - 1) (iAt D1 n)).slots[i]? = _
        rw [own_put_at hi]
        by_cases c3 : i = pos - 1
        · rw [if_pos c3, if_pos (by omega), b1, show pos - 1 - i = 0 by omega]
        · rw [if_neg c3, if_neg (by omega)]
/-- own: what getChars leaves, as a function -/
def ogc (neg : Bool) (n w idx : Nat) (f : Nat → Int32) : Nat → Int32 := fun i => if idx ≤ i + w ∧ i < idx then odg n (idx - 1 - i) else if neg = true ∧ i + w + 1 = idx then 45 else f i
theorem own_out {D1 D2 : Cell} (hD1 : ∀ r, r < 100 → iAt D1 r = Int32.ofNat (48 + r % 10)) (hD2 : ∀ r, r < 100 → iAt D2 r = Int32.ofNat (48 + r / 10)) {F : Nat} {A : Cell} {n idx : Nat} {neg : Bool} {f : Nat → Int32} (hn : n < 100 ^ F) (hw : wN F n + (if neg = true then 1 else 0) ≤ idx) (hp : idx ≤ A.slots.size)
    (hA : ∀ i, i < A.slots.size → A.slots[i]? = some (.int (f i))) : ∀ i, i < A.slots.size → (if neg = true then put (digLoop D1 D2 F A n idx).1 ((digLoop D1 D2 F A n idx).2 - 1) 45 else (digLoop D1 D2 F A n idx).1).slots[i]? = some (.int (ogc neg n (wN F n) idx f i)) := by
  intro i hi
  obtain ⟨-, -, s3, s4⟩ := digLoop_facts D1 D2 F A n idx
  have key := own_dl hD1 hD2 F A n idx hn (by split at hw <;> omega) hp i hi
  cases neg with
  | false =>
    simp only [Bool.false_eq_true, if_false] at hw ⊢
    rw [key]; simp only [ogc, Bool.false_eq_true, false_and, if_false]
    split
    · rfl
    · exact hA i hi
  | true =>
    simp only [if_true] at hw ⊢
    rw [own_put_at (by rw [s3]; exact hi), key, s4]
    simp only [ogc, true_and]
    by_cases c1 : i = idx - wN F n - 1
    · rw [if_pos c1, if_neg (by omega), if_pos (by omega)]; rfl
    · rw [if_neg c1]
      by_cases c2 : idx ≤ i + wN F n ∧ i < idx
      · rw [if_pos c2, if_pos c2]
      · rw [if_neg c2, if_neg c2, if_neg (by omega)]; exact hA i hi
end Jvm.Free.SBG
namespace Jvm.RoadKit
open Sem ClassFile Op Lib Jvm.Stand Jvm.Free Jvm.LawKit Jvm.Free.SBG
section Pays
variable {Z : State} {h0 : Heap} {l : Launch} {a0 : Array Value}
abbrev OMet (l : Launch) (Z : State) (y : MethodName) (bytes : ByteArray) (ml : Nat) (rt : Option FieldType) (ws : List Jvm.Cond) (rm : Room) (h0 : Heap) (as : Array Value) (Q : Option Value → Heap → List Loc → Prop) : Prop :=
  MetFree l y (head1 (Jvm.Cond.code y bytes ml rt :: ws) rm) (fun a U => a = as ∧ Z.Warmed39 U.vm ∧ U.heap = h0) (fun _ _ _ _ _ => True) (fun _ U o U' => ∃ v L, o = .returned v ∧ Q v U'.heap L ∧ FrameEnd U o U' L rm.cells rm.slots)
abbrev OMetS (l : Launch) (Z : State) (y : MethodName) (bytes : ByteArray) (ml : Nat) (rt : Option FieldType) (ws : List Jvm.Cond) (rm : Room) (h0 : Heap) (as : Array Value) (Q : Option Value → Heap → List Loc → Prop) : Prop :=
  MetFree l y (head1 (Jvm.Cond.code y bytes ml rt :: ws) rm) (fun a U => a = as ∧ Z.Warmed39 U.vm ∧ U.heap = h0) (fun _ _ _ _ _ => True) (fun _ U o U' => ∃ v L, o = .returned v ∧ Q v U'.heap L ∧ ReturnedEndW U o U' L rm.cells rm.slots)
abbrev OMetH (EL : List (String × Nat)) (l : Launch) (Z : State) (y : MethodName) (bytes : ByteArray) (ml : Nat) (rt : Option FieldType) (ws : List Jvm.Cond) (rm : Room) (h0 : Heap) (as : Array Value) (Q : Option Value → Heap → List Loc → Prop) : Prop :=
  MetFree l y (head1 (Jvm.Cond.code y bytes ml rt :: ws) rm) (fun a U => a = as ∧ Z.Warmed39 U.vm ∧ U.heap = h0 ∧ CHv Z EL U.vm h0) (fun _ _ _ _ _ => True) (fun _ U o U' => ∃ v L, o = .returned v ∧ Q v U'.heap L ∧ CHr Z EL U.vm U.heap U'.vm U'.heap ∧ ReturnedEndW U o U' L rm.cells rm.slots)
def OQp (r : Option Value) (h0 : Heap) (n0 : Nat) (v : Option Value) (h : Heap) (L : List Loc) : Prop := v = r ∧ Fr n0 L ∧ h = h0
def OQl (r : Option Value) (n0 : Nat) (v : Option Value) (h : Heap) (L : List Loc) : Prop := v = r ∧ Fr n0 L
/-- own: a free law of the library, said as a contract of this text's form -/
theorem own_of {y : MethodName} {bytes : ByteArray} {ml : Nat} {rt : Option FieldType} {S : Spec} {rm : Room} {as : Array Value} {P : Array Value → State → Prop} {Q' : Array Value → State → Outcome → State → Prop} {Q : Option Value → Heap → List Loc → Prop}
    (M : MetFree l y S P (fun _ _ _ _ _ => True) Q') (hf : S.room.frames ≤ rm.frames) (hl : S.room.locals ≤ rm.locals) (hc : S.room.cells ≤ rm.cells) (hs : S.room.slots ≤ rm.slots)
    (hpre : ∀ U : State, Z.Warmed39 U.vm → S.pre.before as U = true) (hP : ∀ U : State, Z.Warmed39 U.vm → U.heap = h0 → P as U)
    (hQ : ∀ (U : State) (o : Outcome) (U' : State), Z.Warmed39 U.vm → U.heap = h0 → Q' as U o U' → ∃ v L, o = .returned v ∧ Q v U'.heap L ∧ FrameEnd U o U' L rm.cells rm.slots) : OMet l Z y bytes ml rt [] rm h0 as Q := by
  intro p e ha hcs hk s m args below hfr happ hP' _
  obtain ⟨rfl, hZ, hh⟩ := hP'
  obtain ⟨a1, a2, a3, a4, a5, a6, a7, -⟩ := (Spec.appliesLoose_iff hfr).mp happ
  obtain ⟨n, o, h1, h2, h3, h4⟩ := M p e ha hcs hk s m _ below hfr ((Spec.appliesLoose_iff hfr).mpr ⟨a1, a2, a3, a4, a5, a6, hasRoom_mono hf hl hc hs a7, hpre s hZ⟩) (hP s hZ hh) trivial
  exact ⟨n, o, h1, h2, h3, hQ _ _ _ hZ hh h4⟩
theorem own_ss {x : Int32} {n0 : Nat} (wc : (Cond.code StrSize.ssN StrSize.ssB 4 (some .int)).before a0 Z = true) : OMet l Z StrSize.ssN StrSize.ssB 4 (some .int) [] ({ frames := 1, cells := 0, slots := 0, locals := 40 } : Room) h0 #[.int x] (OQp (some (.int (strSizeOf x))) h0 n0) :=
  own_of (StrSize.gets l x) (Nat.le_refl _) (Nat.le_refl _) (Nat.zero_le _) (Nat.zero_le _) (fun U hZ => by show (Cond.and (.count 1) (.code StrSize.ssN StrSize.ssB 4 (some .int))).before _ U = true; rw [Cond.before_and, mv hZ wc]; rfl) (fun U _ _ => rfl)
    (fun U o U' _ hh q => by obtain ⟨rfl, e2, e3⟩ := q; exact ⟨_, [], rfl, ⟨rfl, Fr.nil _, e2.trans hh⟩, e3⟩)
theorem own_tbls {d1 d2 : Addr} {k1 k2 : ClassId} {f1 f2 : Nat → Int32} (S1 : Sta Z h0 INT "DigitOnes" "[B" (.ref d1)) (S2 : Sta Z h0 INT "DigitTens" "[B" (.ref d2)) (w1 : (Cond.laysStatic INT "DigitOnes" "[B").before a0 Z = true) (w2 : (Cond.laysStatic INT "DigitTens" "[B").before a0 Z = true)
    (B1 : BA Z h0 d1 k1 .byte 100 f1) (B2 : BA Z h0 d2 k2 .byte 100 f2) : ∃ (st : Addr) (D1 D2 cs : Cell), (∀ U : State, Z.Warmed39 U.vm → U.heap = h0 → Tbl U "DigitOnes" st d1 D1 ∧ Tbl U "DigitTens" st d2 D2) ∧ h0[st]? = some cs ∧ cs.vm.isStatics = true ∧ (∀ r, r < 100 → iAt D1 r = f1 r) ∧ ∀ r, r < 100 → iAt D2 r = f2 r := by
  obtain ⟨cf, i, k, f, st, cell, h1, h2, h3, h4, h5, h6, h7⟩ := S1
  obtain ⟨cf', i', k', f', st', cell', g1, g2, g3, g4, g5, g6, g7⟩ := S2
  obtain ⟨c2, k2', _, _, _, _, q1, q2, -⟩ := Cond.laysStatic_spec w1
  obtain ⟨c3, k3', _, _, _, _, r1, r2, -⟩ := Cond.laysStatic_spec w2
  cases h1.symm.trans q2
  cases g1.symm.trans r2
  cases q1.symm.trans r1
  have ek := State.fieldFound?_class h1
  have ek' := State.fieldFound?_class g1
  cases ek.symm.trans ek'
  cases h4.symm.trans g4
  cases h5.symm.trans g5
  obtain ⟨D1, A1, -, s1, -, H1, -⟩ := B1
  obtain ⟨D2, A2, -, s2, -, H2, -⟩ := B2
  have z1 : D1.slots.size = 100 := s1
  have z2 : D2.slots.size = 100 := s2
  have v1 : ∀ r, r < 100 → iAt D1 r = f1 r := fun r hr => by have q := H1 r (by rw [z1]; exact hr); simp [iAt, Array.getD_eq_getD_getElem?, q]
  have v2 : ∀ r, r < 100 → iAt D2 r = f2 r := fun r hr => by have q := H2 r (by rw [z2]; exact hr); simp [iAt, Array.getD_eq_getD_getElem?, q]
  refine ⟨st, D1, D2, cell, fun U hZ hh => ⟨?_, ?_⟩, h5, h6, v1, v2⟩
  · obtain ⟨kx, y1, y2⟩ := State.fieldFound?_setVm (s := Z) hZ.alike h1
    exact ⟨_, _, kx, f, cell, y1, h2, by rw [y2]; exact h3, by rw [y2]; exact h4, by rw [hh]; exact h5, (fun e => by rw [e] at h6; cases h6), h7, by rw [hh]; exact A1.1, State.isArrayOf_alike hZ.alike A1.2.1, A1.2.2, z1, fun r hr => by rw [v1 r hr]; exact H1 r (by rw [z1]; exact hr)⟩
  · obtain ⟨kx, y1, y2⟩ := State.fieldFound?_setVm (s := Z) hZ.alike g1
    exact ⟨_, _, kx, f', cell, y1, g2, by rw [y2]; exact h3, by rw [y2]; exact h4, by rw [hh]; exact h5, (fun e => by rw [e] at h6; cases h6), g7, by rw [hh]; exact A2.1, State.isArrayOf_alike hZ.alike A2.2.1, A2.2.2, z2, fun r hr => by rw [v2 r hr]; exact H2 r (by rw [z2]; exact hr)⟩
theorem own_grown {h h' : Heap} (q : ∀ (y : Addr) (c : Cell), h[y]? = some c → ∃ c' : Cell, h'[y]? = some c') : h.size ≤ h'.size := by
  rcases Nat.eq_zero_or_pos h.size with z | z
  · omega
  · obtain ⟨c', e⟩ := q (h.size - 1) _ (Array.getElem?_eq_getElem (by omega))
    have := (Array.getElem?_eq_some_iff.mp e).1
    omega
def OQg (Z : State) (r : Int32) (da : Addr) (k : ClassId) (z : Int32) (f : Nat → Int32) (h0 : Heap) (n0 : Nat) (v : Option Value) (h : Heap) (L : List Loc) : Prop := Fr n0 L ∧ v = some (.int r) ∧ KSx h0 h [] [da] ∧ BA Z h da k .byte z f
/-- own: one cell turned, its class, kind and size kept -/
theorem own_ks1 {h h' : Heap} {da : Addr} {A B : Cell} (hA : h[da]? = some A) (hs : A.vm.isStatics = false) (hB : h'[da]? = some B) (e1 : B.cls = A.cls) (e2 : B.vm = A.vm) (e3 : B.slots.size = A.slots.size) (q : ∀ (y : Addr) (c : Cell), y ≠ da → h[y]? = some c → h'[y]? = some c) : KSx h h' [] [da] := by
  refine ⟨own_grown fun y c hc => ?_, fun x c hc => ?_⟩
  · by_cases e : y = da
    · subst e; exact ⟨_, hB⟩
    · exact ⟨_, q y c e hc⟩
  · by_cases e : x = da
    · subst e
      cases hA.symm.trans hc
      refine ⟨B, hB, e1, e2, e3, fun j _ hj => absurd rfl (hj _ (List.mem_singleton.mpr rfl)), fun hst => ?_⟩
      rcases hst with y | y
      · rw [hs] at y; cases y
      · exact absurd rfl (y.2 _ (List.mem_singleton.mpr rfl))
    · exact ⟨c, q x c e hc, rfl, rfl, rfl, fun _ _ _ => rfl, fun _ => rfl⟩
theorem own_gc {x : Int32} {n idx n0 : Nat} {da d1 d2 : Addr} {k k1 k2 : ClassId} {z j : Int32} {f : Nat → Int32} (wc : (Cond.code GetChars.gcN GetChars.gcB 7 (some .int)).before a0 Z = true) (wf1 : (Cond.fieldLink INT 83 INT "DigitOnes" "[B").before a0 Z = true) (wf2 : (Cond.fieldLink INT 87 INT "DigitTens" "[B").before a0 Z = true)
    (S1 : Sta Z h0 INT "DigitOnes" "[B" (.ref d1)) (S2 : Sta Z h0 INT "DigitTens" "[B" (.ref d2)) (w1 : (Cond.laysStatic INT "DigitOnes" "[B").before a0 Z = true) (w2 : (Cond.laysStatic INT "DigitTens" "[B").before a0 Z = true)
    (B1 : BA Z h0 d1 k1 .byte 100 (fun r => Int32.ofNat (48 + r % 10))) (B2 : BA Z h0 d2 k2 .byte 100 (fun r => Int32.ofNat (48 + r / 10))) (B : BA Z h0 da k .byte z f) (ne1 : da ≠ d1) (ne2 : da ≠ d2) (ge : n0 ≤ da)
    (hj : j = Int32.ofNat idx) (hi : idx ≤ z.toNatClampNeg) (hw : Jvm.Free.SBG.digits n + (if x < 0 then 1 else 0) ≤ idx) (hn : n ≤ 2 ^ 31) (hneg : (if x < 0 then x else -x) = negI n) (hz : z.toNatClampNeg < 2 ^ 31) :
    OMet l Z GetChars.gcN GetChars.gcB 7 (some .int) [] ({ frames := 1, cells := 0, slots := 0, locals := 60 } : Room) h0 #[.int x, .int j, .ref da] (OQg Z (Int32.ofNat (idx - (Jvm.Free.SBG.digits n + (if x < 0 then 1 else 0)))) da k z (ogc (decide (x < 0)) n (Jvm.Free.SBG.digits n) idx f) h0 n0) := by
  subst hj
  obtain ⟨st, D1, D2, cs, hT, hst, hss, v1, v2⟩ := own_tbls S1 S2 w1 w2 B1 B2
  obtain ⟨A, hA, q1, S, q3, H, G⟩ := B
  have nst : da ≠ st := fun e => by subst e; have := Arr.nostat hA cs hst; rw [this] at hss; cases hss
  have hb : ∀ i, i < A.slots.size → fits .byte (A.slots.getD i .null) = true := fun i hi => by rw [Array.getD_eq_getD_getElem?, H i hi]; exact G i hi
  have esg : GetChars.sgn x = if x < 0 then 1 else 0 := rfl
  refine own_of (GetChars.gets l ⟨x, n, idx, da, A, st, d1, D1, d2, D2⟩) (Nat.le_refl _) (Nat.le_refl _) (Nat.zero_le _) (Nat.zero_le _) (fun U hZ => ?_) (fun U hZ hh => ?_) (fun U o U' hZ hh q => ?_)
  · show (Cond.and (.count 3) (.and (.code GetChars.gcN GetChars.gcB 7 (some .int)) (.and (.fieldLink INT 83 INT "DigitOnes" "[B") (.fieldLink INT 87 INT "DigitTens" "[B")))).before _ U = true
    rw [Cond.before_and, Cond.before_and, Cond.before_and, mv hZ wc, mv hZ wf1, mv hZ wf2]; rfl
  · exact ⟨rfl, by rw [hh]; exact hA.1, State.isArrayOf_alike hZ.alike hA.2.1, hA.2.2, by show A.slots.size < _; rw [S]; exact hz, by show idx ≤ A.slots.size; rw [S]; exact hi, by rw [esg]; exact hw, hn, hneg, (hT U hZ hh).1, (hT U hZ hh).2, nst, ne1, ne2⟩
  · obtain ⟨rfl, c1, c2, L, hL, hF⟩ := q
    obtain ⟨o1, o2, o3, o4, -⟩ := GetChars.outCell_facts ⟨x, n, idx, da, A, st, d1, D1, d2, D2⟩ hn (by rw [esg]; exact hw) hb
    refine ⟨_, L, rfl, ⟨fun w hw' => by rw [hL w hw']; exact ge, rfl, own_ks1 (B := GetChars.outCell ⟨x, n, idx, da, A, st, d1, D1, d2, D2⟩) hA.1 (Arr.nostat hA _ hA.1) c1 o1 o2 o3 (fun y c hy hc => c2 y c hy (by rw [hh]; exact hc)), ?_⟩, hF⟩
    have key := own_out (D1 := D1) (D2 := D2) v1 v2 (F := 5) (A := A) (n := n) (idx := idx) (neg := decide (x < 0)) (f := f) (by omega) (by rw [wN_digits hn]; simpa using hw) (by rw [S]; exact hi) H
    rw [wN_digits hn] at key
    have eo : GetChars.outCell ⟨x, n, idx, da, A, st, d1, D1, d2, D2⟩ = if decide (x < 0) = true then put (digLoop D1 D2 5 A n idx).1 ((digLoop D1 D2 5 A n idx).2 - 1) 45 else (digLoop D1 D2 5 A n idx).1 := by
      show (if x < 0 then _ else _) = _
      by_cases hx : x < 0
      · rw [if_pos hx, if_pos (by simpa using hx)]
      · rw [if_neg hx, if_neg (by simpa using hx)]
    rw [← eo] at key
    obtain ⟨a1, kA, a2, comp, a3⟩ := hA.2.1
    refine ⟨_, ⟨c1, ⟨fun q e => a1 q (o2 ▸ e), kA, by rw [o1]; exact a2, comp, a3⟩, by rw [o2]; exact hA.2.2⟩, o1.trans q1, o3.trans S, q3, fun i hi' => key i (o3 ▸ hi'), fun i hi' => ?_⟩
    have e := key i (o3 ▸ hi')
    have e2 := o4 i hi'
    rw [Array.getD_eq_getD_getElem?, e] at e2
    exact e2
theorem own_negI (x : Int32) : (if x < 0 then x else -x) = negI x.toInt.natAbs := by
  have h1 := x.le_toInt; have h2 := x.toInt_lt
  apply Int32.toInt_inj.mp
  have e : (negI x.toInt.natAbs).toInt = -(x.toInt.natAbs : Int) := Int32.toInt_ofInt_of_le (by omega) (by omega)
  rw [e]
  by_cases hx : x < 0
  · rw [if_pos hx]; rw [Int32.lt_iff_toInt_lt] at hx; have z0 : (0 : Int32).toInt = 0 := rfl; omega
  · rw [if_neg hx]; rw [Int32.lt_iff_toInt_lt] at hx; have z0 : (0 : Int32).toInt = 0 := rfl
    have q := c_ineg x; have r1 := (-x).le_toInt; have r2 := (-x).toInt_lt; omega
theorem own_abs (x : Int32) : x.toInt.natAbs ≤ 2 ^ 31 := by have h1 := x.le_toInt; have h2 := x.toInt_lt; omega
theorem own_ofNat {j : Int32} (h : ¬ j < 0) : j = Int32.ofNat j.toNatClampNeg := by
  apply Int32.toInt_inj.mp
  rw [Int32.lt_iff_toInt_lt] at h; have z0 : (0 : Int32).toInt = 0 := rfl
  have h2 := j.toInt_lt
  have e : j.toNatClampNeg = j.toInt.toNat := rfl
  rw [e, Int32.toInt_ofNat_small (by omega)]; omega
theorem own_cap {n : Int32} {k : Nat} (hk : k < 2 ^ 31) (h : ¬ Int32.ofNat k < n) : n.toNatClampNeg ≤ k := by
  rw [Int32.lt_iff_toInt_lt, Int32.toInt_ofNat_small hk] at h
  have e : n.toNatClampNeg = n.toInt.toNat := rfl
  omega
theorem own_ishr0 (x : Int32) : x >>> ((0 : Int32) &&& 31) = x := by
  apply Int32.toInt_inj.mp; rw [c_ishr x 0 0 (by decide)]; simp
theorem own_ishl0 (x : Int32) : x <<< ((0 : Int32) &&& 31) = x := by
  rw [shlm (m := 1) (by decide)]; simp
theorem own_clt (z : Int32) : z.toNatClampNeg < 2 ^ 31 := by have := z.toInt_lt; show z.toInt.toNat < _; omega
theorem own_gc2 {x j : Int32} {n0 : Nat} {da d1 d2 : Addr} {k k1 k2 : ClassId} {z : Int32} {f u1 u2 : Nat → Int32} (wc : (Cond.code GetChars.gcN GetChars.gcB 7 (some .int)).before a0 Z = true) (wf1 : (Cond.fieldLink INT 83 INT "DigitOnes" "[B").before a0 Z = true) (wf2 : (Cond.fieldLink INT 87 INT "DigitTens" "[B").before a0 Z = true)
    (S1 : Sta Z h0 INT "DigitOnes" "[B" (.ref d1)) (S2 : Sta Z h0 INT "DigitTens" "[B" (.ref d2)) (w1 : (Cond.laysStatic INT "DigitOnes" "[B").before a0 Z = true) (w2 : (Cond.laysStatic INT "DigitTens" "[B").before a0 Z = true)
    (e1 : u1 = fun r => Int32.ofNat (48 + r % 10)) (B1 : BA Z h0 d1 k1 .byte 100 u1) (e2 : u2 = fun r => Int32.ofNat (48 + r / 10)) (B2 : BA Z h0 d2 k2 .byte 100 u2) (B : BA Z h0 da k .byte z f) (ne1 : da ≠ d1) (ne2 : da ≠ d2) (ge : n0 ≤ da)
    (hj : ¬ j < 0) (hi : j.toNatClampNeg ≤ z.toNatClampNeg) (hw : Jvm.Free.SBG.digits x.toInt.natAbs + (if x < 0 then 1 else 0) ≤ j.toNatClampNeg) :
    OMet l Z GetChars.gcN GetChars.gcB 7 (some .int) [] ({ frames := 1, cells := 0, slots := 0, locals := 60 } : Room) h0 #[.int x, .int j, .ref da] (OQg Z (Int32.ofNat (j.toNatClampNeg - (Jvm.Free.SBG.digits x.toInt.natAbs + (if x < 0 then 1 else 0)))) da k z (ogc (decide (x < 0)) x.toInt.natAbs (Jvm.Free.SBG.digits x.toInt.natAbs) j.toNatClampNeg f) h0 n0) := by
  subst e1 e2
  exact own_gc wc wf1 wf2 S1 S2 w1 w2 B1 B2 B ne1 ne2 ge (own_ofNat hj) hi hw (own_abs x) (own_negI x) (own_clt z)
theorem own_imp {y : MethodName} {bytes : ByteArray} {ml : Nat} {rt : Option FieldType} {ws : List Jvm.Cond} {rm : Room} {as : Array Value} {Q Q' : Option Value → Heap → List Loc → Prop} (M : OMet l Z y bytes ml rt ws rm h0 as Q) (hq : ∀ v h L, Q v h L → Q' v h L) : OMet l Z y bytes ml rt ws rm h0 as Q' := fun p e ha hc hk s m args below hf happ hP hK => by
  obtain ⟨n, o, a, b, c, v, L, h1, h2, h3⟩ := M p e ha hc hk s m args below hf happ hP hK
  exact ⟨n, o, a, b, c, v, L, h1, hq _ _ _ h2, h3⟩
theorem own_impH {EL : List (String × Nat)} {y : MethodName} {bytes : ByteArray} {ml : Nat} {rt : Option FieldType} {ws : List Jvm.Cond} {rm : Room} {as : Array Value} {Q Q' : Option Value → Heap → List Loc → Prop} (M : OMetH EL l Z y bytes ml rt ws rm h0 as Q) (hq : ∀ v h L, Q v h L → Q' v h L) : OMetH EL l Z y bytes ml rt ws rm h0 as Q' := fun p e ha hc hk s m args below hf happ hP hK => by
  obtain ⟨n, o, a, b, c, v, L, h1, h2, h3⟩ := M p e ha hc hk s m args below hf happ hP hK
  exact ⟨n, o, a, b, c, v, L, h1, hq _ _ _ h2, h3⟩
/-- own: nothing that was there is written -/
def OQk (r : Option Value) (h0 : Heap) (n0 : Nat) (v : Option Value) (h : Heap) (L : List Loc) : Prop := Fr n0 L ∧ v = r ∧ KSx h0 h [] []
section CHs
variable {EL : List (String × Nat)} {vm : Vm} {h h' : Heap} {ws : List (Addr × Nat)} {wa : List Addr} {x : Addr}
theorem CHv.ksStep (K : KSx h h' ws wa) (q : ∀ p ∈ ws, Safe Z EL vm h p.1) (q2 : ∀ p ∈ wa, Safe Z EL vm h p) (H : CHv Z EL vm h) : CHv Z EL vm h' ∧ ∀ y, Bk Z EL vm h' y → Bk Z EL vm h y :=
  H.step fun y B cell hc => by
    obtain ⟨c', e1, -, -, -, -, e6⟩ := K.2 y cell hc
    rw [← e6 (Or.inr ⟨fun p hp e => q p hp (e ▸ B), fun p hp e => q2 p hp (e ▸ B)⟩)]; exact e1
theorem CHr.ks (K : KSx h h' ws wa) (q : ∀ p ∈ ws, Safe Z EL vm h p.1) (q2 : ∀ p ∈ wa, Safe Z EL vm h p) (H : CHv Z EL vm h) : CHr Z EL vm h vm h' := ⟨(H.ksStep K q q2).1, K.1, fun y B => Or.inl ((H.ksStep K q q2).2 y B)⟩
theorem Safe.ks (K : KSx h h' ws wa) (q : ∀ p ∈ ws, Safe Z EL vm h p.1) (q2 : ∀ p ∈ wa, Safe Z EL vm h p) (H : CHv Z EL vm h) (S : Safe Z EL vm h x) : Safe Z EL vm h' x := fun B => S ((H.ksStep K q q2).2 _ B)
theorem own_safeB {k : ClassId} {ty : FieldType} {z : Int32} {f : Nat → Int32} (hal : Z.vm.Alike vm) (F : BA Z h x k ty z f) (ht : ty ≠ .byte) : Safe Z EL vm h x := by obtain ⟨c, A, -⟩ := F; exact Safe.arr hal A ht
end CHs
end Pays
end Jvm.RoadKit
namespace Jvm.Pilot.@@N@@
open Jvm Jvm.ClassFile Sem Op Lib Jvm.Free Jvm.Stand Jvm.LawKit Jvm.RoadKit Bundle Jvm.Pilot.@@N@@.Jvm.D
theorem own_rng {k n : Int32} {N : Nat} (h : 0 ≤ k.toInt ∧ k.toInt < N) : ∃ i : Fin N, k = Int32.ofInt i.1 := by
  refine ⟨⟨k.toInt.toNat, by omega⟩, ?_⟩
  show k = Int32.ofInt ((k.toInt.toNat : Nat) : Int)
  rw [Int.toNat_of_nonneg h.1]; exact (Int32.ofInt_toInt k).symm
theorem own_mod (x : Int32) (y : Int32) (hy : 0 < y.toInt) : 0 ≤ ((x &&& (2147483647 : Int32)) % y).toInt ∧ ((x &&& (2147483647 : Int32)) % y).toInt < y.toInt := by
  have h1 := c_mask x 2147483647 31 (by decide) (by decide)
  have h2 := (c_iremV (x &&& (2147483647 : Int32)) y).1 (by rw [h1]; exact Int.emod_nonneg _ (by decide)) hy
  exact ⟨h2.1, h2.2.1⟩
theorem own_b1 (x : Int32) : (x &&& (1 : Int32)) = (0 : Int32) ∨ (x &&& (1 : Int32)) = (1 : Int32) := by
  have h := c_mask x 1 1 (by decide) (by decide)
  have q : (x &&& (1 : Int32)).toInt = 0 ∨ (x &&& (1 : Int32)).toInt = 1 := by rw [h]; omega
  rcases q with q | q <;> simp [← Int32.toInt_inj, q]
theorem tw {a0 : Array Value} {Z : State} {d : Jvm.Cond} (hw : ∀ d ∈ tables_1, d.before a0 Z = true) (i : Nat) (h : tables_1[i]? = some d) : d.before a0 Z = true := hw d (List.mem_of_getElem? h)
theorem own_w (W : Nat) : 2 * 0 + W ≤ W := by omega
abbrev SG (p : Program) (e : Env) (below : List Frame) (T : State) (f : JFrame) (t : State) : Prop := Steps p.tables e below (T.setTop f) t
abbrev vU : Slot := .unset
abbrev vS : Slot := .second
abbrev vI (x : Int32) : Slot := .val (.int x)
abbrev vJ (x : Int64) : Slot := .val (.long x)
abbrev vR (x : Addr) : Slot := .val (.ref x)
set_option maxRecDepth 65536
set_option maxHeartbeats 40000000
abbrev mN1 : MethodName := ⟨"com/example/tranchebook/tranchebook/CycleToStringPinLaw", "digits", "(J)I"⟩
abbrev mN2 : MethodName := ⟨"java/lang/String", "isLatin1", "()Z"⟩
abbrev mN3 : MethodName := ⟨"jdk/internal/util/Preconditions", "checkIndex", "(IILjava/util/function/BiFunction;)I"⟩
abbrev mN4 : MethodName := ⟨"java/lang/String", "checkIndex", "(II)V"⟩
abbrev mN5 : MethodName := ⟨"java/lang/StringLatin1", "charAt", "([BI)C"⟩
abbrev mN6 : MethodName := ⟨"java/lang/String", "charAt", "(I)C"⟩
abbrev mN7 : MethodName := ⟨"java/lang/Math", "abs", "(J)J"⟩
abbrev mN8 : MethodName := ⟨"com/example/tranchebook/tranchebook/CycleToStringPinLaw", "middleLength", "(I)I"⟩
abbrev mN9 : MethodName := ⟨"com/example/tranchebook/tranchebook/CycleToStringPinLaw", "midOk", "(Ljava/lang/String;II)Z"⟩
abbrev mN10 : MethodName := ⟨"com/example/tranchebook/tranchebook/CycleToStringPinLaw", "pow10", "(I)J"⟩
abbrev mN11 : MethodName := ⟨"java/lang/AbstractStringBuilder", "<init>", "(I)V"⟩
abbrev mN12 : MethodName := ⟨"java/lang/StringBuilder", "<init>", "()V"⟩
abbrev mN13 : MethodName := ⟨"java/lang/String", "coder", "()B"⟩
abbrev mN14 : MethodName := ⟨"java/lang/String", "length", "()I"⟩
abbrev mN15 : MethodName := ⟨"java/lang/AbstractStringBuilder", "ensureCapacityInternal", "(I)V"⟩
abbrev mN16 : MethodName := ⟨"java/lang/AbstractStringBuilder", "inflateIfNeededFor", "(Ljava/lang/String;)V"⟩
abbrev mN17 : MethodName := ⟨"java/lang/String", "getBytes", "([BIB)V"⟩
abbrev mN18 : MethodName := ⟨"java/lang/AbstractStringBuilder", "putStringAt", "(ILjava/lang/String;)V"⟩
abbrev mN19 : MethodName := ⟨"java/lang/AbstractStringBuilder", "append", "(Ljava/lang/String;)Ljava/lang/AbstractStringBuilder;"⟩
abbrev mN20 : MethodName := ⟨"java/lang/StringBuilder", "append", "(Ljava/lang/String;)Ljava/lang/StringBuilder;"⟩
abbrev mN21 : MethodName := ⟨"java/lang/Integer", "stringSize", "(I)I"⟩
abbrev mN22 : MethodName := ⟨"java/lang/AbstractStringBuilder", "isLatin1", "()Z"⟩
abbrev mN23 : MethodName := ⟨"java/lang/Integer", "getChars", "(II[B)I"⟩
abbrev mN24 : MethodName := ⟨"java/lang/AbstractStringBuilder", "append", "(I)Ljava/lang/AbstractStringBuilder;"⟩
abbrev mN25 : MethodName := ⟨"java/lang/StringBuilder", "append", "(I)Ljava/lang/StringBuilder;"⟩
abbrev mN26 : MethodName := ⟨"com/example/tranchebook/tranchebook/Cycle$Unit", "getLetter", "()C"⟩
abbrev mN27 : MethodName := ⟨"java/lang/StringLatin1", "canEncode", "(C)Z"⟩
abbrev mN28 : MethodName := ⟨"java/lang/AbstractStringBuilder", "append", "(C)Ljava/lang/AbstractStringBuilder;"⟩
abbrev mN29 : MethodName := ⟨"java/lang/StringBuilder", "append", "(C)Ljava/lang/StringBuilder;"⟩
abbrev mN30 : MethodName := ⟨"java/lang/AbstractStringBuilder", "getValue", "()[B"⟩
abbrev mN31 : MethodName := ⟨"java/lang/AbstractStringBuilder", "length", "()I"⟩
abbrev mN32 : MethodName := ⟨"java/lang/StringBuilder", "length", "()I"⟩
abbrev mN33 : MethodName := ⟨"java/util/Arrays", "checkLength", "(II)V"⟩
abbrev mN34 : MethodName := ⟨"java/lang/Math", "min", "(II)I"⟩
abbrev mN35 : MethodName := ⟨"java/util/Arrays", "copyOfRangeByte", "([BII)[B"⟩
abbrev mN36 : MethodName := ⟨"java/util/Arrays", "copyOfRange", "([BII)[B"⟩
abbrev mN37 : MethodName := ⟨"java/lang/String", "<init>", "(Ljava/lang/AbstractStringBuilder;Ljava/lang/Void;)V"⟩
abbrev mN38 : MethodName := ⟨"java/lang/String", "<init>", "(Ljava/lang/StringBuilder;)V"⟩
abbrev mN39 : MethodName := ⟨"java/lang/StringBuilder", "toString", "()Ljava/lang/String;"⟩
abbrev mN40 : MethodName := ⟨"com/example/tranchebook/tranchebook/Cycle", "toString", "()Ljava/lang/String;"⟩
abbrev mN41 : MethodName := ⟨"com/example/tranchebook/tranchebook/Cycle", "<init>", "(ILcom/example/tranchebook/tranchebook/Cycle$Unit;Z)V"⟩
abbrev EL : List (String × Nat) := [("com/example/tranchebook/tranchebook/Cycle", 24), ("com/example/tranchebook/tranchebook/Cycle", 42)]
theorem el_ok {Z : State} {a0 : Array Value} (hw : ∀ d ∈ tables_1, d.before a0 Z = true) : EW Z a0 EL := (EW.cons (text := "P") (tw hw 58 rfl) (by decide) (EW.cons (text := "L") (tw hw 156 rfl) (by decide) EW.nil))
/-! m667-m2: plain arithmetic of the text -/
def oc8 (v : Int32) : Int32 := ((v &&& (255 : Int32)).toUInt32.toUInt16.toUInt32.toInt32)
theorem own_n16 (u : UInt16) : u.toUInt32.toInt32.toUInt32.toUInt16 = u := by simp
theorem own_oc8 (v : Int32) : nar .char (oc8 v) = oc8 v := by
 show ((v &&& (255 : Int32)).toUInt32.toUInt16.toUInt32.toInt32.toUInt32.toUInt16).toUInt32.toInt32 = _
 rw [own_n16]; rfl
theorem own_lc {q c : Int64} {n : Int} (hc : c.toInt = n) (h : q.toInt < n) : lcmpW q c < 0 := (lw_lt q c).mpr (Int64.lt_iff_toInt_lt.mpr (by omega))
theorem own_lcn {q c : Int64} {n : Int} (hc : c.toInt = n) (h : n ≤ q.toInt) : ¬ (lcmpW q c < 0) := fun k => by have := Int64.lt_iff_toInt_lt.mp ((lw_lt q c).mp k); omega
theorem own_nt {a : Nat} (h : a < 2 ^ 31) : (Int32.ofNat a).toInt = a := Int32.toInt_ofNat_small h
theorem own_add (a b : Nat) : Int32.ofNat a + Int32.ofNat b = Int32.ofNat (a + b) := (Int32.ofNat_add a b).symm
theorem own_sub {a b : Nat} (h : b ≤ a) (ha : a < 2 ^ 31) : Int32.ofNat a - Int32.ofNat b = Int32.ofNat (a - b) := by
 apply Int32.toInt_inj.mp
 have q := c_isub (Int32.ofNat a) (Int32.ofNat b)
 have r1 := (Int32.ofNat a - Int32.ofNat b).toInt_lt
 have r2 := (Int32.ofNat a - Int32.ofNat b).le_toInt
 rw [own_nt ha, own_nt (by omega)] at q
 rw [own_nt (a := a - b) (by omega)]
 omega
theorem own_lt {a b : Nat} (ha : a < 2 ^ 31) (hb : b < 2 ^ 31) : Int32.ofNat a < Int32.ofNat b ↔ a < b := by rw [Int32.lt_iff_toInt_lt, own_nt ha, own_nt hb]; omega
theorem own_cl {a : Nat} (h : a < 2 ^ 31) : (Int32.ofNat a).toNatClampNeg = a := by show (Int32.ofNat a).toInt.toNat = a; rw [own_nt h]; rfl
theorem own_a1 {I D s : Nat} (h : I < D + s) (hb : D + s < 2 ^ 31) : Int32.ofNat I < Int32.ofNat D + Int32.ofNat s := by rw [own_add]; exact (own_lt (by omega) hb).mpr h
theorem own_a2 {I D s : Nat} (h : D + s ≤ I) (hb : I < 2 ^ 31) : ¬ (Int32.ofNat I < Int32.ofNat D + Int32.ofNat s) := by rw [own_add, own_lt hb (by omega)]; omega
theorem own_a3 {I D s : Nat} (h1 : s ≤ I) (h2 : I - s + 1 ≤ D) (hD : D < 2 ^ 31) (hI : I < 2 ^ 31) : (Int32.ofNat D - (1 : Int32)) - (Int32.ofNat I - Int32.ofNat s) = Int32.ofNat (D - 1 - (I - s)) := by
 show (Int32.ofNat D - Int32.ofNat 1) - (Int32.ofNat I - Int32.ofNat s) = _
 rw [own_sub (by omega) hD, own_sub h1 hI, own_sub (by omega) (by omega)]
theorem own_n0 {K : Nat} (h : K < 2 ^ 31) : ¬ (Int32.ofNat K < (0 : Int32)) := by show ¬ (Int32.ofNat K < Int32.ofNat 0); rw [own_lt h (by decide)]; omega
theorem own_ten : ∀ K : Fin 10, ([(.long (1 : Int64)), (.long (10 : Int64)), (.long (100 : Int64)), (.long (1000 : Int64)), (.long (10000 : Int64)), (.long (100000 : Int64)), (.long (1000000 : Int64)), (.long (10000000 : Int64)), (.long (100000000 : Int64)), (.long (1000000000 : Int64))] : List Value).getD K.1 (.long (0 : Int64)) = (.long (Int64.ofNat (10 ^ K.1))) := by decide
theorem own_ten0 : ∀ K : Fin 10, ¬ (Int64.ofNat (10 ^ K.1) = (0 : Int64)) := by decide
theorem own_tenv : ∀ K : Fin 10, (Int64.ofNat (10 ^ K.1)).toInt = ((10 ^ K.1 : Nat) : Int) ∧ Int64.ofNat (10 ^ K.1) ≠ -1 := by decide
theorem own_dg : ∀ t : Fin 10, oc8 (Int32.ofNat (48 + t.1)) = (((48 : Int32) + (Int64.ofNat t.1).toInt32).toUInt32.toUInt16.toUInt32.toInt32) := by decide
theorem own_dgt {a : Int64} {n K : Nat} (ha : a.toInt = n) (hK : K < 10) : oc8 (SBG.odg n K) = (((48 : Int32) + (((a / Int64.ofNat (10 ^ K)) % (10 : Int64)).toInt32)).toUInt32.toUInt16.toUInt32.toInt32) := by
 have v := own_tenv ⟨K, hK⟩
 have e1 := (c_ldiv a (Int64.ofNat (10 ^ K)) _ v.1 v.2).1 (by omega)
 rw [ha] at e1
 have ht : n / 10 ^ K % 10 < 10 := Nat.mod_lt _ (by decide)
 have e2 : ((a / Int64.ofNat (10 ^ K)) % (10 : Int64)) = Int64.ofNat (n / 10 ^ K % 10) := by
   apply Int64.toInt_inj.mp
   rw [Int64.toInt_ofNat_of_lt (by omega), ← lrem_mod]
   rw [(c_lrem _ 10 10 (by decide)).1 (by rw [e1]; exact Int.natCast_nonneg (n / 10 ^ K)), e1]
   rfl
 rw [e2]
 exact own_dg ⟨_, ht⟩
/-- the count's text: how many characters, and which -/
def osg (x : Int32) : Nat := if x < 0 then 1 else 0
def osz (x : Int32) : Nat := SBG.digits x.toInt.natAbs + osg x
def otc (x : Int32) (j : Nat) : Int32 := if x < 0 ∧ j = 0 then 45 else SBG.odg x.toInt.natAbs (osz x - 1 - j)
theorem own_pos {x : Int32} (h : ¬ x < 0) : x.toInt64.toInt = (x.toInt.natAbs : Int) := by rw [c_i2l]; rw [Int32.lt_iff_toInt_lt] at h; have : (0 : Int32).toInt = 0 := rfl; omega
theorem own_neg {x : Int32} (h : x < 0) : (-(x.toInt64)).toInt = (x.toInt.natAbs : Int) := by
 have q := c_lneg x.toInt64
 have r1 := (-(x.toInt64)).toInt_lt
 have r2 := (-(x.toInt64)).le_toInt
 have r3 := x.le_toInt
 rw [c_i2l] at q
 rw [Int32.lt_iff_toInt_lt] at h
 have : (0 : Int32).toInt = 0 := rfl
 omega
def otx (x lt d : Int32) (i : Nat) : Int32 := if i = 0 then 80 else if i < 1 + osz x then otc x (i - 1) else if i = 1 + osz x then lt else if i = 2 + osz x then 76 else d
theorem osz_le (x : Int32) : 1 ≤ osz x ∧ osz x ≤ 11 := by
 have h := SBG.digits_pos x.toInt.natAbs
 have q : osg x ≤ 1 := by unfold osg; split <;> omega
 unfold osz; omega
theorem own_ssx (x : Int32) : SBG.strSizeOf x = Int32.ofNat (osz x) := by
 rw [SBG.strSizeOf_eq (own_abs x) (own_negI x)]; rfl
theorem own_osz (x : Int32) : SBG.digits x.toInt.natAbs + (if x < 0 then 1 else 0) = osz x := rfl
theorem own_01 : (0 : Int32) + (1 : Int32) = Int32.ofNat 1 := rfl
theorem own_ad1 (a : Nat) : Int32.ofNat a + (1 : Int32) = Int32.ofNat (a + 1) := own_add a 1
theorem own_sub0 (x : Int32) : x - (0 : Int32) = x := by simp
theorem own_s1 : osz (1 : Int32) = 1 := by decide
theorem own_s0 : osz (0 : Int32) = 1 := by decide
theorem own_c0 : (0 : Int32).toNatClampNeg = 0 := rfl
theorem own_c1 : (1 : Int32).toNatClampNeg = 1 := rfl
theorem own_c16 : (16 : Int32).toNatClampNeg = 16 := rfl
theorem own_g1 {A : Nat} (h : A ≤ 16) : ¬ ((0 : Int32) < Int32.ofNat A - (16 : Int32)) := by
 have q := c_isub (Int32.ofNat A) 16
 have r1 := (Int32.ofNat A - (16 : Int32)).toInt_lt
 have r2 := (Int32.ofNat A - (16 : Int32)).le_toInt
 have e : (16 : Int32).toInt = 16 := rfl
 have e0 : (0 : Int32).toInt = 0 := rfl
 rw [own_nt (by omega), e] at q
 rw [Int32.lt_iff_toInt_lt, e0]; omega
theorem own_g2 {A : Nat} (h : A < 16) : Int32.ofNat A < (16 : Int32) := (own_lt (b := 16) (by omega) (by decide)).mpr h
theorem own_g3 {A : Nat} (h : A < 16) : ¬ (Int32.ofNat A = (16 : Int32)) := fun e => by have := congrArg Int32.toNatClampNeg e; rw [own_cl (by omega), own_c16] at this; omega
theorem own_g4 {A : Nat} (h : A ≤ 16) : ¬ ((16 : Int32) < Int32.ofNat A) := fun e => by have := (own_lt (a := 16) (by decide) (by omega)).mp e; omega

theorem d35_0 : decode method_3_code 0 = .ok (.iconst 1, 1) := by decide +kernel
theorem d35_1 : decode method_3_code 1 = .ok (.istore_n 2, 1) := by decide +kernel
theorem d35_2 : decode method_3_code 2 = .ok (.lload_n 0, 1) := by decide +kernel
theorem d35_3 : decode method_3_code 3 = .ok (.ldc2_w 7, 3) := by decide +kernel
theorem d35_6 : decode method_3_code 6 = .ok (.lcmp, 1) := by decide +kernel
theorem d35_7 : decode method_3_code 7 = .ok (.ifCond .lt 6, 3) := by decide +kernel
theorem d35_13 : decode method_3_code 13 = .ok (.lload_n 0, 1) := by decide +kernel
theorem d35_14 : decode method_3_code 14 = .ok (.ldc2_w 9, 3) := by decide +kernel
theorem d35_17 : decode method_3_code 17 = .ok (.lcmp, 1) := by decide +kernel
theorem d35_18 : decode method_3_code 18 = .ok (.ifCond .lt 6, 3) := by decide +kernel
theorem d35_24 : decode method_3_code 24 = .ok (.lload_n 0, 1) := by decide +kernel
theorem d35_25 : decode method_3_code 25 = .ok (.ldc2_w 11, 3) := by decide +kernel
theorem d35_28 : decode method_3_code 28 = .ok (.lcmp, 1) := by decide +kernel
theorem d35_29 : decode method_3_code 29 = .ok (.ifCond .lt 6, 3) := by decide +kernel
theorem d35_35 : decode method_3_code 35 = .ok (.lload_n 0, 1) := by decide +kernel
theorem d35_36 : decode method_3_code 36 = .ok (.ldc2_w 13, 3) := by decide +kernel
theorem d35_39 : decode method_3_code 39 = .ok (.lcmp, 1) := by decide +kernel
theorem d35_40 : decode method_3_code 40 = .ok (.ifCond .lt 6, 3) := by decide +kernel
theorem d35_46 : decode method_3_code 46 = .ok (.lload_n 0, 1) := by decide +kernel
theorem d35_47 : decode method_3_code 47 = .ok (.ldc2_w 15, 3) := by decide +kernel
theorem d35_50 : decode method_3_code 50 = .ok (.lcmp, 1) := by decide +kernel
theorem d35_51 : decode method_3_code 51 = .ok (.ifCond .lt 6, 3) := by decide +kernel
theorem d35_57 : decode method_3_code 57 = .ok (.lload_n 0, 1) := by decide +kernel
theorem d35_58 : decode method_3_code 58 = .ok (.ldc2_w 17, 3) := by decide +kernel
theorem d35_61 : decode method_3_code 61 = .ok (.lcmp, 1) := by decide +kernel
theorem d35_62 : decode method_3_code 62 = .ok (.ifCond .lt 6, 3) := by decide +kernel
theorem d35_68 : decode method_3_code 68 = .ok (.lload_n 0, 1) := by decide +kernel
theorem d35_69 : decode method_3_code 69 = .ok (.ldc2_w 19, 3) := by decide +kernel
theorem d35_72 : decode method_3_code 72 = .ok (.lcmp, 1) := by decide +kernel
theorem d35_73 : decode method_3_code 73 = .ok (.ifCond .lt 6, 3) := by decide +kernel
theorem d35_79 : decode method_3_code 79 = .ok (.lload_n 0, 1) := by decide +kernel
theorem d35_80 : decode method_3_code 80 = .ok (.ldc2_w 21, 3) := by decide +kernel
theorem d35_83 : decode method_3_code 83 = .ok (.lcmp, 1) := by decide +kernel
theorem d35_84 : decode method_3_code 84 = .ok (.ifCond .lt 6, 3) := by decide +kernel
theorem d35_90 : decode method_3_code 90 = .ok (.lload_n 0, 1) := by decide +kernel
theorem d35_91 : decode method_3_code 91 = .ok (.ldc2_w 23, 3) := by decide +kernel
theorem d35_94 : decode method_3_code 94 = .ok (.lcmp, 1) := by decide +kernel
theorem d35_95 : decode method_3_code 95 = .ok (.ifCond .lt 6, 3) := by decide +kernel
theorem d35_101 : decode method_3_code 101 = .ok (.iload_n 2, 1) := by decide +kernel
theorem d35_102 : decode method_3_code 102 = .ok (.ireturn, 1) := by decide +kernel
theorem pn_com_example_tranchebook_tranchebook_CycleToStringPinLaw : plainName "com/example/tranchebook/tranchebook/CycleToStringPinLaw" = true := by first | (simp [plainName, overriddenIn]; done) | decide +kernel
theorem ef_35_v (m : MethodId) (x0 : Int64) : entryFrame m #[(.long x0)] 3 = mkF m 0 #[.val (.long x0), .second, .unset] [] := by first | (simp [entryFrame, mkF, argsToLocals, Value.category]; done) | rfl
theorem r35_1 (l : Launch) (Z : State) (a0 : Array Value) (hw : ∀ d ∈ tables_1, d.before a0 Z = true) (q1 : Int64) (h0 : Heap) (n0 : Nat) (Z0 : n0 ≤ h0.size) (H0 : (lcmpW q1 (10 : Int64)) < (0 : Int32)) (H1 : (lcmpW q1 (100 : Int64)) < (0 : Int32)) (H2 : (lcmpW q1 (1000 : Int64)) < (0 : Int32)) (H3 : (lcmpW q1 (10000 : Int64)) < (0 : Int32)) (H4 : (lcmpW q1 (100000 : Int64)) < (0 : Int32)) (H5 : (lcmpW q1 (1000000 : Int64)) < (0 : Int32)) (H6 : (lcmpW q1 (10000000 : Int64)) < (0 : Int32)) (H7 : (lcmpW q1 (100000000 : Int64)) < (0 : Int32)) (H8 : (lcmpW q1 (1000000000 : Int64)) < (0 : Int32)) :
   OMet l Z mN1 method_3_code 3 (some .int) [] ({ frames := 0, cells := 0, slots := 0, locals := 0 } : Room) h0 #[(.long q1)] (OQp (some (.int (1 : Int32))) h0 n0) := by
 refine MetFree.of_bodySF (plainFor_of_name pn_com_example_tranchebook_tranchebook_CycleToStringPinLaw) hisR ?_
 intro p e s m args below meth c s₁ Bd hml0 hP hK
 obtain ⟨rfl, hZ, hh⟩ := hP
 have hx := Bd.exec
 have hby := Bd.bytes
 have hml : c.maxLocals = 3 := hml0
 have hown : s.vm.findClass "com/example/tranchebook/tranchebook/CycleToStringPinLaw" = some m.cls := findClass_of_methodNamed Bd.named
 have hnm := (name_of_methodNamed Bd.named Bd.method).1
 have X0 : Stand p l e ({ frames := 0, cells := 0, slots := 0, locals := 0 } : Room) s m #[(.long q1)] below meth c s₁ [] 0 0 := Stand.of_body Bd
 have e0 : s₁.heap = h0 := by rw [← hh, Bd.state]; rfl
 have N0 := Fr.nil n0
 have pre0 : ∀ t, Steps p.tables e below (s₁.setTop (mkF m 0 #[vJ q1, vS, .unset] [])) t → Steps p.tables e below (s₁.setTop (entryFrame m #[(.long q1)] 3)) t := fun t k => castTop (ef_35_v m q1) k

 obtain ⟨fs, hr, hrun, hended, hW, hsame⟩ := X0.leave (v := some (.int (1 : Int32))) (fun h => by rw [Bd.returns] at h; cases h)
 refine ⟨_, _, pre0 _ ?_, hrun, hended, _, _, rfl, ?_, ⟨_, rfl⟩, hW, hsame.mono (by decide) (by decide)⟩
 · show SG p e below s₁ (mkF m 0 #[vJ q1, vS, vU] []) _
   refine XS.iconst X0.here hx rfl (hb hby d35_0) ?_
   show SG p e below s₁ (mkF m 1 #[vJ q1, vS, vU] [(.int (1 : Int32))]) _
   refine XS.istoreN X0.here hx rfl (hb hby d35_1) rfl (l' := #[vJ q1, vS, vI (1 : Int32)]) rfl ?_
   show SG p e below s₁ (mkF m 2 #[vJ q1, vS, vI (1 : Int32)] []) _
   refine XS.lloadN X0.here hx rfl (hb hby d35_2) rfl ?_
   show SG p e below s₁ (mkF m 3 #[vJ q1, vS, vI (1 : Int32)] [(.long q1)]) _
   refine X0.ldc2Long hx hown (mvT hZ (tw hw 210 rfl)) (g := (mkF m 3 #[vJ q1, vS, vI (1 : Int32)] [(.long q1)])) rfl (hb hby d35_3) _ ?_
   show SG p e below s₁ (mkF m 6 #[vJ q1, vS, vI (1 : Int32)] [(.long (10 : Int64)), (.long q1)]) _
   refine XS.lcmp X0.here hx rfl (hb hby d35_6) rfl ?_
   show SG p e below s₁ (mkF m 7 #[vJ q1, vS, vI (1 : Int32)] [(.int (lcmpW q1 (10 : Int64)))]) _
   refine XS.ifYes X0.here hx rfl (pc0 := 7) (pc' := 13) rfl (hb hby d35_7) rfl ((if0 _ _).trans (tlt H0).1) (by decide) (by decide) ?_
   show SG p e below s₁ (mkF m 13 #[vJ q1, vS, vI (1 : Int32)] []) _
   refine XS.lloadN X0.here hx rfl (hb hby d35_13) rfl ?_
   show SG p e below s₁ (mkF m 14 #[vJ q1, vS, vI (1 : Int32)] [(.long q1)]) _
   refine X0.ldc2Long hx hown (mvT hZ (tw hw 211 rfl)) (g := (mkF m 14 #[vJ q1, vS, vI (1 : Int32)] [(.long q1)])) rfl (hb hby d35_14) _ ?_
   show SG p e below s₁ (mkF m 17 #[vJ q1, vS, vI (1 : Int32)] [(.long (100 : Int64)), (.long q1)]) _
   refine XS.lcmp X0.here hx rfl (hb hby d35_17) rfl ?_
   show SG p e below s₁ (mkF m 18 #[vJ q1, vS, vI (1 : Int32)] [(.int (lcmpW q1 (100 : Int64)))]) _
   refine XS.ifYes X0.here hx rfl (pc0 := 18) (pc' := 24) rfl (hb hby d35_18) rfl ((if0 _ _).trans (tlt H1).1) (by decide) (by decide) ?_
   show SG p e below s₁ (mkF m 24 #[vJ q1, vS, vI (1 : Int32)] []) _
   refine XS.lloadN X0.here hx rfl (hb hby d35_24) rfl ?_
   show SG p e below s₁ (mkF m 25 #[vJ q1, vS, vI (1 : Int32)] [(.long q1)]) _
   refine X0.ldc2Long hx hown (mvT hZ (tw hw 212 rfl)) (g := (mkF m 25 #[vJ q1, vS, vI (1 : Int32)] [(.long q1)])) rfl (hb hby d35_25) _ ?_
   show SG p e below s₁ (mkF m 28 #[vJ q1, vS, vI (1 : Int32)] [(.long (1000 : Int64)), (.long q1)]) _
   refine XS.lcmp X0.here hx rfl (hb hby d35_28) rfl ?_
   show SG p e below s₁ (mkF m 29 #[vJ q1, vS, vI (1 : Int32)] [(.int (lcmpW q1 (1000 : Int64)))]) _
   refine XS.ifYes X0.here hx rfl (pc0 := 29) (pc' := 35) rfl (hb hby d35_29) rfl ((if0 _ _).trans (tlt H2).1) (by decide) (by decide) ?_
   show SG p e below s₁ (mkF m 35 #[vJ q1, vS, vI (1 : Int32)] []) _
   refine XS.lloadN X0.here hx rfl (hb hby d35_35) rfl ?_
   show SG p e below s₁ (mkF m 36 #[vJ q1, vS, vI (1 : Int32)] [(.long q1)]) _
   refine X0.ldc2Long hx hown (mvT hZ (tw hw 213 rfl)) (g := (mkF m 36 #[vJ q1, vS, vI (1 : Int32)] [(.long q1)])) rfl (hb hby d35_36) _ ?_
   show SG p e below s₁ (mkF m 39 #[vJ q1, vS, vI (1 : Int32)] [(.long (10000 : Int64)), (.long q1)]) _
   refine XS.lcmp X0.here hx rfl (hb hby d35_39) rfl ?_
   show SG p e below s₁ (mkF m 40 #[vJ q1, vS, vI (1 : Int32)] [(.int (lcmpW q1 (10000 : Int64)))]) _
   refine XS.ifYes X0.here hx rfl (pc0 := 40) (pc' := 46) rfl (hb hby d35_40) rfl ((if0 _ _).trans (tlt H3).1) (by decide) (by decide) ?_
   show SG p e below s₁ (mkF m 46 #[vJ q1, vS, vI (1 : Int32)] []) _
   refine XS.lloadN X0.here hx rfl (hb hby d35_46) rfl ?_
   show SG p e below s₁ (mkF m 47 #[vJ q1, vS, vI (1 : Int32)] [(.long q1)]) _
   refine X0.ldc2Long hx hown (mvT hZ (tw hw 214 rfl)) (g := (mkF m 47 #[vJ q1, vS, vI (1 : Int32)] [(.long q1)])) rfl (hb hby d35_47) _ ?_
   show SG p e below s₁ (mkF m 50 #[vJ q1, vS, vI (1 : Int32)] [(.long (100000 : Int64)), (.long q1)]) _
   refine XS.lcmp X0.here hx rfl (hb hby d35_50) rfl ?_
   show SG p e below s₁ (mkF m 51 #[vJ q1, vS, vI (1 : Int32)] [(.int (lcmpW q1 (100000 : Int64)))]) _
   refine XS.ifYes X0.here hx rfl (pc0 := 51) (pc' := 57) rfl (hb hby d35_51) rfl ((if0 _ _).trans (tlt H4).1) (by decide) (by decide) ?_
   show SG p e below s₁ (mkF m 57 #[vJ q1, vS, vI (1 : Int32)] []) _
   refine XS.lloadN X0.here hx rfl (hb hby d35_57) rfl ?_
   show SG p e below s₁ (mkF m 58 #[vJ q1, vS, vI (1 : Int32)] [(.long q1)]) _
   refine X0.ldc2Long hx hown (mvT hZ (tw hw 215 rfl)) (g := (mkF m 58 #[vJ q1, vS, vI (1 : Int32)] [(.long q1)])) rfl (hb hby d35_58) _ ?_
   show SG p e below s₁ (mkF m 61 #[vJ q1, vS, vI (1 : Int32)] [(.long (1000000 : Int64)), (.long q1)]) _
   refine XS.lcmp X0.here hx rfl (hb hby d35_61) rfl ?_
   show SG p e below s₁ (mkF m 62 #[vJ q1, vS, vI (1 : Int32)] [(.int (lcmpW q1 (1000000 : Int64)))]) _
   refine XS.ifYes X0.here hx rfl (pc0 := 62) (pc' := 68) rfl (hb hby d35_62) rfl ((if0 _ _).trans (tlt H5).1) (by decide) (by decide) ?_
   show SG p e below s₁ (mkF m 68 #[vJ q1, vS, vI (1 : Int32)] []) _
   refine XS.lloadN X0.here hx rfl (hb hby d35_68) rfl ?_
   show SG p e below s₁ (mkF m 69 #[vJ q1, vS, vI (1 : Int32)] [(.long q1)]) _
   refine X0.ldc2Long hx hown (mvT hZ (tw hw 216 rfl)) (g := (mkF m 69 #[vJ q1, vS, vI (1 : Int32)] [(.long q1)])) rfl (hb hby d35_69) _ ?_
   show SG p e below s₁ (mkF m 72 #[vJ q1, vS, vI (1 : Int32)] [(.long (10000000 : Int64)), (.long q1)]) _
   refine XS.lcmp X0.here hx rfl (hb hby d35_72) rfl ?_
   show SG p e below s₁ (mkF m 73 #[vJ q1, vS, vI (1 : Int32)] [(.int (lcmpW q1 (10000000 : Int64)))]) _
   refine XS.ifYes X0.here hx rfl (pc0 := 73) (pc' := 79) rfl (hb hby d35_73) rfl ((if0 _ _).trans (tlt H6).1) (by decide) (by decide) ?_
   show SG p e below s₁ (mkF m 79 #[vJ q1, vS, vI (1 : Int32)] []) _
   refine XS.lloadN X0.here hx rfl (hb hby d35_79) rfl ?_
   show SG p e below s₁ (mkF m 80 #[vJ q1, vS, vI (1 : Int32)] [(.long q1)]) _
   refine X0.ldc2Long hx hown (mvT hZ (tw hw 217 rfl)) (g := (mkF m 80 #[vJ q1, vS, vI (1 : Int32)] [(.long q1)])) rfl (hb hby d35_80) _ ?_
   show SG p e below s₁ (mkF m 83 #[vJ q1, vS, vI (1 : Int32)] [(.long (100000000 : Int64)), (.long q1)]) _
   refine XS.lcmp X0.here hx rfl (hb hby d35_83) rfl ?_
   show SG p e below s₁ (mkF m 84 #[vJ q1, vS, vI (1 : Int32)] [(.int (lcmpW q1 (100000000 : Int64)))]) _
   refine XS.ifYes X0.here hx rfl (pc0 := 84) (pc' := 90) rfl (hb hby d35_84) rfl ((if0 _ _).trans (tlt H7).1) (by decide) (by decide) ?_
   show SG p e below s₁ (mkF m 90 #[vJ q1, vS, vI (1 : Int32)] []) _
   refine XS.lloadN X0.here hx rfl (hb hby d35_90) rfl ?_
   show SG p e below s₁ (mkF m 91 #[vJ q1, vS, vI (1 : Int32)] [(.long q1)]) _
   refine X0.ldc2Long hx hown (mvT hZ (tw hw 218 rfl)) (g := (mkF m 91 #[vJ q1, vS, vI (1 : Int32)] [(.long q1)])) rfl (hb hby d35_91) _ ?_
   show SG p e below s₁ (mkF m 94 #[vJ q1, vS, vI (1 : Int32)] [(.long (1000000000 : Int64)), (.long q1)]) _
   refine XS.lcmp X0.here hx rfl (hb hby d35_94) rfl ?_
   show SG p e below s₁ (mkF m 95 #[vJ q1, vS, vI (1 : Int32)] [(.int (lcmpW q1 (1000000000 : Int64)))]) _
   refine XS.ifYes X0.here hx rfl (pc0 := 95) (pc' := 101) rfl (hb hby d35_95) rfl ((if0 _ _).trans (tlt H8).1) (by decide) (by decide) ?_
   show SG p e below s₁ (mkF m 101 #[vJ q1, vS, vI (1 : Int32)] []) _
   refine XS.iloadN X0.here hx rfl (hb hby d35_101) rfl ?_
   show SG p e below s₁ (mkF m 102 #[vJ q1, vS, vI (1 : Int32)] [(.int (1 : Int32))]) _
   exact retI X0 hx Bd.returns (hb hby d35_102) hr
 · show OQp (some (.int (1 : Int32))) h0 n0 _ s₁.heap _
   rw [e0]
   exact ⟨rfl, N0, rfl⟩
theorem d35_10 : decode method_3_code 10 = .ok (.iinc 2 1, 3) := by decide +kernel
theorem r35_2 (l : Launch) (Z : State) (a0 : Array Value) (hw : ∀ d ∈ tables_1, d.before a0 Z = true) (q2 : Int64) (h0 : Heap) (n0 : Nat) (Z0 : n0 ≤ h0.size) (H0 : ¬ ((lcmpW q2 (10 : Int64)) < (0 : Int32))) (H1 : (lcmpW q2 (100 : Int64)) < (0 : Int32)) (H2 : (lcmpW q2 (1000 : Int64)) < (0 : Int32)) (H3 : (lcmpW q2 (10000 : Int64)) < (0 : Int32)) (H4 : (lcmpW q2 (100000 : Int64)) < (0 : Int32)) (H5 : (lcmpW q2 (1000000 : Int64)) < (0 : Int32)) (H6 : (lcmpW q2 (10000000 : Int64)) < (0 : Int32)) (H7 : (lcmpW q2 (100000000 : Int64)) < (0 : Int32)) (H8 : (lcmpW q2 (1000000000 : Int64)) < (0 : Int32)) :
   OMet l Z mN1 method_3_code 3 (some .int) [] ({ frames := 0, cells := 0, slots := 0, locals := 0 } : Room) h0 #[(.long q2)] (OQp (some (.int (2 : Int32))) h0 n0) := by
 refine MetFree.of_bodySF (plainFor_of_name pn_com_example_tranchebook_tranchebook_CycleToStringPinLaw) hisR ?_
 intro p e s m args below meth c s₁ Bd hml0 hP hK
 obtain ⟨rfl, hZ, hh⟩ := hP
 have hx := Bd.exec
 have hby := Bd.bytes
 have hml : c.maxLocals = 3 := hml0
 have hown : s.vm.findClass "com/example/tranchebook/tranchebook/CycleToStringPinLaw" = some m.cls := findClass_of_methodNamed Bd.named
 have hnm := (name_of_methodNamed Bd.named Bd.method).1
 have X0 : Stand p l e ({ frames := 0, cells := 0, slots := 0, locals := 0 } : Room) s m #[(.long q2)] below meth c s₁ [] 0 0 := Stand.of_body Bd
 have e0 : s₁.heap = h0 := by rw [← hh, Bd.state]; rfl
 have N0 := Fr.nil n0
 have pre0 : ∀ t, Steps p.tables e below (s₁.setTop (mkF m 0 #[vJ q2, vS, .unset] [])) t → Steps p.tables e below (s₁.setTop (entryFrame m #[(.long q2)] 3)) t := fun t k => castTop (ef_35_v m q2) k

 obtain ⟨fs, hr, hrun, hended, hW, hsame⟩ := X0.leave (v := some (.int (2 : Int32))) (fun h => by rw [Bd.returns] at h; cases h)
 refine ⟨_, _, pre0 _ ?_, hrun, hended, _, _, rfl, ?_, ⟨_, rfl⟩, hW, hsame.mono (by decide) (by decide)⟩
 · show SG p e below s₁ (mkF m 0 #[vJ q2, vS, vU] []) _
   refine XS.iconst X0.here hx rfl (hb hby d35_0) ?_
   show SG p e below s₁ (mkF m 1 #[vJ q2, vS, vU] [(.int (1 : Int32))]) _
   refine XS.istoreN X0.here hx rfl (hb hby d35_1) rfl (l' := #[vJ q2, vS, vI (1 : Int32)]) rfl ?_
   show SG p e below s₁ (mkF m 2 #[vJ q2, vS, vI (1 : Int32)] []) _
   refine XS.lloadN X0.here hx rfl (hb hby d35_2) rfl ?_
   show SG p e below s₁ (mkF m 3 #[vJ q2, vS, vI (1 : Int32)] [(.long q2)]) _
   refine X0.ldc2Long hx hown (mvT hZ (tw hw 210 rfl)) (g := (mkF m 3 #[vJ q2, vS, vI (1 : Int32)] [(.long q2)])) rfl (hb hby d35_3) _ ?_
   show SG p e below s₁ (mkF m 6 #[vJ q2, vS, vI (1 : Int32)] [(.long (10 : Int64)), (.long q2)]) _
   refine XS.lcmp X0.here hx rfl (hb hby d35_6) rfl ?_
   show SG p e below s₁ (mkF m 7 #[vJ q2, vS, vI (1 : Int32)] [(.int (lcmpW q2 (10 : Int64)))]) _
   refine XS.ifNo X0.here hx rfl (hb hby d35_7) rfl ((if0 _ _).trans (flt H0).1) ?_
   show SG p e below s₁ (mkF m 10 #[vJ q2, vS, vI (1 : Int32)] []) _
   refine XS.iinc X0.here hx rfl (hb hby d35_10) rfl (l' := #[vJ q2, vS, vI (2 : Int32)]) rfl ?_
   show SG p e below s₁ (mkF m 13 #[vJ q2, vS, vI (2 : Int32)] []) _
   refine XS.lloadN X0.here hx rfl (hb hby d35_13) rfl ?_
   show SG p e below s₁ (mkF m 14 #[vJ q2, vS, vI (2 : Int32)] [(.long q2)]) _
   refine X0.ldc2Long hx hown (mvT hZ (tw hw 211 rfl)) (g := (mkF m 14 #[vJ q2, vS, vI (2 : Int32)] [(.long q2)])) rfl (hb hby d35_14) _ ?_
   show SG p e below s₁ (mkF m 17 #[vJ q2, vS, vI (2 : Int32)] [(.long (100 : Int64)), (.long q2)]) _
   refine XS.lcmp X0.here hx rfl (hb hby d35_17) rfl ?_
   show SG p e below s₁ (mkF m 18 #[vJ q2, vS, vI (2 : Int32)] [(.int (lcmpW q2 (100 : Int64)))]) _
   refine XS.ifYes X0.here hx rfl (pc0 := 18) (pc' := 24) rfl (hb hby d35_18) rfl ((if0 _ _).trans (tlt H1).1) (by decide) (by decide) ?_
   show SG p e below s₁ (mkF m 24 #[vJ q2, vS, vI (2 : Int32)] []) _
   refine XS.lloadN X0.here hx rfl (hb hby d35_24) rfl ?_
   show SG p e below s₁ (mkF m 25 #[vJ q2, vS, vI (2 : Int32)] [(.long q2)]) _
   refine X0.ldc2Long hx hown (mvT hZ (tw hw 212 rfl)) (g := (mkF m 25 #[vJ q2, vS, vI (2 : Int32)] [(.long q2)])) rfl (hb hby d35_25) _ ?_
   show SG p e below s₁ (mkF m 28 #[vJ q2, vS, vI (2 : Int32)] [(.long (1000 : Int64)), (.long q2)]) _
   refine XS.lcmp X0.here hx rfl (hb hby d35_28) rfl ?_
   show SG p e below s₁ (mkF m 29 #[vJ q2, vS, vI (2 : Int32)] [(.int (lcmpW q2 (1000 : Int64)))]) _
   refine XS.ifYes X0.here hx rfl (pc0 := 29) (pc' := 35) rfl (hb hby d35_29) rfl ((if0 _ _).trans (tlt H2).1) (by decide) (by decide) ?_
   show SG p e below s₁ (mkF m 35 #[vJ q2, vS, vI (2 : Int32)] []) _
   refine XS.lloadN X0.here hx rfl (hb hby d35_35) rfl ?_
   show SG p e below s₁ (mkF m 36 #[vJ q2, vS, vI (2 : Int32)] [(.long q2)]) _
   refine X0.ldc2Long hx hown (mvT hZ (tw hw 213 rfl)) (g := (mkF m 36 #[vJ q2, vS, vI (2 : Int32)] [(.long q2)])) rfl (hb hby d35_36) _ ?_
   show SG p e below s₁ (mkF m 39 #[vJ q2, vS, vI (2 : Int32)] [(.long (10000 : Int64)), (.long q2)]) _
   refine XS.lcmp X0.here hx rfl (hb hby d35_39) rfl ?_
   show SG p e below s₁ (mkF m 40 #[vJ q2, vS, vI (2 : Int32)] [(.int (lcmpW q2 (10000 : Int64)))]) _
   refine XS.ifYes X0.here hx rfl (pc0 := 40) (pc' := 46) rfl (hb hby d35_40) rfl ((if0 _ _).trans (tlt H3).1) (by decide) (by decide) ?_
   show SG p e below s₁ (mkF m 46 #[vJ q2, vS, vI (2 : Int32)] []) _
   refine XS.lloadN X0.here hx rfl (hb hby d35_46) rfl ?_
   show SG p e below s₁ (mkF m 47 #[vJ q2, vS, vI (2 : Int32)] [(.long q2)]) _
   refine X0.ldc2Long hx hown (mvT hZ (tw hw 214 rfl)) (g := (mkF m 47 #[vJ q2, vS, vI (2 : Int32)] [(.long q2)])) rfl (hb hby d35_47) _ ?_
   show SG p e below s₁ (mkF m 50 #[vJ q2, vS, vI (2 : Int32)] [(.long (100000 : Int64)), (.long q2)]) _
   refine XS.lcmp X0.here hx rfl (hb hby d35_50) rfl ?_
   show SG p e below s₁ (mkF m 51 #[vJ q2, vS, vI (2 : Int32)] [(.int (lcmpW q2 (100000 : Int64)))]) _
   refine XS.ifYes X0.here hx rfl (pc0 := 51) (pc' := 57) rfl (hb hby d35_51) rfl ((if0 _ _).trans (tlt H4).1) (by decide) (by decide) ?_
   show SG p e below s₁ (mkF m 57 #[vJ q2, vS, vI (2 : Int32)] []) _
   refine XS.lloadN X0.here hx rfl (hb hby d35_57) rfl ?_
   show SG p e below s₁ (mkF m 58 #[vJ q2, vS, vI (2 : Int32)] [(.long q2)]) _
   refine X0.ldc2Long hx hown (mvT hZ (tw hw 215 rfl)) (g := (mkF m 58 #[vJ q2, vS, vI (2 : Int32)] [(.long q2)])) rfl (hb hby d35_58) _ ?_
   show SG p e below s₁ (mkF m 61 #[vJ q2, vS, vI (2 : Int32)] [(.long (1000000 : Int64)), (.long q2)]) _
   refine XS.lcmp X0.here hx rfl (hb hby d35_61) rfl ?_
   show SG p e below s₁ (mkF m 62 #[vJ q2, vS, vI (2 : Int32)] [(.int (lcmpW q2 (1000000 : Int64)))]) _
   refine XS.ifYes X0.here hx rfl (pc0 := 62) (pc' := 68) rfl (hb hby d35_62) rfl ((if0 _ _).trans (tlt H5).1) (by decide) (by decide) ?_
   show SG p e below s₁ (mkF m 68 #[vJ q2, vS, vI (2 : Int32)] []) _
   refine XS.lloadN X0.here hx rfl (hb hby d35_68) rfl ?_
   show SG p e below s₁ (mkF m 69 #[vJ q2, vS, vI (2 : Int32)] [(.long q2)]) _
   refine X0.ldc2Long hx hown (mvT hZ (tw hw 216 rfl)) (g := (mkF m 69 #[vJ q2, vS, vI (2 : Int32)] [(.long q2)])) rfl (hb hby d35_69) _ ?_
   show SG p e below s₁ (mkF m 72 #[vJ q2, vS, vI (2 : Int32)] [(.long (10000000 : Int64)), (.long q2)]) _
   refine XS.lcmp X0.here hx rfl (hb hby d35_72) rfl ?_
   show SG p e below s₁ (mkF m 73 #[vJ q2, vS, vI (2 : Int32)] [(.int (lcmpW q2 (10000000 : Int64)))]) _
   refine XS.ifYes X0.here hx rfl (pc0 := 73) (pc' := 79) rfl (hb hby d35_73) rfl ((if0 _ _).trans (tlt H6).1) (by decide) (by decide) ?_
   show SG p e below s₁ (mkF m 79 #[vJ q2, vS, vI (2 : Int32)] []) _
   refine XS.lloadN X0.here hx rfl (hb hby d35_79) rfl ?_
   show SG p e below s₁ (mkF m 80 #[vJ q2, vS, vI (2 : Int32)] [(.long q2)]) _
   refine X0.ldc2Long hx hown (mvT hZ (tw hw 217 rfl)) (g := (mkF m 80 #[vJ q2, vS, vI (2 : Int32)] [(.long q2)])) rfl (hb hby d35_80) _ ?_
   show SG p e below s₁ (mkF m 83 #[vJ q2, vS, vI (2 : Int32)] [(.long (100000000 : Int64)), (.long q2)]) _
   refine XS.lcmp X0.here hx rfl (hb hby d35_83) rfl ?_
   show SG p e below s₁ (mkF m 84 #[vJ q2, vS, vI (2 : Int32)] [(.int (lcmpW q2 (100000000 : Int64)))]) _
   refine XS.ifYes X0.here hx rfl (pc0 := 84) (pc' := 90) rfl (hb hby d35_84) rfl ((if0 _ _).trans (tlt H7).1) (by decide) (by decide) ?_
   show SG p e below s₁ (mkF m 90 #[vJ q2, vS, vI (2 : Int32)] []) _
   refine XS.lloadN X0.here hx rfl (hb hby d35_90) rfl ?_
   show SG p e below s₁ (mkF m 91 #[vJ q2, vS, vI (2 : Int32)] [(.long q2)]) _
   refine X0.ldc2Long hx hown (mvT hZ (tw hw 218 rfl)) (g := (mkF m 91 #[vJ q2, vS, vI (2 : Int32)] [(.long q2)])) rfl (hb hby d35_91) _ ?_
   show SG p e below s₁ (mkF m 94 #[vJ q2, vS, vI (2 : Int32)] [(.long (1000000000 : Int64)), (.long q2)]) _
   refine XS.lcmp X0.here hx rfl (hb hby d35_94) rfl ?_
   show SG p e below s₁ (mkF m 95 #[vJ q2, vS, vI (2 : Int32)] [(.int (lcmpW q2 (1000000000 : Int64)))]) _
   refine XS.ifYes X0.here hx rfl (pc0 := 95) (pc' := 101) rfl (hb hby d35_95) rfl ((if0 _ _).trans (tlt H8).1) (by decide) (by decide) ?_
   show SG p e below s₁ (mkF m 101 #[vJ q2, vS, vI (2 : Int32)] []) _
   refine XS.iloadN X0.here hx rfl (hb hby d35_101) rfl ?_
   show SG p e below s₁ (mkF m 102 #[vJ q2, vS, vI (2 : Int32)] [(.int (2 : Int32))]) _
   exact retI X0 hx Bd.returns (hb hby d35_102) hr
 · show OQp (some (.int (2 : Int32))) h0 n0 _ s₁.heap _
   rw [e0]
   exact ⟨rfl, N0, rfl⟩
theorem d35_21 : decode method_3_code 21 = .ok (.iinc 2 1, 3) := by decide +kernel
theorem r35_3 (l : Launch) (Z : State) (a0 : Array Value) (hw : ∀ d ∈ tables_1, d.before a0 Z = true) (q3 : Int64) (h0 : Heap) (n0 : Nat) (Z0 : n0 ≤ h0.size) (H0 : ¬ ((lcmpW q3 (10 : Int64)) < (0 : Int32))) (H1 : ¬ ((lcmpW q3 (100 : Int64)) < (0 : Int32))) (H2 : (lcmpW q3 (1000 : Int64)) < (0 : Int32)) (H3 : (lcmpW q3 (10000 : Int64)) < (0 : Int32)) (H4 : (lcmpW q3 (100000 : Int64)) < (0 : Int32)) (H5 : (lcmpW q3 (1000000 : Int64)) < (0 : Int32)) (H6 : (lcmpW q3 (10000000 : Int64)) < (0 : Int32)) (H7 : (lcmpW q3 (100000000 : Int64)) < (0 : Int32)) (H8 : (lcmpW q3 (1000000000 : Int64)) < (0 : Int32)) :
   OMet l Z mN1 method_3_code 3 (some .int) [] ({ frames := 0, cells := 0, slots := 0, locals := 0 } : Room) h0 #[(.long q3)] (OQp (some (.int (3 : Int32))) h0 n0) := by
 refine MetFree.of_bodySF (plainFor_of_name pn_com_example_tranchebook_tranchebook_CycleToStringPinLaw) hisR ?_
 intro p e s m args below meth c s₁ Bd hml0 hP hK
 obtain ⟨rfl, hZ, hh⟩ := hP
 have hx := Bd.exec
 have hby := Bd.bytes
 have hml : c.maxLocals = 3 := hml0
 have hown : s.vm.findClass "com/example/tranchebook/tranchebook/CycleToStringPinLaw" = some m.cls := findClass_of_methodNamed Bd.named
 have hnm := (name_of_methodNamed Bd.named Bd.method).1
 have X0 : Stand p l e ({ frames := 0, cells := 0, slots := 0, locals := 0 } : Room) s m #[(.long q3)] below meth c s₁ [] 0 0 := Stand.of_body Bd
 have e0 : s₁.heap = h0 := by rw [← hh, Bd.state]; rfl
 have N0 := Fr.nil n0
 have pre0 : ∀ t, Steps p.tables e below (s₁.setTop (mkF m 0 #[vJ q3, vS, .unset] [])) t → Steps p.tables e below (s₁.setTop (entryFrame m #[(.long q3)] 3)) t := fun t k => castTop (ef_35_v m q3) k

 obtain ⟨fs, hr, hrun, hended, hW, hsame⟩ := X0.leave (v := some (.int (3 : Int32))) (fun h => by rw [Bd.returns] at h; cases h)
 refine ⟨_, _, pre0 _ ?_, hrun, hended, _, _, rfl, ?_, ⟨_, rfl⟩, hW, hsame.mono (by decide) (by decide)⟩
 · show SG p e below s₁ (mkF m 0 #[vJ q3, vS, vU] []) _
   refine XS.iconst X0.here hx rfl (hb hby d35_0) ?_
   show SG p e below s₁ (mkF m 1 #[vJ q3, vS, vU] [(.int (1 : Int32))]) _
   refine XS.istoreN X0.here hx rfl (hb hby d35_1) rfl (l' := #[vJ q3, vS, vI (1 : Int32)]) rfl ?_
   show SG p e below s₁ (mkF m 2 #[vJ q3, vS, vI (1 : Int32)] []) _
   refine XS.lloadN X0.here hx rfl (hb hby d35_2) rfl ?_
   show SG p e below s₁ (mkF m 3 #[vJ q3, vS, vI (1 : Int32)] [(.long q3)]) _
   refine X0.ldc2Long hx hown (mvT hZ (tw hw 210 rfl)) (g := (mkF m 3 #[vJ q3, vS, vI (1 : Int32)] [(.long q3)])) rfl (hb hby d35_3) _ ?_
   show SG p e below s₁ (mkF m 6 #[vJ q3, vS, vI (1 : Int32)] [(.long (10 : Int64)), (.long q3)]) _
   refine XS.lcmp X0.here hx rfl (hb hby d35_6) rfl ?_
   show SG p e below s₁ (mkF m 7 #[vJ q3, vS, vI (1 : Int32)] [(.int (lcmpW q3 (10 : Int64)))]) _
   refine XS.ifNo X0.here hx rfl (hb hby d35_7) rfl ((if0 _ _).trans (flt H0).1) ?_
   show SG p e below s₁ (mkF m 10 #[vJ q3, vS, vI (1 : Int32)] []) _
   refine XS.iinc X0.here hx rfl (hb hby d35_10) rfl (l' := #[vJ q3, vS, vI (2 : Int32)]) rfl ?_
   show SG p e below s₁ (mkF m 13 #[vJ q3, vS, vI (2 : Int32)] []) _
   refine XS.lloadN X0.here hx rfl (hb hby d35_13) rfl ?_
   show SG p e below s₁ (mkF m 14 #[vJ q3, vS, vI (2 : Int32)] [(.long q3)]) _
   refine X0.ldc2Long hx hown (mvT hZ (tw hw 211 rfl)) (g := (mkF m 14 #[vJ q3, vS, vI (2 : Int32)] [(.long q3)])) rfl (hb hby d35_14) _ ?_
   show SG p e below s₁ (mkF m 17 #[vJ q3, vS, vI (2 : Int32)] [(.long (100 : Int64)), (.long q3)]) _
   refine XS.lcmp X0.here hx rfl (hb hby d35_17) rfl ?_
   show SG p e below s₁ (mkF m 18 #[vJ q3, vS, vI (2 : Int32)] [(.int (lcmpW q3 (100 : Int64)))]) _
   refine XS.ifNo X0.here hx rfl (hb hby d35_18) rfl ((if0 _ _).trans (flt H1).1) ?_
   show SG p e below s₁ (mkF m 21 #[vJ q3, vS, vI (2 : Int32)] []) _
   refine XS.iinc X0.here hx rfl (hb hby d35_21) rfl (l' := #[vJ q3, vS, vI (3 : Int32)]) rfl ?_
   show SG p e below s₁ (mkF m 24 #[vJ q3, vS, vI (3 : Int32)] []) _
   refine XS.lloadN X0.here hx rfl (hb hby d35_24) rfl ?_
   show SG p e below s₁ (mkF m 25 #[vJ q3, vS, vI (3 : Int32)] [(.long q3)]) _
   refine X0.ldc2Long hx hown (mvT hZ (tw hw 212 rfl)) (g := (mkF m 25 #[vJ q3, vS, vI (3 : Int32)] [(.long q3)])) rfl (hb hby d35_25) _ ?_
   show SG p e below s₁ (mkF m 28 #[vJ q3, vS, vI (3 : Int32)] [(.long (1000 : Int64)), (.long q3)]) _
   refine XS.lcmp X0.here hx rfl (hb hby d35_28) rfl ?_
   show SG p e below s₁ (mkF m 29 #[vJ q3, vS, vI (3 : Int32)] [(.int (lcmpW q3 (1000 : Int64)))]) _
   refine XS.ifYes X0.here hx rfl (pc0 := 29) (pc' := 35) rfl (hb hby d35_29) rfl ((if0 _ _).trans (tlt H2).1) (by decide) (by decide) ?_
   show SG p e below s₁ (mkF m 35 #[vJ q3, vS, vI (3 : Int32)] []) _
   refine XS.lloadN X0.here hx rfl (hb hby d35_35) rfl ?_
   show SG p e below s₁ (mkF m 36 #[vJ q3, vS, vI (3 : Int32)] [(.long q3)]) _
   refine X0.ldc2Long hx hown (mvT hZ (tw hw 213 rfl)) (g := (mkF m 36 #[vJ q3, vS, vI (3 : Int32)] [(.long q3)])) rfl (hb hby d35_36) _ ?_
   show SG p e below s₁ (mkF m 39 #[vJ q3, vS, vI (3 : Int32)] [(.long (10000 : Int64)), (.long q3)]) _
   refine XS.lcmp X0.here hx rfl (hb hby d35_39) rfl ?_
   show SG p e below s₁ (mkF m 40 #[vJ q3, vS, vI (3 : Int32)] [(.int (lcmpW q3 (10000 : Int64)))]) _
   refine XS.ifYes X0.here hx rfl (pc0 := 40) (pc' := 46) rfl (hb hby d35_40) rfl ((if0 _ _).trans (tlt H3).1) (by decide) (by decide) ?_
   show SG p e below s₁ (mkF m 46 #[vJ q3, vS, vI (3 : Int32)] []) _
   refine XS.lloadN X0.here hx rfl (hb hby d35_46) rfl ?_
   show SG p e below s₁ (mkF m 47 #[vJ q3, vS, vI (3 : Int32)] [(.long q3)]) _
   refine X0.ldc2Long hx hown (mvT hZ (tw hw 214 rfl)) (g := (mkF m 47 #[vJ q3, vS, vI (3 : Int32)] [(.long q3)])) rfl (hb hby d35_47) _ ?_
   show SG p e below s₁ (mkF m 50 #[vJ q3, vS, vI (3 : Int32)] [(.long (100000 : Int64)), (.long q3)]) _
   refine XS.lcmp X0.here hx rfl (hb hby d35_50) rfl ?_
   show SG p e below s₁ (mkF m 51 #[vJ q3, vS, vI (3 : Int32)] [(.int (lcmpW q3 (100000 : Int64)))]) _
   refine XS.ifYes X0.here hx rfl (pc0 := 51) (pc' := 57) rfl (hb hby d35_51) rfl ((if0 _ _).trans (tlt H4).1) (by decide) (by decide) ?_
   show SG p e below s₁ (mkF m 57 #[vJ q3, vS, vI (3 : Int32)] []) _
   refine XS.lloadN X0.here hx rfl (hb hby d35_57) rfl ?_
   show SG p e below s₁ (mkF m 58 #[vJ q3, vS, vI (3 : Int32)] [(.long q3)]) _
   refine X0.ldc2Long hx hown (mvT hZ (tw hw 215 rfl)) (g := (mkF m 58 #[vJ q3, vS, vI (3 : Int32)] [(.long q3)])) rfl (hb hby d35_58) _ ?_
   show SG p e below s₁ (mkF m 61 #[vJ q3, vS, vI (3 : Int32)] [(.long (1000000 : Int64)), (.long q3)]) _
   refine XS.lcmp X0.here hx rfl (hb hby d35_61) rfl ?_
   show SG p e below s₁ (mkF m 62 #[vJ q3, vS, vI (3 : Int32)] [(.int (lcmpW q3 (1000000 : Int64)))]) _
   refine XS.ifYes X0.here hx rfl (pc0 := 62) (pc' := 68) rfl (hb hby d35_62) rfl ((if0 _ _).trans (tlt H5).1) (by decide) (by decide) ?_
   show SG p e below s₁ (mkF m 68 #[vJ q3, vS, vI (3 : Int32)] []) _
   refine XS.lloadN X0.here hx rfl (hb hby d35_68) rfl ?_
   show SG p e below s₁ (mkF m 69 #[vJ q3, vS, vI (3 : Int32)] [(.long q3)]) _
   refine X0.ldc2Long hx hown (mvT hZ (tw hw 216 rfl)) (g := (mkF m 69 #[vJ q3, vS, vI (3 : Int32)] [(.long q3)])) rfl (hb hby d35_69) _ ?_
   show SG p e below s₁ (mkF m 72 #[vJ q3, vS, vI (3 : Int32)] [(.long (10000000 : Int64)), (.long q3)]) _
   refine XS.lcmp X0.here hx rfl (hb hby d35_72) rfl ?_
   show SG p e below s₁ (mkF m 73 #[vJ q3, vS, vI (3 : Int32)] [(.int (lcmpW q3 (10000000 : Int64)))]) _
   refine XS.ifYes X0.here hx rfl (pc0 := 73) (pc' := 79) rfl (hb hby d35_73) rfl ((if0 _ _).trans (tlt H6).1) (by decide) (by decide) ?_
   show SG p e below s₁ (mkF m 79 #[vJ q3, vS, vI (3 : Int32)] []) _
   refine XS.lloadN X0.here hx rfl (hb hby d35_79) rfl ?_
   show SG p e below s₁ (mkF m 80 #[vJ q3, vS, vI (3 : Int32)] [(.long q3)]) _
   refine X0.ldc2Long hx hown (mvT hZ (tw hw 217 rfl)) (g := (mkF m 80 #[vJ q3, vS, vI (3 : Int32)] [(.long q3)])) rfl (hb hby d35_80) _ ?_
   show SG p e below s₁ (mkF m 83 #[vJ q3, vS, vI (3 : Int32)] [(.long (100000000 : Int64)), (.long q3)]) _
   refine XS.lcmp X0.here hx rfl (hb hby d35_83) rfl ?_
   show SG p e below s₁ (mkF m 84 #[vJ q3, vS, vI (3 : Int32)] [(.int (lcmpW q3 (100000000 : Int64)))]) _
   refine XS.ifYes X0.here hx rfl (pc0 := 84) (pc' := 90) rfl (hb hby d35_84) rfl ((if0 _ _).trans (tlt H7).1) (by decide) (by decide) ?_
   show SG p e below s₁ (mkF m 90 #[vJ q3, vS, vI (3 : Int32)] []) _
   refine XS.lloadN X0.here hx rfl (hb hby d35_90) rfl ?_
   show SG p e below s₁ (mkF m 91 #[vJ q3, vS, vI (3 : Int32)] [(.long q3)]) _
   refine X0.ldc2Long hx hown (mvT hZ (tw hw 218 rfl)) (g := (mkF m 91 #[vJ q3, vS, vI (3 : Int32)] [(.long q3)])) rfl (hb hby d35_91) _ ?_
   show SG p e below s₁ (mkF m 94 #[vJ q3, vS, vI (3 : Int32)] [(.long (1000000000 : Int64)), (.long q3)]) _
   refine XS.lcmp X0.here hx rfl (hb hby d35_94) rfl ?_
   show SG p e below s₁ (mkF m 95 #[vJ q3, vS, vI (3 : Int32)] [(.int (lcmpW q3 (1000000000 : Int64)))]) _
   refine XS.ifYes X0.here hx rfl (pc0 := 95) (pc' := 101) rfl (hb hby d35_95) rfl ((if0 _ _).trans (tlt H8).1) (by decide) (by decide) ?_
   show SG p e below s₁ (mkF m 101 #[vJ q3, vS, vI (3 : Int32)] []) _
   refine XS.iloadN X0.here hx rfl (hb hby d35_101) rfl ?_
   show SG p e below s₁ (mkF m 102 #[vJ q3, vS, vI (3 : Int32)] [(.int (3 : Int32))]) _
   exact retI X0 hx Bd.returns (hb hby d35_102) hr
 · show OQp (some (.int (3 : Int32))) h0 n0 _ s₁.heap _
   rw [e0]
   exact ⟨rfl, N0, rfl⟩
theorem d35_32 : decode method_3_code 32 = .ok (.iinc 2 1, 3) := by decide +kernel
theorem r35_4 (l : Launch) (Z : State) (a0 : Array Value) (hw : ∀ d ∈ tables_1, d.before a0 Z = true) (q4 : Int64) (h0 : Heap) (n0 : Nat) (Z0 : n0 ≤ h0.size) (H0 : ¬ ((lcmpW q4 (10 : Int64)) < (0 : Int32))) (H1 : ¬ ((lcmpW q4 (100 : Int64)) < (0 : Int32))) (H2 : ¬ ((lcmpW q4 (1000 : Int64)) < (0 : Int32))) (H3 : (lcmpW q4 (10000 : Int64)) < (0 : Int32)) (H4 : (lcmpW q4 (100000 : Int64)) < (0 : Int32)) (H5 : (lcmpW q4 (1000000 : Int64)) < (0 : Int32)) (H6 : (lcmpW q4 (10000000 : Int64)) < (0 : Int32)) (H7 : (lcmpW q4 (100000000 : Int64)) < (0 : Int32)) (H8 : (lcmpW q4 (1000000000 : Int64)) < (0 : Int32)) :
   OMet l Z mN1 method_3_code 3 (some .int) [] ({ frames := 0, cells := 0, slots := 0, locals := 0 } : Room) h0 #[(.long q4)] (OQp (some (.int (4 : Int32))) h0 n0) := by
 refine MetFree.of_bodySF (plainFor_of_name pn_com_example_tranchebook_tranchebook_CycleToStringPinLaw) hisR ?_
 intro p e s m args below meth c s₁ Bd hml0 hP hK
 obtain ⟨rfl, hZ, hh⟩ := hP
 have hx := Bd.exec
 have hby := Bd.bytes
 have hml : c.maxLocals = 3 := hml0
 have hown : s.vm.findClass "com/example/tranchebook/tranchebook/CycleToStringPinLaw" = some m.cls := findClass_of_methodNamed Bd.named
 have hnm := (name_of_methodNamed Bd.named Bd.method).1
 have X0 : Stand p l e ({ frames := 0, cells := 0, slots := 0, locals := 0 } : Room) s m #[(.long q4)] below meth c s₁ [] 0 0 := Stand.of_body Bd
 have e0 : s₁.heap = h0 := by rw [← hh, Bd.state]; rfl
 have N0 := Fr.nil n0
 have pre0 : ∀ t, Steps p.tables e below (s₁.setTop (mkF m 0 #[vJ q4, vS, .unset] [])) t → Steps p.tables e below (s₁.setTop (entryFrame m #[(.long q4)] 3)) t := fun t k => castTop (ef_35_v m q4) k

 obtain ⟨fs, hr, hrun, hended, hW, hsame⟩ := X0.leave (v := some (.int (4 : Int32))) (fun h => by rw [Bd.returns] at h; cases h)
 refine ⟨_, _, pre0 _ ?_, hrun, hended, _, _, rfl, ?_, ⟨_, rfl⟩, hW, hsame.mono (by decide) (by decide)⟩
 · show SG p e below s₁ (mkF m 0 #[vJ q4, vS, vU] []) _
   refine XS.iconst X0.here hx rfl (hb hby d35_0) ?_
   show SG p e below s₁ (mkF m 1 #[vJ q4, vS, vU] [(.int (1 : Int32))]) _
   refine XS.istoreN X0.here hx rfl (hb hby d35_1) rfl (l' := #[vJ q4, vS, vI (1 : Int32)]) rfl ?_
   show SG p e below s₁ (mkF m 2 #[vJ q4, vS, vI (1 : Int32)] []) _
   refine XS.lloadN X0.here hx rfl (hb hby d35_2) rfl ?_
   show SG p e below s₁ (mkF m 3 #[vJ q4, vS, vI (1 : Int32)] [(.long q4)]) _
   refine X0.ldc2Long hx hown (mvT hZ (tw hw 210 rfl)) (g := (mkF m 3 #[vJ q4, vS, vI (1 : Int32)] [(.long q4)])) rfl (hb hby d35_3) _ ?_
   show SG p e below s₁ (mkF m 6 #[vJ q4, vS, vI (1 : Int32)] [(.long (10 : Int64)), (.long q4)]) _
   refine XS.lcmp X0.here hx rfl (hb hby d35_6) rfl ?_
   show SG p e below s₁ (mkF m 7 #[vJ q4, vS, vI (1 : Int32)] [(.int (lcmpW q4 (10 : Int64)))]) _
   refine XS.ifNo X0.here hx rfl (hb hby d35_7) rfl ((if0 _ _).trans (flt H0).1) ?_
   show SG p e below s₁ (mkF m 10 #[vJ q4, vS, vI (1 : Int32)] []) _
   refine XS.iinc X0.here hx rfl (hb hby d35_10) rfl (l' := #[vJ q4, vS, vI (2 : Int32)]) rfl ?_
   show SG p e below s₁ (mkF m 13 #[vJ q4, vS, vI (2 : Int32)] []) _
   refine XS.lloadN X0.here hx rfl (hb hby d35_13) rfl ?_
   show SG p e below s₁ (mkF m 14 #[vJ q4, vS, vI (2 : Int32)] [(.long q4)]) _
   refine X0.ldc2Long hx hown (mvT hZ (tw hw 211 rfl)) (g := (mkF m 14 #[vJ q4, vS, vI (2 : Int32)] [(.long q4)])) rfl (hb hby d35_14) _ ?_
   show SG p e below s₁ (mkF m 17 #[vJ q4, vS, vI (2 : Int32)] [(.long (100 : Int64)), (.long q4)]) _
   refine XS.lcmp X0.here hx rfl (hb hby d35_17) rfl ?_
   show SG p e below s₁ (mkF m 18 #[vJ q4, vS, vI (2 : Int32)] [(.int (lcmpW q4 (100 : Int64)))]) _
   refine XS.ifNo X0.here hx rfl (hb hby d35_18) rfl ((if0 _ _).trans (flt H1).1) ?_
   show SG p e below s₁ (mkF m 21 #[vJ q4, vS, vI (2 : Int32)] []) _
   refine XS.iinc X0.here hx rfl (hb hby d35_21) rfl (l' := #[vJ q4, vS, vI (3 : Int32)]) rfl ?_
   show SG p e below s₁ (mkF m 24 #[vJ q4, vS, vI (3 : Int32)] []) _
   refine XS.lloadN X0.here hx rfl (hb hby d35_24) rfl ?_
   show SG p e below s₁ (mkF m 25 #[vJ q4, vS, vI (3 : Int32)] [(.long q4)]) _
   refine X0.ldc2Long hx hown (mvT hZ (tw hw 212 rfl)) (g := (mkF m 25 #[vJ q4, vS, vI (3 : Int32)] [(.long q4)])) rfl (hb hby d35_25) _ ?_
   show SG p e below s₁ (mkF m 28 #[vJ q4, vS, vI (3 : Int32)] [(.long (1000 : Int64)), (.long q4)]) _
   refine XS.lcmp X0.here hx rfl (hb hby d35_28) rfl ?_
   show SG p e below s₁ (mkF m 29 #[vJ q4, vS, vI (3 : Int32)] [(.int (lcmpW q4 (1000 : Int64)))]) _
   refine XS.ifNo X0.here hx rfl (hb hby d35_29) rfl ((if0 _ _).trans (flt H2).1) ?_
   show SG p e below s₁ (mkF m 32 #[vJ q4, vS, vI (3 : Int32)] []) _
   refine XS.iinc X0.here hx rfl (hb hby d35_32) rfl (l' := #[vJ q4, vS, vI (4 : Int32)]) rfl ?_
   show SG p e below s₁ (mkF m 35 #[vJ q4, vS, vI (4 : Int32)] []) _
   refine XS.lloadN X0.here hx rfl (hb hby d35_35) rfl ?_
   show SG p e below s₁ (mkF m 36 #[vJ q4, vS, vI (4 : Int32)] [(.long q4)]) _
   refine X0.ldc2Long hx hown (mvT hZ (tw hw 213 rfl)) (g := (mkF m 36 #[vJ q4, vS, vI (4 : Int32)] [(.long q4)])) rfl (hb hby d35_36) _ ?_
   show SG p e below s₁ (mkF m 39 #[vJ q4, vS, vI (4 : Int32)] [(.long (10000 : Int64)), (.long q4)]) _
   refine XS.lcmp X0.here hx rfl (hb hby d35_39) rfl ?_
   show SG p e below s₁ (mkF m 40 #[vJ q4, vS, vI (4 : Int32)] [(.int (lcmpW q4 (10000 : Int64)))]) _
   refine XS.ifYes X0.here hx rfl (pc0 := 40) (pc' := 46) rfl (hb hby d35_40) rfl ((if0 _ _).trans (tlt H3).1) (by decide) (by decide) ?_
   show SG p e below s₁ (mkF m 46 #[vJ q4, vS, vI (4 : Int32)] []) _
   refine XS.lloadN X0.here hx rfl (hb hby d35_46) rfl ?_
   show SG p e below s₁ (mkF m 47 #[vJ q4, vS, vI (4 : Int32)] [(.long q4)]) _
   refine X0.ldc2Long hx hown (mvT hZ (tw hw 214 rfl)) (g := (mkF m 47 #[vJ q4, vS, vI (4 : Int32)] [(.long q4)])) rfl (hb hby d35_47) _ ?_
   show SG p e below s₁ (mkF m 50 #[vJ q4, vS, vI (4 : Int32)] [(.long (100000 : Int64)), (.long q4)]) _
   refine XS.lcmp X0.here hx rfl (hb hby d35_50) rfl ?_
   show SG p e below s₁ (mkF m 51 #[vJ q4, vS, vI (4 : Int32)] [(.int (lcmpW q4 (100000 : Int64)))]) _
   refine XS.ifYes X0.here hx rfl (pc0 := 51) (pc' := 57) rfl (hb hby d35_51) rfl ((if0 _ _).trans (tlt H4).1) (by decide) (by decide) ?_
   show SG p e below s₁ (mkF m 57 #[vJ q4, vS, vI (4 : Int32)] []) _
   refine XS.lloadN X0.here hx rfl (hb hby d35_57) rfl ?_
   show SG p e below s₁ (mkF m 58 #[vJ q4, vS, vI (4 : Int32)] [(.long q4)]) _
   refine X0.ldc2Long hx hown (mvT hZ (tw hw 215 rfl)) (g := (mkF m 58 #[vJ q4, vS, vI (4 : Int32)] [(.long q4)])) rfl (hb hby d35_58) _ ?_
   show SG p e below s₁ (mkF m 61 #[vJ q4, vS, vI (4 : Int32)] [(.long (1000000 : Int64)), (.long q4)]) _
   refine XS.lcmp X0.here hx rfl (hb hby d35_61) rfl ?_
   show SG p e below s₁ (mkF m 62 #[vJ q4, vS, vI (4 : Int32)] [(.int (lcmpW q4 (1000000 : Int64)))]) _
   refine XS.ifYes X0.here hx rfl (pc0 := 62) (pc' := 68) rfl (hb hby d35_62) rfl ((if0 _ _).trans (tlt H5).1) (by decide) (by decide) ?_
   show SG p e below s₁ (mkF m 68 #[vJ q4, vS, vI (4 : Int32)] []) _
   refine XS.lloadN X0.here hx rfl (hb hby d35_68) rfl ?_
   show SG p e below s₁ (mkF m 69 #[vJ q4, vS, vI (4 : Int32)] [(.long q4)]) _
   refine X0.ldc2Long hx hown (mvT hZ (tw hw 216 rfl)) (g := (mkF m 69 #[vJ q4, vS, vI (4 : Int32)] [(.long q4)])) rfl (hb hby d35_69) _ ?_
   show SG p e below s₁ (mkF m 72 #[vJ q4, vS, vI (4 : Int32)] [(.long (10000000 : Int64)), (.long q4)]) _
   refine XS.lcmp X0.here hx rfl (hb hby d35_72) rfl ?_
   show SG p e below s₁ (mkF m 73 #[vJ q4, vS, vI (4 : Int32)] [(.int (lcmpW q4 (10000000 : Int64)))]) _
   refine XS.ifYes X0.here hx rfl (pc0 := 73) (pc' := 79) rfl (hb hby d35_73) rfl ((if0 _ _).trans (tlt H6).1) (by decide) (by decide) ?_
   show SG p e below s₁ (mkF m 79 #[vJ q4, vS, vI (4 : Int32)] []) _
   refine XS.lloadN X0.here hx rfl (hb hby d35_79) rfl ?_
   show SG p e below s₁ (mkF m 80 #[vJ q4, vS, vI (4 : Int32)] [(.long q4)]) _
   refine X0.ldc2Long hx hown (mvT hZ (tw hw 217 rfl)) (g := (mkF m 80 #[vJ q4, vS, vI (4 : Int32)] [(.long q4)])) rfl (hb hby d35_80) _ ?_
   show SG p e below s₁ (mkF m 83 #[vJ q4, vS, vI (4 : Int32)] [(.long (100000000 : Int64)), (.long q4)]) _
   refine XS.lcmp X0.here hx rfl (hb hby d35_83) rfl ?_
   show SG p e below s₁ (mkF m 84 #[vJ q4, vS, vI (4 : Int32)] [(.int (lcmpW q4 (100000000 : Int64)))]) _
   refine XS.ifYes X0.here hx rfl (pc0 := 84) (pc' := 90) rfl (hb hby d35_84) rfl ((if0 _ _).trans (tlt H7).1) (by decide) (by decide) ?_
   show SG p e below s₁ (mkF m 90 #[vJ q4, vS, vI (4 : Int32)] []) _
   refine XS.lloadN X0.here hx rfl (hb hby d35_90) rfl ?_
   show SG p e below s₁ (mkF m 91 #[vJ q4, vS, vI (4 : Int32)] [(.long q4)]) _
   refine X0.ldc2Long hx hown (mvT hZ (tw hw 218 rfl)) (g := (mkF m 91 #[vJ q4, vS, vI (4 : Int32)] [(.long q4)])) rfl (hb hby d35_91) _ ?_
   show SG p e below s₁ (mkF m 94 #[vJ q4, vS, vI (4 : Int32)] [(.long (1000000000 : Int64)), (.long q4)]) _
   refine XS.lcmp X0.here hx rfl (hb hby d35_94) rfl ?_
   show SG p e below s₁ (mkF m 95 #[vJ q4, vS, vI (4 : Int32)] [(.int (lcmpW q4 (1000000000 : Int64)))]) _
   refine XS.ifYes X0.here hx rfl (pc0 := 95) (pc' := 101) rfl (hb hby d35_95) rfl ((if0 _ _).trans (tlt H8).1) (by decide) (by decide) ?_
   show SG p e below s₁ (mkF m 101 #[vJ q4, vS, vI (4 : Int32)] []) _
   refine XS.iloadN X0.here hx rfl (hb hby d35_101) rfl ?_
   show SG p e below s₁ (mkF m 102 #[vJ q4, vS, vI (4 : Int32)] [(.int (4 : Int32))]) _
   exact retI X0 hx Bd.returns (hb hby d35_102) hr
 · show OQp (some (.int (4 : Int32))) h0 n0 _ s₁.heap _
   rw [e0]
   exact ⟨rfl, N0, rfl⟩
theorem d35_43 : decode method_3_code 43 = .ok (.iinc 2 1, 3) := by decide +kernel
theorem r35_5 (l : Launch) (Z : State) (a0 : Array Value) (hw : ∀ d ∈ tables_1, d.before a0 Z = true) (q5 : Int64) (h0 : Heap) (n0 : Nat) (Z0 : n0 ≤ h0.size) (H0 : ¬ ((lcmpW q5 (10 : Int64)) < (0 : Int32))) (H1 : ¬ ((lcmpW q5 (100 : Int64)) < (0 : Int32))) (H2 : ¬ ((lcmpW q5 (1000 : Int64)) < (0 : Int32))) (H3 : ¬ ((lcmpW q5 (10000 : Int64)) < (0 : Int32))) (H4 : (lcmpW q5 (100000 : Int64)) < (0 : Int32)) (H5 : (lcmpW q5 (1000000 : Int64)) < (0 : Int32)) (H6 : (lcmpW q5 (10000000 : Int64)) < (0 : Int32)) (H7 : (lcmpW q5 (100000000 : Int64)) < (0 : Int32)) (H8 : (lcmpW q5 (1000000000 : Int64)) < (0 : Int32)) :
   OMet l Z mN1 method_3_code 3 (some .int) [] ({ frames := 0, cells := 0, slots := 0, locals := 0 } : Room) h0 #[(.long q5)] (OQp (some (.int (5 : Int32))) h0 n0) := by
 refine MetFree.of_bodySF (plainFor_of_name pn_com_example_tranchebook_tranchebook_CycleToStringPinLaw) hisR ?_
 intro p e s m args below meth c s₁ Bd hml0 hP hK
 obtain ⟨rfl, hZ, hh⟩ := hP
 have hx := Bd.exec
 have hby := Bd.bytes
 have hml : c.maxLocals = 3 := hml0
 have hown : s.vm.findClass "com/example/tranchebook/tranchebook/CycleToStringPinLaw" = some m.cls := findClass_of_methodNamed Bd.named
 have hnm := (name_of_methodNamed Bd.named Bd.method).1
 have X0 : Stand p l e ({ frames := 0, cells := 0, slots := 0, locals := 0 } : Room) s m #[(.long q5)] below meth c s₁ [] 0 0 := Stand.of_body Bd
 have e0 : s₁.heap = h0 := by rw [← hh, Bd.state]; rfl
 have N0 := Fr.nil n0
 have pre0 : ∀ t, Steps p.tables e below (s₁.setTop (mkF m 0 #[vJ q5, vS, .unset] [])) t → Steps p.tables e below (s₁.setTop (entryFrame m #[(.long q5)] 3)) t := fun t k => castTop (ef_35_v m q5) k

 obtain ⟨fs, hr, hrun, hended, hW, hsame⟩ := X0.leave (v := some (.int (5 : Int32))) (fun h => by rw [Bd.returns] at h; cases h)
 refine ⟨_, _, pre0 _ ?_, hrun, hended, _, _, rfl, ?_, ⟨_, rfl⟩, hW, hsame.mono (by decide) (by decide)⟩
 · show SG p e below s₁ (mkF m 0 #[vJ q5, vS, vU] []) _
   refine XS.iconst X0.here hx rfl (hb hby d35_0) ?_
   show SG p e below s₁ (mkF m 1 #[vJ q5, vS, vU] [(.int (1 : Int32))]) _
   refine XS.istoreN X0.here hx rfl (hb hby d35_1) rfl (l' := #[vJ q5, vS, vI (1 : Int32)]) rfl ?_
   show SG p e below s₁ (mkF m 2 #[vJ q5, vS, vI (1 : Int32)] []) _
   refine XS.lloadN X0.here hx rfl (hb hby d35_2) rfl ?_
   show SG p e below s₁ (mkF m 3 #[vJ q5, vS, vI (1 : Int32)] [(.long q5)]) _
   refine X0.ldc2Long hx hown (mvT hZ (tw hw 210 rfl)) (g := (mkF m 3 #[vJ q5, vS, vI (1 : Int32)] [(.long q5)])) rfl (hb hby d35_3) _ ?_
   show SG p e below s₁ (mkF m 6 #[vJ q5, vS, vI (1 : Int32)] [(.long (10 : Int64)), (.long q5)]) _
   refine XS.lcmp X0.here hx rfl (hb hby d35_6) rfl ?_
   show SG p e below s₁ (mkF m 7 #[vJ q5, vS, vI (1 : Int32)] [(.int (lcmpW q5 (10 : Int64)))]) _
   refine XS.ifNo X0.here hx rfl (hb hby d35_7) rfl ((if0 _ _).trans (flt H0).1) ?_
   show SG p e below s₁ (mkF m 10 #[vJ q5, vS, vI (1 : Int32)] []) _
   refine XS.iinc X0.here hx rfl (hb hby d35_10) rfl (l' := #[vJ q5, vS, vI (2 : Int32)]) rfl ?_
   show SG p e below s₁ (mkF m 13 #[vJ q5, vS, vI (2 : Int32)] []) _
   refine XS.lloadN X0.here hx rfl (hb hby d35_13) rfl ?_
   show SG p e below s₁ (mkF m 14 #[vJ q5, vS, vI (2 : Int32)] [(.long q5)]) _
   refine X0.ldc2Long hx hown (mvT hZ (tw hw 211 rfl)) (g := (mkF m 14 #[vJ q5, vS, vI (2 : Int32)] [(.long q5)])) rfl (hb hby d35_14) _ ?_
   show SG p e below s₁ (mkF m 17 #[vJ q5, vS, vI (2 : Int32)] [(.long (100 : Int64)), (.long q5)]) _
   refine XS.lcmp X0.here hx rfl (hb hby d35_17) rfl ?_
   show SG p e below s₁ (mkF m 18 #[vJ q5, vS, vI (2 : Int32)] [(.int (lcmpW q5 (100 : Int64)))]) _
   refine XS.ifNo X0.here hx rfl (hb hby d35_18) rfl ((if0 _ _).trans (flt H1).1) ?_
   show SG p e below s₁ (mkF m 21 #[vJ q5, vS, vI (2 : Int32)] []) _
   refine XS.iinc X0.here hx rfl (hb hby d35_21) rfl (l' := #[vJ q5, vS, vI (3 : Int32)]) rfl ?_
   show SG p e below s₁ (mkF m 24 #[vJ q5, vS, vI (3 : Int32)] []) _
   refine XS.lloadN X0.here hx rfl (hb hby d35_24) rfl ?_
   show SG p e below s₁ (mkF m 25 #[vJ q5, vS, vI (3 : Int32)] [(.long q5)]) _
   refine X0.ldc2Long hx hown (mvT hZ (tw hw 212 rfl)) (g := (mkF m 25 #[vJ q5, vS, vI (3 : Int32)] [(.long q5)])) rfl (hb hby d35_25) _ ?_
   show SG p e below s₁ (mkF m 28 #[vJ q5, vS, vI (3 : Int32)] [(.long (1000 : Int64)), (.long q5)]) _
   refine XS.lcmp X0.here hx rfl (hb hby d35_28) rfl ?_
   show SG p e below s₁ (mkF m 29 #[vJ q5, vS, vI (3 : Int32)] [(.int (lcmpW q5 (1000 : Int64)))]) _
   refine XS.ifNo X0.here hx rfl (hb hby d35_29) rfl ((if0 _ _).trans (flt H2).1) ?_
   show SG p e below s₁ (mkF m 32 #[vJ q5, vS, vI (3 : Int32)] []) _
   refine XS.iinc X0.here hx rfl (hb hby d35_32) rfl (l' := #[vJ q5, vS, vI (4 : Int32)]) rfl ?_
   show SG p e below s₁ (mkF m 35 #[vJ q5, vS, vI (4 : Int32)] []) _
   refine XS.lloadN X0.here hx rfl (hb hby d35_35) rfl ?_
   show SG p e below s₁ (mkF m 36 #[vJ q5, vS, vI (4 : Int32)] [(.long q5)]) _
   refine X0.ldc2Long hx hown (mvT hZ (tw hw 213 rfl)) (g := (mkF m 36 #[vJ q5, vS, vI (4 : Int32)] [(.long q5)])) rfl (hb hby d35_36) _ ?_
   show SG p e below s₁ (mkF m 39 #[vJ q5, vS, vI (4 : Int32)] [(.long (10000 : Int64)), (.long q5)]) _
   refine XS.lcmp X0.here hx rfl (hb hby d35_39) rfl ?_
   show SG p e below s₁ (mkF m 40 #[vJ q5, vS, vI (4 : Int32)] [(.int (lcmpW q5 (10000 : Int64)))]) _
   refine XS.ifNo X0.here hx rfl (hb hby d35_40) rfl ((if0 _ _).trans (flt H3).1) ?_
   show SG p e below s₁ (mkF m 43 #[vJ q5, vS, vI (4 : Int32)] []) _
   refine XS.iinc X0.here hx rfl (hb hby d35_43) rfl (l' := #[vJ q5, vS, vI (5 : Int32)]) rfl ?_
   show SG p e below s₁ (mkF m 46 #[vJ q5, vS, vI (5 : Int32)] []) _
   refine XS.lloadN X0.here hx rfl (hb hby d35_46) rfl ?_
   show SG p e below s₁ (mkF m 47 #[vJ q5, vS, vI (5 : Int32)] [(.long q5)]) _
   refine X0.ldc2Long hx hown (mvT hZ (tw hw 214 rfl)) (g := (mkF m 47 #[vJ q5, vS, vI (5 : Int32)] [(.long q5)])) rfl (hb hby d35_47) _ ?_
   show SG p e below s₁ (mkF m 50 #[vJ q5, vS, vI (5 : Int32)] [(.long (100000 : Int64)), (.long q5)]) _
   refine XS.lcmp X0.here hx rfl (hb hby d35_50) rfl ?_
   show SG p e below s₁ (mkF m 51 #[vJ q5, vS, vI (5 : Int32)] [(.int (lcmpW q5 (100000 : Int64)))]) _
   refine XS.ifYes X0.here hx rfl (pc0 := 51) (pc' := 57) rfl (hb hby d35_51) rfl ((if0 _ _).trans (tlt H4).1) (by decide) (by decide) ?_
   show SG p e below s₁ (mkF m 57 #[vJ q5, vS, vI (5 : Int32)] []) _
   refine XS.lloadN X0.here hx rfl (hb hby d35_57) rfl ?_
   show SG p e below s₁ (mkF m 58 #[vJ q5, vS, vI (5 : Int32)] [(.long q5)]) _
   refine X0.ldc2Long hx hown (mvT hZ (tw hw 215 rfl)) (g := (mkF m 58 #[vJ q5, vS, vI (5 : Int32)] [(.long q5)])) rfl (hb hby d35_58) _ ?_
   show SG p e below s₁ (mkF m 61 #[vJ q5, vS, vI (5 : Int32)] [(.long (1000000 : Int64)), (.long q5)]) _
   refine XS.lcmp X0.here hx rfl (hb hby d35_61) rfl ?_
   show SG p e below s₁ (mkF m 62 #[vJ q5, vS, vI (5 : Int32)] [(.int (lcmpW q5 (1000000 : Int64)))]) _
   refine XS.ifYes X0.here hx rfl (pc0 := 62) (pc' := 68) rfl (hb hby d35_62) rfl ((if0 _ _).trans (tlt H5).1) (by decide) (by decide) ?_
   show SG p e below s₁ (mkF m 68 #[vJ q5, vS, vI (5 : Int32)] []) _
   refine XS.lloadN X0.here hx rfl (hb hby d35_68) rfl ?_
   show SG p e below s₁ (mkF m 69 #[vJ q5, vS, vI (5 : Int32)] [(.long q5)]) _
   refine X0.ldc2Long hx hown (mvT hZ (tw hw 216 rfl)) (g := (mkF m 69 #[vJ q5, vS, vI (5 : Int32)] [(.long q5)])) rfl (hb hby d35_69) _ ?_
   show SG p e below s₁ (mkF m 72 #[vJ q5, vS, vI (5 : Int32)] [(.long (10000000 : Int64)), (.long q5)]) _
   refine XS.lcmp X0.here hx rfl (hb hby d35_72) rfl ?_
   show SG p e below s₁ (mkF m 73 #[vJ q5, vS, vI (5 : Int32)] [(.int (lcmpW q5 (10000000 : Int64)))]) _
   refine XS.ifYes X0.here hx rfl (pc0 := 73) (pc' := 79) rfl (hb hby d35_73) rfl ((if0 _ _).trans (tlt H6).1) (by decide) (by decide) ?_
   show SG p e below s₁ (mkF m 79 #[vJ q5, vS, vI (5 : Int32)] []) _
   refine XS.lloadN X0.here hx rfl (hb hby d35_79) rfl ?_
   show SG p e below s₁ (mkF m 80 #[vJ q5, vS, vI (5 : Int32)] [(.long q5)]) _
   refine X0.ldc2Long hx hown (mvT hZ (tw hw 217 rfl)) (g := (mkF m 80 #[vJ q5, vS, vI (5 : Int32)] [(.long q5)])) rfl (hb hby d35_80) _ ?_
   show SG p e below s₁ (mkF m 83 #[vJ q5, vS, vI (5 : Int32)] [(.long (100000000 : Int64)), (.long q5)]) _
   refine XS.lcmp X0.here hx rfl (hb hby d35_83) rfl ?_
   show SG p e below s₁ (mkF m 84 #[vJ q5, vS, vI (5 : Int32)] [(.int (lcmpW q5 (100000000 : Int64)))]) _
   refine XS.ifYes X0.here hx rfl (pc0 := 84) (pc' := 90) rfl (hb hby d35_84) rfl ((if0 _ _).trans (tlt H7).1) (by decide) (by decide) ?_
   show SG p e below s₁ (mkF m 90 #[vJ q5, vS, vI (5 : Int32)] []) _
   refine XS.lloadN X0.here hx rfl (hb hby d35_90) rfl ?_
   show SG p e below s₁ (mkF m 91 #[vJ q5, vS, vI (5 : Int32)] [(.long q5)]) _
   refine X0.ldc2Long hx hown (mvT hZ (tw hw 218 rfl)) (g := (mkF m 91 #[vJ q5, vS, vI (5 : Int32)] [(.long q5)])) rfl (hb hby d35_91) _ ?_
   show SG p e below s₁ (mkF m 94 #[vJ q5, vS, vI (5 : Int32)] [(.long (1000000000 : Int64)), (.long q5)]) _
   refine XS.lcmp X0.here hx rfl (hb hby d35_94) rfl ?_
   show SG p e below s₁ (mkF m 95 #[vJ q5, vS, vI (5 : Int32)] [(.int (lcmpW q5 (1000000000 : Int64)))]) _
   refine XS.ifYes X0.here hx rfl (pc0 := 95) (pc' := 101) rfl (hb hby d35_95) rfl ((if0 _ _).trans (tlt H8).1) (by decide) (by decide) ?_
   show SG p e below s₁ (mkF m 101 #[vJ q5, vS, vI (5 : Int32)] []) _
   refine XS.iloadN X0.here hx rfl (hb hby d35_101) rfl ?_
   show SG p e below s₁ (mkF m 102 #[vJ q5, vS, vI (5 : Int32)] [(.int (5 : Int32))]) _
   exact retI X0 hx Bd.returns (hb hby d35_102) hr
 · show OQp (some (.int (5 : Int32))) h0 n0 _ s₁.heap _
   rw [e0]
   exact ⟨rfl, N0, rfl⟩
theorem d35_54 : decode method_3_code 54 = .ok (.iinc 2 1, 3) := by decide +kernel
theorem r35_6 (l : Launch) (Z : State) (a0 : Array Value) (hw : ∀ d ∈ tables_1, d.before a0 Z = true) (q6 : Int64) (h0 : Heap) (n0 : Nat) (Z0 : n0 ≤ h0.size) (H0 : ¬ ((lcmpW q6 (10 : Int64)) < (0 : Int32))) (H1 : ¬ ((lcmpW q6 (100 : Int64)) < (0 : Int32))) (H2 : ¬ ((lcmpW q6 (1000 : Int64)) < (0 : Int32))) (H3 : ¬ ((lcmpW q6 (10000 : Int64)) < (0 : Int32))) (H4 : ¬ ((lcmpW q6 (100000 : Int64)) < (0 : Int32))) (H5 : (lcmpW q6 (1000000 : Int64)) < (0 : Int32)) (H6 : (lcmpW q6 (10000000 : Int64)) < (0 : Int32)) (H7 : (lcmpW q6 (100000000 : Int64)) < (0 : Int32)) (H8 : (lcmpW q6 (1000000000 : Int64)) < (0 : Int32)) :
   OMet l Z mN1 method_3_code 3 (some .int) [] ({ frames := 0, cells := 0, slots := 0, locals := 0 } : Room) h0 #[(.long q6)] (OQp (some (.int (6 : Int32))) h0 n0) := by
 refine MetFree.of_bodySF (plainFor_of_name pn_com_example_tranchebook_tranchebook_CycleToStringPinLaw) hisR ?_
 intro p e s m args below meth c s₁ Bd hml0 hP hK
 obtain ⟨rfl, hZ, hh⟩ := hP
 have hx := Bd.exec
 have hby := Bd.bytes
 have hml : c.maxLocals = 3 := hml0
 have hown : s.vm.findClass "com/example/tranchebook/tranchebook/CycleToStringPinLaw" = some m.cls := findClass_of_methodNamed Bd.named
 have hnm := (name_of_methodNamed Bd.named Bd.method).1
 have X0 : Stand p l e ({ frames := 0, cells := 0, slots := 0, locals := 0 } : Room) s m #[(.long q6)] below meth c s₁ [] 0 0 := Stand.of_body Bd
 have e0 : s₁.heap = h0 := by rw [← hh, Bd.state]; rfl
 have N0 := Fr.nil n0
 have pre0 : ∀ t, Steps p.tables e below (s₁.setTop (mkF m 0 #[vJ q6, vS, .unset] [])) t → Steps p.tables e below (s₁.setTop (entryFrame m #[(.long q6)] 3)) t := fun t k => castTop (ef_35_v m q6) k

 obtain ⟨fs, hr, hrun, hended, hW, hsame⟩ := X0.leave (v := some (.int (6 : Int32))) (fun h => by rw [Bd.returns] at h; cases h)
 refine ⟨_, _, pre0 _ ?_, hrun, hended, _, _, rfl, ?_, ⟨_, rfl⟩, hW, hsame.mono (by decide) (by decide)⟩
 · show SG p e below s₁ (mkF m 0 #[vJ q6, vS, vU] []) _
   refine XS.iconst X0.here hx rfl (hb hby d35_0) ?_
   show SG p e below s₁ (mkF m 1 #[vJ q6, vS, vU] [(.int (1 : Int32))]) _
   refine XS.istoreN X0.here hx rfl (hb hby d35_1) rfl (l' := #[vJ q6, vS, vI (1 : Int32)]) rfl ?_
   show SG p e below s₁ (mkF m 2 #[vJ q6, vS, vI (1 : Int32)] []) _
   refine XS.lloadN X0.here hx rfl (hb hby d35_2) rfl ?_
   show SG p e below s₁ (mkF m 3 #[vJ q6, vS, vI (1 : Int32)] [(.long q6)]) _
   refine X0.ldc2Long hx hown (mvT hZ (tw hw 210 rfl)) (g := (mkF m 3 #[vJ q6, vS, vI (1 : Int32)] [(.long q6)])) rfl (hb hby d35_3) _ ?_
   show SG p e below s₁ (mkF m 6 #[vJ q6, vS, vI (1 : Int32)] [(.long (10 : Int64)), (.long q6)]) _
   refine XS.lcmp X0.here hx rfl (hb hby d35_6) rfl ?_
   show SG p e below s₁ (mkF m 7 #[vJ q6, vS, vI (1 : Int32)] [(.int (lcmpW q6 (10 : Int64)))]) _
   refine XS.ifNo X0.here hx rfl (hb hby d35_7) rfl ((if0 _ _).trans (flt H0).1) ?_
   show SG p e below s₁ (mkF m 10 #[vJ q6, vS, vI (1 : Int32)] []) _
   refine XS.iinc X0.here hx rfl (hb hby d35_10) rfl (l' := #[vJ q6, vS, vI (2 : Int32)]) rfl ?_
   show SG p e below s₁ (mkF m 13 #[vJ q6, vS, vI (2 : Int32)] []) _
   refine XS.lloadN X0.here hx rfl (hb hby d35_13) rfl ?_
   show SG p e below s₁ (mkF m 14 #[vJ q6, vS, vI (2 : Int32)] [(.long q6)]) _
   refine X0.ldc2Long hx hown (mvT hZ (tw hw 211 rfl)) (g := (mkF m 14 #[vJ q6, vS, vI (2 : Int32)] [(.long q6)])) rfl (hb hby d35_14) _ ?_
   show SG p e below s₁ (mkF m 17 #[vJ q6, vS, vI (2 : Int32)] [(.long (100 : Int64)), (.long q6)]) _
   refine XS.lcmp X0.here hx rfl (hb hby d35_17) rfl ?_
   show SG p e below s₁ (mkF m 18 #[vJ q6, vS, vI (2 : Int32)] [(.int (lcmpW q6 (100 : Int64)))]) _
   refine XS.ifNo X0.here hx rfl (hb hby d35_18) rfl ((if0 _ _).trans (flt H1).1) ?_
   show SG p e below s₁ (mkF m 21 #[vJ q6, vS, vI (2 : Int32)] []) _
   refine XS.iinc X0.here hx rfl (hb hby d35_21) rfl (l' := #[vJ q6, vS, vI (3 : Int32)]) rfl ?_
   show SG p e below s₁ (mkF m 24 #[vJ q6, vS, vI (3 : Int32)] []) _
   refine XS.lloadN X0.here hx rfl (hb hby d35_24) rfl ?_
   show SG p e below s₁ (mkF m 25 #[vJ q6, vS, vI (3 : Int32)] [(.long q6)]) _
   refine X0.ldc2Long hx hown (mvT hZ (tw hw 212 rfl)) (g := (mkF m 25 #[vJ q6, vS, vI (3 : Int32)] [(.long q6)])) rfl (hb hby d35_25) _ ?_
   show SG p e below s₁ (mkF m 28 #[vJ q6, vS, vI (3 : Int32)] [(.long (1000 : Int64)), (.long q6)]) _
   refine XS.lcmp X0.here hx rfl (hb hby d35_28) rfl ?_
   show SG p e below s₁ (mkF m 29 #[vJ q6, vS, vI (3 : Int32)] [(.int (lcmpW q6 (1000 : Int64)))]) _
   refine XS.ifNo X0.here hx rfl (hb hby d35_29) rfl ((if0 _ _).trans (flt H2).1) ?_
   show SG p e below s₁ (mkF m 32 #[vJ q6, vS, vI (3 : Int32)] []) _
   refine XS.iinc X0.here hx rfl (hb hby d35_32) rfl (l' := #[vJ q6, vS, vI (4 : Int32)]) rfl ?_
   show SG p e below s₁ (mkF m 35 #[vJ q6, vS, vI (4 : Int32)] []) _
   refine XS.lloadN X0.here hx rfl (hb hby d35_35) rfl ?_
   show SG p e below s₁ (mkF m 36 #[vJ q6, vS, vI (4 : Int32)] [(.long q6)]) _
   refine X0.ldc2Long hx hown (mvT hZ (tw hw 213 rfl)) (g := (mkF m 36 #[vJ q6, vS, vI (4 : Int32)] [(.long q6)])) rfl (hb hby d35_36) _ ?_
   show SG p e below s₁ (mkF m 39 #[vJ q6, vS, vI (4 : Int32)] [(.long (10000 : Int64)), (.long q6)]) _
   refine XS.lcmp X0.here hx rfl (hb hby d35_39) rfl ?_
   show SG p e below s₁ (mkF m 40 #[vJ q6, vS, vI (4 : Int32)] [(.int (lcmpW q6 (10000 : Int64)))]) _
   refine XS.ifNo X0.here hx rfl (hb hby d35_40) rfl ((if0 _ _).trans (flt H3).1) ?_
   show SG p e below s₁ (mkF m 43 #[vJ q6, vS, vI (4 : Int32)] []) _
   refine XS.iinc X0.here hx rfl (hb hby d35_43) rfl (l' := #[vJ q6, vS, vI (5 : Int32)]) rfl ?_
   show SG p e below s₁ (mkF m 46 #[vJ q6, vS, vI (5 : Int32)] []) _
   refine XS.lloadN X0.here hx rfl (hb hby d35_46) rfl ?_
   show SG p e below s₁ (mkF m 47 #[vJ q6, vS, vI (5 : Int32)] [(.long q6)]) _
   refine X0.ldc2Long hx hown (mvT hZ (tw hw 214 rfl)) (g := (mkF m 47 #[vJ q6, vS, vI (5 : Int32)] [(.long q6)])) rfl (hb hby d35_47) _ ?_
   show SG p e below s₁ (mkF m 50 #[vJ q6, vS, vI (5 : Int32)] [(.long (100000 : Int64)), (.long q6)]) _
   refine XS.lcmp X0.here hx rfl (hb hby d35_50) rfl ?_
   show SG p e below s₁ (mkF m 51 #[vJ q6, vS, vI (5 : Int32)] [(.int (lcmpW q6 (100000 : Int64)))]) _
   refine XS.ifNo X0.here hx rfl (hb hby d35_51) rfl ((if0 _ _).trans (flt H4).1) ?_
   show SG p e below s₁ (mkF m 54 #[vJ q6, vS, vI (5 : Int32)] []) _
   refine XS.iinc X0.here hx rfl (hb hby d35_54) rfl (l' := #[vJ q6, vS, vI (6 : Int32)]) rfl ?_
   show SG p e below s₁ (mkF m 57 #[vJ q6, vS, vI (6 : Int32)] []) _
   refine XS.lloadN X0.here hx rfl (hb hby d35_57) rfl ?_
   show SG p e below s₁ (mkF m 58 #[vJ q6, vS, vI (6 : Int32)] [(.long q6)]) _
   refine X0.ldc2Long hx hown (mvT hZ (tw hw 215 rfl)) (g := (mkF m 58 #[vJ q6, vS, vI (6 : Int32)] [(.long q6)])) rfl (hb hby d35_58) _ ?_
   show SG p e below s₁ (mkF m 61 #[vJ q6, vS, vI (6 : Int32)] [(.long (1000000 : Int64)), (.long q6)]) _
   refine XS.lcmp X0.here hx rfl (hb hby d35_61) rfl ?_
   show SG p e below s₁ (mkF m 62 #[vJ q6, vS, vI (6 : Int32)] [(.int (lcmpW q6 (1000000 : Int64)))]) _
   refine XS.ifYes X0.here hx rfl (pc0 := 62) (pc' := 68) rfl (hb hby d35_62) rfl ((if0 _ _).trans (tlt H5).1) (by decide) (by decide) ?_
   show SG p e below s₁ (mkF m 68 #[vJ q6, vS, vI (6 : Int32)] []) _
   refine XS.lloadN X0.here hx rfl (hb hby d35_68) rfl ?_
   show SG p e below s₁ (mkF m 69 #[vJ q6, vS, vI (6 : Int32)] [(.long q6)]) _
   refine X0.ldc2Long hx hown (mvT hZ (tw hw 216 rfl)) (g := (mkF m 69 #[vJ q6, vS, vI (6 : Int32)] [(.long q6)])) rfl (hb hby d35_69) _ ?_
   show SG p e below s₁ (mkF m 72 #[vJ q6, vS, vI (6 : Int32)] [(.long (10000000 : Int64)), (.long q6)]) _
   refine XS.lcmp X0.here hx rfl (hb hby d35_72) rfl ?_
   show SG p e below s₁ (mkF m 73 #[vJ q6, vS, vI (6 : Int32)] [(.int (lcmpW q6 (10000000 : Int64)))]) _
   refine XS.ifYes X0.here hx rfl (pc0 := 73) (pc' := 79) rfl (hb hby d35_73) rfl ((if0 _ _).trans (tlt H6).1) (by decide) (by decide) ?_
   show SG p e below s₁ (mkF m 79 #[vJ q6, vS, vI (6 : Int32)] []) _
   refine XS.lloadN X0.here hx rfl (hb hby d35_79) rfl ?_
   show SG p e below s₁ (mkF m 80 #[vJ q6, vS, vI (6 : Int32)] [(.long q6)]) _
   refine X0.ldc2Long hx hown (mvT hZ (tw hw 217 rfl)) (g := (mkF m 80 #[vJ q6, vS, vI (6 : Int32)] [(.long q6)])) rfl (hb hby d35_80) _ ?_
   show SG p e below s₁ (mkF m 83 #[vJ q6, vS, vI (6 : Int32)] [(.long (100000000 : Int64)), (.long q6)]) _
   refine XS.lcmp X0.here hx rfl (hb hby d35_83) rfl ?_
   show SG p e below s₁ (mkF m 84 #[vJ q6, vS, vI (6 : Int32)] [(.int (lcmpW q6 (100000000 : Int64)))]) _
   refine XS.ifYes X0.here hx rfl (pc0 := 84) (pc' := 90) rfl (hb hby d35_84) rfl ((if0 _ _).trans (tlt H7).1) (by decide) (by decide) ?_
   show SG p e below s₁ (mkF m 90 #[vJ q6, vS, vI (6 : Int32)] []) _
   refine XS.lloadN X0.here hx rfl (hb hby d35_90) rfl ?_
   show SG p e below s₁ (mkF m 91 #[vJ q6, vS, vI (6 : Int32)] [(.long q6)]) _
   refine X0.ldc2Long hx hown (mvT hZ (tw hw 218 rfl)) (g := (mkF m 91 #[vJ q6, vS, vI (6 : Int32)] [(.long q6)])) rfl (hb hby d35_91) _ ?_
   show SG p e below s₁ (mkF m 94 #[vJ q6, vS, vI (6 : Int32)] [(.long (1000000000 : Int64)), (.long q6)]) _
   refine XS.lcmp X0.here hx rfl (hb hby d35_94) rfl ?_
   show SG p e below s₁ (mkF m 95 #[vJ q6, vS, vI (6 : Int32)] [(.int (lcmpW q6 (1000000000 : Int64)))]) _
   refine XS.ifYes X0.here hx rfl (pc0 := 95) (pc' := 101) rfl (hb hby d35_95) rfl ((if0 _ _).trans (tlt H8).1) (by decide) (by decide) ?_
   show SG p e below s₁ (mkF m 101 #[vJ q6, vS, vI (6 : Int32)] []) _
   refine XS.iloadN X0.here hx rfl (hb hby d35_101) rfl ?_
   show SG p e below s₁ (mkF m 102 #[vJ q6, vS, vI (6 : Int32)] [(.int (6 : Int32))]) _
   exact retI X0 hx Bd.returns (hb hby d35_102) hr
 · show OQp (some (.int (6 : Int32))) h0 n0 _ s₁.heap _
   rw [e0]
   exact ⟨rfl, N0, rfl⟩
theorem d35_65 : decode method_3_code 65 = .ok (.iinc 2 1, 3) := by decide +kernel
theorem r35_7 (l : Launch) (Z : State) (a0 : Array Value) (hw : ∀ d ∈ tables_1, d.before a0 Z = true) (q7 : Int64) (h0 : Heap) (n0 : Nat) (Z0 : n0 ≤ h0.size) (H0 : ¬ ((lcmpW q7 (10 : Int64)) < (0 : Int32))) (H1 : ¬ ((lcmpW q7 (100 : Int64)) < (0 : Int32))) (H2 : ¬ ((lcmpW q7 (1000 : Int64)) < (0 : Int32))) (H3 : ¬ ((lcmpW q7 (10000 : Int64)) < (0 : Int32))) (H4 : ¬ ((lcmpW q7 (100000 : Int64)) < (0 : Int32))) (H5 : ¬ ((lcmpW q7 (1000000 : Int64)) < (0 : Int32))) (H6 : (lcmpW q7 (10000000 : Int64)) < (0 : Int32)) (H7 : (lcmpW q7 (100000000 : Int64)) < (0 : Int32)) (H8 : (lcmpW q7 (1000000000 : Int64)) < (0 : Int32)) :
   OMet l Z mN1 method_3_code 3 (some .int) [] ({ frames := 0, cells := 0, slots := 0, locals := 0 } : Room) h0 #[(.long q7)] (OQp (some (.int (7 : Int32))) h0 n0) := by
 refine MetFree.of_bodySF (plainFor_of_name pn_com_example_tranchebook_tranchebook_CycleToStringPinLaw) hisR ?_
 intro p e s m args below meth c s₁ Bd hml0 hP hK
 obtain ⟨rfl, hZ, hh⟩ := hP
 have hx := Bd.exec
 have hby := Bd.bytes
 have hml : c.maxLocals = 3 := hml0
 have hown : s.vm.findClass "com/example/tranchebook/tranchebook/CycleToStringPinLaw" = some m.cls := findClass_of_methodNamed Bd.named
 have hnm := (name_of_methodNamed Bd.named Bd.method).1
 have X0 : Stand p l e ({ frames := 0, cells := 0, slots := 0, locals := 0 } : Room) s m #[(.long q7)] below meth c s₁ [] 0 0 := Stand.of_body Bd
 have e0 : s₁.heap = h0 := by rw [← hh, Bd.state]; rfl
 have N0 := Fr.nil n0
 have pre0 : ∀ t, Steps p.tables e below (s₁.setTop (mkF m 0 #[vJ q7, vS, .unset] [])) t → Steps p.tables e below (s₁.setTop (entryFrame m #[(.long q7)] 3)) t := fun t k => castTop (ef_35_v m q7) k

 obtain ⟨fs, hr, hrun, hended, hW, hsame⟩ := X0.leave (v := some (.int (7 : Int32))) (fun h => by rw [Bd.returns] at h; cases h)
 refine ⟨_, _, pre0 _ ?_, hrun, hended, _, _, rfl, ?_, ⟨_, rfl⟩, hW, hsame.mono (by decide) (by decide)⟩
 · show SG p e below s₁ (mkF m 0 #[vJ q7, vS, vU] []) _
   refine XS.iconst X0.here hx rfl (hb hby d35_0) ?_
   show SG p e below s₁ (mkF m 1 #[vJ q7, vS, vU] [(.int (1 : Int32))]) _
   refine XS.istoreN X0.here hx rfl (hb hby d35_1) rfl (l' := #[vJ q7, vS, vI (1 : Int32)]) rfl ?_
   show SG p e below s₁ (mkF m 2 #[vJ q7, vS, vI (1 : Int32)] []) _
   refine XS.lloadN X0.here hx rfl (hb hby d35_2) rfl ?_
   show SG p e below s₁ (mkF m 3 #[vJ q7, vS, vI (1 : Int32)] [(.long q7)]) _
   refine X0.ldc2Long hx hown (mvT hZ (tw hw 210 rfl)) (g := (mkF m 3 #[vJ q7, vS, vI (1 : Int32)] [(.long q7)])) rfl (hb hby d35_3) _ ?_
   show SG p e below s₁ (mkF m 6 #[vJ q7, vS, vI (1 : Int32)] [(.long (10 : Int64)), (.long q7)]) _
   refine XS.lcmp X0.here hx rfl (hb hby d35_6) rfl ?_
   show SG p e below s₁ (mkF m 7 #[vJ q7, vS, vI (1 : Int32)] [(.int (lcmpW q7 (10 : Int64)))]) _
   refine XS.ifNo X0.here hx rfl (hb hby d35_7) rfl ((if0 _ _).trans (flt H0).1) ?_
   show SG p e below s₁ (mkF m 10 #[vJ q7, vS, vI (1 : Int32)] []) _
   refine XS.iinc X0.here hx rfl (hb hby d35_10) rfl (l' := #[vJ q7, vS, vI (2 : Int32)]) rfl ?_
   show SG p e below s₁ (mkF m 13 #[vJ q7, vS, vI (2 : Int32)] []) _
   refine XS.lloadN X0.here hx rfl (hb hby d35_13) rfl ?_
   show SG p e below s₁ (mkF m 14 #[vJ q7, vS, vI (2 : Int32)] [(.long q7)]) _
   refine X0.ldc2Long hx hown (mvT hZ (tw hw 211 rfl)) (g := (mkF m 14 #[vJ q7, vS, vI (2 : Int32)] [(.long q7)])) rfl (hb hby d35_14) _ ?_
   show SG p e below s₁ (mkF m 17 #[vJ q7, vS, vI (2 : Int32)] [(.long (100 : Int64)), (.long q7)]) _
   refine XS.lcmp X0.here hx rfl (hb hby d35_17) rfl ?_
   show SG p e below s₁ (mkF m 18 #[vJ q7, vS, vI (2 : Int32)] [(.int (lcmpW q7 (100 : Int64)))]) _
   refine XS.ifNo X0.here hx rfl (hb hby d35_18) rfl ((if0 _ _).trans (flt H1).1) ?_
   show SG p e below s₁ (mkF m 21 #[vJ q7, vS, vI (2 : Int32)] []) _
   refine XS.iinc X0.here hx rfl (hb hby d35_21) rfl (l' := #[vJ q7, vS, vI (3 : Int32)]) rfl ?_
   show SG p e below s₁ (mkF m 24 #[vJ q7, vS, vI (3 : Int32)] []) _
   refine XS.lloadN X0.here hx rfl (hb hby d35_24) rfl ?_
   show SG p e below s₁ (mkF m 25 #[vJ q7, vS, vI (3 : Int32)] [(.long q7)]) _
   refine X0.ldc2Long hx hown (mvT hZ (tw hw 212 rfl)) (g := (mkF m 25 #[vJ q7, vS, vI (3 : Int32)] [(.long q7)])) rfl (hb hby d35_25) _ ?_
   show SG p e below s₁ (mkF m 28 #[vJ q7, vS, vI (3 : Int32)] [(.long (1000 : Int64)), (.long q7)]) _
   refine XS.lcmp X0.here hx rfl (hb hby d35_28) rfl ?_
   show SG p e below s₁ (mkF m 29 #[vJ q7, vS, vI (3 : Int32)] [(.int (lcmpW q7 (1000 : Int64)))]) _
   refine XS.ifNo X0.here hx rfl (hb hby d35_29) rfl ((if0 _ _).trans (flt H2).1) ?_
   show SG p e below s₁ (mkF m 32 #[vJ q7, vS, vI (3 : Int32)] []) _
   refine XS.iinc X0.here hx rfl (hb hby d35_32) rfl (l' := #[vJ q7, vS, vI (4 : Int32)]) rfl ?_
   show SG p e below s₁ (mkF m 35 #[vJ q7, vS, vI (4 : Int32)] []) _
   refine XS.lloadN X0.here hx rfl (hb hby d35_35) rfl ?_
   show SG p e below s₁ (mkF m 36 #[vJ q7, vS, vI (4 : Int32)] [(.long q7)]) _
   refine X0.ldc2Long hx hown (mvT hZ (tw hw 213 rfl)) (g := (mkF m 36 #[vJ q7, vS, vI (4 : Int32)] [(.long q7)])) rfl (hb hby d35_36) _ ?_
   show SG p e below s₁ (mkF m 39 #[vJ q7, vS, vI (4 : Int32)] [(.long (10000 : Int64)), (.long q7)]) _
   refine XS.lcmp X0.here hx rfl (hb hby d35_39) rfl ?_
   show SG p e below s₁ (mkF m 40 #[vJ q7, vS, vI (4 : Int32)] [(.int (lcmpW q7 (10000 : Int64)))]) _
   refine XS.ifNo X0.here hx rfl (hb hby d35_40) rfl ((if0 _ _).trans (flt H3).1) ?_
   show SG p e below s₁ (mkF m 43 #[vJ q7, vS, vI (4 : Int32)] []) _
   refine XS.iinc X0.here hx rfl (hb hby d35_43) rfl (l' := #[vJ q7, vS, vI (5 : Int32)]) rfl ?_
   show SG p e below s₁ (mkF m 46 #[vJ q7, vS, vI (5 : Int32)] []) _
   refine XS.lloadN X0.here hx rfl (hb hby d35_46) rfl ?_
   show SG p e below s₁ (mkF m 47 #[vJ q7, vS, vI (5 : Int32)] [(.long q7)]) _
   refine X0.ldc2Long hx hown (mvT hZ (tw hw 214 rfl)) (g := (mkF m 47 #[vJ q7, vS, vI (5 : Int32)] [(.long q7)])) rfl (hb hby d35_47) _ ?_
   show SG p e below s₁ (mkF m 50 #[vJ q7, vS, vI (5 : Int32)] [(.long (100000 : Int64)), (.long q7)]) _
   refine XS.lcmp X0.here hx rfl (hb hby d35_50) rfl ?_
   show SG p e below s₁ (mkF m 51 #[vJ q7, vS, vI (5 : Int32)] [(.int (lcmpW q7 (100000 : Int64)))]) _
   refine XS.ifNo X0.here hx rfl (hb hby d35_51) rfl ((if0 _ _).trans (flt H4).1) ?_
   show SG p e below s₁ (mkF m 54 #[vJ q7, vS, vI (5 : Int32)] []) _
   refine XS.iinc X0.here hx rfl (hb hby d35_54) rfl (l' := #[vJ q7, vS, vI (6 : Int32)]) rfl ?_
   show SG p e below s₁ (mkF m 57 #[vJ q7, vS, vI (6 : Int32)] []) _
   refine XS.lloadN X0.here hx rfl (hb hby d35_57) rfl ?_
   show SG p e below s₁ (mkF m 58 #[vJ q7, vS, vI (6 : Int32)] [(.long q7)]) _
   refine X0.ldc2Long hx hown (mvT hZ (tw hw 215 rfl)) (g := (mkF m 58 #[vJ q7, vS, vI (6 : Int32)] [(.long q7)])) rfl (hb hby d35_58) _ ?_
   show SG p e below s₁ (mkF m 61 #[vJ q7, vS, vI (6 : Int32)] [(.long (1000000 : Int64)), (.long q7)]) _
   refine XS.lcmp X0.here hx rfl (hb hby d35_61) rfl ?_
   show SG p e below s₁ (mkF m 62 #[vJ q7, vS, vI (6 : Int32)] [(.int (lcmpW q7 (1000000 : Int64)))]) _
   refine XS.ifNo X0.here hx rfl (hb hby d35_62) rfl ((if0 _ _).trans (flt H5).1) ?_
   show SG p e below s₁ (mkF m 65 #[vJ q7, vS, vI (6 : Int32)] []) _
   refine XS.iinc X0.here hx rfl (hb hby d35_65) rfl (l' := #[vJ q7, vS, vI (7 : Int32)]) rfl ?_
   show SG p e below s₁ (mkF m 68 #[vJ q7, vS, vI (7 : Int32)] []) _
   refine XS.lloadN X0.here hx rfl (hb hby d35_68) rfl ?_
   show SG p e below s₁ (mkF m 69 #[vJ q7, vS, vI (7 : Int32)] [(.long q7)]) _
   refine X0.ldc2Long hx hown (mvT hZ (tw hw 216 rfl)) (g := (mkF m 69 #[vJ q7, vS, vI (7 : Int32)] [(.long q7)])) rfl (hb hby d35_69) _ ?_
   show SG p e below s₁ (mkF m 72 #[vJ q7, vS, vI (7 : Int32)] [(.long (10000000 : Int64)), (.long q7)]) _
   refine XS.lcmp X0.here hx rfl (hb hby d35_72) rfl ?_
   show SG p e below s₁ (mkF m 73 #[vJ q7, vS, vI (7 : Int32)] [(.int (lcmpW q7 (10000000 : Int64)))]) _
   refine XS.ifYes X0.here hx rfl (pc0 := 73) (pc' := 79) rfl (hb hby d35_73) rfl ((if0 _ _).trans (tlt H6).1) (by decide) (by decide) ?_
   show SG p e below s₁ (mkF m 79 #[vJ q7, vS, vI (7 : Int32)] []) _
   refine XS.lloadN X0.here hx rfl (hb hby d35_79) rfl ?_
   show SG p e below s₁ (mkF m 80 #[vJ q7, vS, vI (7 : Int32)] [(.long q7)]) _
   refine X0.ldc2Long hx hown (mvT hZ (tw hw 217 rfl)) (g := (mkF m 80 #[vJ q7, vS, vI (7 : Int32)] [(.long q7)])) rfl (hb hby d35_80) _ ?_
   show SG p e below s₁ (mkF m 83 #[vJ q7, vS, vI (7 : Int32)] [(.long (100000000 : Int64)), (.long q7)]) _
   refine XS.lcmp X0.here hx rfl (hb hby d35_83) rfl ?_
   show SG p e below s₁ (mkF m 84 #[vJ q7, vS, vI (7 : Int32)] [(.int (lcmpW q7 (100000000 : Int64)))]) _
   refine XS.ifYes X0.here hx rfl (pc0 := 84) (pc' := 90) rfl (hb hby d35_84) rfl ((if0 _ _).trans (tlt H7).1) (by decide) (by decide) ?_
   show SG p e below s₁ (mkF m 90 #[vJ q7, vS, vI (7 : Int32)] []) _
   refine XS.lloadN X0.here hx rfl (hb hby d35_90) rfl ?_
   show SG p e below s₁ (mkF m 91 #[vJ q7, vS, vI (7 : Int32)] [(.long q7)]) _
   refine X0.ldc2Long hx hown (mvT hZ (tw hw 218 rfl)) (g := (mkF m 91 #[vJ q7, vS, vI (7 : Int32)] [(.long q7)])) rfl (hb hby d35_91) _ ?_
   show SG p e below s₁ (mkF m 94 #[vJ q7, vS, vI (7 : Int32)] [(.long (1000000000 : Int64)), (.long q7)]) _
   refine XS.lcmp X0.here hx rfl (hb hby d35_94) rfl ?_
   show SG p e below s₁ (mkF m 95 #[vJ q7, vS, vI (7 : Int32)] [(.int (lcmpW q7 (1000000000 : Int64)))]) _
   refine XS.ifYes X0.here hx rfl (pc0 := 95) (pc' := 101) rfl (hb hby d35_95) rfl ((if0 _ _).trans (tlt H8).1) (by decide) (by decide) ?_
   show SG p e below s₁ (mkF m 101 #[vJ q7, vS, vI (7 : Int32)] []) _
   refine XS.iloadN X0.here hx rfl (hb hby d35_101) rfl ?_
   show SG p e below s₁ (mkF m 102 #[vJ q7, vS, vI (7 : Int32)] [(.int (7 : Int32))]) _
   exact retI X0 hx Bd.returns (hb hby d35_102) hr
 · show OQp (some (.int (7 : Int32))) h0 n0 _ s₁.heap _
   rw [e0]
   exact ⟨rfl, N0, rfl⟩
theorem d35_76 : decode method_3_code 76 = .ok (.iinc 2 1, 3) := by decide +kernel
theorem r35_8 (l : Launch) (Z : State) (a0 : Array Value) (hw : ∀ d ∈ tables_1, d.before a0 Z = true) (q8 : Int64) (h0 : Heap) (n0 : Nat) (Z0 : n0 ≤ h0.size) (H0 : ¬ ((lcmpW q8 (10 : Int64)) < (0 : Int32))) (H1 : ¬ ((lcmpW q8 (100 : Int64)) < (0 : Int32))) (H2 : ¬ ((lcmpW q8 (1000 : Int64)) < (0 : Int32))) (H3 : ¬ ((lcmpW q8 (10000 : Int64)) < (0 : Int32))) (H4 : ¬ ((lcmpW q8 (100000 : Int64)) < (0 : Int32))) (H5 : ¬ ((lcmpW q8 (1000000 : Int64)) < (0 : Int32))) (H6 : ¬ ((lcmpW q8 (10000000 : Int64)) < (0 : Int32))) (H7 : (lcmpW q8 (100000000 : Int64)) < (0 : Int32)) (H8 : (lcmpW q8 (1000000000 : Int64)) < (0 : Int32)) :
   OMet l Z mN1 method_3_code 3 (some .int) [] ({ frames := 0, cells := 0, slots := 0, locals := 0 } : Room) h0 #[(.long q8)] (OQp (some (.int (8 : Int32))) h0 n0) := by
 refine MetFree.of_bodySF (plainFor_of_name pn_com_example_tranchebook_tranchebook_CycleToStringPinLaw) hisR ?_
 intro p e s m args below meth c s₁ Bd hml0 hP hK
 obtain ⟨rfl, hZ, hh⟩ := hP
 have hx := Bd.exec
 have hby := Bd.bytes
 have hml : c.maxLocals = 3 := hml0
 have hown : s.vm.findClass "com/example/tranchebook/tranchebook/CycleToStringPinLaw" = some m.cls := findClass_of_methodNamed Bd.named
 have hnm := (name_of_methodNamed Bd.named Bd.method).1
 have X0 : Stand p l e ({ frames := 0, cells := 0, slots := 0, locals := 0 } : Room) s m #[(.long q8)] below meth c s₁ [] 0 0 := Stand.of_body Bd
 have e0 : s₁.heap = h0 := by rw [← hh, Bd.state]; rfl
 have N0 := Fr.nil n0
 have pre0 : ∀ t, Steps p.tables e below (s₁.setTop (mkF m 0 #[vJ q8, vS, .unset] [])) t → Steps p.tables e below (s₁.setTop (entryFrame m #[(.long q8)] 3)) t := fun t k => castTop (ef_35_v m q8) k

 obtain ⟨fs, hr, hrun, hended, hW, hsame⟩ := X0.leave (v := some (.int (8 : Int32))) (fun h => by rw [Bd.returns] at h; cases h)
 refine ⟨_, _, pre0 _ ?_, hrun, hended, _, _, rfl, ?_, ⟨_, rfl⟩, hW, hsame.mono (by decide) (by decide)⟩
 · show SG p e below s₁ (mkF m 0 #[vJ q8, vS, vU] []) _
   refine XS.iconst X0.here hx rfl (hb hby d35_0) ?_
   show SG p e below s₁ (mkF m 1 #[vJ q8, vS, vU] [(.int (1 : Int32))]) _
   refine XS.istoreN X0.here hx rfl (hb hby d35_1) rfl (l' := #[vJ q8, vS, vI (1 : Int32)]) rfl ?_
   show SG p e below s₁ (mkF m 2 #[vJ q8, vS, vI (1 : Int32)] []) _
   refine XS.lloadN X0.here hx rfl (hb hby d35_2) rfl ?_
   show SG p e below s₁ (mkF m 3 #[vJ q8, vS, vI (1 : Int32)] [(.long q8)]) _
   refine X0.ldc2Long hx hown (mvT hZ (tw hw 210 rfl)) (g := (mkF m 3 #[vJ q8, vS, vI (1 : Int32)] [(.long q8)])) rfl (hb hby d35_3) _ ?_
   show SG p e below s₁ (mkF m 6 #[vJ q8, vS, vI (1 : Int32)] [(.long (10 : Int64)), (.long q8)]) _
   refine XS.lcmp X0.here hx rfl (hb hby d35_6) rfl ?_
   show SG p e below s₁ (mkF m 7 #[vJ q8, vS, vI (1 : Int32)] [(.int (lcmpW q8 (10 : Int64)))]) _
   refine XS.ifNo X0.here hx rfl (hb hby d35_7) rfl ((if0 _ _).trans (flt H0).1) ?_
   show SG p e below s₁ (mkF m 10 #[vJ q8, vS, vI (1 : Int32)] []) _
   refine XS.iinc X0.here hx rfl (hb hby d35_10) rfl (l' := #[vJ q8, vS, vI (2 : Int32)]) rfl ?_
   show SG p e below s₁ (mkF m 13 #[vJ q8, vS, vI (2 : Int32)] []) _
   refine XS.lloadN X0.here hx rfl (hb hby d35_13) rfl ?_
   show SG p e below s₁ (mkF m 14 #[vJ q8, vS, vI (2 : Int32)] [(.long q8)]) _
   refine X0.ldc2Long hx hown (mvT hZ (tw hw 211 rfl)) (g := (mkF m 14 #[vJ q8, vS, vI (2 : Int32)] [(.long q8)])) rfl (hb hby d35_14) _ ?_
   show SG p e below s₁ (mkF m 17 #[vJ q8, vS, vI (2 : Int32)] [(.long (100 : Int64)), (.long q8)]) _
   refine XS.lcmp X0.here hx rfl (hb hby d35_17) rfl ?_
   show SG p e below s₁ (mkF m 18 #[vJ q8, vS, vI (2 : Int32)] [(.int (lcmpW q8 (100 : Int64)))]) _
   refine XS.ifNo X0.here hx rfl (hb hby d35_18) rfl ((if0 _ _).trans (flt H1).1) ?_
   show SG p e below s₁ (mkF m 21 #[vJ q8, vS, vI (2 : Int32)] []) _
   refine XS.iinc X0.here hx rfl (hb hby d35_21) rfl (l' := #[vJ q8, vS, vI (3 : Int32)]) rfl ?_
   show SG p e below s₁ (mkF m 24 #[vJ q8, vS, vI (3 : Int32)] []) _
   refine XS.lloadN X0.here hx rfl (hb hby d35_24) rfl ?_
   show SG p e below s₁ (mkF m 25 #[vJ q8, vS, vI (3 : Int32)] [(.long q8)]) _
   refine X0.ldc2Long hx hown (mvT hZ (tw hw 212 rfl)) (g := (mkF m 25 #[vJ q8, vS, vI (3 : Int32)] [(.long q8)])) rfl (hb hby d35_25) _ ?_
   show SG p e below s₁ (mkF m 28 #[vJ q8, vS, vI (3 : Int32)] [(.long (1000 : Int64)), (.long q8)]) _
   refine XS.lcmp X0.here hx rfl (hb hby d35_28) rfl ?_
   show SG p e below s₁ (mkF m 29 #[vJ q8, vS, vI (3 : Int32)] [(.int (lcmpW q8 (1000 : Int64)))]) _
   refine XS.ifNo X0.here hx rfl (hb hby d35_29) rfl ((if0 _ _).trans (flt H2).1) ?_
   show SG p e below s₁ (mkF m 32 #[vJ q8, vS, vI (3 : Int32)] []) _
   refine XS.iinc X0.here hx rfl (hb hby d35_32) rfl (l' := #[vJ q8, vS, vI (4 : Int32)]) rfl ?_
   show SG p e below s₁ (mkF m 35 #[vJ q8, vS, vI (4 : Int32)] []) _
   refine XS.lloadN X0.here hx rfl (hb hby d35_35) rfl ?_
   show SG p e below s₁ (mkF m 36 #[vJ q8, vS, vI (4 : Int32)] [(.long q8)]) _
   refine X0.ldc2Long hx hown (mvT hZ (tw hw 213 rfl)) (g := (mkF m 36 #[vJ q8, vS, vI (4 : Int32)] [(.long q8)])) rfl (hb hby d35_36) _ ?_
   show SG p e below s₁ (mkF m 39 #[vJ q8, vS, vI (4 : Int32)] [(.long (10000 : Int64)), (.long q8)]) _
   refine XS.lcmp X0.here hx rfl (hb hby d35_39) rfl ?_
   show SG p e below s₁ (mkF m 40 #[vJ q8, vS, vI (4 : Int32)] [(.int (lcmpW q8 (10000 : Int64)))]) _
   refine XS.ifNo X0.here hx rfl (hb hby d35_40) rfl ((if0 _ _).trans (flt H3).1) ?_
   show SG p e below s₁ (mkF m 43 #[vJ q8, vS, vI (4 : Int32)] []) _
   refine XS.iinc X0.here hx rfl (hb hby d35_43) rfl (l' := #[vJ q8, vS, vI (5 : Int32)]) rfl ?_
   show SG p e below s₁ (mkF m 46 #[vJ q8, vS, vI (5 : Int32)] []) _
   refine XS.lloadN X0.here hx rfl (hb hby d35_46) rfl ?_
   show SG p e below s₁ (mkF m 47 #[vJ q8, vS, vI (5 : Int32)] [(.long q8)]) _
   refine X0.ldc2Long hx hown (mvT hZ (tw hw 214 rfl)) (g := (mkF m 47 #[vJ q8, vS, vI (5 : Int32)] [(.long q8)])) rfl (hb hby d35_47) _ ?_
   show SG p e below s₁ (mkF m 50 #[vJ q8, vS, vI (5 : Int32)] [(.long (100000 : Int64)), (.long q8)]) _
   refine XS.lcmp X0.here hx rfl (hb hby d35_50) rfl ?_
   show SG p e below s₁ (mkF m 51 #[vJ q8, vS, vI (5 : Int32)] [(.int (lcmpW q8 (100000 : Int64)))]) _
   refine XS.ifNo X0.here hx rfl (hb hby d35_51) rfl ((if0 _ _).trans (flt H4).1) ?_
   show SG p e below s₁ (mkF m 54 #[vJ q8, vS, vI (5 : Int32)] []) _
   refine XS.iinc X0.here hx rfl (hb hby d35_54) rfl (l' := #[vJ q8, vS, vI (6 : Int32)]) rfl ?_
   show SG p e below s₁ (mkF m 57 #[vJ q8, vS, vI (6 : Int32)] []) _
   refine XS.lloadN X0.here hx rfl (hb hby d35_57) rfl ?_
   show SG p e below s₁ (mkF m 58 #[vJ q8, vS, vI (6 : Int32)] [(.long q8)]) _
   refine X0.ldc2Long hx hown (mvT hZ (tw hw 215 rfl)) (g := (mkF m 58 #[vJ q8, vS, vI (6 : Int32)] [(.long q8)])) rfl (hb hby d35_58) _ ?_
   show SG p e below s₁ (mkF m 61 #[vJ q8, vS, vI (6 : Int32)] [(.long (1000000 : Int64)), (.long q8)]) _
   refine XS.lcmp X0.here hx rfl (hb hby d35_61) rfl ?_
   show SG p e below s₁ (mkF m 62 #[vJ q8, vS, vI (6 : Int32)] [(.int (lcmpW q8 (1000000 : Int64)))]) _
   refine XS.ifNo X0.here hx rfl (hb hby d35_62) rfl ((if0 _ _).trans (flt H5).1) ?_
   show SG p e below s₁ (mkF m 65 #[vJ q8, vS, vI (6 : Int32)] []) _
   refine XS.iinc X0.here hx rfl (hb hby d35_65) rfl (l' := #[vJ q8, vS, vI (7 : Int32)]) rfl ?_
   show SG p e below s₁ (mkF m 68 #[vJ q8, vS, vI (7 : Int32)] []) _
   refine XS.lloadN X0.here hx rfl (hb hby d35_68) rfl ?_
   show SG p e below s₁ (mkF m 69 #[vJ q8, vS, vI (7 : Int32)] [(.long q8)]) _
   refine X0.ldc2Long hx hown (mvT hZ (tw hw 216 rfl)) (g := (mkF m 69 #[vJ q8, vS, vI (7 : Int32)] [(.long q8)])) rfl (hb hby d35_69) _ ?_
   show SG p e below s₁ (mkF m 72 #[vJ q8, vS, vI (7 : Int32)] [(.long (10000000 : Int64)), (.long q8)]) _
   refine XS.lcmp X0.here hx rfl (hb hby d35_72) rfl ?_
   show SG p e below s₁ (mkF m 73 #[vJ q8, vS, vI (7 : Int32)] [(.int (lcmpW q8 (10000000 : Int64)))]) _
   refine XS.ifNo X0.here hx rfl (hb hby d35_73) rfl ((if0 _ _).trans (flt H6).1) ?_
   show SG p e below s₁ (mkF m 76 #[vJ q8, vS, vI (7 : Int32)] []) _
   refine XS.iinc X0.here hx rfl (hb hby d35_76) rfl (l' := #[vJ q8, vS, vI (8 : Int32)]) rfl ?_
   show SG p e below s₁ (mkF m 79 #[vJ q8, vS, vI (8 : Int32)] []) _
   refine XS.lloadN X0.here hx rfl (hb hby d35_79) rfl ?_
   show SG p e below s₁ (mkF m 80 #[vJ q8, vS, vI (8 : Int32)] [(.long q8)]) _
   refine X0.ldc2Long hx hown (mvT hZ (tw hw 217 rfl)) (g := (mkF m 80 #[vJ q8, vS, vI (8 : Int32)] [(.long q8)])) rfl (hb hby d35_80) _ ?_
   show SG p e below s₁ (mkF m 83 #[vJ q8, vS, vI (8 : Int32)] [(.long (100000000 : Int64)), (.long q8)]) _
   refine XS.lcmp X0.here hx rfl (hb hby d35_83) rfl ?_
   show SG p e below s₁ (mkF m 84 #[vJ q8, vS, vI (8 : Int32)] [(.int (lcmpW q8 (100000000 : Int64)))]) _
   refine XS.ifYes X0.here hx rfl (pc0 := 84) (pc' := 90) rfl (hb hby d35_84) rfl ((if0 _ _).trans (tlt H7).1) (by decide) (by decide) ?_
   show SG p e below s₁ (mkF m 90 #[vJ q8, vS, vI (8 : Int32)] []) _
   refine XS.lloadN X0.here hx rfl (hb hby d35_90) rfl ?_
   show SG p e below s₁ (mkF m 91 #[vJ q8, vS, vI (8 : Int32)] [(.long q8)]) _
   refine X0.ldc2Long hx hown (mvT hZ (tw hw 218 rfl)) (g := (mkF m 91 #[vJ q8, vS, vI (8 : Int32)] [(.long q8)])) rfl (hb hby d35_91) _ ?_
   show SG p e below s₁ (mkF m 94 #[vJ q8, vS, vI (8 : Int32)] [(.long (1000000000 : Int64)), (.long q8)]) _
   refine XS.lcmp X0.here hx rfl (hb hby d35_94) rfl ?_
   show SG p e below s₁ (mkF m 95 #[vJ q8, vS, vI (8 : Int32)] [(.int (lcmpW q8 (1000000000 : Int64)))]) _
   refine XS.ifYes X0.here hx rfl (pc0 := 95) (pc' := 101) rfl (hb hby d35_95) rfl ((if0 _ _).trans (tlt H8).1) (by decide) (by decide) ?_
   show SG p e below s₁ (mkF m 101 #[vJ q8, vS, vI (8 : Int32)] []) _
   refine XS.iloadN X0.here hx rfl (hb hby d35_101) rfl ?_
   show SG p e below s₁ (mkF m 102 #[vJ q8, vS, vI (8 : Int32)] [(.int (8 : Int32))]) _
   exact retI X0 hx Bd.returns (hb hby d35_102) hr
 · show OQp (some (.int (8 : Int32))) h0 n0 _ s₁.heap _
   rw [e0]
   exact ⟨rfl, N0, rfl⟩
theorem d35_87 : decode method_3_code 87 = .ok (.iinc 2 1, 3) := by decide +kernel
theorem r35_9 (l : Launch) (Z : State) (a0 : Array Value) (hw : ∀ d ∈ tables_1, d.before a0 Z = true) (q9 : Int64) (h0 : Heap) (n0 : Nat) (Z0 : n0 ≤ h0.size) (H0 : ¬ ((lcmpW q9 (10 : Int64)) < (0 : Int32))) (H1 : ¬ ((lcmpW q9 (100 : Int64)) < (0 : Int32))) (H2 : ¬ ((lcmpW q9 (1000 : Int64)) < (0 : Int32))) (H3 : ¬ ((lcmpW q9 (10000 : Int64)) < (0 : Int32))) (H4 : ¬ ((lcmpW q9 (100000 : Int64)) < (0 : Int32))) (H5 : ¬ ((lcmpW q9 (1000000 : Int64)) < (0 : Int32))) (H6 : ¬ ((lcmpW q9 (10000000 : Int64)) < (0 : Int32))) (H7 : ¬ ((lcmpW q9 (100000000 : Int64)) < (0 : Int32))) (H8 : (lcmpW q9 (1000000000 : Int64)) < (0 : Int32)) :
   OMet l Z mN1 method_3_code 3 (some .int) [] ({ frames := 0, cells := 0, slots := 0, locals := 0 } : Room) h0 #[(.long q9)] (OQp (some (.int (9 : Int32))) h0 n0) := by
 refine MetFree.of_bodySF (plainFor_of_name pn_com_example_tranchebook_tranchebook_CycleToStringPinLaw) hisR ?_
 intro p e s m args below meth c s₁ Bd hml0 hP hK
 obtain ⟨rfl, hZ, hh⟩ := hP
 have hx := Bd.exec
 have hby := Bd.bytes
 have hml : c.maxLocals = 3 := hml0
 have hown : s.vm.findClass "com/example/tranchebook/tranchebook/CycleToStringPinLaw" = some m.cls := findClass_of_methodNamed Bd.named
 have hnm := (name_of_methodNamed Bd.named Bd.method).1
 have X0 : Stand p l e ({ frames := 0, cells := 0, slots := 0, locals := 0 } : Room) s m #[(.long q9)] below meth c s₁ [] 0 0 := Stand.of_body Bd
 have e0 : s₁.heap = h0 := by rw [← hh, Bd.state]; rfl
 have N0 := Fr.nil n0
 have pre0 : ∀ t, Steps p.tables e below (s₁.setTop (mkF m 0 #[vJ q9, vS, .unset] [])) t → Steps p.tables e below (s₁.setTop (entryFrame m #[(.long q9)] 3)) t := fun t k => castTop (ef_35_v m q9) k

 obtain ⟨fs, hr, hrun, hended, hW, hsame⟩ := X0.leave (v := some (.int (9 : Int32))) (fun h => by rw [Bd.returns] at h; cases h)
 refine ⟨_, _, pre0 _ ?_, hrun, hended, _, _, rfl, ?_, ⟨_, rfl⟩, hW, hsame.mono (by decide) (by decide)⟩
 · show SG p e below s₁ (mkF m 0 #[vJ q9, vS, vU] []) _
   refine XS.iconst X0.here hx rfl (hb hby d35_0) ?_
   show SG p e below s₁ (mkF m 1 #[vJ q9, vS, vU] [(.int (1 : Int32))]) _
   refine XS.istoreN X0.here hx rfl (hb hby d35_1) rfl (l' := #[vJ q9, vS, vI (1 : Int32)]) rfl ?_
   show SG p e below s₁ (mkF m 2 #[vJ q9, vS, vI (1 : Int32)] []) _
   refine XS.lloadN X0.here hx rfl (hb hby d35_2) rfl ?_
   show SG p e below s₁ (mkF m 3 #[vJ q9, vS, vI (1 : Int32)] [(.long q9)]) _
   refine X0.ldc2Long hx hown (mvT hZ (tw hw 210 rfl)) (g := (mkF m 3 #[vJ q9, vS, vI (1 : Int32)] [(.long q9)])) rfl (hb hby d35_3) _ ?_
   show SG p e below s₁ (mkF m 6 #[vJ q9, vS, vI (1 : Int32)] [(.long (10 : Int64)), (.long q9)]) _
   refine XS.lcmp X0.here hx rfl (hb hby d35_6) rfl ?_
   show SG p e below s₁ (mkF m 7 #[vJ q9, vS, vI (1 : Int32)] [(.int (lcmpW q9 (10 : Int64)))]) _
   refine XS.ifNo X0.here hx rfl (hb hby d35_7) rfl ((if0 _ _).trans (flt H0).1) ?_
   show SG p e below s₁ (mkF m 10 #[vJ q9, vS, vI (1 : Int32)] []) _
   refine XS.iinc X0.here hx rfl (hb hby d35_10) rfl (l' := #[vJ q9, vS, vI (2 : Int32)]) rfl ?_
   show SG p e below s₁ (mkF m 13 #[vJ q9, vS, vI (2 : Int32)] []) _
   refine XS.lloadN X0.here hx rfl (hb hby d35_13) rfl ?_
   show SG p e below s₁ (mkF m 14 #[vJ q9, vS, vI (2 : Int32)] [(.long q9)]) _
   refine X0.ldc2Long hx hown (mvT hZ (tw hw 211 rfl)) (g := (mkF m 14 #[vJ q9, vS, vI (2 : Int32)] [(.long q9)])) rfl (hb hby d35_14) _ ?_
   show SG p e below s₁ (mkF m 17 #[vJ q9, vS, vI (2 : Int32)] [(.long (100 : Int64)), (.long q9)]) _
   refine XS.lcmp X0.here hx rfl (hb hby d35_17) rfl ?_
   show SG p e below s₁ (mkF m 18 #[vJ q9, vS, vI (2 : Int32)] [(.int (lcmpW q9 (100 : Int64)))]) _
   refine XS.ifNo X0.here hx rfl (hb hby d35_18) rfl ((if0 _ _).trans (flt H1).1) ?_
   show SG p e below s₁ (mkF m 21 #[vJ q9, vS, vI (2 : Int32)] []) _
   refine XS.iinc X0.here hx rfl (hb hby d35_21) rfl (l' := #[vJ q9, vS, vI (3 : Int32)]) rfl ?_
   show SG p e below s₁ (mkF m 24 #[vJ q9, vS, vI (3 : Int32)] []) _
   refine XS.lloadN X0.here hx rfl (hb hby d35_24) rfl ?_
   show SG p e below s₁ (mkF m 25 #[vJ q9, vS, vI (3 : Int32)] [(.long q9)]) _
   refine X0.ldc2Long hx hown (mvT hZ (tw hw 212 rfl)) (g := (mkF m 25 #[vJ q9, vS, vI (3 : Int32)] [(.long q9)])) rfl (hb hby d35_25) _ ?_
   show SG p e below s₁ (mkF m 28 #[vJ q9, vS, vI (3 : Int32)] [(.long (1000 : Int64)), (.long q9)]) _
   refine XS.lcmp X0.here hx rfl (hb hby d35_28) rfl ?_
   show SG p e below s₁ (mkF m 29 #[vJ q9, vS, vI (3 : Int32)] [(.int (lcmpW q9 (1000 : Int64)))]) _
   refine XS.ifNo X0.here hx rfl (hb hby d35_29) rfl ((if0 _ _).trans (flt H2).1) ?_
   show SG p e below s₁ (mkF m 32 #[vJ q9, vS, vI (3 : Int32)] []) _
   refine XS.iinc X0.here hx rfl (hb hby d35_32) rfl (l' := #[vJ q9, vS, vI (4 : Int32)]) rfl ?_
   show SG p e below s₁ (mkF m 35 #[vJ q9, vS, vI (4 : Int32)] []) _
   refine XS.lloadN X0.here hx rfl (hb hby d35_35) rfl ?_
   show SG p e below s₁ (mkF m 36 #[vJ q9, vS, vI (4 : Int32)] [(.long q9)]) _
   refine X0.ldc2Long hx hown (mvT hZ (tw hw 213 rfl)) (g := (mkF m 36 #[vJ q9, vS, vI (4 : Int32)] [(.long q9)])) rfl (hb hby d35_36) _ ?_
   show SG p e below s₁ (mkF m 39 #[vJ q9, vS, vI (4 : Int32)] [(.long (10000 : Int64)), (.long q9)]) _
   refine XS.lcmp X0.here hx rfl (hb hby d35_39) rfl ?_
   show SG p e below s₁ (mkF m 40 #[vJ q9, vS, vI (4 : Int32)] [(.int (lcmpW q9 (10000 : Int64)))]) _
   refine XS.ifNo X0.here hx rfl (hb hby d35_40) rfl ((if0 _ _).trans (flt H3).1) ?_
   show SG p e below s₁ (mkF m 43 #[vJ q9, vS, vI (4 : Int32)] []) _
   refine XS.iinc X0.here hx rfl (hb hby d35_43) rfl (l' := #[vJ q9, vS, vI (5 : Int32)]) rfl ?_
   show SG p e below s₁ (mkF m 46 #[vJ q9, vS, vI (5 : Int32)] []) _
   refine XS.lloadN X0.here hx rfl (hb hby d35_46) rfl ?_
   show SG p e below s₁ (mkF m 47 #[vJ q9, vS, vI (5 : Int32)] [(.long q9)]) _
   refine X0.ldc2Long hx hown (mvT hZ (tw hw 214 rfl)) (g := (mkF m 47 #[vJ q9, vS, vI (5 : Int32)] [(.long q9)])) rfl (hb hby d35_47) _ ?_
   show SG p e below s₁ (mkF m 50 #[vJ q9, vS, vI (5 : Int32)] [(.long (100000 : Int64)), (.long q9)]) _
   refine XS.lcmp X0.here hx rfl (hb hby d35_50) rfl ?_
   show SG p e below s₁ (mkF m 51 #[vJ q9, vS, vI (5 : Int32)] [(.int (lcmpW q9 (100000 : Int64)))]) _
   refine XS.ifNo X0.here hx rfl (hb hby d35_51) rfl ((if0 _ _).trans (flt H4).1) ?_
   show SG p e below s₁ (mkF m 54 #[vJ q9, vS, vI (5 : Int32)] []) _
   refine XS.iinc X0.here hx rfl (hb hby d35_54) rfl (l' := #[vJ q9, vS, vI (6 : Int32)]) rfl ?_
   show SG p e below s₁ (mkF m 57 #[vJ q9, vS, vI (6 : Int32)] []) _
   refine XS.lloadN X0.here hx rfl (hb hby d35_57) rfl ?_
   show SG p e below s₁ (mkF m 58 #[vJ q9, vS, vI (6 : Int32)] [(.long q9)]) _
   refine X0.ldc2Long hx hown (mvT hZ (tw hw 215 rfl)) (g := (mkF m 58 #[vJ q9, vS, vI (6 : Int32)] [(.long q9)])) rfl (hb hby d35_58) _ ?_
   show SG p e below s₁ (mkF m 61 #[vJ q9, vS, vI (6 : Int32)] [(.long (1000000 : Int64)), (.long q9)]) _
   refine XS.lcmp X0.here hx rfl (hb hby d35_61) rfl ?_
   show SG p e below s₁ (mkF m 62 #[vJ q9, vS, vI (6 : Int32)] [(.int (lcmpW q9 (1000000 : Int64)))]) _
   refine XS.ifNo X0.here hx rfl (hb hby d35_62) rfl ((if0 _ _).trans (flt H5).1) ?_
   show SG p e below s₁ (mkF m 65 #[vJ q9, vS, vI (6 : Int32)] []) _
   refine XS.iinc X0.here hx rfl (hb hby d35_65) rfl (l' := #[vJ q9, vS, vI (7 : Int32)]) rfl ?_
   show SG p e below s₁ (mkF m 68 #[vJ q9, vS, vI (7 : Int32)] []) _
   refine XS.lloadN X0.here hx rfl (hb hby d35_68) rfl ?_
   show SG p e below s₁ (mkF m 69 #[vJ q9, vS, vI (7 : Int32)] [(.long q9)]) _
   refine X0.ldc2Long hx hown (mvT hZ (tw hw 216 rfl)) (g := (mkF m 69 #[vJ q9, vS, vI (7 : Int32)] [(.long q9)])) rfl (hb hby d35_69) _ ?_
   show SG p e below s₁ (mkF m 72 #[vJ q9, vS, vI (7 : Int32)] [(.long (10000000 : Int64)), (.long q9)]) _
   refine XS.lcmp X0.here hx rfl (hb hby d35_72) rfl ?_
   show SG p e below s₁ (mkF m 73 #[vJ q9, vS, vI (7 : Int32)] [(.int (lcmpW q9 (10000000 : Int64)))]) _
   refine XS.ifNo X0.here hx rfl (hb hby d35_73) rfl ((if0 _ _).trans (flt H6).1) ?_
   show SG p e below s₁ (mkF m 76 #[vJ q9, vS, vI (7 : Int32)] []) _
   refine XS.iinc X0.here hx rfl (hb hby d35_76) rfl (l' := #[vJ q9, vS, vI (8 : Int32)]) rfl ?_
   show SG p e below s₁ (mkF m 79 #[vJ q9, vS, vI (8 : Int32)] []) _
   refine XS.lloadN X0.here hx rfl (hb hby d35_79) rfl ?_
   show SG p e below s₁ (mkF m 80 #[vJ q9, vS, vI (8 : Int32)] [(.long q9)]) _
   refine X0.ldc2Long hx hown (mvT hZ (tw hw 217 rfl)) (g := (mkF m 80 #[vJ q9, vS, vI (8 : Int32)] [(.long q9)])) rfl (hb hby d35_80) _ ?_
   show SG p e below s₁ (mkF m 83 #[vJ q9, vS, vI (8 : Int32)] [(.long (100000000 : Int64)), (.long q9)]) _
   refine XS.lcmp X0.here hx rfl (hb hby d35_83) rfl ?_
   show SG p e below s₁ (mkF m 84 #[vJ q9, vS, vI (8 : Int32)] [(.int (lcmpW q9 (100000000 : Int64)))]) _
   refine XS.ifNo X0.here hx rfl (hb hby d35_84) rfl ((if0 _ _).trans (flt H7).1) ?_
   show SG p e below s₁ (mkF m 87 #[vJ q9, vS, vI (8 : Int32)] []) _
   refine XS.iinc X0.here hx rfl (hb hby d35_87) rfl (l' := #[vJ q9, vS, vI (9 : Int32)]) rfl ?_
   show SG p e below s₁ (mkF m 90 #[vJ q9, vS, vI (9 : Int32)] []) _
   refine XS.lloadN X0.here hx rfl (hb hby d35_90) rfl ?_
   show SG p e below s₁ (mkF m 91 #[vJ q9, vS, vI (9 : Int32)] [(.long q9)]) _
   refine X0.ldc2Long hx hown (mvT hZ (tw hw 218 rfl)) (g := (mkF m 91 #[vJ q9, vS, vI (9 : Int32)] [(.long q9)])) rfl (hb hby d35_91) _ ?_
   show SG p e below s₁ (mkF m 94 #[vJ q9, vS, vI (9 : Int32)] [(.long (1000000000 : Int64)), (.long q9)]) _
   refine XS.lcmp X0.here hx rfl (hb hby d35_94) rfl ?_
   show SG p e below s₁ (mkF m 95 #[vJ q9, vS, vI (9 : Int32)] [(.int (lcmpW q9 (1000000000 : Int64)))]) _
   refine XS.ifYes X0.here hx rfl (pc0 := 95) (pc' := 101) rfl (hb hby d35_95) rfl ((if0 _ _).trans (tlt H8).1) (by decide) (by decide) ?_
   show SG p e below s₁ (mkF m 101 #[vJ q9, vS, vI (9 : Int32)] []) _
   refine XS.iloadN X0.here hx rfl (hb hby d35_101) rfl ?_
   show SG p e below s₁ (mkF m 102 #[vJ q9, vS, vI (9 : Int32)] [(.int (9 : Int32))]) _
   exact retI X0 hx Bd.returns (hb hby d35_102) hr
 · show OQp (some (.int (9 : Int32))) h0 n0 _ s₁.heap _
   rw [e0]
   exact ⟨rfl, N0, rfl⟩
theorem d35_98 : decode method_3_code 98 = .ok (.iinc 2 1, 3) := by decide +kernel
theorem r35_10 (l : Launch) (Z : State) (a0 : Array Value) (hw : ∀ d ∈ tables_1, d.before a0 Z = true) (q10 : Int64) (h0 : Heap) (n0 : Nat) (Z0 : n0 ≤ h0.size) (H0 : ¬ ((lcmpW q10 (10 : Int64)) < (0 : Int32))) (H1 : ¬ ((lcmpW q10 (100 : Int64)) < (0 : Int32))) (H2 : ¬ ((lcmpW q10 (1000 : Int64)) < (0 : Int32))) (H3 : ¬ ((lcmpW q10 (10000 : Int64)) < (0 : Int32))) (H4 : ¬ ((lcmpW q10 (100000 : Int64)) < (0 : Int32))) (H5 : ¬ ((lcmpW q10 (1000000 : Int64)) < (0 : Int32))) (H6 : ¬ ((lcmpW q10 (10000000 : Int64)) < (0 : Int32))) (H7 : ¬ ((lcmpW q10 (100000000 : Int64)) < (0 : Int32))) (H8 : ¬ ((lcmpW q10 (1000000000 : Int64)) < (0 : Int32))) :
   OMet l Z mN1 method_3_code 3 (some .int) [] ({ frames := 0, cells := 0, slots := 0, locals := 0 } : Room) h0 #[(.long q10)] (OQp (some (.int (10 : Int32))) h0 n0) := by
 refine MetFree.of_bodySF (plainFor_of_name pn_com_example_tranchebook_tranchebook_CycleToStringPinLaw) hisR ?_
 intro p e s m args below meth c s₁ Bd hml0 hP hK
 obtain ⟨rfl, hZ, hh⟩ := hP
 have hx := Bd.exec
 have hby := Bd.bytes
 have hml : c.maxLocals = 3 := hml0
 have hown : s.vm.findClass "com/example/tranchebook/tranchebook/CycleToStringPinLaw" = some m.cls := findClass_of_methodNamed Bd.named
 have hnm := (name_of_methodNamed Bd.named Bd.method).1
 have X0 : Stand p l e ({ frames := 0, cells := 0, slots := 0, locals := 0 } : Room) s m #[(.long q10)] below meth c s₁ [] 0 0 := Stand.of_body Bd
 have e0 : s₁.heap = h0 := by rw [← hh, Bd.state]; rfl
 have N0 := Fr.nil n0
 have pre0 : ∀ t, Steps p.tables e below (s₁.setTop (mkF m 0 #[vJ q10, vS, .unset] [])) t → Steps p.tables e below (s₁.setTop (entryFrame m #[(.long q10)] 3)) t := fun t k => castTop (ef_35_v m q10) k

 obtain ⟨fs, hr, hrun, hended, hW, hsame⟩ := X0.leave (v := some (.int (10 : Int32))) (fun h => by rw [Bd.returns] at h; cases h)
 refine ⟨_, _, pre0 _ ?_, hrun, hended, _, _, rfl, ?_, ⟨_, rfl⟩, hW, hsame.mono (by decide) (by decide)⟩
 · show SG p e below s₁ (mkF m 0 #[vJ q10, vS, vU] []) _
   refine XS.iconst X0.here hx rfl (hb hby d35_0) ?_
   show SG p e below s₁ (mkF m 1 #[vJ q10, vS, vU] [(.int (1 : Int32))]) _
   refine XS.istoreN X0.here hx rfl (hb hby d35_1) rfl (l' := #[vJ q10, vS, vI (1 : Int32)]) rfl ?_
   show SG p e below s₁ (mkF m 2 #[vJ q10, vS, vI (1 : Int32)] []) _
   refine XS.lloadN X0.here hx rfl (hb hby d35_2) rfl ?_
   show SG p e below s₁ (mkF m 3 #[vJ q10, vS, vI (1 : Int32)] [(.long q10)]) _
   refine X0.ldc2Long hx hown (mvT hZ (tw hw 210 rfl)) (g := (mkF m 3 #[vJ q10, vS, vI (1 : Int32)] [(.long q10)])) rfl (hb hby d35_3) _ ?_
   show SG p e below s₁ (mkF m 6 #[vJ q10, vS, vI (1 : Int32)] [(.long (10 : Int64)), (.long q10)]) _
   refine XS.lcmp X0.here hx rfl (hb hby d35_6) rfl ?_
   show SG p e below s₁ (mkF m 7 #[vJ q10, vS, vI (1 : Int32)] [(.int (lcmpW q10 (10 : Int64)))]) _
   refine XS.ifNo X0.here hx rfl (hb hby d35_7) rfl ((if0 _ _).trans (flt H0).1) ?_
   show SG p e below s₁ (mkF m 10 #[vJ q10, vS, vI (1 : Int32)] []) _
   refine XS.iinc X0.here hx rfl (hb hby d35_10) rfl (l' := #[vJ q10, vS, vI (2 : Int32)]) rfl ?_
   show SG p e below s₁ (mkF m 13 #[vJ q10, vS, vI (2 : Int32)] []) _
   refine XS.lloadN X0.here hx rfl (hb hby d35_13) rfl ?_
   show SG p e below s₁ (mkF m 14 #[vJ q10, vS, vI (2 : Int32)] [(.long q10)]) _
   refine X0.ldc2Long hx hown (mvT hZ (tw hw 211 rfl)) (g := (mkF m 14 #[vJ q10, vS, vI (2 : Int32)] [(.long q10)])) rfl (hb hby d35_14) _ ?_
   show SG p e below s₁ (mkF m 17 #[vJ q10, vS, vI (2 : Int32)] [(.long (100 : Int64)), (.long q10)]) _
   refine XS.lcmp X0.here hx rfl (hb hby d35_17) rfl ?_
   show SG p e below s₁ (mkF m 18 #[vJ q10, vS, vI (2 : Int32)] [(.int (lcmpW q10 (100 : Int64)))]) _
   refine XS.ifNo X0.here hx rfl (hb hby d35_18) rfl ((if0 _ _).trans (flt H1).1) ?_
   show SG p e below s₁ (mkF m 21 #[vJ q10, vS, vI (2 : Int32)] []) _
   refine XS.iinc X0.here hx rfl (hb hby d35_21) rfl (l' := #[vJ q10, vS, vI (3 : Int32)]) rfl ?_
   show SG p e below s₁ (mkF m 24 #[vJ q10, vS, vI (3 : Int32)] []) _
   refine XS.lloadN X0.here hx rfl (hb hby d35_24) rfl ?_
   show SG p e below s₁ (mkF m 25 #[vJ q10, vS, vI (3 : Int32)] [(.long q10)]) _
   refine X0.ldc2Long hx hown (mvT hZ (tw hw 212 rfl)) (g := (mkF m 25 #[vJ q10, vS, vI (3 : Int32)] [(.long q10)])) rfl (hb hby d35_25) _ ?_
   show SG p e below s₁ (mkF m 28 #[vJ q10, vS, vI (3 : Int32)] [(.long (1000 : Int64)), (.long q10)]) _
   refine XS.lcmp X0.here hx rfl (hb hby d35_28) rfl ?_
   show SG p e below s₁ (mkF m 29 #[vJ q10, vS, vI (3 : Int32)] [(.int (lcmpW q10 (1000 : Int64)))]) _
   refine XS.ifNo X0.here hx rfl (hb hby d35_29) rfl ((if0 _ _).trans (flt H2).1) ?_
   show SG p e below s₁ (mkF m 32 #[vJ q10, vS, vI (3 : Int32)] []) _
   refine XS.iinc X0.here hx rfl (hb hby d35_32) rfl (l' := #[vJ q10, vS, vI (4 : Int32)]) rfl ?_
   show SG p e below s₁ (mkF m 35 #[vJ q10, vS, vI (4 : Int32)] []) _
   refine XS.lloadN X0.here hx rfl (hb hby d35_35) rfl ?_
   show SG p e below s₁ (mkF m 36 #[vJ q10, vS, vI (4 : Int32)] [(.long q10)]) _
   refine X0.ldc2Long hx hown (mvT hZ (tw hw 213 rfl)) (g := (mkF m 36 #[vJ q10, vS, vI (4 : Int32)] [(.long q10)])) rfl (hb hby d35_36) _ ?_
   show SG p e below s₁ (mkF m 39 #[vJ q10, vS, vI (4 : Int32)] [(.long (10000 : Int64)), (.long q10)]) _
   refine XS.lcmp X0.here hx rfl (hb hby d35_39) rfl ?_
   show SG p e below s₁ (mkF m 40 #[vJ q10, vS, vI (4 : Int32)] [(.int (lcmpW q10 (10000 : Int64)))]) _
   refine XS.ifNo X0.here hx rfl (hb hby d35_40) rfl ((if0 _ _).trans (flt H3).1) ?_
   show SG p e below s₁ (mkF m 43 #[vJ q10, vS, vI (4 : Int32)] []) _
   refine XS.iinc X0.here hx rfl (hb hby d35_43) rfl (l' := #[vJ q10, vS, vI (5 : Int32)]) rfl ?_
   show SG p e below s₁ (mkF m 46 #[vJ q10, vS, vI (5 : Int32)] []) _
   refine XS.lloadN X0.here hx rfl (hb hby d35_46) rfl ?_
   show SG p e below s₁ (mkF m 47 #[vJ q10, vS, vI (5 : Int32)] [(.long q10)]) _
   refine X0.ldc2Long hx hown (mvT hZ (tw hw 214 rfl)) (g := (mkF m 47 #[vJ q10, vS, vI (5 : Int32)] [(.long q10)])) rfl (hb hby d35_47) _ ?_
   show SG p e below s₁ (mkF m 50 #[vJ q10, vS, vI (5 : Int32)] [(.long (100000 : Int64)), (.long q10)]) _
   refine XS.lcmp X0.here hx rfl (hb hby d35_50) rfl ?_
   show SG p e below s₁ (mkF m 51 #[vJ q10, vS, vI (5 : Int32)] [(.int (lcmpW q10 (100000 : Int64)))]) _
   refine XS.ifNo X0.here hx rfl (hb hby d35_51) rfl ((if0 _ _).trans (flt H4).1) ?_
   show SG p e below s₁ (mkF m 54 #[vJ q10, vS, vI (5 : Int32)] []) _
   refine XS.iinc X0.here hx rfl (hb hby d35_54) rfl (l' := #[vJ q10, vS, vI (6 : Int32)]) rfl ?_
   show SG p e below s₁ (mkF m 57 #[vJ q10, vS, vI (6 : Int32)] []) _
   refine XS.lloadN X0.here hx rfl (hb hby d35_57) rfl ?_
   show SG p e below s₁ (mkF m 58 #[vJ q10, vS, vI (6 : Int32)] [(.long q10)]) _
   refine X0.ldc2Long hx hown (mvT hZ (tw hw 215 rfl)) (g := (mkF m 58 #[vJ q10, vS, vI (6 : Int32)] [(.long q10)])) rfl (hb hby d35_58) _ ?_
   show SG p e below s₁ (mkF m 61 #[vJ q10, vS, vI (6 : Int32)] [(.long (1000000 : Int64)), (.long q10)]) _
   refine XS.lcmp X0.here hx rfl (hb hby d35_61) rfl ?_
   show SG p e below s₁ (mkF m 62 #[vJ q10, vS, vI (6 : Int32)] [(.int (lcmpW q10 (1000000 : Int64)))]) _
   refine XS.ifNo X0.here hx rfl (hb hby d35_62) rfl ((if0 _ _).trans (flt H5).1) ?_
   show SG p e below s₁ (mkF m 65 #[vJ q10, vS, vI (6 : Int32)] []) _
   refine XS.iinc X0.here hx rfl (hb hby d35_65) rfl (l' := #[vJ q10, vS, vI (7 : Int32)]) rfl ?_
   show SG p e below s₁ (mkF m 68 #[vJ q10, vS, vI (7 : Int32)] []) _
   refine XS.lloadN X0.here hx rfl (hb hby d35_68) rfl ?_
   show SG p e below s₁ (mkF m 69 #[vJ q10, vS, vI (7 : Int32)] [(.long q10)]) _
   refine X0.ldc2Long hx hown (mvT hZ (tw hw 216 rfl)) (g := (mkF m 69 #[vJ q10, vS, vI (7 : Int32)] [(.long q10)])) rfl (hb hby d35_69) _ ?_
   show SG p e below s₁ (mkF m 72 #[vJ q10, vS, vI (7 : Int32)] [(.long (10000000 : Int64)), (.long q10)]) _
   refine XS.lcmp X0.here hx rfl (hb hby d35_72) rfl ?_
   show SG p e below s₁ (mkF m 73 #[vJ q10, vS, vI (7 : Int32)] [(.int (lcmpW q10 (10000000 : Int64)))]) _
   refine XS.ifNo X0.here hx rfl (hb hby d35_73) rfl ((if0 _ _).trans (flt H6).1) ?_
   show SG p e below s₁ (mkF m 76 #[vJ q10, vS, vI (7 : Int32)] []) _
   refine XS.iinc X0.here hx rfl (hb hby d35_76) rfl (l' := #[vJ q10, vS, vI (8 : Int32)]) rfl ?_
   show SG p e below s₁ (mkF m 79 #[vJ q10, vS, vI (8 : Int32)] []) _
   refine XS.lloadN X0.here hx rfl (hb hby d35_79) rfl ?_
   show SG p e below s₁ (mkF m 80 #[vJ q10, vS, vI (8 : Int32)] [(.long q10)]) _
   refine X0.ldc2Long hx hown (mvT hZ (tw hw 217 rfl)) (g := (mkF m 80 #[vJ q10, vS, vI (8 : Int32)] [(.long q10)])) rfl (hb hby d35_80) _ ?_
   show SG p e below s₁ (mkF m 83 #[vJ q10, vS, vI (8 : Int32)] [(.long (100000000 : Int64)), (.long q10)]) _
   refine XS.lcmp X0.here hx rfl (hb hby d35_83) rfl ?_
   show SG p e below s₁ (mkF m 84 #[vJ q10, vS, vI (8 : Int32)] [(.int (lcmpW q10 (100000000 : Int64)))]) _
   refine XS.ifNo X0.here hx rfl (hb hby d35_84) rfl ((if0 _ _).trans (flt H7).1) ?_
   show SG p e below s₁ (mkF m 87 #[vJ q10, vS, vI (8 : Int32)] []) _
   refine XS.iinc X0.here hx rfl (hb hby d35_87) rfl (l' := #[vJ q10, vS, vI (9 : Int32)]) rfl ?_
   show SG p e below s₁ (mkF m 90 #[vJ q10, vS, vI (9 : Int32)] []) _
   refine XS.lloadN X0.here hx rfl (hb hby d35_90) rfl ?_
   show SG p e below s₁ (mkF m 91 #[vJ q10, vS, vI (9 : Int32)] [(.long q10)]) _
   refine X0.ldc2Long hx hown (mvT hZ (tw hw 218 rfl)) (g := (mkF m 91 #[vJ q10, vS, vI (9 : Int32)] [(.long q10)])) rfl (hb hby d35_91) _ ?_
   show SG p e below s₁ (mkF m 94 #[vJ q10, vS, vI (9 : Int32)] [(.long (1000000000 : Int64)), (.long q10)]) _
   refine XS.lcmp X0.here hx rfl (hb hby d35_94) rfl ?_
   show SG p e below s₁ (mkF m 95 #[vJ q10, vS, vI (9 : Int32)] [(.int (lcmpW q10 (1000000000 : Int64)))]) _
   refine XS.ifNo X0.here hx rfl (hb hby d35_95) rfl ((if0 _ _).trans (flt H8).1) ?_
   show SG p e below s₁ (mkF m 98 #[vJ q10, vS, vI (9 : Int32)] []) _
   refine XS.iinc X0.here hx rfl (hb hby d35_98) rfl (l' := #[vJ q10, vS, vI (10 : Int32)]) rfl ?_
   show SG p e below s₁ (mkF m 101 #[vJ q10, vS, vI (10 : Int32)] []) _
   refine XS.iloadN X0.here hx rfl (hb hby d35_101) rfl ?_
   show SG p e below s₁ (mkF m 102 #[vJ q10, vS, vI (10 : Int32)] [(.int (10 : Int32))]) _
   exact retI X0 hx Bd.returns (hb hby d35_102) hr
 · show OQp (some (.int (10 : Int32))) h0 n0 _ s₁.heap _
   rw [e0]
   exact ⟨rfl, N0, rfl⟩
theorem own_dig (l : Launch) (Z : State) (a0 : Array Value) (hw : ∀ d ∈ tables_1, d.before a0 Z = true) (q : Int64) (h0 : Heap) (n0 : Nat) (Z0 : n0 ≤ h0.size) (hq : 0 ≤ q.toInt) :
   OMet l Z mN1 method_3_code 3 (some .int) [] ({ frames := 0, cells := 0, slots := 0, locals := 0 } : Room) h0 #[(.long q)] (OQp (some (.int (Int32.ofNat (SBG.digits (q).toInt.toNat)))) h0 n0) := by
 by_cases hh0 : q.toInt < 10
 · have e : SBG.digits q.toInt.toNat = 1 := by unfold SBG.digits; rw [if_pos (by omega)]
   rw [e]
   exact r35_1 l Z a0 hw q h0 n0 Z0 (own_lc (n := 10) (by decide) (by omega)) (own_lc (n := 100) (by decide) (by omega)) (own_lc (n := 1000) (by decide) (by omega)) (own_lc (n := 10000) (by decide) (by omega)) (own_lc (n := 100000) (by decide) (by omega)) (own_lc (n := 1000000) (by decide) (by omega)) (own_lc (n := 10000000) (by decide) (by omega)) (own_lc (n := 100000000) (by decide) (by omega)) (own_lc (n := 1000000000) (by decide) (by omega))
 by_cases hh1 : q.toInt < 100
 · have e : SBG.digits q.toInt.toNat = 2 := by unfold SBG.digits; rw [if_neg (by omega), if_pos (by omega)]
   rw [e]
   exact r35_2 l Z a0 hw q h0 n0 Z0 (own_lcn (n := 10) (by decide) (by omega)) (own_lc (n := 100) (by decide) (by omega)) (own_lc (n := 1000) (by decide) (by omega)) (own_lc (n := 10000) (by decide) (by omega)) (own_lc (n := 100000) (by decide) (by omega)) (own_lc (n := 1000000) (by decide) (by omega)) (own_lc (n := 10000000) (by decide) (by omega)) (own_lc (n := 100000000) (by decide) (by omega)) (own_lc (n := 1000000000) (by decide) (by omega))
 by_cases hh2 : q.toInt < 1000
 · have e : SBG.digits q.toInt.toNat = 3 := by unfold SBG.digits; rw [if_neg (by omega), if_neg (by omega), if_pos (by omega)]
   rw [e]
   exact r35_3 l Z a0 hw q h0 n0 Z0 (own_lcn (n := 10) (by decide) (by omega)) (own_lcn (n := 100) (by decide) (by omega)) (own_lc (n := 1000) (by decide) (by omega)) (own_lc (n := 10000) (by decide) (by omega)) (own_lc (n := 100000) (by decide) (by omega)) (own_lc (n := 1000000) (by decide) (by omega)) (own_lc (n := 10000000) (by decide) (by omega)) (own_lc (n := 100000000) (by decide) (by omega)) (own_lc (n := 1000000000) (by decide) (by omega))
 by_cases hh3 : q.toInt < 10000
 · have e : SBG.digits q.toInt.toNat = 4 := by unfold SBG.digits; rw [if_neg (by omega), if_neg (by omega), if_neg (by omega), if_pos (by omega)]
   rw [e]
   exact r35_4 l Z a0 hw q h0 n0 Z0 (own_lcn (n := 10) (by decide) (by omega)) (own_lcn (n := 100) (by decide) (by omega)) (own_lcn (n := 1000) (by decide) (by omega)) (own_lc (n := 10000) (by decide) (by omega)) (own_lc (n := 100000) (by decide) (by omega)) (own_lc (n := 1000000) (by decide) (by omega)) (own_lc (n := 10000000) (by decide) (by omega)) (own_lc (n := 100000000) (by decide) (by omega)) (own_lc (n := 1000000000) (by decide) (by omega))
 by_cases hh4 : q.toInt < 100000
 · have e : SBG.digits q.toInt.toNat = 5 := by unfold SBG.digits; rw [if_neg (by omega), if_neg (by omega), if_neg (by omega), if_neg (by omega), if_pos (by omega)]
   rw [e]
   exact r35_5 l Z a0 hw q h0 n0 Z0 (own_lcn (n := 10) (by decide) (by omega)) (own_lcn (n := 100) (by decide) (by omega)) (own_lcn (n := 1000) (by decide) (by omega)) (own_lcn (n := 10000) (by decide) (by omega)) (own_lc (n := 100000) (by decide) (by omega)) (own_lc (n := 1000000) (by decide) (by omega)) (own_lc (n := 10000000) (by decide) (by omega)) (own_lc (n := 100000000) (by decide) (by omega)) (own_lc (n := 1000000000) (by decide) (by omega))
 by_cases hh5 : q.toInt < 1000000
 · have e : SBG.digits q.toInt.toNat = 6 := by unfold SBG.digits; rw [if_neg (by omega), if_neg (by omega), if_neg (by omega), if_neg (by omega), if_neg (by omega), if_pos (by omega)]
   rw [e]
   exact r35_6 l Z a0 hw q h0 n0 Z0 (own_lcn (n := 10) (by decide) (by omega)) (own_lcn (n := 100) (by decide) (by omega)) (own_lcn (n := 1000) (by decide) (by omega)) (own_lcn (n := 10000) (by decide) (by omega)) (own_lcn (n := 100000) (by decide) (by omega)) (own_lc (n := 1000000) (by decide) (by omega)) (own_lc (n := 10000000) (by decide) (by omega)) (own_lc (n := 100000000) (by decide) (by omega)) (own_lc (n := 1000000000) (by decide) (by omega))
 by_cases hh6 : q.toInt < 10000000
 · have e : SBG.digits q.toInt.toNat = 7 := by unfold SBG.digits; rw [if_neg (by omega), if_neg (by omega), if_neg (by omega), if_neg (by omega), if_neg (by omega), if_neg (by omega), if_pos (by omega)]
   rw [e]
   exact r35_7 l Z a0 hw q h0 n0 Z0 (own_lcn (n := 10) (by decide) (by omega)) (own_lcn (n := 100) (by decide) (by omega)) (own_lcn (n := 1000) (by decide) (by omega)) (own_lcn (n := 10000) (by decide) (by omega)) (own_lcn (n := 100000) (by decide) (by omega)) (own_lcn (n := 1000000) (by decide) (by omega)) (own_lc (n := 10000000) (by decide) (by omega)) (own_lc (n := 100000000) (by decide) (by omega)) (own_lc (n := 1000000000) (by decide) (by omega))
 by_cases hh7 : q.toInt < 100000000
 · have e : SBG.digits q.toInt.toNat = 8 := by unfold SBG.digits; rw [if_neg (by omega), if_neg (by omega), if_neg (by omega), if_neg (by omega), if_neg (by omega), if_neg (by omega), if_neg (by omega), if_pos (by omega)]
   rw [e]
   exact r35_8 l Z a0 hw q h0 n0 Z0 (own_lcn (n := 10) (by decide) (by omega)) (own_lcn (n := 100) (by decide) (by omega)) (own_lcn (n := 1000) (by decide) (by omega)) (own_lcn (n := 10000) (by decide) (by omega)) (own_lcn (n := 100000) (by decide) (by omega)) (own_lcn (n := 1000000) (by decide) (by omega)) (own_lcn (n := 10000000) (by decide) (by omega)) (own_lc (n := 100000000) (by decide) (by omega)) (own_lc (n := 1000000000) (by decide) (by omega))
 by_cases hh8 : q.toInt < 1000000000
 · have e : SBG.digits q.toInt.toNat = 9 := by unfold SBG.digits; rw [if_neg (by omega), if_neg (by omega), if_neg (by omega), if_neg (by omega), if_neg (by omega), if_neg (by omega), if_neg (by omega), if_neg (by omega), if_pos (by omega)]
   rw [e]
   exact r35_9 l Z a0 hw q h0 n0 Z0 (own_lcn (n := 10) (by decide) (by omega)) (own_lcn (n := 100) (by decide) (by omega)) (own_lcn (n := 1000) (by decide) (by omega)) (own_lcn (n := 10000) (by decide) (by omega)) (own_lcn (n := 100000) (by decide) (by omega)) (own_lcn (n := 1000000) (by decide) (by omega)) (own_lcn (n := 10000000) (by decide) (by omega)) (own_lcn (n := 100000000) (by decide) (by omega)) (own_lc (n := 1000000000) (by decide) (by omega))
 have e : SBG.digits q.toInt.toNat = 10 := by unfold SBG.digits; rw [if_neg (by omega), if_neg (by omega), if_neg (by omega), if_neg (by omega), if_neg (by omega), if_neg (by omega), if_neg (by omega), if_neg (by omega), if_neg (by omega)]
 rw [e]
 exact r35_10 l Z a0 hw q h0 n0 Z0 (own_lcn (n := 10) (by decide) (by omega)) (own_lcn (n := 100) (by decide) (by omega)) (own_lcn (n := 1000) (by decide) (by omega)) (own_lcn (n := 10000) (by decide) (by omega)) (own_lcn (n := 100000) (by decide) (by omega)) (own_lcn (n := 1000000) (by decide) (by omega)) (own_lcn (n := 10000000) (by decide) (by omega)) (own_lcn (n := 100000000) (by decide) (by omega)) (own_lcn (n := 1000000000) (by decide) (by omega))
theorem d36_0 : decode jdk_42_method_56_code 0 = .ok (.aload_n 0, 1) := by decide +kernel
theorem d36_1 : decode jdk_42_method_56_code 1 = .ok (.invokevirtual 492, 3) := by decide +kernel
theorem d37_0 : decode jdk_42_method_154_code 0 = .ok (.getstatic 38, 3) := by decide +kernel
theorem d37_3 : decode jdk_42_method_154_code 3 = .ok (.ifCond .eq 14, 3) := by decide +kernel
theorem d37_6 : decode jdk_42_method_154_code 6 = .ok (.aload_n 0, 1) := by decide +kernel
theorem d37_7 : decode jdk_42_method_154_code 7 = .ok (.getfield 15, 3) := by decide +kernel
theorem d37_10 : decode jdk_42_method_154_code 10 = .ok (.ifCond .ne 7, 3) := by decide +kernel
theorem d37_13 : decode jdk_42_method_154_code 13 = .ok (.iconst 1, 1) := by decide +kernel
theorem d37_14 : decode jdk_42_method_154_code 14 = .ok (.goto 4, 3) := by decide +kernel
theorem d37_18 : decode jdk_42_method_154_code 18 = .ok (.ireturn, 1) := by decide +kernel
theorem pn_java_lang_String : plainName "java/lang/String" = true := by first | (simp [plainName, overriddenIn]; done) | decide +kernel
theorem ef_37_v (m : MethodId) (x0 : Addr) : entryFrame m #[(.ref x0)] 1 = mkF m 0 #[.val (.ref x0)] [] := by first | (simp [entryFrame, mkF, argsToLocals, Value.category]; done) | rfl
theorem r37_1 (l : Launch) (Z : State) (a0 : Array Value) (hw : ∀ d ∈ tables_1, d.before a0 Z = true) (a13 : Addr) (w14 : Int32) (w16 : Int32) (h0 : Heap) (n0 : Nat) (Z0 : n0 ≤ h0.size) (H0 : Sta Z h0 "java/lang/String" "COMPACT_STRINGS" "Z" (.int w14)) (H1 : ¬ (w14 = (0 : Int32))) (H2 : Fld Z h0 a13 "java/lang/String" "coder" "B" (.int w16)) (H3 : w16 = (0 : Int32)) :
   OMet l Z mN2 jdk_42_method_154_code 1 (some .boolean) [] ({ frames := 0, cells := 0, slots := 0, locals := 0 } : Room) h0 #[(.ref a13)] (OQp (some (.int (1 : Int32))) h0 n0) := by
 refine MetFree.of_bodySF (plainFor_of_name pn_java_lang_String) hisR ?_
 intro p e s m args below meth c s₁ Bd hml0 hP hK
 obtain ⟨rfl, hZ, hh⟩ := hP
 have hx := Bd.exec
 have hby := Bd.bytes
 have hml : c.maxLocals = 1 := hml0
 have hown : s.vm.findClass "java/lang/String" = some m.cls := findClass_of_methodNamed Bd.named
 have hnm := (name_of_methodNamed Bd.named Bd.method).1
 have X0 : Stand p l e ({ frames := 0, cells := 0, slots := 0, locals := 0 } : Room) s m #[(.ref a13)] below meth c s₁ [] 0 0 := Stand.of_body Bd
 have e0 : s₁.heap = h0 := by rw [← hh, Bd.state]; rfl
 have N0 := Fr.nil n0
 have pre0 : ∀ t, Steps p.tables e below (s₁.setTop (mkF m 0 #[vR a13] [])) t → Steps p.tables e below (s₁.setTop (entryFrame m #[(.ref a13)] 1)) t := fun t k => castTop (ef_37_v m a13) k
 obtain ⟨T15, X15, e15, st15⟩ := getS2 X0 hx hZ hown (host := "") (Or.inl (tw hw 85 rfl)) Via.refl e0 H0 (g := (mkF m 0 #[vR a13] [])) rfl (hb hby d37_0)
 obtain ⟨T17, X17, e17, st17⟩ := getF X15 hx hZ hown (host := "") (Or.inl (tw hw 86 rfl)) Via.refl e15 H2 (g := (mkF m 7 #[vR a13] [(.ref a13)])) rfl rfl (hb hby d37_7)
 obtain ⟨fs, hr, hrun, hended, hW, hsame⟩ := X17.leave (v := some (.int (1 : Int32))) (fun h => by rw [Bd.returns] at h; cases h)
 refine ⟨_, _, pre0 _ ?_, hrun, hended, _, _, rfl, ?_, ⟨_, rfl⟩, hW, hsame.mono (by decide) (by decide)⟩
 · show SG p e below s₁ (mkF m 0 #[vR a13] []) _
   refine st15 _ ?_
   show SG p e below T15 (mkF m 3 #[vR a13] [(.int w14)]) _
   refine XS.ifNo X15.here hx rfl (hb hby d37_3) rfl ((if0 _ _).trans (feq H1).1) ?_
   show SG p e below T15 (mkF m 6 #[vR a13] []) _
   refine XS.aloadN X15.here hx rfl (hb hby d37_6) rfl rfl ?_
   show SG p e below T15 (mkF m 7 #[vR a13] [(.ref a13)]) _
   refine st17 _ ?_
   show SG p e below T17 (mkF m 10 #[vR a13] [(.int w16)]) _
   refine XS.ifNo X17.here hx rfl (hb hby d37_10) rfl ((if0 _ _).trans (teq H3).2) ?_
   show SG p e below T17 (mkF m 13 #[vR a13] []) _
   refine XS.iconst X17.here hx rfl (hb hby d37_13) ?_
   show SG p e below T17 (mkF m 14 #[vR a13] [(.int (1 : Int32))]) _
   refine XS.goto X17.here hx rfl (pc0 := 14) (pc' := 18) rfl (hb hby d37_14) (by decide) (by decide) ?_
   show SG p e below T17 (mkF m 18 #[vR a13] [(.int (1 : Int32))]) _
   exact retN X17 hx (t := .boolean) Bd.returns (by simp) (hb hby d37_18) hr
 · show OQp (some (.int (1 : Int32))) h0 n0 _ T17.heap _
   rw [e17]
   exact ⟨rfl, N0, rfl⟩
theorem pd_0 : parseMethodDescriptor "()Z" = some ⟨[], some .boolean⟩ := by decide +kernel
theorem d36_4 : decode jdk_42_method_56_code 4 = .ok (.ifCond .eq 12, 3) := by decide +kernel
theorem d36_7 : decode jdk_42_method_56_code 7 = .ok (.aload_n 0, 1) := by decide +kernel
theorem d36_8 : decode jdk_42_method_56_code 8 = .ok (.getfield 9, 3) := by decide +kernel
theorem d36_11 : decode jdk_42_method_56_code 11 = .ok (.iload_n 1, 1) := by decide +kernel
theorem d36_12 : decode jdk_42_method_56_code 12 = .ok (.invokestatic 495, 3) := by decide +kernel
theorem d38_0 : decode jdk_43_method_2_code 0 = .ok (.iload_n 1, 1) := by decide +kernel
theorem d38_1 : decode jdk_43_method_2_code 1 = .ok (.aload_n 0, 1) := by decide +kernel
theorem d38_2 : decode jdk_43_method_2_code 2 = .ok (.arraylength, 1) := by decide +kernel
theorem d38_3 : decode jdk_43_method_2_code 3 = .ok (.invokestatic 9, 3) := by decide +kernel
theorem d39_0 : decode jdk_42_method_155_code 0 = .ok (.iload_n 0, 1) := by decide +kernel
theorem d39_1 : decode jdk_42_method_155_code 1 = .ok (.iload_n 1, 1) := by decide +kernel
theorem d39_2 : decode jdk_42_method_155_code 2 = .ok (.getstatic 1053, 3) := by decide +kernel
theorem d39_5 : decode jdk_42_method_155_code 5 = .ok (.invokestatic 1059, 3) := by decide +kernel
theorem d40_0 : decode jdk_41_method_11_code 0 = .ok (.iload_n 0, 1) := by decide +kernel
theorem d40_1 : decode jdk_41_method_11_code 1 = .ok (.ifCond .lt 8, 3) := by decide +kernel
theorem d40_4 : decode jdk_41_method_11_code 4 = .ok (.iload_n 0, 1) := by decide +kernel
theorem d40_5 : decode jdk_41_method_11_code 5 = .ok (.iload_n 1, 1) := by decide +kernel
theorem d40_6 : decode jdk_41_method_11_code 6 = .ok (.if_icmp .lt 10, 3) := by decide +kernel
theorem d40_16 : decode jdk_41_method_11_code 16 = .ok (.iload_n 0, 1) := by decide +kernel
theorem d40_17 : decode jdk_41_method_11_code 17 = .ok (.ireturn, 1) := by decide +kernel
theorem pn_jdk_internal_util_Preconditions : plainName "jdk/internal/util/Preconditions" = true := by first | (simp [plainName, overriddenIn]; done) | decide +kernel
theorem ef_40_vvn (m : MethodId) (x0 : Int32) (x1 : Int32) : entryFrame m #[(.int x0), (.int x1), .null] 3 = mkF m 0 #[.val (.int x0), .val (.int x1), .val .null] [] := by first | (simp [entryFrame, mkF, argsToLocals, Value.category]; done) | rfl
theorem r40_1 (l : Launch) (Z : State) (a0 : Array Value) (hw : ∀ d ∈ tables_1, d.before a0 Z = true) (p32 : Int32) (p33 : Int32) (h0 : Heap) (n0 : Nat) (Z0 : n0 ≤ h0.size) (H0 : ¬ (p32 < (0 : Int32))) (H1 : p32 < p33) :
   OMet l Z mN3 jdk_41_method_11_code 3 (some .int) [] ({ frames := 0, cells := 0, slots := 0, locals := 0 } : Room) h0 #[(.int p32), (.int p33), .null] (OQp (some (.int p32)) h0 n0) := by
 refine MetFree.of_bodySF (plainFor_of_name pn_jdk_internal_util_Preconditions) hisR ?_
 intro p e s m args below meth c s₁ Bd hml0 hP hK
 obtain ⟨rfl, hZ, hh⟩ := hP
 have hx := Bd.exec
 have hby := Bd.bytes
 have hml : c.maxLocals = 3 := hml0
 have hown : s.vm.findClass "jdk/internal/util/Preconditions" = some m.cls := findClass_of_methodNamed Bd.named
 have hnm := (name_of_methodNamed Bd.named Bd.method).1
 have X0 : Stand p l e ({ frames := 0, cells := 0, slots := 0, locals := 0 } : Room) s m #[(.int p32), (.int p33), .null] below meth c s₁ [] 0 0 := Stand.of_body Bd
 have e0 : s₁.heap = h0 := by rw [← hh, Bd.state]; rfl
 have N0 := Fr.nil n0
 have pre0 : ∀ t, Steps p.tables e below (s₁.setTop (mkF m 0 #[vI p32, vI p33, .val .null] [])) t → Steps p.tables e below (s₁.setTop (entryFrame m #[(.int p32), (.int p33), .null] 3)) t := fun t k => castTop (ef_40_vvn m p32 p33) k

 obtain ⟨fs, hr, hrun, hended, hW, hsame⟩ := X0.leave (v := some (.int p32)) (fun h => by rw [Bd.returns] at h; cases h)
 refine ⟨_, _, pre0 _ ?_, hrun, hended, _, _, rfl, ?_, ⟨_, rfl⟩, hW, hsame.mono (by decide) (by decide)⟩
 · show SG p e below s₁ (mkF m 0 #[vI p32, vI p33, .val .null] []) _
   refine XS.iloadN X0.here hx rfl (hb hby d40_0) rfl ?_
   show SG p e below s₁ (mkF m 1 #[vI p32, vI p33, .val .null] [(.int p32)]) _
   refine XS.ifNo X0.here hx rfl (hb hby d40_1) rfl ((if0 _ _).trans (flt H0).1) ?_
   show SG p e below s₁ (mkF m 4 #[vI p32, vI p33, .val .null] []) _
   refine XS.iloadN X0.here hx rfl (hb hby d40_4) rfl ?_
   show SG p e below s₁ (mkF m 5 #[vI p32, vI p33, .val .null] [(.int p32)]) _
   refine XS.iloadN X0.here hx rfl (hb hby d40_5) rfl ?_
   show SG p e below s₁ (mkF m 6 #[vI p32, vI p33, .val .null] [(.int p33), (.int p32)]) _
   refine XS.icmpYes X0.here hx rfl (pc0 := 6) (pc' := 16) rfl (hb hby d40_6) rfl (tlt H1).1 (by decide) (by decide) ?_
   show SG p e below s₁ (mkF m 16 #[vI p32, vI p33, .val .null] []) _
   refine XS.iloadN X0.here hx rfl (hb hby d40_16) rfl ?_
   show SG p e below s₁ (mkF m 17 #[vI p32, vI p33, .val .null] [(.int p32)]) _
   exact retI X0 hx Bd.returns (hb hby d40_17) hr
 · show OQp (some (.int p32)) h0 n0 _ s₁.heap _
   rw [e0]
   exact ⟨rfl, N0, rfl⟩
theorem pd_1 : parseMethodDescriptor "(IILjava/util/function/BiFunction;)I" = some ⟨[.int, .int, (.object "java/util/function/BiFunction")], some .int⟩ := by decide +kernel
theorem d39_8 : decode jdk_42_method_155_code 8 = .ok (.pop, 1) := by decide +kernel
theorem d39_9 : decode jdk_42_method_155_code 9 = .ok (.return_, 1) := by decide +kernel
theorem ef_39_vv (m : MethodId) (x0 : Int32) (x1 : Int32) : entryFrame m #[(.int x0), (.int x1)] 2 = mkF m 0 #[.val (.int x0), .val (.int x1)] [] := by first | (simp [entryFrame, mkF, argsToLocals, Value.category]; done) | rfl
theorem r39_1 (l : Launch) (Z : State) (a0 : Array Value) (hw : ∀ d ∈ tables_1, d.before a0 Z = true) (p29 : Int32) (p30 : Int32) (h0 : Heap) (n0 : Nat) (Z0 : n0 ≤ h0.size) (H0 : Sta Z h0 "jdk/internal/util/Preconditions" "SIOOBE_FORMATTER" "Ljava/util/function/BiFunction;" .null) (H1 : ¬ (p29 < (0 : Int32))) (H2 : p29 < p30) :
   OMet l Z mN4 jdk_42_method_155_code 2 none [] ({ frames := 1, cells := 0, slots := 0, locals := 14 } : Room) h0 #[(.int p29), (.int p30)] (OQp (none) h0 n0) := by
 refine MetFree.of_bodySF (plainFor_of_name pn_java_lang_String) hisR ?_
 intro p e s m args below meth c s₁ Bd hml0 hP hK
 obtain ⟨rfl, hZ, hh⟩ := hP
 have hx := Bd.exec
 have hby := Bd.bytes
 have hml : c.maxLocals = 2 := hml0
 have hown : s.vm.findClass "java/lang/String" = some m.cls := findClass_of_methodNamed Bd.named
 have hnm := (name_of_methodNamed Bd.named Bd.method).1
 have X0 : Stand p l e ({ frames := 1, cells := 0, slots := 0, locals := 14 } : Room) s m #[(.int p29), (.int p30)] below meth c s₁ [] 0 0 := Stand.of_body Bd
 have e0 : s₁.heap = h0 := by rw [← hh, Bd.state]; rfl
 have N0 := Fr.nil n0
 have pre0 : ∀ t, Steps p.tables e below (s₁.setTop (mkF m 0 #[vI p29, vI p30] [])) t → Steps p.tables e below (s₁.setTop (entryFrame m #[(.int p29), (.int p30)] 2)) t := fun t k => castTop (ef_39_vv m p29 p30) k
 obtain ⟨T31, X31, e31, st31⟩ := getS2 X0 hx hZ hown (host := "") (Or.inl (tw hw 236 rfl)) Via.refl e0 H0 (g := (mkF m 2 #[vI p29, vI p30] [(.int p30), (.int p29)])) rfl (hb hby d39_2)
 obtain ⟨_, _, ⟨T34, L34, k34, n34⟩, -, X34, ⟨Lc34, hQ34, l34, y34, z34⟩, st34⟩ := Jvm.LawKit.callS X31 hx (y := mN3) hown (mvT hZ (tw hw 238 rfl)) (mvT hZ (tw hw 239 rfl)) (mvT hZ (tw hw 237 rfl)) (mvT hZ (tw hw 240 rfl)) (by decide) (backOf (W := 0) (r40_1 l Z a0 hw p29 p30 h0 n0 Z0 H1 H2) hZ (tw hw 240 rfl) (tw hw 237 rfl) (by decide) (by decide)) (g := (mkF m 5 #[vI p29, vI p30] [.null, (.int p30), (.int p29)])) rfl (by rw [hml]; rfl) (argsL := [(.int p29), (.int p30), .null]) (rest := []) (lenOf pd_1 rfl) rfl (own_w _) (hb hby d39_5) (fun _ _ => ⟨rfl, e31, (by decide : 0 + 0 ≤ _), (by decide : 0 + 0 ≤ _)⟩)
 dsimp only [Pt.U, Pt.locs, Pt.cells, Pt.slots] at X34 l34 y34 z34 st34 hQ34
 replace X34 := own_mvX X34 (a := 0) (b := 0) y34 z34
 obtain ⟨rfl, N34q, e34⟩ := hQ34
 have N34 := own_mvN l34 N0 N34q
 obtain ⟨fs, hr, hrun, hended, hW, hsame⟩ := X34.leave (v := none) (fun _ => rfl)
 refine ⟨_, _, pre0 _ ?_, hrun, hended, _, _, rfl, ?_, ⟨_, rfl⟩, hW, hsame.mono (by decide) (by decide)⟩
 · show SG p e below s₁ (mkF m 0 #[vI p29, vI p30] []) _
   refine XS.iloadN X0.here hx rfl (hb hby d39_0) rfl ?_
   show SG p e below s₁ (mkF m 1 #[vI p29, vI p30] [(.int p29)]) _
   refine XS.iloadN X0.here hx rfl (hb hby d39_1) rfl ?_
   show SG p e below s₁ (mkF m 2 #[vI p29, vI p30] [(.int p30), (.int p29)]) _
   refine st31 _ ?_
   show SG p e below T31 (mkF m 5 #[vI p29, vI p30] [.null, (.int p30), (.int p29)]) _
   refine st34 _ ?_
   show SG p e below T34 (mkF m 8 #[vI p29, vI p30] [(.int p29)]) _
   refine XS.pop X34.here hx rfl (hb hby d39_8) rfl rfl ?_
   show SG p e below T34 (mkF m 9 #[vI p29, vI p30] []) _
   exact X34.returnOut hx Bd.returns (hb hby d39_9) hr
 · show OQp (none) h0 n0 _ T34.heap _
   rw [e34]
   exact ⟨rfl, N34, rfl⟩
theorem pd_2 : parseMethodDescriptor "(II)V" = some ⟨[.int, .int], none⟩ := by decide +kernel
theorem d38_6 : decode jdk_43_method_2_code 6 = .ok (.aload_n 0, 1) := by decide +kernel
theorem d38_7 : decode jdk_43_method_2_code 7 = .ok (.iload_n 1, 1) := by decide +kernel
theorem d38_8 : decode jdk_43_method_2_code 8 = .ok (.baload, 1) := by decide +kernel
theorem d38_9 : decode jdk_43_method_2_code 9 = .ok (.sipush 255, 3) := by decide +kernel
theorem d38_12 : decode jdk_43_method_2_code 12 = .ok (.iand, 1) := by decide +kernel
theorem d38_13 : decode jdk_43_method_2_code 13 = .ok (.i2c, 1) := by decide +kernel
theorem d38_14 : decode jdk_43_method_2_code 14 = .ok (.ireturn, 1) := by decide +kernel
theorem pn_java_lang_StringLatin1 : plainName "java/lang/StringLatin1" = true := by first | (simp [plainName, overriddenIn]; done) | decide +kernel
theorem ef_38_vv (m : MethodId) (x0 : Addr) (x1 : Int32) : entryFrame m #[(.ref x0), (.int x1)] 2 = mkF m 0 #[.val (.ref x0), .val (.int x1)] [] := by first | (simp [entryFrame, mkF, argsToLocals, Value.category]; done) | rfl
theorem r38_1 (l : Launch) (Z : State) (a0 : Array Value) (hw : ∀ d ∈ tables_1, d.before a0 Z = true) (a23 : Addr) (p24 : Int32) (k25 : ClassId) (u26 : Nat → Int32) (p27 : Int32) (h0 : Heap) (n0 : Nat) (Z0 : n0 ≤ h0.size) (H0 : BA Z h0 a23 k25 .byte p27 u26) (H1 : Sta Z h0 "jdk/internal/util/Preconditions" "SIOOBE_FORMATTER" "Ljava/util/function/BiFunction;" .null) (H2 : ¬ (p24 < (0 : Int32))) (H3 : p24 < p27) (H4 : nar .char (((u26 (p24).toNatClampNeg) &&& (255 : Int32)).toUInt32.toUInt16.toUInt32.toInt32) = (((u26 (p24).toNatClampNeg) &&& (255 : Int32)).toUInt32.toUInt16.toUInt32.toInt32)) :
   OMet l Z mN5 jdk_43_method_2_code 2 (some .char) [] ({ frames := 2, cells := 0, slots := 0, locals := 27 } : Room) h0 #[(.ref a23), (.int p24)] (OQp (some (.int (((u26 (p24).toNatClampNeg) &&& (255 : Int32)).toUInt32.toUInt16.toUInt32.toInt32))) h0 n0) := by
 refine MetFree.of_bodySF (plainFor_of_name pn_java_lang_StringLatin1) hisR ?_
 intro p e s m args below meth c s₁ Bd hml0 hP hK
 obtain ⟨rfl, hZ, hh⟩ := hP
 have hx := Bd.exec
 have hby := Bd.bytes
 have hml : c.maxLocals = 2 := hml0
 have hown : s.vm.findClass "java/lang/StringLatin1" = some m.cls := findClass_of_methodNamed Bd.named
 have hnm := (name_of_methodNamed Bd.named Bd.method).1
 have X0 : Stand p l e ({ frames := 2, cells := 0, slots := 0, locals := 27 } : Room) s m #[(.ref a23), (.int p24)] below meth c s₁ [] 0 0 := Stand.of_body Bd
 have e0 : s₁.heap = h0 := by rw [← hh, Bd.state]; rfl
 have N0 := Fr.nil n0
 have pre0 : ∀ t, Steps p.tables e below (s₁.setTop (mkF m 0 #[vR a23, vI p24] [])) t → Steps p.tables e below (s₁.setTop (entryFrame m #[(.ref a23), (.int p24)] 2)) t := fun t k => castTop (ef_38_vv m a23 p24) k
 have vc28 := H0
 obtain ⟨cl28, Ar28, q28, S28, N28, Hh28, G28⟩ := vc28
 obtain ⟨_, _, ⟨T35, L35, k35, n35⟩, -, X35, ⟨Lc35, hQ35, l35, y35, z35⟩, st35⟩ := Jvm.LawKit.callS X0 hx (y := mN4) hown (mvT hZ (tw hw 233 rfl)) (mvT hZ (tw hw 234 rfl)) (mvT hZ (tw hw 52 rfl)) (mvT hZ (tw hw 235 rfl)) (by decide) (backOf (W := 0) (r39_1 l Z a0 hw p24 p27 h0 n0 Z0 H1 H2 H3) hZ (tw hw 235 rfl) (tw hw 52 rfl) (by decide) (by decide)) (g := (mkF m 3 #[vR a23, vI p24] [(.int p27), (.int p24)])) rfl (by rw [hml]; rfl) (argsL := [(.int p24), (.int p27)]) (rest := []) (lenOf pd_2 rfl) rfl (own_w _) (hb hby d38_3) (fun _ _ => ⟨rfl, e0, (by decide : 0 + 0 ≤ _), (by decide : 0 + 0 ≤ _)⟩)
 dsimp only [Pt.U, Pt.locs, Pt.cells, Pt.slots] at X35 l35 y35 z35 st35 hQ35
 replace X35 := own_mvX X35 (a := 0) (b := 0) y35 z35
 obtain ⟨rfl, N35q, e35⟩ := hQ35
 have N35 := own_mvN l35 N0 N35q
 have vc36 := H0
 obtain ⟨cl36, Ar36, q36, S36, N36, Hh36, G36⟩ := vc36
 have hin36 : ¬ (p24 < 0 ∨ cl36.slots.size ≤ (p24).toNatClampNeg) := inb_of S36 ⟨H2, H3⟩
 have hat36 : cl36.slots[(p24).toNatClampNeg]? = some (.int (u26 (p24).toNatClampNeg)) := Hh36 _ (Nat.lt_of_not_le fun y => hin36 (Or.inr y))
 obtain ⟨fs, hr, hrun, hended, hW, hsame⟩ := X35.leave (v := some (.int (((u26 (p24).toNatClampNeg) &&& (255 : Int32)).toUInt32.toUInt16.toUInt32.toInt32))) (fun h => by rw [Bd.returns] at h; cases h)
 refine ⟨_, _, pre0 _ ?_, hrun, hended, _, _, rfl, ?_, ⟨_, rfl⟩, hW, hsame.mono (by decide) (by decide)⟩
 · show SG p e below s₁ (mkF m 0 #[vR a23, vI p24] []) _
   refine XS.iloadN X0.here hx rfl (hb hby d38_0) rfl ?_
   show SG p e below s₁ (mkF m 1 #[vR a23, vI p24] [(.int p24)]) _
   refine XS.aloadN X0.here hx rfl (hb hby d38_1) rfl rfl ?_
   show SG p e below s₁ (mkF m 2 #[vR a23, vI p24] [(.ref a23), (.int p24)]) _
   refine X0.arraylength hx (by rw [e0]; exact Ar28.1) (State.isArrayOf_alike hZ.alike Ar28.2.1) (g := (mkF m 2 #[vR a23, vI p24] [(.ref a23), (.int p24)])) rfl rfl (hb hby d38_2) _ ?_
   rw [len_of S28 N28]
   show SG p e below s₁ (mkF m 3 #[vR a23, vI p24] [(.int p27), (.int p24)]) _
   refine st35 _ ?_
   show SG p e below T35 (mkF m 6 #[vR a23, vI p24] []) _
   refine XS.aloadN X35.here hx rfl (hb hby d38_6) rfl rfl ?_
   show SG p e below T35 (mkF m 7 #[vR a23, vI p24] [(.ref a23)]) _
   refine XS.iloadN X35.here hx rfl (hb hby d38_7) rfl ?_
   show SG p e below T35 (mkF m 8 #[vR a23, vI p24] [(.int p24), (.ref a23)]) _
   refine X35.baloadBytes hx (j := p24) (v := (.int (u26 (p24).toNatClampNeg))) (by rw [e35]; exact Ar36.1) (State.isArrayOf_alike hZ.alike Ar36.2.1) Ar36.2.2 hin36 hat36 (g := (mkF m 8 #[vR a23, vI p24] [(.int p24), (.ref a23)])) rfl rfl (hb hby d38_8) _ ?_
   show SG p e below T35 (mkF m 9 #[vR a23, vI p24] [(.int (u26 (p24).toNatClampNeg))]) _
   refine XS.sipush X35.here hx rfl (hb hby d38_9) ?_
   show SG p e below T35 (mkF m 12 #[vR a23, vI p24] [(.int (255 : Int32)), (.int (u26 (p24).toNatClampNeg))]) _
   refine XS.iand X35.here hx rfl (hb hby d38_12) rfl ?_
   show SG p e below T35 (mkF m 13 #[vR a23, vI p24] [(.int ((u26 (p24).toNatClampNeg) &&& (255 : Int32)))]) _
   refine XS.i2c X35.here hx rfl (hb hby d38_13) rfl ?_
   show SG p e below T35 (mkF m 14 #[vR a23, vI p24] [(.int (((u26 (p24).toNatClampNeg) &&& (255 : Int32)).toUInt32.toUInt16.toUInt32.toInt32))]) _
   exact retN X35 hx (t := .char) Bd.returns (by simp) (hb hby d38_14) (by rw [H4]; exact hr)
 · show OQp (some (.int (((u26 (p24).toNatClampNeg) &&& (255 : Int32)).toUInt32.toUInt16.toUInt32.toInt32))) h0 n0 _ T35.heap _
   rw [e35]
   exact ⟨rfl, N35, rfl⟩
theorem pd_3 : parseMethodDescriptor "([BI)C" = some ⟨[(.array .byte), .int], some .char⟩ := by decide +kernel
theorem d36_15 : decode jdk_42_method_56_code 15 = .ok (.ireturn, 1) := by decide +kernel
theorem ef_36_vv (m : MethodId) (x0 : Addr) (x1 : Int32) : entryFrame m #[(.ref x0), (.int x1)] 2 = mkF m 0 #[.val (.ref x0), .val (.int x1)] [] := by first | (simp [entryFrame, mkF, argsToLocals, Value.category]; done) | rfl
theorem r36_1 (l : Launch) (Z : State) (a0 : Array Value) (hw : ∀ d ∈ tables_1, d.before a0 Z = true) (a11 : Addr) (p12 : Int32) (w19 : Int32) (w20 : Int32) (w21 : Addr) (k38 : ClassId) (u39 : Nat → Int32) (p40 : Int32) (h0 : Heap) (n0 : Nat) (Z0 : n0 ≤ h0.size) (H0 : Sta Z h0 "java/lang/String" "COMPACT_STRINGS" "Z" (.int w19)) (H1 : ¬ (w19 = (0 : Int32))) (H2 : Fld Z h0 a11 "java/lang/String" "coder" "B" (.int w20)) (H3 : w20 = (0 : Int32)) (H4 : Exa Z h0 a11 "java/lang/String") (H5 : Fld Z h0 a11 "java/lang/String" "value" "[B" (.ref w21)) (H6 : BA Z h0 w21 k38 .byte p40 u39) (H7 : Sta Z h0 "jdk/internal/util/Preconditions" "SIOOBE_FORMATTER" "Ljava/util/function/BiFunction;" .null) (H8 : ¬ (p12 < (0 : Int32))) (H9 : p12 < p40) (H10 : nar .char (((u39 (p12).toNatClampNeg) &&& (255 : Int32)).toUInt32.toUInt16.toUInt32.toInt32) = (((u39 (p12).toNatClampNeg) &&& (255 : Int32)).toUInt32.toUInt16.toUInt32.toInt32)) :
   OMet l Z mN6 jdk_42_method_56_code 2 (some .char) [] ({ frames := 3, cells := 0, slots := 0, locals := 40 } : Room) h0 #[(.ref a11), (.int p12)] (OQp (some (.int (((u39 (p12).toNatClampNeg) &&& (255 : Int32)).toUInt32.toUInt16.toUInt32.toInt32))) h0 n0) := by
 refine MetFree.of_bodySF (plainFor_of_name pn_java_lang_String) hisR ?_
 intro p e s m args below meth c s₁ Bd hml0 hP hK
 obtain ⟨rfl, hZ, hh⟩ := hP
 have hx := Bd.exec
 have hby := Bd.bytes
 have hml : c.maxLocals = 2 := hml0
 have hown : s.vm.findClass "java/lang/String" = some m.cls := findClass_of_methodNamed Bd.named
 have hnm := (name_of_methodNamed Bd.named Bd.method).1
 have X0 : Stand p l e ({ frames := 3, cells := 0, slots := 0, locals := 40 } : Room) s m #[(.ref a11), (.int p12)] below meth c s₁ [] 0 0 := Stand.of_body Bd
 have e0 : s₁.heap = h0 := by rw [← hh, Bd.state]; rfl
 have N0 := Fr.nil n0
 have pre0 : ∀ t, Steps p.tables e below (s₁.setTop (mkF m 0 #[vR a11, vI p12] [])) t → Steps p.tables e below (s₁.setTop (entryFrame m #[(.ref a11), (.int p12)] 2)) t := fun t k => castTop (ef_36_vv m a11 p12) k
 obtain ⟨cq18, kq18, q18a, q18b, q18c⟩ := isOf hZ e0 H4
 obtain ⟨_, _, ⟨T18, L18, k18, n18⟩, -, X18, ⟨Lc18, hQ18, l18, y18, z18⟩, st18⟩ := X0.virtualBack hx (y := mN2) (z := mN2) hown (mvT hZ (tw hw 225 rfl)) (mvT hZ (tw hw 226 rfl)) (notFace_of_selects (args := #[]) (mvT hZ (tw hw 228 rfl))) (mvT hZ (tw hw 228 rfl)) (mvT hZ (tw hw 227 rfl)) (by decide) (backOf (W := 0) (r37_1 l Z a0 hw a11 w19 w20 h0 n0 Z0 H0 H1 H2 H3) hZ (tw hw 229 rfl) (tw hw 52 rfl) (by decide) (by decide)) q18a q18c (g := (mkF m 1 #[vR a11, vI p12] [(.ref a11)])) rfl (by rw [hml]; rfl) (Steps.refl _) (argsL := []) (rest := []) (lenOf pd_0 rfl) rfl (own_w _) (hb hby d36_1) (fun _ _ => ⟨rfl, e0, (by decide : 0 + 0 ≤ _), (by decide : 0 + 0 ≤ _)⟩)
 dsimp only [Pt.U, Pt.locs, Pt.cells, Pt.slots] at X18 l18 y18 z18 st18 hQ18
 replace X18 := own_mvX X18 (a := 0) (b := 0) y18 z18
 obtain ⟨rfl, N18q, e18⟩ := hQ18
 have N18 := own_mvN l18 N0 N18q
 obtain ⟨T22, X22, e22, st22⟩ := getF X18 hx hZ hown (host := "") (Or.inl (tw hw 79 rfl)) Via.refl e18 H5 (g := (mkF m 8 #[vR a11, vI p12] [(.ref a11)])) rfl rfl (hb hby d36_8)
 obtain ⟨_, _, ⟨T37, L37, k37, n37⟩, -, X37, ⟨Lc37, hQ37, l37, y37, z37⟩, st37⟩ := Jvm.LawKit.callS X22 hx (y := mN5) hown (mvT hZ (tw hw 230 rfl)) (mvT hZ (tw hw 231 rfl)) (mvT hZ (tw hw 154 rfl)) (mvT hZ (tw hw 232 rfl)) (by decide) (backOf (W := 0) (r38_1 l Z a0 hw w21 p12 k38 u39 p40 h0 n0 Z0 H6 H7 H8 H9 H10) hZ (tw hw 232 rfl) (tw hw 154 rfl) (by decide) (by decide)) (g := (mkF m 12 #[vR a11, vI p12] [(.int p12), (.ref w21)])) rfl (by rw [hml]; rfl) (argsL := [(.ref w21), (.int p12)]) (rest := []) (lenOf pd_3 rfl) rfl (own_w _) (hb hby d36_12) (fun _ _ => ⟨rfl, e22, (by decide : 0 + 0 ≤ _), (by decide : 0 + 0 ≤ _)⟩)
 dsimp only [Pt.U, Pt.locs, Pt.cells, Pt.slots] at X37 l37 y37 z37 st37 hQ37
 replace X37 := own_mvX X37 (a := 0) (b := 0) y37 z37
 obtain ⟨rfl, N37q, e37⟩ := hQ37
 have N37 := own_mvN l37 N18 N37q
 obtain ⟨fs, hr, hrun, hended, hW, hsame⟩ := X37.leave (v := some (.int (((u39 (p12).toNatClampNeg) &&& (255 : Int32)).toUInt32.toUInt16.toUInt32.toInt32))) (fun h => by rw [Bd.returns] at h; cases h)
 refine ⟨_, _, pre0 _ ?_, hrun, hended, _, _, rfl, ?_, ⟨_, rfl⟩, hW, hsame.mono (by decide) (by decide)⟩
 · show SG p e below s₁ (mkF m 0 #[vR a11, vI p12] []) _
   refine XS.aloadN X0.here hx rfl (hb hby d36_0) rfl rfl ?_
   show SG p e below s₁ (mkF m 1 #[vR a11, vI p12] [(.ref a11)]) _
   refine st18.trans ?_
   show SG p e below T18 (mkF m 4 #[vR a11, vI p12] [(.int (1 : Int32))]) _
   refine XS.ifNo X18.here hx rfl (hb hby d36_4) rfl ((if0 _ _).trans (feq (by decide : ¬ ((1 : Int32) = (0 : Int32)))).1) ?_
   show SG p e below T18 (mkF m 7 #[vR a11, vI p12] []) _
   refine XS.aloadN X18.here hx rfl (hb hby d36_7) rfl rfl ?_
   show SG p e below T18 (mkF m 8 #[vR a11, vI p12] [(.ref a11)]) _
   refine st22 _ ?_
   show SG p e below T22 (mkF m 11 #[vR a11, vI p12] [(.ref w21)]) _
   refine XS.iloadN X22.here hx rfl (hb hby d36_11) rfl ?_
   show SG p e below T22 (mkF m 12 #[vR a11, vI p12] [(.int p12), (.ref w21)]) _
   refine st37 _ ?_
   show SG p e below T37 (mkF m 15 #[vR a11, vI p12] [(.int (((u39 (p12).toNatClampNeg) &&& (255 : Int32)).toUInt32.toUInt16.toUInt32.toInt32))]) _
   exact retN X37 hx (t := .char) Bd.returns (by simp) (hb hby d36_15) (by rw [H10]; exact hr)
 · show OQp (some (.int (((u39 (p12).toNatClampNeg) &&& (255 : Int32)).toUInt32.toUInt16.toUInt32.toInt32))) h0 n0 _ T37.heap _
   rw [e37]
   exact ⟨rfl, N37, rfl⟩
theorem ef_40_vvv (m : MethodId) (x0 : Int32) (x1 : Int32) (x2 : Addr) : entryFrame m #[(.int x0), (.int x1), (.ref x2)] 3 = mkF m 0 #[.val (.int x0), .val (.int x1), .val (.ref x2)] [] := by first | (simp [entryFrame, mkF, argsToLocals, Value.category]; done) | rfl
theorem r40_2 (l : Launch) (Z : State) (a0 : Array Value) (hw : ∀ d ∈ tables_1, d.before a0 Z = true) (p63 : Int32) (p64 : Int32) (a65 : Addr) (h0 : Heap) (n0 : Nat) (Z0 : n0 ≤ h0.size) (H0 : ¬ (p63 < (0 : Int32))) (H1 : p63 < p64) :
   OMet l Z mN3 jdk_41_method_11_code 3 (some .int) [] ({ frames := 0, cells := 0, slots := 0, locals := 0 } : Room) h0 #[(.int p63), (.int p64), (.ref a65)] (OQp (some (.int p63)) h0 n0) := by
 refine MetFree.of_bodySF (plainFor_of_name pn_jdk_internal_util_Preconditions) hisR ?_
 intro p e s m args below meth c s₁ Bd hml0 hP hK
 obtain ⟨rfl, hZ, hh⟩ := hP
 have hx := Bd.exec
 have hby := Bd.bytes
 have hml : c.maxLocals = 3 := hml0
 have hown : s.vm.findClass "jdk/internal/util/Preconditions" = some m.cls := findClass_of_methodNamed Bd.named
 have hnm := (name_of_methodNamed Bd.named Bd.method).1
 have X0 : Stand p l e ({ frames := 0, cells := 0, slots := 0, locals := 0 } : Room) s m #[(.int p63), (.int p64), (.ref a65)] below meth c s₁ [] 0 0 := Stand.of_body Bd
 have e0 : s₁.heap = h0 := by rw [← hh, Bd.state]; rfl
 have N0 := Fr.nil n0
 have pre0 : ∀ t, Steps p.tables e below (s₁.setTop (mkF m 0 #[vI p63, vI p64, vR a65] [])) t → Steps p.tables e below (s₁.setTop (entryFrame m #[(.int p63), (.int p64), (.ref a65)] 3)) t := fun t k => castTop (ef_40_vvv m p63 p64 a65) k

 obtain ⟨fs, hr, hrun, hended, hW, hsame⟩ := X0.leave (v := some (.int p63)) (fun h => by rw [Bd.returns] at h; cases h)
 refine ⟨_, _, pre0 _ ?_, hrun, hended, _, _, rfl, ?_, ⟨_, rfl⟩, hW, hsame.mono (by decide) (by decide)⟩
 · show SG p e below s₁ (mkF m 0 #[vI p63, vI p64, vR a65] []) _
   refine XS.iloadN X0.here hx rfl (hb hby d40_0) rfl ?_
   show SG p e below s₁ (mkF m 1 #[vI p63, vI p64, vR a65] [(.int p63)]) _
   refine XS.ifNo X0.here hx rfl (hb hby d40_1) rfl ((if0 _ _).trans (flt H0).1) ?_
   show SG p e below s₁ (mkF m 4 #[vI p63, vI p64, vR a65] []) _
   refine XS.iloadN X0.here hx rfl (hb hby d40_4) rfl ?_
   show SG p e below s₁ (mkF m 5 #[vI p63, vI p64, vR a65] [(.int p63)]) _
   refine XS.iloadN X0.here hx rfl (hb hby d40_5) rfl ?_
   show SG p e below s₁ (mkF m 6 #[vI p63, vI p64, vR a65] [(.int p64), (.int p63)]) _
   refine XS.icmpYes X0.here hx rfl (pc0 := 6) (pc' := 16) rfl (hb hby d40_6) rfl (tlt H1).1 (by decide) (by decide) ?_
   show SG p e below s₁ (mkF m 16 #[vI p63, vI p64, vR a65] []) _
   refine XS.iloadN X0.here hx rfl (hb hby d40_16) rfl ?_
   show SG p e below s₁ (mkF m 17 #[vI p63, vI p64, vR a65] [(.int p63)]) _
   exact retI X0 hx Bd.returns (hb hby d40_17) hr
 · show OQp (some (.int p63)) h0 n0 _ s₁.heap _
   rw [e0]
   exact ⟨rfl, N0, rfl⟩
theorem r39_2 (l : Launch) (Z : State) (a0 : Array Value) (hw : ∀ d ∈ tables_1, d.before a0 Z = true) (p59 : Int32) (p60 : Int32) (w61 : Addr) (h0 : Heap) (n0 : Nat) (Z0 : n0 ≤ h0.size) (H0 : Sta Z h0 "jdk/internal/util/Preconditions" "SIOOBE_FORMATTER" "Ljava/util/function/BiFunction;" (.ref w61)) (H1 : ¬ (p59 < (0 : Int32))) (H2 : p59 < p60) :
   OMet l Z mN4 jdk_42_method_155_code 2 none [] ({ frames := 1, cells := 0, slots := 0, locals := 14 } : Room) h0 #[(.int p59), (.int p60)] (OQp (none) h0 n0) := by
 refine MetFree.of_bodySF (plainFor_of_name pn_java_lang_String) hisR ?_
 intro p e s m args below meth c s₁ Bd hml0 hP hK
 obtain ⟨rfl, hZ, hh⟩ := hP
 have hx := Bd.exec
 have hby := Bd.bytes
 have hml : c.maxLocals = 2 := hml0
 have hown : s.vm.findClass "java/lang/String" = some m.cls := findClass_of_methodNamed Bd.named
 have hnm := (name_of_methodNamed Bd.named Bd.method).1
 have X0 : Stand p l e ({ frames := 1, cells := 0, slots := 0, locals := 14 } : Room) s m #[(.int p59), (.int p60)] below meth c s₁ [] 0 0 := Stand.of_body Bd
 have e0 : s₁.heap = h0 := by rw [← hh, Bd.state]; rfl
 have N0 := Fr.nil n0
 have pre0 : ∀ t, Steps p.tables e below (s₁.setTop (mkF m 0 #[vI p59, vI p60] [])) t → Steps p.tables e below (s₁.setTop (entryFrame m #[(.int p59), (.int p60)] 2)) t := fun t k => castTop (ef_39_vv m p59 p60) k
 obtain ⟨T62, X62, e62, st62⟩ := getS2 X0 hx hZ hown (host := "") (Or.inl (tw hw 236 rfl)) Via.refl e0 H0 (g := (mkF m 2 #[vI p59, vI p60] [(.int p60), (.int p59)])) rfl (hb hby d39_2)
 obtain ⟨_, _, ⟨T66, L66, k66, n66⟩, -, X66, ⟨Lc66, hQ66, l66, y66, z66⟩, st66⟩ := Jvm.LawKit.callS X62 hx (y := mN3) hown (mvT hZ (tw hw 238 rfl)) (mvT hZ (tw hw 239 rfl)) (mvT hZ (tw hw 237 rfl)) (mvT hZ (tw hw 240 rfl)) (by decide) (backOf (W := 0) (r40_2 l Z a0 hw p59 p60 w61 h0 n0 Z0 H1 H2) hZ (tw hw 240 rfl) (tw hw 237 rfl) (by decide) (by decide)) (g := (mkF m 5 #[vI p59, vI p60] [(.ref w61), (.int p60), (.int p59)])) rfl (by rw [hml]; rfl) (argsL := [(.int p59), (.int p60), (.ref w61)]) (rest := []) (lenOf pd_1 rfl) rfl (own_w _) (hb hby d39_5) (fun _ _ => ⟨rfl, e62, (by decide : 0 + 0 ≤ _), (by decide : 0 + 0 ≤ _)⟩)
 dsimp only [Pt.U, Pt.locs, Pt.cells, Pt.slots] at X66 l66 y66 z66 st66 hQ66
 replace X66 := own_mvX X66 (a := 0) (b := 0) y66 z66
 obtain ⟨rfl, N66q, e66⟩ := hQ66
 have N66 := own_mvN l66 N0 N66q
 obtain ⟨fs, hr, hrun, hended, hW, hsame⟩ := X66.leave (v := none) (fun _ => rfl)
 refine ⟨_, _, pre0 _ ?_, hrun, hended, _, _, rfl, ?_, ⟨_, rfl⟩, hW, hsame.mono (by decide) (by decide)⟩
 · show SG p e below s₁ (mkF m 0 #[vI p59, vI p60] []) _
   refine XS.iloadN X0.here hx rfl (hb hby d39_0) rfl ?_
   show SG p e below s₁ (mkF m 1 #[vI p59, vI p60] [(.int p59)]) _
   refine XS.iloadN X0.here hx rfl (hb hby d39_1) rfl ?_
   show SG p e below s₁ (mkF m 2 #[vI p59, vI p60] [(.int p60), (.int p59)]) _
   refine st62 _ ?_
   show SG p e below T62 (mkF m 5 #[vI p59, vI p60] [(.ref w61), (.int p60), (.int p59)]) _
   refine st66 _ ?_
   show SG p e below T66 (mkF m 8 #[vI p59, vI p60] [(.int p59)]) _
   refine XS.pop X66.here hx rfl (hb hby d39_8) rfl rfl ?_
   show SG p e below T66 (mkF m 9 #[vI p59, vI p60] []) _
   exact X66.returnOut hx Bd.returns (hb hby d39_9) hr
 · show OQp (none) h0 n0 _ T66.heap _
   rw [e66]
   exact ⟨rfl, N66, rfl⟩
theorem r38_2 (l : Launch) (Z : State) (a0 : Array Value) (hw : ∀ d ∈ tables_1, d.before a0 Z = true) (a53 : Addr) (p54 : Int32) (k55 : ClassId) (u56 : Nat → Int32) (p57 : Int32) (w68 : Addr) (h0 : Heap) (n0 : Nat) (Z0 : n0 ≤ h0.size) (H0 : BA Z h0 a53 k55 .byte p57 u56) (H1 : Sta Z h0 "jdk/internal/util/Preconditions" "SIOOBE_FORMATTER" "Ljava/util/function/BiFunction;" (.ref w68)) (H2 : ¬ (p54 < (0 : Int32))) (H3 : p54 < p57) (H4 : nar .char (((u56 (p54).toNatClampNeg) &&& (255 : Int32)).toUInt32.toUInt16.toUInt32.toInt32) = (((u56 (p54).toNatClampNeg) &&& (255 : Int32)).toUInt32.toUInt16.toUInt32.toInt32)) :
   OMet l Z mN5 jdk_43_method_2_code 2 (some .char) [] ({ frames := 2, cells := 0, slots := 0, locals := 27 } : Room) h0 #[(.ref a53), (.int p54)] (OQp (some (.int (((u56 (p54).toNatClampNeg) &&& (255 : Int32)).toUInt32.toUInt16.toUInt32.toInt32))) h0 n0) := by
 refine MetFree.of_bodySF (plainFor_of_name pn_java_lang_StringLatin1) hisR ?_
 intro p e s m args below meth c s₁ Bd hml0 hP hK
 obtain ⟨rfl, hZ, hh⟩ := hP
 have hx := Bd.exec
 have hby := Bd.bytes
 have hml : c.maxLocals = 2 := hml0
 have hown : s.vm.findClass "java/lang/StringLatin1" = some m.cls := findClass_of_methodNamed Bd.named
 have hnm := (name_of_methodNamed Bd.named Bd.method).1
 have X0 : Stand p l e ({ frames := 2, cells := 0, slots := 0, locals := 27 } : Room) s m #[(.ref a53), (.int p54)] below meth c s₁ [] 0 0 := Stand.of_body Bd
 have e0 : s₁.heap = h0 := by rw [← hh, Bd.state]; rfl
 have N0 := Fr.nil n0
 have pre0 : ∀ t, Steps p.tables e below (s₁.setTop (mkF m 0 #[vR a53, vI p54] [])) t → Steps p.tables e below (s₁.setTop (entryFrame m #[(.ref a53), (.int p54)] 2)) t := fun t k => castTop (ef_38_vv m a53 p54) k
 have vc58 := H0
 obtain ⟨cl58, Ar58, q58, S58, N58, Hh58, G58⟩ := vc58
 obtain ⟨_, _, ⟨T67, L67, k67, n67⟩, -, X67, ⟨Lc67, hQ67, l67, y67, z67⟩, st67⟩ := Jvm.LawKit.callS X0 hx (y := mN4) hown (mvT hZ (tw hw 233 rfl)) (mvT hZ (tw hw 234 rfl)) (mvT hZ (tw hw 52 rfl)) (mvT hZ (tw hw 235 rfl)) (by decide) (backOf (W := 0) (r39_2 l Z a0 hw p54 p57 w68 h0 n0 Z0 H1 H2 H3) hZ (tw hw 235 rfl) (tw hw 52 rfl) (by decide) (by decide)) (g := (mkF m 3 #[vR a53, vI p54] [(.int p57), (.int p54)])) rfl (by rw [hml]; rfl) (argsL := [(.int p54), (.int p57)]) (rest := []) (lenOf pd_2 rfl) rfl (own_w _) (hb hby d38_3) (fun _ _ => ⟨rfl, e0, (by decide : 0 + 0 ≤ _), (by decide : 0 + 0 ≤ _)⟩)
 dsimp only [Pt.U, Pt.locs, Pt.cells, Pt.slots] at X67 l67 y67 z67 st67 hQ67
 replace X67 := own_mvX X67 (a := 0) (b := 0) y67 z67
 obtain ⟨rfl, N67q, e67⟩ := hQ67
 have N67 := own_mvN l67 N0 N67q
 have vc69 := H0
 obtain ⟨cl69, Ar69, q69, S69, N69, Hh69, G69⟩ := vc69
 have hin69 : ¬ (p54 < 0 ∨ cl69.slots.size ≤ (p54).toNatClampNeg) := inb_of S69 ⟨H2, H3⟩
 have hat69 : cl69.slots[(p54).toNatClampNeg]? = some (.int (u56 (p54).toNatClampNeg)) := Hh69 _ (Nat.lt_of_not_le fun y => hin69 (Or.inr y))
 obtain ⟨fs, hr, hrun, hended, hW, hsame⟩ := X67.leave (v := some (.int (((u56 (p54).toNatClampNeg) &&& (255 : Int32)).toUInt32.toUInt16.toUInt32.toInt32))) (fun h => by rw [Bd.returns] at h; cases h)
 refine ⟨_, _, pre0 _ ?_, hrun, hended, _, _, rfl, ?_, ⟨_, rfl⟩, hW, hsame.mono (by decide) (by decide)⟩
 · show SG p e below s₁ (mkF m 0 #[vR a53, vI p54] []) _
   refine XS.iloadN X0.here hx rfl (hb hby d38_0) rfl ?_
   show SG p e below s₁ (mkF m 1 #[vR a53, vI p54] [(.int p54)]) _
   refine XS.aloadN X0.here hx rfl (hb hby d38_1) rfl rfl ?_
   show SG p e below s₁ (mkF m 2 #[vR a53, vI p54] [(.ref a53), (.int p54)]) _
   refine X0.arraylength hx (by rw [e0]; exact Ar58.1) (State.isArrayOf_alike hZ.alike Ar58.2.1) (g := (mkF m 2 #[vR a53, vI p54] [(.ref a53), (.int p54)])) rfl rfl (hb hby d38_2) _ ?_
   rw [len_of S58 N58]
   show SG p e below s₁ (mkF m 3 #[vR a53, vI p54] [(.int p57), (.int p54)]) _
   refine st67 _ ?_
   show SG p e below T67 (mkF m 6 #[vR a53, vI p54] []) _
   refine XS.aloadN X67.here hx rfl (hb hby d38_6) rfl rfl ?_
   show SG p e below T67 (mkF m 7 #[vR a53, vI p54] [(.ref a53)]) _
   refine XS.iloadN X67.here hx rfl (hb hby d38_7) rfl ?_
   show SG p e below T67 (mkF m 8 #[vR a53, vI p54] [(.int p54), (.ref a53)]) _
   refine X67.baloadBytes hx (j := p54) (v := (.int (u56 (p54).toNatClampNeg))) (by rw [e67]; exact Ar69.1) (State.isArrayOf_alike hZ.alike Ar69.2.1) Ar69.2.2 hin69 hat69 (g := (mkF m 8 #[vR a53, vI p54] [(.int p54), (.ref a53)])) rfl rfl (hb hby d38_8) _ ?_
   show SG p e below T67 (mkF m 9 #[vR a53, vI p54] [(.int (u56 (p54).toNatClampNeg))]) _
   refine XS.sipush X67.here hx rfl (hb hby d38_9) ?_
   show SG p e below T67 (mkF m 12 #[vR a53, vI p54] [(.int (255 : Int32)), (.int (u56 (p54).toNatClampNeg))]) _
   refine XS.iand X67.here hx rfl (hb hby d38_12) rfl ?_
   show SG p e below T67 (mkF m 13 #[vR a53, vI p54] [(.int ((u56 (p54).toNatClampNeg) &&& (255 : Int32)))]) _
   refine XS.i2c X67.here hx rfl (hb hby d38_13) rfl ?_
   show SG p e below T67 (mkF m 14 #[vR a53, vI p54] [(.int (((u56 (p54).toNatClampNeg) &&& (255 : Int32)).toUInt32.toUInt16.toUInt32.toInt32))]) _
   exact retN X67 hx (t := .char) Bd.returns (by simp) (hb hby d38_14) (by rw [H4]; exact hr)
 · show OQp (some (.int (((u56 (p54).toNatClampNeg) &&& (255 : Int32)).toUInt32.toUInt16.toUInt32.toInt32))) h0 n0 _ T67.heap _
   rw [e67]
   exact ⟨rfl, N67, rfl⟩
theorem r36_2 (l : Launch) (Z : State) (a0 : Array Value) (hw : ∀ d ∈ tables_1, d.before a0 Z = true) (a41 : Addr) (p42 : Int32) (w49 : Int32) (w50 : Int32) (w51 : Addr) (k71 : ClassId) (u72 : Nat → Int32) (p73 : Int32) (w74 : Addr) (h0 : Heap) (n0 : Nat) (Z0 : n0 ≤ h0.size) (H0 : Sta Z h0 "java/lang/String" "COMPACT_STRINGS" "Z" (.int w49)) (H1 : ¬ (w49 = (0 : Int32))) (H2 : Fld Z h0 a41 "java/lang/String" "coder" "B" (.int w50)) (H3 : w50 = (0 : Int32)) (H4 : Exa Z h0 a41 "java/lang/String") (H5 : Fld Z h0 a41 "java/lang/String" "value" "[B" (.ref w51)) (H6 : BA Z h0 w51 k71 .byte p73 u72) (H7 : Sta Z h0 "jdk/internal/util/Preconditions" "SIOOBE_FORMATTER" "Ljava/util/function/BiFunction;" (.ref w74)) (H8 : ¬ (p42 < (0 : Int32))) (H9 : p42 < p73) (H10 : nar .char (((u72 (p42).toNatClampNeg) &&& (255 : Int32)).toUInt32.toUInt16.toUInt32.toInt32) = (((u72 (p42).toNatClampNeg) &&& (255 : Int32)).toUInt32.toUInt16.toUInt32.toInt32)) :
   OMet l Z mN6 jdk_42_method_56_code 2 (some .char) [] ({ frames := 3, cells := 0, slots := 0, locals := 40 } : Room) h0 #[(.ref a41), (.int p42)] (OQp (some (.int (((u72 (p42).toNatClampNeg) &&& (255 : Int32)).toUInt32.toUInt16.toUInt32.toInt32))) h0 n0) := by
 refine MetFree.of_bodySF (plainFor_of_name pn_java_lang_String) hisR ?_
 intro p e s m args below meth c s₁ Bd hml0 hP hK
 obtain ⟨rfl, hZ, hh⟩ := hP
 have hx := Bd.exec
 have hby := Bd.bytes
 have hml : c.maxLocals = 2 := hml0
 have hown : s.vm.findClass "java/lang/String" = some m.cls := findClass_of_methodNamed Bd.named
 have hnm := (name_of_methodNamed Bd.named Bd.method).1
 have X0 : Stand p l e ({ frames := 3, cells := 0, slots := 0, locals := 40 } : Room) s m #[(.ref a41), (.int p42)] below meth c s₁ [] 0 0 := Stand.of_body Bd
 have e0 : s₁.heap = h0 := by rw [← hh, Bd.state]; rfl
 have N0 := Fr.nil n0
 have pre0 : ∀ t, Steps p.tables e below (s₁.setTop (mkF m 0 #[vR a41, vI p42] [])) t → Steps p.tables e below (s₁.setTop (entryFrame m #[(.ref a41), (.int p42)] 2)) t := fun t k => castTop (ef_36_vv m a41 p42) k
 obtain ⟨cq48, kq48, q48a, q48b, q48c⟩ := isOf hZ e0 H4
 obtain ⟨_, _, ⟨T48, L48, k48, n48⟩, -, X48, ⟨Lc48, hQ48, l48, y48, z48⟩, st48⟩ := X0.virtualBack hx (y := mN2) (z := mN2) hown (mvT hZ (tw hw 225 rfl)) (mvT hZ (tw hw 226 rfl)) (notFace_of_selects (args := #[]) (mvT hZ (tw hw 228 rfl))) (mvT hZ (tw hw 228 rfl)) (mvT hZ (tw hw 227 rfl)) (by decide) (backOf (W := 0) (r37_1 l Z a0 hw a41 w49 w50 h0 n0 Z0 H0 H1 H2 H3) hZ (tw hw 229 rfl) (tw hw 52 rfl) (by decide) (by decide)) q48a q48c (g := (mkF m 1 #[vR a41, vI p42] [(.ref a41)])) rfl (by rw [hml]; rfl) (Steps.refl _) (argsL := []) (rest := []) (lenOf pd_0 rfl) rfl (own_w _) (hb hby d36_1) (fun _ _ => ⟨rfl, e0, (by decide : 0 + 0 ≤ _), (by decide : 0 + 0 ≤ _)⟩)
 dsimp only [Pt.U, Pt.locs, Pt.cells, Pt.slots] at X48 l48 y48 z48 st48 hQ48
 replace X48 := own_mvX X48 (a := 0) (b := 0) y48 z48
 obtain ⟨rfl, N48q, e48⟩ := hQ48
 have N48 := own_mvN l48 N0 N48q
 obtain ⟨T52, X52, e52, st52⟩ := getF X48 hx hZ hown (host := "") (Or.inl (tw hw 79 rfl)) Via.refl e48 H5 (g := (mkF m 8 #[vR a41, vI p42] [(.ref a41)])) rfl rfl (hb hby d36_8)
 obtain ⟨_, _, ⟨T70, L70, k70, n70⟩, -, X70, ⟨Lc70, hQ70, l70, y70, z70⟩, st70⟩ := Jvm.LawKit.callS X52 hx (y := mN5) hown (mvT hZ (tw hw 230 rfl)) (mvT hZ (tw hw 231 rfl)) (mvT hZ (tw hw 154 rfl)) (mvT hZ (tw hw 232 rfl)) (by decide) (backOf (W := 0) (r38_2 l Z a0 hw w51 p42 k71 u72 p73 w74 h0 n0 Z0 H6 H7 H8 H9 H10) hZ (tw hw 232 rfl) (tw hw 154 rfl) (by decide) (by decide)) (g := (mkF m 12 #[vR a41, vI p42] [(.int p42), (.ref w51)])) rfl (by rw [hml]; rfl) (argsL := [(.ref w51), (.int p42)]) (rest := []) (lenOf pd_3 rfl) rfl (own_w _) (hb hby d36_12) (fun _ _ => ⟨rfl, e52, (by decide : 0 + 0 ≤ _), (by decide : 0 + 0 ≤ _)⟩)
 dsimp only [Pt.U, Pt.locs, Pt.cells, Pt.slots] at X70 l70 y70 z70 st70 hQ70
 replace X70 := own_mvX X70 (a := 0) (b := 0) y70 z70
 obtain ⟨rfl, N70q, e70⟩ := hQ70
 have N70 := own_mvN l70 N48 N70q
 obtain ⟨fs, hr, hrun, hended, hW, hsame⟩ := X70.leave (v := some (.int (((u72 (p42).toNatClampNeg) &&& (255 : Int32)).toUInt32.toUInt16.toUInt32.toInt32))) (fun h => by rw [Bd.returns] at h; cases h)
 refine ⟨_, _, pre0 _ ?_, hrun, hended, _, _, rfl, ?_, ⟨_, rfl⟩, hW, hsame.mono (by decide) (by decide)⟩
 · show SG p e below s₁ (mkF m 0 #[vR a41, vI p42] []) _
   refine XS.aloadN X0.here hx rfl (hb hby d36_0) rfl rfl ?_
   show SG p e below s₁ (mkF m 1 #[vR a41, vI p42] [(.ref a41)]) _
   refine st48.trans ?_
   show SG p e below T48 (mkF m 4 #[vR a41, vI p42] [(.int (1 : Int32))]) _
   refine XS.ifNo X48.here hx rfl (hb hby d36_4) rfl ((if0 _ _).trans (feq (by decide : ¬ ((1 : Int32) = (0 : Int32)))).1) ?_
   show SG p e below T48 (mkF m 7 #[vR a41, vI p42] []) _
   refine XS.aloadN X48.here hx rfl (hb hby d36_7) rfl rfl ?_
   show SG p e below T48 (mkF m 8 #[vR a41, vI p42] [(.ref a41)]) _
   refine st52 _ ?_
   show SG p e below T52 (mkF m 11 #[vR a41, vI p42] [(.ref w51)]) _
   refine XS.iloadN X52.here hx rfl (hb hby d36_11) rfl ?_
   show SG p e below T52 (mkF m 12 #[vR a41, vI p42] [(.int p42), (.ref w51)]) _
   refine st70 _ ?_
   show SG p e below T70 (mkF m 15 #[vR a41, vI p42] [(.int (((u72 (p42).toNatClampNeg) &&& (255 : Int32)).toUInt32.toUInt16.toUInt32.toInt32))]) _
   exact retN X70 hx (t := .char) Bd.returns (by simp) (hb hby d36_15) (by rw [H10]; exact hr)
 · show OQp (some (.int (((u72 (p42).toNatClampNeg) &&& (255 : Int32)).toUInt32.toUInt16.toUInt32.toInt32))) h0 n0 _ T70.heap _
   rw [e70]
   exact ⟨rfl, N70, rfl⟩
theorem own_ch (l : Launch) (Z : State) (a0 : Array Value) (hw : ∀ d ∈ tables_1, d.before a0 Z = true) (a : Addr) (wS wc : Int32) (b : Addr) (k : ClassId) (z : Int32) (f : Nat → Int32) (o : Value) (i : Int32) (h0 : Heap) (n0 : Nat) (Z0 : n0 ≤ h0.size) (H1 : Sta Z h0 "java/lang/String" "COMPACT_STRINGS" "Z" (.int wS)) (H2 : ¬ (wS = (0 : Int32))) (H3 : Fld Z h0 a "java/lang/String" "coder" "B" (.int wc)) (H4 : wc = (0 : Int32)) (H5 : Exa Z h0 a "java/lang/String") (H6 : Fld Z h0 a "java/lang/String" "value" "[B" (.ref b)) (H7 : BA Z h0 b k .byte z f) (H8 : Sta Z h0 "jdk/internal/util/Preconditions" "SIOOBE_FORMATTER" "Ljava/util/function/BiFunction;" o) (H9 : o.isRef = true) (H10 : ¬ (i < (0 : Int32))) (H11 : i < z) :
   OMet l Z mN6 jdk_42_method_56_code 2 (some .char) [] ({ frames := 3, cells := 0, slots := 0, locals := 40 } : Room) h0 #[(.ref a), (.int i)] (OQp (some (.int (oc8 (f (i).toNatClampNeg)))) h0 n0) := by
 rcases ref_cases H9 with rfl | ⟨o, rfl⟩
 · exact r36_1 l Z a0 hw a i wS wc b k f z h0 n0 Z0 H1 H2 H3 H4 H5 H6 H7 H8 H10 H11 (own_oc8 _)
 · exact r36_2 l Z a0 hw a i wS wc b k f z o h0 n0 Z0 H1 H2 H3 H4 H5 H6 H7 H8 H10 H11 (own_oc8 _)
theorem d33_0 : decode method_4_code 0 = .ok (.iload_n 0, 1) := by decide +kernel
theorem d33_1 : decode method_4_code 1 = .ok (.i2l, 1) := by decide +kernel
theorem d33_2 : decode method_4_code 2 = .ok (.invokestatic 25, 3) := by decide +kernel
theorem d34_0 : decode jdk_29_method_61_code 0 = .ok (.lload_n 0, 1) := by decide +kernel
theorem d34_1 : decode jdk_29_method_61_code 1 = .ok (.lconst 0, 1) := by decide +kernel
theorem d34_2 : decode jdk_29_method_61_code 2 = .ok (.lcmp, 1) := by decide +kernel
theorem d34_3 : decode jdk_29_method_61_code 3 = .ok (.ifCond .ge 8, 3) := by decide +kernel
theorem d34_11 : decode jdk_29_method_61_code 11 = .ok (.lload_n 0, 1) := by decide +kernel
theorem d34_12 : decode jdk_29_method_61_code 12 = .ok (.lreturn, 1) := by decide +kernel
theorem ef_34_v (m : MethodId) (x0 : Int64) : entryFrame m #[(.long x0)] 2 = mkF m 0 #[.val (.long x0), .second] [] := by first | (simp [entryFrame, mkF, argsToLocals, Value.category]; done) | rfl
theorem r34_1 (l : Launch) (Z : State) (a0 : Array Value) (hw : ∀ d ∈ tables_1, d.before a0 Z = true) (q76 : Int64) (h0 : Heap) (n0 : Nat) (Z0 : n0 ≤ h0.size) (H0 : ¬ ((lcmpW q76 (0 : Int64)) < (0 : Int32))) :
   OMet l Z mN7 jdk_29_method_61_code 2 (some .long) [] ({ frames := 0, cells := 0, slots := 0, locals := 0 } : Room) h0 #[(.long q76)] (OQp (some (.long q76)) h0 n0) := by
 refine MetFree.of_bodySF (Jvm.Free.JP.mathPlain rfl (by decide +kernel)) hisR ?_
 intro p e s m args below meth c s₁ Bd hml0 hP hK
 obtain ⟨rfl, hZ, hh⟩ := hP
 have hx := Bd.exec
 have hby := Bd.bytes
 have hml : c.maxLocals = 2 := hml0
 have hown : s.vm.findClass "java/lang/Math" = some m.cls := findClass_of_methodNamed Bd.named
 have hnm := (name_of_methodNamed Bd.named Bd.method).1
 have X0 : Stand p l e ({ frames := 0, cells := 0, slots := 0, locals := 0 } : Room) s m #[(.long q76)] below meth c s₁ [] 0 0 := Stand.of_body Bd
 have e0 : s₁.heap = h0 := by rw [← hh, Bd.state]; rfl
 have N0 := Fr.nil n0
 have pre0 : ∀ t, Steps p.tables e below (s₁.setTop (mkF m 0 #[vJ q76, vS] [])) t → Steps p.tables e below (s₁.setTop (entryFrame m #[(.long q76)] 2)) t := fun t k => castTop (ef_34_v m q76) k

 obtain ⟨fs, hr, hrun, hended, hW, hsame⟩ := X0.leave (v := some (.long q76)) (fun h => by rw [Bd.returns] at h; cases h)
 refine ⟨_, _, pre0 _ ?_, hrun, hended, _, _, rfl, ?_, ⟨_, rfl⟩, hW, hsame.mono (by decide) (by decide)⟩
 · show SG p e below s₁ (mkF m 0 #[vJ q76, vS] []) _
   refine XS.lloadN X0.here hx rfl (hb hby d34_0) rfl ?_
   show SG p e below s₁ (mkF m 1 #[vJ q76, vS] [(.long q76)]) _
   refine XS.lconst X0.here hx rfl (hb hby d34_1) ?_
   show SG p e below s₁ (mkF m 2 #[vJ q76, vS] [(.long (0 : Int64)), (.long q76)]) _
   refine XS.lcmp X0.here hx rfl (hb hby d34_2) rfl ?_
   show SG p e below s₁ (mkF m 3 #[vJ q76, vS] [(.int (lcmpW q76 (0 : Int64)))]) _
   refine XS.ifYes X0.here hx rfl (pc0 := 3) (pc' := 11) rfl (hb hby d34_3) rfl ((if0 _ _).trans (flt H0).2.1) (by decide) (by decide) ?_
   show SG p e below s₁ (mkF m 11 #[vJ q76, vS] []) _
   refine XS.lloadN X0.here hx rfl (hb hby d34_11) rfl ?_
   show SG p e below s₁ (mkF m 12 #[vJ q76, vS] [(.long q76)]) _
   jvm_step X0.here [X0.here.top, hx, (hb hby d34_12), X0.method', Bd.returns, narrow]
   first | (intro acts; rw [hr _ acts rfl rfl rfl]) | rw [hr _ _ rfl rfl rfl]
   exact Steps.refl _
 · show OQp (some (.long q76)) h0 n0 _ s₁.heap _
   rw [e0]
   exact ⟨rfl, N0, rfl⟩
theorem pd_4 : parseMethodDescriptor "(J)J" = some ⟨[.long], some .long⟩ := by decide +kernel
theorem d33_5 : decode method_4_code 5 = .ok (.lstore_n 1, 1) := by decide +kernel
theorem d33_6 : decode method_4_code 6 = .ok (.lload_n 1, 1) := by decide +kernel
theorem d33_7 : decode method_4_code 7 = .ok (.invokestatic 31, 3) := by decide +kernel
theorem pd_5 : parseMethodDescriptor "(J)I" = some ⟨[.long], some .int⟩ := by decide +kernel
theorem d33_10 : decode method_4_code 10 = .ok (.iload_n 0, 1) := by decide +kernel
theorem d33_11 : decode method_4_code 11 = .ok (.ifCond .ge 7, 3) := by decide +kernel
theorem d33_18 : decode method_4_code 18 = .ok (.iconst 0, 1) := by decide +kernel
theorem d33_19 : decode method_4_code 19 = .ok (.iadd, 1) := by decide +kernel
theorem d33_20 : decode method_4_code 20 = .ok (.ireturn, 1) := by decide +kernel
theorem ef_33_v (m : MethodId) (x0 : Int32) : entryFrame m #[(.int x0)] 3 = mkF m 0 #[.val (.int x0), .unset, .unset] [] := by first | (simp [entryFrame, mkF, argsToLocals, Value.category]; done) | rfl
theorem r33_1 (l : Launch) (Z : State) (a0 : Array Value) (hw : ∀ d ∈ tables_1, d.before a0 Z = true) (p75 : Int32) (h0 : Heap) (n0 : Nat) (Z0 : n0 ≤ h0.size) (H0 : ¬ ((lcmpW (p75.toInt64) (0 : Int64)) < (0 : Int32))) (H1 : 0 ≤ ((p75.toInt64)).toInt) (H2 : ¬ (p75 < (0 : Int32))) :
   OMet l Z mN8 method_4_code 3 (some .int) [] ({ frames := 1, cells := 0, slots := 0, locals := 14 } : Room) h0 #[(.int p75)] (OQp (some (.int ((Int32.ofNat (SBG.digits ((p75.toInt64)).toInt.toNat)) + (0 : Int32)))) h0 n0) := by
 refine MetFree.of_bodySF (plainFor_of_name pn_com_example_tranchebook_tranchebook_CycleToStringPinLaw) hisR ?_
 intro p e s m args below meth c s₁ Bd hml0 hP hK
 obtain ⟨rfl, hZ, hh⟩ := hP
 have hx := Bd.exec
 have hby := Bd.bytes
 have hml : c.maxLocals = 3 := hml0
 have hown : s.vm.findClass "com/example/tranchebook/tranchebook/CycleToStringPinLaw" = some m.cls := findClass_of_methodNamed Bd.named
 have hnm := (name_of_methodNamed Bd.named Bd.method).1
 have X0 : Stand p l e ({ frames := 1, cells := 0, slots := 0, locals := 14 } : Room) s m #[(.int p75)] below meth c s₁ [] 0 0 := Stand.of_body Bd
 have e0 : s₁.heap = h0 := by rw [← hh, Bd.state]; rfl
 have N0 := Fr.nil n0
 have pre0 : ∀ t, Steps p.tables e below (s₁.setTop (mkF m 0 #[vI p75, .unset, .unset] [])) t → Steps p.tables e below (s₁.setTop (entryFrame m #[(.int p75)] 3)) t := fun t k => castTop (ef_33_v m p75) k
 obtain ⟨_, _, ⟨T77, L77, k77, n77⟩, -, X77, ⟨Lc77, hQ77, l77, y77, z77⟩, st77⟩ := Jvm.LawKit.callS X0 hx (y := mN7) hown (mvT hZ (tw hw 204 rfl)) (mvT hZ (tw hw 205 rfl)) (mvT hZ (tw hw 197 rfl)) (mvT hZ (tw hw 206 rfl)) (by decide) (backOf (W := 0) (r34_1 l Z a0 hw (p75.toInt64) h0 n0 Z0 H0) hZ (tw hw 206 rfl) (tw hw 197 rfl) (by decide) (by decide)) (g := (mkF m 2 #[vI p75, vU, vU] [(.long (p75.toInt64))])) rfl (by rw [hml]; rfl) (argsL := [(.long (p75.toInt64))]) (rest := []) (lenOf pd_4 rfl) rfl (own_w _) (hb hby d33_2) (fun _ _ => ⟨rfl, e0, (by decide : 0 + 0 ≤ _), (by decide : 0 + 0 ≤ _)⟩)
 dsimp only [Pt.U, Pt.locs, Pt.cells, Pt.slots] at X77 l77 y77 z77 st77 hQ77
 replace X77 := own_mvX X77 (a := 0) (b := 0) y77 z77
 obtain ⟨rfl, N77q, e77⟩ := hQ77
 have N77 := own_mvN l77 N0 N77q
 obtain ⟨_, _, ⟨T78, L78, k78, n78⟩, -, X78, ⟨Lc78, hQ78, l78, y78, z78⟩, st78⟩ := Jvm.LawKit.callS X77 hx (y := mN1) hown (mvT hZ (tw hw 207 rfl)) (mvT hZ (tw hw 208 rfl)) (mvT hZ (tw hw 202 rfl)) (mvT hZ (tw hw 209 rfl)) (by decide) (backOf (W := 0) (own_dig l Z a0 hw (p75.toInt64) h0 n0 Z0 H1) hZ (tw hw 209 rfl) (tw hw 202 rfl) (by decide) (by decide)) (g := (mkF m 7 #[vI p75, vJ (p75.toInt64), vS] [(.long (p75.toInt64))])) rfl (by rw [hml]; rfl) (argsL := [(.long (p75.toInt64))]) (rest := []) (lenOf pd_5 rfl) rfl (own_w _) (hb hby d33_7) (fun _ _ => ⟨rfl, e77, (by decide : 0 + 0 ≤ _), (by decide : 0 + 0 ≤ _)⟩)
 dsimp only [Pt.U, Pt.locs, Pt.cells, Pt.slots] at X78 l78 y78 z78 st78 hQ78
 replace X78 := own_mvX X78 (a := 0) (b := 0) y78 z78
 obtain ⟨rfl, N78q, e78⟩ := hQ78
 have N78 := own_mvN l78 N77 N78q
 obtain ⟨fs, hr, hrun, hended, hW, hsame⟩ := X78.leave (v := some (.int ((Int32.ofNat (SBG.digits ((p75.toInt64)).toInt.toNat)) + (0 : Int32)))) (fun h => by rw [Bd.returns] at h; cases h)
 refine ⟨_, _, pre0 _ ?_, hrun, hended, _, _, rfl, ?_, ⟨_, rfl⟩, hW, hsame.mono (by decide) (by decide)⟩
 · show SG p e below s₁ (mkF m 0 #[vI p75, vU, vU] []) _
   refine XS.iloadN X0.here hx rfl (hb hby d33_0) rfl ?_
   show SG p e below s₁ (mkF m 1 #[vI p75, vU, vU] [(.int p75)]) _
   refine XS.i2l X0.here hx rfl (hb hby d33_1) rfl ?_
   show SG p e below s₁ (mkF m 2 #[vI p75, vU, vU] [(.long (p75.toInt64))]) _
   refine st77 _ ?_
   show SG p e below T77 (mkF m 5 #[vI p75, vU, vU] [(.long (p75.toInt64))]) _
   refine XS.lstoreN X77.here hx rfl (hb hby d33_5) rfl (l' := #[vI p75, vJ (p75.toInt64), vS]) rfl ?_
   show SG p e below T77 (mkF m 6 #[vI p75, vJ (p75.toInt64), vS] []) _
   refine XS.lloadN X77.here hx rfl (hb hby d33_6) rfl ?_
   show SG p e below T77 (mkF m 7 #[vI p75, vJ (p75.toInt64), vS] [(.long (p75.toInt64))]) _
   refine st78 _ ?_
   show SG p e below T78 (mkF m 10 #[vI p75, vJ (p75.toInt64), vS] [(.int (Int32.ofNat (SBG.digits ((p75.toInt64)).toInt.toNat)))]) _
   refine XS.iloadN X78.here hx rfl (hb hby d33_10) rfl ?_
   show SG p e below T78 (mkF m 11 #[vI p75, vJ (p75.toInt64), vS] [(.int p75), (.int (Int32.ofNat (SBG.digits ((p75.toInt64)).toInt.toNat)))]) _
   refine XS.ifYes X78.here hx rfl (pc0 := 11) (pc' := 18) rfl (hb hby d33_11) rfl ((if0 _ _).trans (flt H2).2.1) (by decide) (by decide) ?_
   show SG p e below T78 (mkF m 18 #[vI p75, vJ (p75.toInt64), vS] [(.int (Int32.ofNat (SBG.digits ((p75.toInt64)).toInt.toNat)))]) _
   refine XS.iconst X78.here hx rfl (hb hby d33_18) ?_
   show SG p e below T78 (mkF m 19 #[vI p75, vJ (p75.toInt64), vS] [(.int (0 : Int32)), (.int (Int32.ofNat (SBG.digits ((p75.toInt64)).toInt.toNat)))]) _
   refine XS.iadd X78.here hx rfl (hb hby d33_19) rfl ?_
   show SG p e below T78 (mkF m 20 #[vI p75, vJ (p75.toInt64), vS] [(.int ((Int32.ofNat (SBG.digits ((p75.toInt64)).toInt.toNat)) + (0 : Int32)))]) _
   exact retI X78 hx Bd.returns (hb hby d33_20) hr
 · show OQp (some (.int ((Int32.ofNat (SBG.digits ((p75.toInt64)).toInt.toNat)) + (0 : Int32)))) h0 n0 _ T78.heap _
   rw [e78]
   exact ⟨rfl, N78, rfl⟩
theorem d34_6 : decode jdk_29_method_61_code 6 = .ok (.lload_n 0, 1) := by decide +kernel
theorem d34_7 : decode jdk_29_method_61_code 7 = .ok (.lneg, 1) := by decide +kernel
theorem d34_8 : decode jdk_29_method_61_code 8 = .ok (.goto 4, 3) := by decide +kernel
theorem r34_2 (l : Launch) (Z : State) (a0 : Array Value) (hw : ∀ d ∈ tables_1, d.before a0 Z = true) (q80 : Int64) (h0 : Heap) (n0 : Nat) (Z0 : n0 ≤ h0.size) (H0 : (lcmpW q80 (0 : Int64)) < (0 : Int32)) :
   OMet l Z mN7 jdk_29_method_61_code 2 (some .long) [] ({ frames := 0, cells := 0, slots := 0, locals := 0 } : Room) h0 #[(.long q80)] (OQp (some (.long (-q80))) h0 n0) := by
 refine MetFree.of_bodySF (Jvm.Free.JP.mathPlain rfl (by decide +kernel)) hisR ?_
 intro p e s m args below meth c s₁ Bd hml0 hP hK
 obtain ⟨rfl, hZ, hh⟩ := hP
 have hx := Bd.exec
 have hby := Bd.bytes
 have hml : c.maxLocals = 2 := hml0
 have hown : s.vm.findClass "java/lang/Math" = some m.cls := findClass_of_methodNamed Bd.named
 have hnm := (name_of_methodNamed Bd.named Bd.method).1
 have X0 : Stand p l e ({ frames := 0, cells := 0, slots := 0, locals := 0 } : Room) s m #[(.long q80)] below meth c s₁ [] 0 0 := Stand.of_body Bd
 have e0 : s₁.heap = h0 := by rw [← hh, Bd.state]; rfl
 have N0 := Fr.nil n0
 have pre0 : ∀ t, Steps p.tables e below (s₁.setTop (mkF m 0 #[vJ q80, vS] [])) t → Steps p.tables e below (s₁.setTop (entryFrame m #[(.long q80)] 2)) t := fun t k => castTop (ef_34_v m q80) k

 obtain ⟨fs, hr, hrun, hended, hW, hsame⟩ := X0.leave (v := some (.long (-q80))) (fun h => by rw [Bd.returns] at h; cases h)
 refine ⟨_, _, pre0 _ ?_, hrun, hended, _, _, rfl, ?_, ⟨_, rfl⟩, hW, hsame.mono (by decide) (by decide)⟩
 · show SG p e below s₁ (mkF m 0 #[vJ q80, vS] []) _
   refine XS.lloadN X0.here hx rfl (hb hby d34_0) rfl ?_
   show SG p e below s₁ (mkF m 1 #[vJ q80, vS] [(.long q80)]) _
   refine XS.lconst X0.here hx rfl (hb hby d34_1) ?_
   show SG p e below s₁ (mkF m 2 #[vJ q80, vS] [(.long (0 : Int64)), (.long q80)]) _
   refine XS.lcmp X0.here hx rfl (hb hby d34_2) rfl ?_
   show SG p e below s₁ (mkF m 3 #[vJ q80, vS] [(.int (lcmpW q80 (0 : Int64)))]) _
   refine XS.ifNo X0.here hx rfl (hb hby d34_3) rfl ((if0 _ _).trans (tlt H0).2.1) ?_
   show SG p e below s₁ (mkF m 6 #[vJ q80, vS] []) _
   refine XS.lloadN X0.here hx rfl (hb hby d34_6) rfl ?_
   show SG p e below s₁ (mkF m 7 #[vJ q80, vS] [(.long q80)]) _
   refine XS.lneg X0.here hx rfl (hb hby d34_7) rfl ?_
   show SG p e below s₁ (mkF m 8 #[vJ q80, vS] [(.long (-q80))]) _
   refine XS.goto X0.here hx rfl (pc0 := 8) (pc' := 12) rfl (hb hby d34_8) (by decide) (by decide) ?_
   show SG p e below s₁ (mkF m 12 #[vJ q80, vS] [(.long (-q80))]) _
   jvm_step X0.here [X0.here.top, hx, (hb hby d34_12), X0.method', Bd.returns, narrow]
   first | (intro acts; rw [hr _ acts rfl rfl rfl]) | rw [hr _ _ rfl rfl rfl]
   exact Steps.refl _
 · show OQp (some (.long (-q80))) h0 n0 _ s₁.heap _
   rw [e0]
   exact ⟨rfl, N0, rfl⟩
theorem d33_14 : decode method_4_code 14 = .ok (.iconst 1, 1) := by decide +kernel
theorem d33_15 : decode method_4_code 15 = .ok (.goto 4, 3) := by decide +kernel
theorem r33_2 (l : Launch) (Z : State) (a0 : Array Value) (hw : ∀ d ∈ tables_1, d.before a0 Z = true) (p79 : Int32) (h0 : Heap) (n0 : Nat) (Z0 : n0 ≤ h0.size) (H0 : (lcmpW (p79.toInt64) (0 : Int64)) < (0 : Int32)) (H1 : 0 ≤ ((-(p79.toInt64))).toInt) (H2 : p79 < (0 : Int32)) :
   OMet l Z mN8 method_4_code 3 (some .int) [] ({ frames := 1, cells := 0, slots := 0, locals := 14 } : Room) h0 #[(.int p79)] (OQp (some (.int ((Int32.ofNat (SBG.digits ((-(p79.toInt64))).toInt.toNat)) + (1 : Int32)))) h0 n0) := by
 refine MetFree.of_bodySF (plainFor_of_name pn_com_example_tranchebook_tranchebook_CycleToStringPinLaw) hisR ?_
 intro p e s m args below meth c s₁ Bd hml0 hP hK
 obtain ⟨rfl, hZ, hh⟩ := hP
 have hx := Bd.exec
 have hby := Bd.bytes
 have hml : c.maxLocals = 3 := hml0
 have hown : s.vm.findClass "com/example/tranchebook/tranchebook/CycleToStringPinLaw" = some m.cls := findClass_of_methodNamed Bd.named
 have hnm := (name_of_methodNamed Bd.named Bd.method).1
 have X0 : Stand p l e ({ frames := 1, cells := 0, slots := 0, locals := 14 } : Room) s m #[(.int p79)] below meth c s₁ [] 0 0 := Stand.of_body Bd
 have e0 : s₁.heap = h0 := by rw [← hh, Bd.state]; rfl
 have N0 := Fr.nil n0
 have pre0 : ∀ t, Steps p.tables e below (s₁.setTop (mkF m 0 #[vI p79, .unset, .unset] [])) t → Steps p.tables e below (s₁.setTop (entryFrame m #[(.int p79)] 3)) t := fun t k => castTop (ef_33_v m p79) k
 obtain ⟨_, _, ⟨T81, L81, k81, n81⟩, -, X81, ⟨Lc81, hQ81, l81, y81, z81⟩, st81⟩ := Jvm.LawKit.callS X0 hx (y := mN7) hown (mvT hZ (tw hw 204 rfl)) (mvT hZ (tw hw 205 rfl)) (mvT hZ (tw hw 197 rfl)) (mvT hZ (tw hw 206 rfl)) (by decide) (backOf (W := 0) (r34_2 l Z a0 hw (p79.toInt64) h0 n0 Z0 H0) hZ (tw hw 206 rfl) (tw hw 197 rfl) (by decide) (by decide)) (g := (mkF m 2 #[vI p79, vU, vU] [(.long (p79.toInt64))])) rfl (by rw [hml]; rfl) (argsL := [(.long (p79.toInt64))]) (rest := []) (lenOf pd_4 rfl) rfl (own_w _) (hb hby d33_2) (fun _ _ => ⟨rfl, e0, (by decide : 0 + 0 ≤ _), (by decide : 0 + 0 ≤ _)⟩)
 dsimp only [Pt.U, Pt.locs, Pt.cells, Pt.slots] at X81 l81 y81 z81 st81 hQ81
 replace X81 := own_mvX X81 (a := 0) (b := 0) y81 z81
 obtain ⟨rfl, N81q, e81⟩ := hQ81
 have N81 := own_mvN l81 N0 N81q
 obtain ⟨_, _, ⟨T82, L82, k82, n82⟩, -, X82, ⟨Lc82, hQ82, l82, y82, z82⟩, st82⟩ := Jvm.LawKit.callS X81 hx (y := mN1) hown (mvT hZ (tw hw 207 rfl)) (mvT hZ (tw hw 208 rfl)) (mvT hZ (tw hw 202 rfl)) (mvT hZ (tw hw 209 rfl)) (by decide) (backOf (W := 0) (own_dig l Z a0 hw (-(p79.toInt64)) h0 n0 Z0 H1) hZ (tw hw 209 rfl) (tw hw 202 rfl) (by decide) (by decide)) (g := (mkF m 7 #[vI p79, vJ (-(p79.toInt64)), vS] [(.long (-(p79.toInt64)))])) rfl (by rw [hml]; rfl) (argsL := [(.long (-(p79.toInt64)))]) (rest := []) (lenOf pd_5 rfl) rfl (own_w _) (hb hby d33_7) (fun _ _ => ⟨rfl, e81, (by decide : 0 + 0 ≤ _), (by decide : 0 + 0 ≤ _)⟩)
 dsimp only [Pt.U, Pt.locs, Pt.cells, Pt.slots] at X82 l82 y82 z82 st82 hQ82
 replace X82 := own_mvX X82 (a := 0) (b := 0) y82 z82
 obtain ⟨rfl, N82q, e82⟩ := hQ82
 have N82 := own_mvN l82 N81 N82q
 obtain ⟨fs, hr, hrun, hended, hW, hsame⟩ := X82.leave (v := some (.int ((Int32.ofNat (SBG.digits ((-(p79.toInt64))).toInt.toNat)) + (1 : Int32)))) (fun h => by rw [Bd.returns] at h; cases h)
 refine ⟨_, _, pre0 _ ?_, hrun, hended, _, _, rfl, ?_, ⟨_, rfl⟩, hW, hsame.mono (by decide) (by decide)⟩
 · show SG p e below s₁ (mkF m 0 #[vI p79, vU, vU] []) _
   refine XS.iloadN X0.here hx rfl (hb hby d33_0) rfl ?_
   show SG p e below s₁ (mkF m 1 #[vI p79, vU, vU] [(.int p79)]) _
   refine XS.i2l X0.here hx rfl (hb hby d33_1) rfl ?_
   show SG p e below s₁ (mkF m 2 #[vI p79, vU, vU] [(.long (p79.toInt64))]) _
   refine st81 _ ?_
   show SG p e below T81 (mkF m 5 #[vI p79, vU, vU] [(.long (-(p79.toInt64)))]) _
   refine XS.lstoreN X81.here hx rfl (hb hby d33_5) rfl (l' := #[vI p79, vJ (-(p79.toInt64)), vS]) rfl ?_
   show SG p e below T81 (mkF m 6 #[vI p79, vJ (-(p79.toInt64)), vS] []) _
   refine XS.lloadN X81.here hx rfl (hb hby d33_6) rfl ?_
   show SG p e below T81 (mkF m 7 #[vI p79, vJ (-(p79.toInt64)), vS] [(.long (-(p79.toInt64)))]) _
   refine st82 _ ?_
   show SG p e below T82 (mkF m 10 #[vI p79, vJ (-(p79.toInt64)), vS] [(.int (Int32.ofNat (SBG.digits ((-(p79.toInt64))).toInt.toNat)))]) _
   refine XS.iloadN X82.here hx rfl (hb hby d33_10) rfl ?_
   show SG p e below T82 (mkF m 11 #[vI p79, vJ (-(p79.toInt64)), vS] [(.int p79), (.int (Int32.ofNat (SBG.digits ((-(p79.toInt64))).toInt.toNat)))]) _
   refine XS.ifNo X82.here hx rfl (hb hby d33_11) rfl ((if0 _ _).trans (tlt H2).2.1) ?_
   show SG p e below T82 (mkF m 14 #[vI p79, vJ (-(p79.toInt64)), vS] [(.int (Int32.ofNat (SBG.digits ((-(p79.toInt64))).toInt.toNat)))]) _
   refine XS.iconst X82.here hx rfl (hb hby d33_14) ?_
   show SG p e below T82 (mkF m 15 #[vI p79, vJ (-(p79.toInt64)), vS] [(.int (1 : Int32)), (.int (Int32.ofNat (SBG.digits ((-(p79.toInt64))).toInt.toNat)))]) _
   refine XS.goto X82.here hx rfl (pc0 := 15) (pc' := 19) rfl (hb hby d33_15) (by decide) (by decide) ?_
   show SG p e below T82 (mkF m 19 #[vI p79, vJ (-(p79.toInt64)), vS] [(.int (1 : Int32)), (.int (Int32.ofNat (SBG.digits ((-(p79.toInt64))).toInt.toNat)))]) _
   refine XS.iadd X82.here hx rfl (hb hby d33_19) rfl ?_
   show SG p e below T82 (mkF m 20 #[vI p79, vJ (-(p79.toInt64)), vS] [(.int ((Int32.ofNat (SBG.digits ((-(p79.toInt64))).toInt.toNat)) + (1 : Int32)))]) _
   exact retI X82 hx Bd.returns (hb hby d33_20) hr
 · show OQp (some (.int ((Int32.ofNat (SBG.digits ((-(p79.toInt64))).toInt.toNat)) + (1 : Int32)))) h0 n0 _ T82.heap _
   rw [e82]
   exact ⟨rfl, N82, rfl⟩
theorem own_ml (l : Launch) (Z : State) (a0 : Array Value) (hw : ∀ d ∈ tables_1, d.before a0 Z = true) (x : Int32) (h0 : Heap) (n0 : Nat) (Z0 : n0 ≤ h0.size) :
   OMet l Z mN8 method_4_code 3 (some .int) [] ({ frames := 1, cells := 0, slots := 0, locals := 14 } : Room) h0 #[(.int x)] (OQp (some (.int (Int32.ofNat (osz x)))) h0 n0) := by
 rcases Decidable.em (x < 0) with hx | hx
 case inr =>
   have e : (.int (Int32.ofNat (osz x)) : Value) = .int (Int32.ofNat (SBG.digits (x.toInt64).toInt.toNat) + Int32.ofNat 0) := by
     rw [own_add, own_pos hx]; simp [osz, osg, hx]
   rw [e]
   exact r33_1 l Z a0 hw x h0 n0 Z0 (own_lcn (n := 0) (by decide) (by rw [own_pos hx]; omega)) (by rw [own_pos hx]; omega) hx
 case inl =>
   have e : (.int (Int32.ofNat (osz x)) : Value) = .int (Int32.ofNat (SBG.digits (-(x.toInt64)).toInt.toNat) + Int32.ofNat 1) := by
     rw [own_add, own_neg hx]; simp [osz, osg, hx]
   rw [e]
   exact r33_2 l Z a0 hw x h0 n0 Z0 (own_lc (n := 0) (by decide) (by rw [c_i2l]; exact Int32.lt_iff_toInt_lt.mp hx)) (by rw [own_neg hx]; omega) hx
theorem d41_0 : decode method_5_code 0 = .ok (.iload_n 2, 1) := by decide +kernel
abbrev la0 (a83 : Addr) (p84 : Int32) (p85 : Int32) : Array Slot := #[vR a83, vI p84, vI p85, vU, vU, vU, vU, vU, vU, vU, vU, vU]
theorem d41_1 : decode method_5_code 1 = .ok (.i2l, 1) := by decide +kernel
theorem d41_2 : decode method_5_code 2 = .ok (.invokestatic 25, 3) := by decide +kernel
theorem d41_5 : decode method_5_code 5 = .ok (.lstore_n 3, 1) := by decide +kernel
theorem d41_6 : decode method_5_code 6 = .ok (.iload_n 2, 1) := by decide +kernel
abbrev la1 (a83 : Addr) (p84 : Int32) (p85 : Int32) : Array Slot := #[vR a83, vI p84, vI p85, vJ (p85.toInt64), vS, vU, vU, vU, vU, vU, vU, vU]
theorem d41_7 : decode method_5_code 7 = .ok (.ifCond .ge 7, 3) := by decide +kernel
theorem d41_14 : decode method_5_code 14 = .ok (.iconst 0, 1) := by decide +kernel
theorem d41_15 : decode method_5_code 15 = .ok (.istore 5, 2) := by decide +kernel
theorem d41_17 : decode method_5_code 17 = .ok (.lload_n 3, 1) := by decide +kernel
abbrev la2 (a83 : Addr) (p84 : Int32) (p85 : Int32) : Array Slot := #[vR a83, vI p84, vI p85, vJ (p85.toInt64), vS, vI (0 : Int32), vU, vU, vU, vU, vU, vU]
theorem d41_18 : decode method_5_code 18 = .ok (.invokestatic 31, 3) := by decide +kernel
theorem d41_21 : decode method_5_code 21 = .ok (.istore 6, 2) := by decide +kernel
theorem d41_23 : decode method_5_code 23 = .ok (.iload 6, 2) := by decide +kernel
abbrev la3 (a83 : Addr) (p84 : Int32) (p85 : Int32) : Array Slot := #[vR a83, vI p84, vI p85, vJ (p85.toInt64), vS, vI (0 : Int32), vI (Int32.ofNat (SBG.digits ((p85.toInt64)).toInt.toNat)), vU, vU, vU, vU, vU]
theorem d41_25 : decode method_5_code 25 = .ok (.iload 5, 2) := by decide +kernel
theorem d41_27 : decode method_5_code 27 = .ok (.ifCond .eq 7, 3) := by decide +kernel
theorem d41_34 : decode method_5_code 34 = .ok (.iconst 0, 1) := by decide +kernel
theorem d41_35 : decode method_5_code 35 = .ok (.iadd, 1) := by decide +kernel
theorem d41_36 : decode method_5_code 36 = .ok (.istore 7, 2) := by decide +kernel
theorem d41_38 : decode method_5_code 38 = .ok (.iload_n 1, 1) := by decide +kernel
abbrev la4 (a83 : Addr) (p84 : Int32) (p85 : Int32) : Array Slot := #[vR a83, vI p84, vI p85, vJ (p85.toInt64), vS, vI (0 : Int32), vI (Int32.ofNat (SBG.digits ((p85.toInt64)).toInt.toNat)), vI ((Int32.ofNat (SBG.digits ((p85.toInt64)).toInt.toNat)) + (0 : Int32)), vU, vU, vU, vU]
theorem d41_39 : decode method_5_code 39 = .ok (.iload 7, 2) := by decide +kernel
theorem d41_41 : decode method_5_code 41 = .ok (.if_icmp .lt 5, 3) := by decide +kernel
theorem d41_44 : decode method_5_code 44 = .ok (.iconst 1, 1) := by decide +kernel
theorem d41_45 : decode method_5_code 45 = .ok (.ireturn, 1) := by decide +kernel
theorem ef_41_vvv (m : MethodId) (x0 : Addr) (x1 : Int32) (x2 : Int32) : entryFrame m #[(.ref x0), (.int x1), (.int x2)] 12 = mkF m 0 #[.val (.ref x0), .val (.int x1), .val (.int x2), .unset, .unset, .unset, .unset, .unset, .unset, .unset, .unset, .unset] [] := by first | (simp [entryFrame, mkF, argsToLocals, Value.category]; done) | rfl
theorem r41_1 (l : Launch) (Z : State) (a0 : Array Value) (hw : ∀ d ∈ tables_1, d.before a0 Z = true) (a83 : Addr) (p84 : Int32) (p85 : Int32) (h0 : Heap) (n0 : Nat) (Z0 : n0 ≤ h0.size) (H0 : ¬ ((lcmpW (p85.toInt64) (0 : Int64)) < (0 : Int32))) (H1 : ¬ (p85 < (0 : Int32))) (H2 : 0 ≤ ((p85.toInt64)).toInt) (H3 : ¬ (p84 < ((Int32.ofNat (SBG.digits ((p85.toInt64)).toInt.toNat)) + (0 : Int32)))) :
   OMet l Z mN9 method_5_code 12 (some .boolean) [] ({ frames := 4, cells := 1, slots := 10, locals := 53 } : Room) h0 #[(.ref a83), (.int p84), (.int p85)] (OQp (some (.int (1 : Int32))) h0 n0) := by
 refine MetFree.of_bodySF (plainFor_of_name pn_com_example_tranchebook_tranchebook_CycleToStringPinLaw) hisR ?_
 intro p e s m args below meth c s₁ Bd hml0 hP hK
 obtain ⟨rfl, hZ, hh⟩ := hP
 have hx := Bd.exec
 have hby := Bd.bytes
 have hml : c.maxLocals = 12 := hml0
 have hown : s.vm.findClass "com/example/tranchebook/tranchebook/CycleToStringPinLaw" = some m.cls := findClass_of_methodNamed Bd.named
 have hnm := (name_of_methodNamed Bd.named Bd.method).1
 have X0 : Stand p l e ({ frames := 4, cells := 1, slots := 10, locals := 53 } : Room) s m #[(.ref a83), (.int p84), (.int p85)] below meth c s₁ [] 0 0 := Stand.of_body Bd
 have e0 : s₁.heap = h0 := by rw [← hh, Bd.state]; rfl
 have N0 := Fr.nil n0
 have pre0 : ∀ t, Steps p.tables e below (s₁.setTop (mkF m 0 #[vR a83, vI p84, vI p85, .unset, .unset, .unset, .unset, .unset, .unset, .unset, .unset, .unset] [])) t → Steps p.tables e below (s₁.setTop (entryFrame m #[(.ref a83), (.int p84), (.int p85)] 12)) t := fun t k => castTop (ef_41_vvv m a83 p84 p85) k
 obtain ⟨_, _, ⟨T87, L87, k87, n87⟩, -, X87, ⟨Lc87, hQ87, l87, y87, z87⟩, st87⟩ := Jvm.LawKit.callS X0 hx (y := mN7) hown (mvT hZ (tw hw 204 rfl)) (mvT hZ (tw hw 205 rfl)) (mvT hZ (tw hw 197 rfl)) (mvT hZ (tw hw 206 rfl)) (by decide) (backOf (W := 0) (r34_1 l Z a0 hw (p85.toInt64) h0 n0 Z0 H0) hZ (tw hw 206 rfl) (tw hw 197 rfl) (by decide) (by decide)) (g := (mkF m 2 (la0 a83 p84 p85) [(.long (p85.toInt64))])) rfl (by rw [hml]; rfl) (argsL := [(.long (p85.toInt64))]) (rest := []) (lenOf pd_4 rfl) rfl (own_w _) (hb hby d41_2) (fun _ _ => ⟨rfl, e0, (by decide : 0 + 0 ≤ _), (by decide : 0 + 0 ≤ _)⟩)
 dsimp only [Pt.U, Pt.locs, Pt.cells, Pt.slots] at X87 l87 y87 z87 st87 hQ87
 replace X87 := own_mvX X87 (a := 0) (b := 0) y87 z87
 obtain ⟨rfl, N87q, e87⟩ := hQ87
 have N87 := own_mvN l87 N0 N87q
 obtain ⟨_, _, ⟨T88, L88, k88, n88⟩, -, X88, ⟨Lc88, hQ88, l88, y88, z88⟩, st88⟩ := Jvm.LawKit.callS X87 hx (y := mN1) hown (mvT hZ (tw hw 207 rfl)) (mvT hZ (tw hw 208 rfl)) (mvT hZ (tw hw 202 rfl)) (mvT hZ (tw hw 209 rfl)) (by decide) (backOf (W := 0) (own_dig l Z a0 hw (p85.toInt64) h0 n0 Z0 H2) hZ (tw hw 209 rfl) (tw hw 202 rfl) (by decide) (by decide)) (g := (mkF m 18 (la2 a83 p84 p85) [(.long (p85.toInt64))])) rfl (by rw [hml]; rfl) (argsL := [(.long (p85.toInt64))]) (rest := []) (lenOf pd_5 rfl) rfl (own_w _) (hb hby d41_18) (fun _ _ => ⟨rfl, e87, (by decide : 0 + 0 ≤ _), (by decide : 0 + 0 ≤ _)⟩)
 dsimp only [Pt.U, Pt.locs, Pt.cells, Pt.slots] at X88 l88 y88 z88 st88 hQ88
 replace X88 := own_mvX X88 (a := 0) (b := 0) y88 z88
 obtain ⟨rfl, N88q, e88⟩ := hQ88
 have N88 := own_mvN l88 N87 N88q
 obtain ⟨fs, hr, hrun, hended, hW, hsame⟩ := X88.leave (v := some (.int (1 : Int32))) (fun h => by rw [Bd.returns] at h; cases h)
 refine ⟨_, _, pre0 _ ?_, hrun, hended, _, _, rfl, ?_, ⟨_, rfl⟩, hW, hsame.mono (by decide) (by decide)⟩
 · show SG p e below s₁ (mkF m 0 (la0 a83 p84 p85) []) _
   refine XS.iloadN X0.here hx rfl (hb hby d41_0) rfl ?_
   show SG p e below s₁ (mkF m 1 (la0 a83 p84 p85) [(.int p85)]) _
   refine XS.i2l X0.here hx rfl (hb hby d41_1) rfl ?_
   show SG p e below s₁ (mkF m 2 (la0 a83 p84 p85) [(.long (p85.toInt64))]) _
   refine st87 _ ?_
   show SG p e below T87 (mkF m 5 (la0 a83 p84 p85) [(.long (p85.toInt64))]) _
   refine XS.lstoreN X87.here hx rfl (hb hby d41_5) rfl (l' := #[vR a83, vI p84, vI p85, vJ (p85.toInt64), vS, vU, vU, vU, vU, vU, vU, vU]) rfl ?_
   show SG p e below T87 (mkF m 6 (la1 a83 p84 p85) []) _
   refine XS.iloadN X87.here hx rfl (hb hby d41_6) rfl ?_
   show SG p e below T87 (mkF m 7 (la1 a83 p84 p85) [(.int p85)]) _
   refine XS.ifYes X87.here hx rfl (pc0 := 7) (pc' := 14) rfl (hb hby d41_7) rfl ((if0 _ _).trans (flt H1).2.1) (by decide) (by decide) ?_
   show SG p e below T87 (mkF m 14 (la1 a83 p84 p85) []) _
   refine XS.iconst X87.here hx rfl (hb hby d41_14) ?_
   show SG p e below T87 (mkF m 15 (la1 a83 p84 p85) [(.int (0 : Int32))]) _
   refine XS.istore X87.here hx rfl (hb hby d41_15) rfl (l' := #[vR a83, vI p84, vI p85, vJ (p85.toInt64), vS, vI (0 : Int32), vU, vU, vU, vU, vU, vU]) rfl ?_
   show SG p e below T87 (mkF m 17 (la2 a83 p84 p85) []) _
   refine XS.lloadN X87.here hx rfl (hb hby d41_17) rfl ?_
   show SG p e below T87 (mkF m 18 (la2 a83 p84 p85) [(.long (p85.toInt64))]) _
   refine st88 _ ?_
   show SG p e below T88 (mkF m 21 (la2 a83 p84 p85) [(.int (Int32.ofNat (SBG.digits ((p85.toInt64)).toInt.toNat)))]) _
   refine XS.istore X88.here hx rfl (hb hby d41_21) rfl (l' := #[vR a83, vI p84, vI p85, vJ (p85.toInt64), vS, vI (0 : Int32), vI (Int32.ofNat (SBG.digits ((p85.toInt64)).toInt.toNat)), vU, vU, vU, vU, vU]) rfl ?_
   show SG p e below T88 (mkF m 23 (la3 a83 p84 p85) []) _
   refine XS.iload X88.here hx rfl (hb hby d41_23) rfl ?_
   show SG p e below T88 (mkF m 25 (la3 a83 p84 p85) [(.int (Int32.ofNat (SBG.digits ((p85.toInt64)).toInt.toNat)))]) _
   refine XS.iload X88.here hx rfl (hb hby d41_25) rfl ?_
   show SG p e below T88 (mkF m 27 (la3 a83 p84 p85) [(.int (0 : Int32)), (.int (Int32.ofNat (SBG.digits ((p85.toInt64)).toInt.toNat)))]) _
   refine XS.ifYes X88.here hx rfl (pc0 := 27) (pc' := 34) rfl (hb hby d41_27) rfl ((if0 _ _).trans (teq (rfl : (0 : Int32) = (0 : Int32))).1) (by decide) (by decide) ?_
   show SG p e below T88 (mkF m 34 (la3 a83 p84 p85) [(.int (Int32.ofNat (SBG.digits ((p85.toInt64)).toInt.toNat)))]) _
   refine XS.iconst X88.here hx rfl (hb hby d41_34) ?_
   show SG p e below T88 (mkF m 35 (la3 a83 p84 p85) [(.int (0 : Int32)), (.int (Int32.ofNat (SBG.digits ((p85.toInt64)).toInt.toNat)))]) _
   refine XS.iadd X88.here hx rfl (hb hby d41_35) rfl ?_
   show SG p e below T88 (mkF m 36 (la3 a83 p84 p85) [(.int ((Int32.ofNat (SBG.digits ((p85.toInt64)).toInt.toNat)) + (0 : Int32)))]) _
   refine XS.istore X88.here hx rfl (hb hby d41_36) rfl (l' := #[vR a83, vI p84, vI p85, vJ (p85.toInt64), vS, vI (0 : Int32), vI (Int32.ofNat (SBG.digits ((p85.toInt64)).toInt.toNat)), vI ((Int32.ofNat (SBG.digits ((p85.toInt64)).toInt.toNat)) + (0 : Int32)), vU, vU, vU, vU]) rfl ?_
   show SG p e below T88 (mkF m 38 (la4 a83 p84 p85) []) _
   refine XS.iloadN X88.here hx rfl (hb hby d41_38) rfl ?_
   show SG p e below T88 (mkF m 39 (la4 a83 p84 p85) [(.int p84)]) _
   refine XS.iload X88.here hx rfl (hb hby d41_39) rfl ?_
   show SG p e below T88 (mkF m 41 (la4 a83 p84 p85) [(.int ((Int32.ofNat (SBG.digits ((p85.toInt64)).toInt.toNat)) + (0 : Int32))), (.int p84)]) _
   refine XS.icmpNo X88.here hx rfl (hb hby d41_41) rfl (flt H3).1 ?_
   show SG p e below T88 (mkF m 44 (la4 a83 p84 p85) []) _
   refine XS.iconst X88.here hx rfl (hb hby d41_44) ?_
   show SG p e below T88 (mkF m 45 (la4 a83 p84 p85) [(.int (1 : Int32))]) _
   exact retN X88 hx (t := .boolean) Bd.returns (by simp) (hb hby d41_45) hr
 · show OQp (some (.int (1 : Int32))) h0 n0 _ T88.heap _
   rw [e88]
   exact ⟨rfl, N88, rfl⟩
abbrev la5 (a89 : Addr) (p90 : Int32) (p91 : Int32) : Array Slot := #[vR a89, vI p90, vI p91, vU, vU, vU, vU, vU, vU, vU, vU, vU]
abbrev la6 (a89 : Addr) (p90 : Int32) (p91 : Int32) : Array Slot := #[vR a89, vI p90, vI p91, vJ (-(p91.toInt64)), vS, vU, vU, vU, vU, vU, vU, vU]
theorem d41_10 : decode method_5_code 10 = .ok (.iconst 1, 1) := by decide +kernel
theorem d41_11 : decode method_5_code 11 = .ok (.goto 4, 3) := by decide +kernel
abbrev la7 (a89 : Addr) (p90 : Int32) (p91 : Int32) : Array Slot := #[vR a89, vI p90, vI p91, vJ (-(p91.toInt64)), vS, vI (1 : Int32), vU, vU, vU, vU, vU, vU]
abbrev la8 (a89 : Addr) (p90 : Int32) (p91 : Int32) : Array Slot := #[vR a89, vI p90, vI p91, vJ (-(p91.toInt64)), vS, vI (1 : Int32), vI (Int32.ofNat (SBG.digits ((-(p91.toInt64))).toInt.toNat)), vU, vU, vU, vU, vU]
theorem d41_30 : decode method_5_code 30 = .ok (.iconst 1, 1) := by decide +kernel
theorem d41_31 : decode method_5_code 31 = .ok (.goto 4, 3) := by decide +kernel
abbrev la9 (a89 : Addr) (p90 : Int32) (p91 : Int32) : Array Slot := #[vR a89, vI p90, vI p91, vJ (-(p91.toInt64)), vS, vI (1 : Int32), vI (Int32.ofNat (SBG.digits ((-(p91.toInt64))).toInt.toNat)), vI ((Int32.ofNat (SBG.digits ((-(p91.toInt64))).toInt.toNat)) + (1 : Int32)), vU, vU, vU, vU]
theorem r41_2 (l : Launch) (Z : State) (a0 : Array Value) (hw : ∀ d ∈ tables_1, d.before a0 Z = true) (a89 : Addr) (p90 : Int32) (p91 : Int32) (h0 : Heap) (n0 : Nat) (Z0 : n0 ≤ h0.size) (H0 : (lcmpW (p91.toInt64) (0 : Int64)) < (0 : Int32)) (H1 : p91 < (0 : Int32)) (H2 : 0 ≤ ((-(p91.toInt64))).toInt) (H3 : ¬ (p90 < ((Int32.ofNat (SBG.digits ((-(p91.toInt64))).toInt.toNat)) + (1 : Int32)))) :
   OMet l Z mN9 method_5_code 12 (some .boolean) [] ({ frames := 4, cells := 1, slots := 10, locals := 53 } : Room) h0 #[(.ref a89), (.int p90), (.int p91)] (OQp (some (.int (1 : Int32))) h0 n0) := by
 refine MetFree.of_bodySF (plainFor_of_name pn_com_example_tranchebook_tranchebook_CycleToStringPinLaw) hisR ?_
 intro p e s m args below meth c s₁ Bd hml0 hP hK
 obtain ⟨rfl, hZ, hh⟩ := hP
 have hx := Bd.exec
 have hby := Bd.bytes
 have hml : c.maxLocals = 12 := hml0
 have hown : s.vm.findClass "com/example/tranchebook/tranchebook/CycleToStringPinLaw" = some m.cls := findClass_of_methodNamed Bd.named
 have hnm := (name_of_methodNamed Bd.named Bd.method).1
 have X0 : Stand p l e ({ frames := 4, cells := 1, slots := 10, locals := 53 } : Room) s m #[(.ref a89), (.int p90), (.int p91)] below meth c s₁ [] 0 0 := Stand.of_body Bd
 have e0 : s₁.heap = h0 := by rw [← hh, Bd.state]; rfl
 have N0 := Fr.nil n0
 have pre0 : ∀ t, Steps p.tables e below (s₁.setTop (mkF m 0 #[vR a89, vI p90, vI p91, .unset, .unset, .unset, .unset, .unset, .unset, .unset, .unset, .unset] [])) t → Steps p.tables e below (s₁.setTop (entryFrame m #[(.ref a89), (.int p90), (.int p91)] 12)) t := fun t k => castTop (ef_41_vvv m a89 p90 p91) k
 obtain ⟨_, _, ⟨T93, L93, k93, n93⟩, -, X93, ⟨Lc93, hQ93, l93, y93, z93⟩, st93⟩ := Jvm.LawKit.callS X0 hx (y := mN7) hown (mvT hZ (tw hw 204 rfl)) (mvT hZ (tw hw 205 rfl)) (mvT hZ (tw hw 197 rfl)) (mvT hZ (tw hw 206 rfl)) (by decide) (backOf (W := 0) (r34_2 l Z a0 hw (p91.toInt64) h0 n0 Z0 H0) hZ (tw hw 206 rfl) (tw hw 197 rfl) (by decide) (by decide)) (g := (mkF m 2 (la5 a89 p90 p91) [(.long (p91.toInt64))])) rfl (by rw [hml]; rfl) (argsL := [(.long (p91.toInt64))]) (rest := []) (lenOf pd_4 rfl) rfl (own_w _) (hb hby d41_2) (fun _ _ => ⟨rfl, e0, (by decide : 0 + 0 ≤ _), (by decide : 0 + 0 ≤ _)⟩)
 dsimp only [Pt.U, Pt.locs, Pt.cells, Pt.slots] at X93 l93 y93 z93 st93 hQ93
 replace X93 := own_mvX X93 (a := 0) (b := 0) y93 z93
 obtain ⟨rfl, N93q, e93⟩ := hQ93
 have N93 := own_mvN l93 N0 N93q
 obtain ⟨_, _, ⟨T94, L94, k94, n94⟩, -, X94, ⟨Lc94, hQ94, l94, y94, z94⟩, st94⟩ := Jvm.LawKit.callS X93 hx (y := mN1) hown (mvT hZ (tw hw 207 rfl)) (mvT hZ (tw hw 208 rfl)) (mvT hZ (tw hw 202 rfl)) (mvT hZ (tw hw 209 rfl)) (by decide) (backOf (W := 0) (own_dig l Z a0 hw (-(p91.toInt64)) h0 n0 Z0 H2) hZ (tw hw 209 rfl) (tw hw 202 rfl) (by decide) (by decide)) (g := (mkF m 18 (la7 a89 p90 p91) [(.long (-(p91.toInt64)))])) rfl (by rw [hml]; rfl) (argsL := [(.long (-(p91.toInt64)))]) (rest := []) (lenOf pd_5 rfl) rfl (own_w _) (hb hby d41_18) (fun _ _ => ⟨rfl, e93, (by decide : 0 + 0 ≤ _), (by decide : 0 + 0 ≤ _)⟩)
 dsimp only [Pt.U, Pt.locs, Pt.cells, Pt.slots] at X94 l94 y94 z94 st94 hQ94
 replace X94 := own_mvX X94 (a := 0) (b := 0) y94 z94
 obtain ⟨rfl, N94q, e94⟩ := hQ94
 have N94 := own_mvN l94 N93 N94q
 obtain ⟨fs, hr, hrun, hended, hW, hsame⟩ := X94.leave (v := some (.int (1 : Int32))) (fun h => by rw [Bd.returns] at h; cases h)
 refine ⟨_, _, pre0 _ ?_, hrun, hended, _, _, rfl, ?_, ⟨_, rfl⟩, hW, hsame.mono (by decide) (by decide)⟩
 · show SG p e below s₁ (mkF m 0 (la5 a89 p90 p91) []) _
   refine XS.iloadN X0.here hx rfl (hb hby d41_0) rfl ?_
   show SG p e below s₁ (mkF m 1 (la5 a89 p90 p91) [(.int p91)]) _
   refine XS.i2l X0.here hx rfl (hb hby d41_1) rfl ?_
   show SG p e below s₁ (mkF m 2 (la5 a89 p90 p91) [(.long (p91.toInt64))]) _
   refine st93 _ ?_
   show SG p e below T93 (mkF m 5 (la5 a89 p90 p91) [(.long (-(p91.toInt64)))]) _
   refine XS.lstoreN X93.here hx rfl (hb hby d41_5) rfl (l' := #[vR a89, vI p90, vI p91, vJ (-(p91.toInt64)), vS, vU, vU, vU, vU, vU, vU, vU]) rfl ?_
   show SG p e below T93 (mkF m 6 (la6 a89 p90 p91) []) _
   refine XS.iloadN X93.here hx rfl (hb hby d41_6) rfl ?_
   show SG p e below T93 (mkF m 7 (la6 a89 p90 p91) [(.int p91)]) _
   refine XS.ifNo X93.here hx rfl (hb hby d41_7) rfl ((if0 _ _).trans (tlt H1).2.1) ?_
   show SG p e below T93 (mkF m 10 (la6 a89 p90 p91) []) _
   refine XS.iconst X93.here hx rfl (hb hby d41_10) ?_
   show SG p e below T93 (mkF m 11 (la6 a89 p90 p91) [(.int (1 : Int32))]) _
   refine XS.goto X93.here hx rfl (pc0 := 11) (pc' := 15) rfl (hb hby d41_11) (by decide) (by decide) ?_
   show SG p e below T93 (mkF m 15 (la6 a89 p90 p91) [(.int (1 : Int32))]) _
   refine XS.istore X93.here hx rfl (hb hby d41_15) rfl (l' := #[vR a89, vI p90, vI p91, vJ (-(p91.toInt64)), vS, vI (1 : Int32), vU, vU, vU, vU, vU, vU]) rfl ?_
   show SG p e below T93 (mkF m 17 (la7 a89 p90 p91) []) _
   refine XS.lloadN X93.here hx rfl (hb hby d41_17) rfl ?_
   show SG p e below T93 (mkF m 18 (la7 a89 p90 p91) [(.long (-(p91.toInt64)))]) _
   refine st94 _ ?_
   show SG p e below T94 (mkF m 21 (la7 a89 p90 p91) [(.int (Int32.ofNat (SBG.digits ((-(p91.toInt64))).toInt.toNat)))]) _
   refine XS.istore X94.here hx rfl (hb hby d41_21) rfl (l' := #[vR a89, vI p90, vI p91, vJ (-(p91.toInt64)), vS, vI (1 : Int32), vI (Int32.ofNat (SBG.digits ((-(p91.toInt64))).toInt.toNat)), vU, vU, vU, vU, vU]) rfl ?_
   show SG p e below T94 (mkF m 23 (la8 a89 p90 p91) []) _
   refine XS.iload X94.here hx rfl (hb hby d41_23) rfl ?_
   show SG p e below T94 (mkF m 25 (la8 a89 p90 p91) [(.int (Int32.ofNat (SBG.digits ((-(p91.toInt64))).toInt.toNat)))]) _
   refine XS.iload X94.here hx rfl (hb hby d41_25) rfl ?_
   show SG p e below T94 (mkF m 27 (la8 a89 p90 p91) [(.int (1 : Int32)), (.int (Int32.ofNat (SBG.digits ((-(p91.toInt64))).toInt.toNat)))]) _
   refine XS.ifNo X94.here hx rfl (hb hby d41_27) rfl ((if0 _ _).trans (feq (by decide : ¬ ((1 : Int32) = (0 : Int32)))).1) ?_
   show SG p e below T94 (mkF m 30 (la8 a89 p90 p91) [(.int (Int32.ofNat (SBG.digits ((-(p91.toInt64))).toInt.toNat)))]) _
   refine XS.iconst X94.here hx rfl (hb hby d41_30) ?_
   show SG p e below T94 (mkF m 31 (la8 a89 p90 p91) [(.int (1 : Int32)), (.int (Int32.ofNat (SBG.digits ((-(p91.toInt64))).toInt.toNat)))]) _
   refine XS.goto X94.here hx rfl (pc0 := 31) (pc' := 35) rfl (hb hby d41_31) (by decide) (by decide) ?_
   show SG p e below T94 (mkF m 35 (la8 a89 p90 p91) [(.int (1 : Int32)), (.int (Int32.ofNat (SBG.digits ((-(p91.toInt64))).toInt.toNat)))]) _
   refine XS.iadd X94.here hx rfl (hb hby d41_35) rfl ?_
   show SG p e below T94 (mkF m 36 (la8 a89 p90 p91) [(.int ((Int32.ofNat (SBG.digits ((-(p91.toInt64))).toInt.toNat)) + (1 : Int32)))]) _
   refine XS.istore X94.here hx rfl (hb hby d41_36) rfl (l' := #[vR a89, vI p90, vI p91, vJ (-(p91.toInt64)), vS, vI (1 : Int32), vI (Int32.ofNat (SBG.digits ((-(p91.toInt64))).toInt.toNat)), vI ((Int32.ofNat (SBG.digits ((-(p91.toInt64))).toInt.toNat)) + (1 : Int32)), vU, vU, vU, vU]) rfl ?_
   show SG p e below T94 (mkF m 38 (la9 a89 p90 p91) []) _
   refine XS.iloadN X94.here hx rfl (hb hby d41_38) rfl ?_
   show SG p e below T94 (mkF m 39 (la9 a89 p90 p91) [(.int p90)]) _
   refine XS.iload X94.here hx rfl (hb hby d41_39) rfl ?_
   show SG p e below T94 (mkF m 41 (la9 a89 p90 p91) [(.int ((Int32.ofNat (SBG.digits ((-(p91.toInt64))).toInt.toNat)) + (1 : Int32))), (.int p90)]) _
   refine XS.icmpNo X94.here hx rfl (hb hby d41_41) rfl (flt H3).1 ?_
   show SG p e below T94 (mkF m 44 (la9 a89 p90 p91) []) _
   refine XS.iconst X94.here hx rfl (hb hby d41_44) ?_
   show SG p e below T94 (mkF m 45 (la9 a89 p90 p91) [(.int (1 : Int32))]) _
   exact retN X94 hx (t := .boolean) Bd.returns (by simp) (hb hby d41_45) hr
 · show OQp (some (.int (1 : Int32))) h0 n0 _ T94.heap _
   rw [e94]
   exact ⟨rfl, N94, rfl⟩
abbrev la10 (a95 : Addr) (p96 : Int32) (p97 : Int32) : Array Slot := #[vR a95, vI p96, vI p97, vU, vU, vU, vU, vU, vU, vU, vU, vU]
abbrev la11 (a95 : Addr) (p96 : Int32) (p97 : Int32) : Array Slot := #[vR a95, vI p96, vI p97, vJ (-(p97.toInt64)), vS, vU, vU, vU, vU, vU, vU, vU]
abbrev la12 (a95 : Addr) (p96 : Int32) (p97 : Int32) : Array Slot := #[vR a95, vI p96, vI p97, vJ (-(p97.toInt64)), vS, vI (1 : Int32), vU, vU, vU, vU, vU, vU]
abbrev la13 (a95 : Addr) (p96 : Int32) (p97 : Int32) : Array Slot := #[vR a95, vI p96, vI p97, vJ (-(p97.toInt64)), vS, vI (1 : Int32), vI (Int32.ofNat (SBG.digits ((-(p97.toInt64))).toInt.toNat)), vU, vU, vU, vU, vU]
abbrev la14 (a95 : Addr) (p96 : Int32) (p97 : Int32) : Array Slot := #[vR a95, vI p96, vI p97, vJ (-(p97.toInt64)), vS, vI (1 : Int32), vI (Int32.ofNat (SBG.digits ((-(p97.toInt64))).toInt.toNat)), vI ((Int32.ofNat (SBG.digits ((-(p97.toInt64))).toInt.toNat)) + (1 : Int32)), vU, vU, vU, vU]
theorem d41_46 : decode method_5_code 46 = .ok (.iload 5, 2) := by decide +kernel
theorem d41_48 : decode method_5_code 48 = .ok (.ifCond .eq 14, 3) := by decide +kernel
theorem d41_51 : decode method_5_code 51 = .ok (.iload_n 1, 1) := by decide +kernel
theorem d41_52 : decode method_5_code 52 = .ok (.ifCond .ne 10, 3) := by decide +kernel
theorem d41_55 : decode method_5_code 55 = .ok (.bipush 45, 2) := by decide +kernel
theorem d41_57 : decode method_5_code 57 = .ok (.istore 8, 2) := by decide +kernel
theorem d41_59 : decode method_5_code 59 = .ok (.goto 44, 3) := by decide +kernel
abbrev la15 (a95 : Addr) (p96 : Int32) (p97 : Int32) : Array Slot := #[vR a95, vI p96, vI p97, vJ (-(p97.toInt64)), vS, vI (1 : Int32), vI (Int32.ofNat (SBG.digits ((-(p97.toInt64))).toInt.toNat)), vI ((Int32.ofNat (SBG.digits ((-(p97.toInt64))).toInt.toNat)) + (1 : Int32)), vI (45 : Int32), vU, vU, vU]
theorem d41_103 : decode method_5_code 103 = .ok (.aload_n 0, 1) := by decide +kernel
theorem d41_104 : decode method_5_code 104 = .ok (.iconst 1, 1) := by decide +kernel
theorem d41_105 : decode method_5_code 105 = .ok (.iload_n 1, 1) := by decide +kernel
theorem d41_106 : decode method_5_code 106 = .ok (.iadd, 1) := by decide +kernel
theorem d41_107 : decode method_5_code 107 = .ok (.invokevirtual 41, 3) := by decide +kernel
theorem pd_6 : parseMethodDescriptor "(I)C" = some ⟨[.int], some .char⟩ := by decide +kernel
theorem d41_110 : decode method_5_code 110 = .ok (.iload 8, 2) := by decide +kernel
theorem d41_112 : decode method_5_code 112 = .ok (.if_icmp .ne 7, 3) := by decide +kernel
theorem d41_115 : decode method_5_code 115 = .ok (.iconst 1, 1) := by decide +kernel
theorem d41_116 : decode method_5_code 116 = .ok (.goto 4, 3) := by decide +kernel
theorem d41_120 : decode method_5_code 120 = .ok (.ireturn, 1) := by decide +kernel
theorem r41_3 (l : Launch) (Z : State) (a0 : Array Value) (hw : ∀ d ∈ tables_1, d.before a0 Z = true) (a95 : Addr) (p96 : Int32) (p97 : Int32) (w102 : Int32) (w103 : Int32) (w104 : Addr) (k105 : ClassId) (u106 : Nat → Int32) (p107 : Int32) (x108 : Value) (h0 : Heap) (n0 : Nat) (Z0 : n0 ≤ h0.size) (H0 : (lcmpW (p97.toInt64) (0 : Int64)) < (0 : Int32)) (H1 : p97 < (0 : Int32)) (H2 : 0 ≤ ((-(p97.toInt64))).toInt) (H3 : p96 < ((Int32.ofNat (SBG.digits ((-(p97.toInt64))).toInt.toNat)) + (1 : Int32))) (H4 : p96 = (0 : Int32)) (H5 : Sta Z h0 "java/lang/String" "COMPACT_STRINGS" "Z" (.int w102)) (H6 : ¬ (w102 = (0 : Int32))) (H7 : Fld Z h0 a95 "java/lang/String" "coder" "B" (.int w103)) (H8 : w103 = (0 : Int32)) (H9 : Exa Z h0 a95 "java/lang/String") (H10 : Fld Z h0 a95 "java/lang/String" "value" "[B" (.ref w104)) (H11 : BA Z h0 w104 k105 .byte p107 u106) (H12 : Sta Z h0 "jdk/internal/util/Preconditions" "SIOOBE_FORMATTER" "Ljava/util/function/BiFunction;" x108) (H13 : (x108).isRef = true) (H14 : ¬ (((1 : Int32) + p96) < (0 : Int32))) (H15 : ((1 : Int32) + p96) < p107) (H16 : (oc8 (u106 (((1 : Int32) + p96)).toNatClampNeg)) = (45 : Int32)) :
   OMet l Z mN9 method_5_code 12 (some .boolean) [] ({ frames := 4, cells := 1, slots := 10, locals := 53 } : Room) h0 #[(.ref a95), (.int p96), (.int p97)] (OQp (some (.int (1 : Int32))) h0 n0) := by
 refine MetFree.of_bodySF (plainFor_of_name pn_com_example_tranchebook_tranchebook_CycleToStringPinLaw) hisR ?_
 intro p e s m args below meth c s₁ Bd hml0 hP hK
 obtain ⟨rfl, hZ, hh⟩ := hP
 have hx := Bd.exec
 have hby := Bd.bytes
 have hml : c.maxLocals = 12 := hml0
 have hown : s.vm.findClass "com/example/tranchebook/tranchebook/CycleToStringPinLaw" = some m.cls := findClass_of_methodNamed Bd.named
 have hnm := (name_of_methodNamed Bd.named Bd.method).1
 have X0 : Stand p l e ({ frames := 4, cells := 1, slots := 10, locals := 53 } : Room) s m #[(.ref a95), (.int p96), (.int p97)] below meth c s₁ [] 0 0 := Stand.of_body Bd
 have e0 : s₁.heap = h0 := by rw [← hh, Bd.state]; rfl
 have N0 := Fr.nil n0
 have pre0 : ∀ t, Steps p.tables e below (s₁.setTop (mkF m 0 #[vR a95, vI p96, vI p97, .unset, .unset, .unset, .unset, .unset, .unset, .unset, .unset, .unset] [])) t → Steps p.tables e below (s₁.setTop (entryFrame m #[(.ref a95), (.int p96), (.int p97)] 12)) t := fun t k => castTop (ef_41_vvv m a95 p96 p97) k
 obtain ⟨_, _, ⟨T99, L99, k99, n99⟩, -, X99, ⟨Lc99, hQ99, l99, y99, z99⟩, st99⟩ := Jvm.LawKit.callS X0 hx (y := mN7) hown (mvT hZ (tw hw 204 rfl)) (mvT hZ (tw hw 205 rfl)) (mvT hZ (tw hw 197 rfl)) (mvT hZ (tw hw 206 rfl)) (by decide) (backOf (W := 0) (r34_2 l Z a0 hw (p97.toInt64) h0 n0 Z0 H0) hZ (tw hw 206 rfl) (tw hw 197 rfl) (by decide) (by decide)) (g := (mkF m 2 (la10 a95 p96 p97) [(.long (p97.toInt64))])) rfl (by rw [hml]; rfl) (argsL := [(.long (p97.toInt64))]) (rest := []) (lenOf pd_4 rfl) rfl (own_w _) (hb hby d41_2) (fun _ _ => ⟨rfl, e0, (by decide : 0 + 0 ≤ _), (by decide : 0 + 0 ≤ _)⟩)
 dsimp only [Pt.U, Pt.locs, Pt.cells, Pt.slots] at X99 l99 y99 z99 st99 hQ99
 replace X99 := own_mvX X99 (a := 0) (b := 0) y99 z99
 obtain ⟨rfl, N99q, e99⟩ := hQ99
 have N99 := own_mvN l99 N0 N99q
 obtain ⟨_, _, ⟨T100, L100, k100, n100⟩, -, X100, ⟨Lc100, hQ100, l100, y100, z100⟩, st100⟩ := Jvm.LawKit.callS X99 hx (y := mN1) hown (mvT hZ (tw hw 207 rfl)) (mvT hZ (tw hw 208 rfl)) (mvT hZ (tw hw 202 rfl)) (mvT hZ (tw hw 209 rfl)) (by decide) (backOf (W := 0) (own_dig l Z a0 hw (-(p97.toInt64)) h0 n0 Z0 H2) hZ (tw hw 209 rfl) (tw hw 202 rfl) (by decide) (by decide)) (g := (mkF m 18 (la12 a95 p96 p97) [(.long (-(p97.toInt64)))])) rfl (by rw [hml]; rfl) (argsL := [(.long (-(p97.toInt64)))]) (rest := []) (lenOf pd_5 rfl) rfl (own_w _) (hb hby d41_18) (fun _ _ => ⟨rfl, e99, (by decide : 0 + 0 ≤ _), (by decide : 0 + 0 ≤ _)⟩)
 dsimp only [Pt.U, Pt.locs, Pt.cells, Pt.slots] at X100 l100 y100 z100 st100 hQ100
 replace X100 := own_mvX X100 (a := 0) (b := 0) y100 z100
 obtain ⟨rfl, N100q, e100⟩ := hQ100
 have N100 := own_mvN l100 N99 N100q
 obtain ⟨cq101, kq101, q101a, q101b, q101c⟩ := isOf hZ e100 H9
 obtain ⟨_, _, ⟨T101, L101, k101, n101⟩, -, X101, ⟨Lc101, hQ101, l101, y101, z101⟩, st101⟩ := X100.virtualBack hx (y := mN6) (z := mN6) hown (mvT hZ (tw hw 220 rfl)) (mvT hZ (tw hw 221 rfl)) (notFace_of_selects (args := #[]) (mvT hZ (tw hw 223 rfl))) (mvT hZ (tw hw 223 rfl)) (mvT hZ (tw hw 222 rfl)) (by decide) (backOf (W := 0) (own_ch l Z a0 hw a95 w102 w103 w104 k105 p107 u106 x108 ((1 : Int32) + p96) h0 n0 Z0 H5 H6 H7 H8 H9 H10 H11 H12 H13 H14 H15) hZ (tw hw 224 rfl) (tw hw 52 rfl) (by decide) (by decide)) q101a q101c (g := (mkF m 107 (la15 a95 p96 p97) [(.int ((1 : Int32) + p96)), (.ref a95)])) rfl (by rw [hml]; rfl) (Steps.refl _) (argsL := [(.int ((1 : Int32) + p96))]) (rest := []) (lenOf pd_6 rfl) rfl (own_w _) (hb hby d41_107) (fun _ _ => ⟨rfl, e100, (by decide : 0 + 0 ≤ _), (by decide : 0 + 0 ≤ _)⟩)
 dsimp only [Pt.U, Pt.locs, Pt.cells, Pt.slots] at X101 l101 y101 z101 st101 hQ101
 replace X101 := own_mvX X101 (a := 0) (b := 0) y101 z101
 obtain ⟨rfl, N101q, e101⟩ := hQ101
 have N101 := own_mvN l101 N100 N101q
 obtain ⟨fs, hr, hrun, hended, hW, hsame⟩ := X101.leave (v := some (.int (1 : Int32))) (fun h => by rw [Bd.returns] at h; cases h)
 refine ⟨_, _, pre0 _ ?_, hrun, hended, _, _, rfl, ?_, ⟨_, rfl⟩, hW, hsame.mono (by decide) (by decide)⟩
 · show SG p e below s₁ (mkF m 0 (la10 a95 p96 p97) []) _
   refine XS.iloadN X0.here hx rfl (hb hby d41_0) rfl ?_
   show SG p e below s₁ (mkF m 1 (la10 a95 p96 p97) [(.int p97)]) _
   refine XS.i2l X0.here hx rfl (hb hby d41_1) rfl ?_
   show SG p e below s₁ (mkF m 2 (la10 a95 p96 p97) [(.long (p97.toInt64))]) _
   refine st99 _ ?_
   show SG p e below T99 (mkF m 5 (la10 a95 p96 p97) [(.long (-(p97.toInt64)))]) _
   refine XS.lstoreN X99.here hx rfl (hb hby d41_5) rfl (l' := #[vR a95, vI p96, vI p97, vJ (-(p97.toInt64)), vS, vU, vU, vU, vU, vU, vU, vU]) rfl ?_
   show SG p e below T99 (mkF m 6 (la11 a95 p96 p97) []) _
   refine XS.iloadN X99.here hx rfl (hb hby d41_6) rfl ?_
   show SG p e below T99 (mkF m 7 (la11 a95 p96 p97) [(.int p97)]) _
   refine XS.ifNo X99.here hx rfl (hb hby d41_7) rfl ((if0 _ _).trans (tlt H1).2.1) ?_
   show SG p e below T99 (mkF m 10 (la11 a95 p96 p97) []) _
   refine XS.iconst X99.here hx rfl (hb hby d41_10) ?_
   show SG p e below T99 (mkF m 11 (la11 a95 p96 p97) [(.int (1 : Int32))]) _
   refine XS.goto X99.here hx rfl (pc0 := 11) (pc' := 15) rfl (hb hby d41_11) (by decide) (by decide) ?_
   show SG p e below T99 (mkF m 15 (la11 a95 p96 p97) [(.int (1 : Int32))]) _
   refine XS.istore X99.here hx rfl (hb hby d41_15) rfl (l' := #[vR a95, vI p96, vI p97, vJ (-(p97.toInt64)), vS, vI (1 : Int32), vU, vU, vU, vU, vU, vU]) rfl ?_
   show SG p e below T99 (mkF m 17 (la12 a95 p96 p97) []) _
   refine XS.lloadN X99.here hx rfl (hb hby d41_17) rfl ?_
   show SG p e below T99 (mkF m 18 (la12 a95 p96 p97) [(.long (-(p97.toInt64)))]) _
   refine st100 _ ?_
   show SG p e below T100 (mkF m 21 (la12 a95 p96 p97) [(.int (Int32.ofNat (SBG.digits ((-(p97.toInt64))).toInt.toNat)))]) _
   refine XS.istore X100.here hx rfl (hb hby d41_21) rfl (l' := #[vR a95, vI p96, vI p97, vJ (-(p97.toInt64)), vS, vI (1 : Int32), vI (Int32.ofNat (SBG.digits ((-(p97.toInt64))).toInt.toNat)), vU, vU, vU, vU, vU]) rfl ?_
   show SG p e below T100 (mkF m 23 (la13 a95 p96 p97) []) _
   refine XS.iload X100.here hx rfl (hb hby d41_23) rfl ?_
   show SG p e below T100 (mkF m 25 (la13 a95 p96 p97) [(.int (Int32.ofNat (SBG.digits ((-(p97.toInt64))).toInt.toNat)))]) _
   refine XS.iload X100.here hx rfl (hb hby d41_25) rfl ?_
   show SG p e below T100 (mkF m 27 (la13 a95 p96 p97) [(.int (1 : Int32)), (.int (Int32.ofNat (SBG.digits ((-(p97.toInt64))).toInt.toNat)))]) _
   refine XS.ifNo X100.here hx rfl (hb hby d41_27) rfl ((if0 _ _).trans (feq (by decide : ¬ ((1 : Int32) = (0 : Int32)))).1) ?_
   show SG p e below T100 (mkF m 30 (la13 a95 p96 p97) [(.int (Int32.ofNat (SBG.digits ((-(p97.toInt64))).toInt.toNat)))]) _
   refine XS.iconst X100.here hx rfl (hb hby d41_30) ?_
   show SG p e below T100 (mkF m 31 (la13 a95 p96 p97) [(.int (1 : Int32)), (.int (Int32.ofNat (SBG.digits ((-(p97.toInt64))).toInt.toNat)))]) _
   refine XS.goto X100.here hx rfl (pc0 := 31) (pc' := 35) rfl (hb hby d41_31) (by decide) (by decide) ?_
   show SG p e below T100 (mkF m 35 (la13 a95 p96 p97) [(.int (1 : Int32)), (.int (Int32.ofNat (SBG.digits ((-(p97.toInt64))).toInt.toNat)))]) _
   refine XS.iadd X100.here hx rfl (hb hby d41_35) rfl ?_
   show SG p e below T100 (mkF m 36 (la13 a95 p96 p97) [(.int ((Int32.ofNat (SBG.digits ((-(p97.toInt64))).toInt.toNat)) + (1 : Int32)))]) _
   refine XS.istore X100.here hx rfl (hb hby d41_36) rfl (l' := #[vR a95, vI p96, vI p97, vJ (-(p97.toInt64)), vS, vI (1 : Int32), vI (Int32.ofNat (SBG.digits ((-(p97.toInt64))).toInt.toNat)), vI ((Int32.ofNat (SBG.digits ((-(p97.toInt64))).toInt.toNat)) + (1 : Int32)), vU, vU, vU, vU]) rfl ?_
   show SG p e below T100 (mkF m 38 (la14 a95 p96 p97) []) _
   refine XS.iloadN X100.here hx rfl (hb hby d41_38) rfl ?_
   show SG p e below T100 (mkF m 39 (la14 a95 p96 p97) [(.int p96)]) _
   refine XS.iload X100.here hx rfl (hb hby d41_39) rfl ?_
   show SG p e below T100 (mkF m 41 (la14 a95 p96 p97) [(.int ((Int32.ofNat (SBG.digits ((-(p97.toInt64))).toInt.toNat)) + (1 : Int32))), (.int p96)]) _
   refine XS.icmpYes X100.here hx rfl (pc0 := 41) (pc' := 46) rfl (hb hby d41_41) rfl (tlt H3).1 (by decide) (by decide) ?_
   show SG p e below T100 (mkF m 46 (la14 a95 p96 p97) []) _
   refine XS.iload X100.here hx rfl (hb hby d41_46) rfl ?_
   show SG p e below T100 (mkF m 48 (la14 a95 p96 p97) [(.int (1 : Int32))]) _
   refine XS.ifNo X100.here hx rfl (hb hby d41_48) rfl ((if0 _ _).trans (feq (by decide : ¬ ((1 : Int32) = (0 : Int32)))).1) ?_
   show SG p e below T100 (mkF m 51 (la14 a95 p96 p97) []) _
   refine XS.iloadN X100.here hx rfl (hb hby d41_51) rfl ?_
   show SG p e below T100 (mkF m 52 (la14 a95 p96 p97) [(.int p96)]) _
   refine XS.ifNo X100.here hx rfl (hb hby d41_52) rfl ((if0 _ _).trans (teq H4).2) ?_
   show SG p e below T100 (mkF m 55 (la14 a95 p96 p97) []) _
   refine XS.bipush X100.here hx rfl (hb hby d41_55) ?_
   show SG p e below T100 (mkF m 57 (la14 a95 p96 p97) [(.int (45 : Int32))]) _
   refine XS.istore X100.here hx rfl (hb hby d41_57) rfl (l' := #[vR a95, vI p96, vI p97, vJ (-(p97.toInt64)), vS, vI (1 : Int32), vI (Int32.ofNat (SBG.digits ((-(p97.toInt64))).toInt.toNat)), vI ((Int32.ofNat (SBG.digits ((-(p97.toInt64))).toInt.toNat)) + (1 : Int32)), vI (45 : Int32), vU, vU, vU]) rfl ?_
   show SG p e below T100 (mkF m 59 (la15 a95 p96 p97) []) _
   refine XS.goto X100.here hx rfl (pc0 := 59) (pc' := 103) rfl (hb hby d41_59) (by decide) (by decide) ?_
   show SG p e below T100 (mkF m 103 (la15 a95 p96 p97) []) _
   refine XS.aloadN X100.here hx rfl (hb hby d41_103) rfl rfl ?_
   show SG p e below T100 (mkF m 104 (la15 a95 p96 p97) [(.ref a95)]) _
   refine XS.iconst X100.here hx rfl (hb hby d41_104) ?_
   show SG p e below T100 (mkF m 105 (la15 a95 p96 p97) [(.int (1 : Int32)), (.ref a95)]) _
   refine XS.iloadN X100.here hx rfl (hb hby d41_105) rfl ?_
   show SG p e below T100 (mkF m 106 (la15 a95 p96 p97) [(.int p96), (.int (1 : Int32)), (.ref a95)]) _
   refine XS.iadd X100.here hx rfl (hb hby d41_106) rfl ?_
   show SG p e below T100 (mkF m 107 (la15 a95 p96 p97) [(.int ((1 : Int32) + p96)), (.ref a95)]) _
   refine st101.trans ?_
   show SG p e below T101 (mkF m 110 (la15 a95 p96 p97) [(.int (oc8 (u106 (((1 : Int32) + p96)).toNatClampNeg)))]) _
   refine XS.iload X101.here hx rfl (hb hby d41_110) rfl ?_
   show SG p e below T101 (mkF m 112 (la15 a95 p96 p97) [(.int (45 : Int32)), (.int (oc8 (u106 (((1 : Int32) + p96)).toNatClampNeg)))]) _
   refine XS.icmpNo X101.here hx rfl (hb hby d41_112) rfl (teq H16).2 ?_
   show SG p e below T101 (mkF m 115 (la15 a95 p96 p97) []) _
   refine XS.iconst X101.here hx rfl (hb hby d41_115) ?_
   show SG p e below T101 (mkF m 116 (la15 a95 p96 p97) [(.int (1 : Int32))]) _
   refine XS.goto X101.here hx rfl (pc0 := 116) (pc' := 120) rfl (hb hby d41_116) (by decide) (by decide) ?_
   show SG p e below T101 (mkF m 120 (la15 a95 p96 p97) [(.int (1 : Int32))]) _
   exact retN X101 hx (t := .boolean) Bd.returns (by simp) (hb hby d41_120) hr
 · show OQp (some (.int (1 : Int32))) h0 n0 _ T101.heap _
   rw [e101]
   exact ⟨rfl, N101, rfl⟩
abbrev la16 (a109 : Addr) (p110 : Int32) (p111 : Int32) : Array Slot := #[vR a109, vI p110, vI p111, vU, vU, vU, vU, vU, vU, vU, vU, vU]
abbrev la17 (a109 : Addr) (p110 : Int32) (p111 : Int32) : Array Slot := #[vR a109, vI p110, vI p111, vJ (-(p111.toInt64)), vS, vU, vU, vU, vU, vU, vU, vU]
abbrev la18 (a109 : Addr) (p110 : Int32) (p111 : Int32) : Array Slot := #[vR a109, vI p110, vI p111, vJ (-(p111.toInt64)), vS, vI (1 : Int32), vU, vU, vU, vU, vU, vU]
abbrev la19 (a109 : Addr) (p110 : Int32) (p111 : Int32) : Array Slot := #[vR a109, vI p110, vI p111, vJ (-(p111.toInt64)), vS, vI (1 : Int32), vI (Int32.ofNat (SBG.digits ((-(p111.toInt64))).toInt.toNat)), vU, vU, vU, vU, vU]
abbrev la20 (a109 : Addr) (p110 : Int32) (p111 : Int32) : Array Slot := #[vR a109, vI p110, vI p111, vJ (-(p111.toInt64)), vS, vI (1 : Int32), vI (Int32.ofNat (SBG.digits ((-(p111.toInt64))).toInt.toNat)), vI ((Int32.ofNat (SBG.digits ((-(p111.toInt64))).toInt.toNat)) + (1 : Int32)), vU, vU, vU, vU]
theorem d41_62 : decode method_5_code 62 = .ok (.iload_n 1, 1) := by decide +kernel
theorem d41_63 : decode method_5_code 63 = .ok (.iload 5, 2) := by decide +kernel
theorem d41_65 : decode method_5_code 65 = .ok (.ifCond .eq 7, 3) := by decide +kernel
theorem d41_68 : decode method_5_code 68 = .ok (.iconst 1, 1) := by decide +kernel
theorem d41_69 : decode method_5_code 69 = .ok (.goto 4, 3) := by decide +kernel
theorem d41_73 : decode method_5_code 73 = .ok (.isub, 1) := by decide +kernel
theorem d41_74 : decode method_5_code 74 = .ok (.istore 9, 2) := by decide +kernel
theorem d41_76 : decode method_5_code 76 = .ok (.iload 6, 2) := by decide +kernel
abbrev la21 (a109 : Addr) (p110 : Int32) (p111 : Int32) : Array Slot := #[vR a109, vI p110, vI p111, vJ (-(p111.toInt64)), vS, vI (1 : Int32), vI (Int32.ofNat (SBG.digits ((-(p111.toInt64))).toInt.toNat)), vI ((Int32.ofNat (SBG.digits ((-(p111.toInt64))).toInt.toNat)) + (1 : Int32)), vU, vI (p110 - (1 : Int32)), vU, vU]
theorem d41_78 : decode method_5_code 78 = .ok (.iconst 1, 1) := by decide +kernel
theorem d41_79 : decode method_5_code 79 = .ok (.isub, 1) := by decide +kernel
theorem d41_80 : decode method_5_code 80 = .ok (.iload 9, 2) := by decide +kernel
theorem d41_82 : decode method_5_code 82 = .ok (.isub, 1) := by decide +kernel
theorem d41_83 : decode method_5_code 83 = .ok (.invokestatic 37, 3) := by decide +kernel
theorem d42_0 : decode method_2_code 0 = .ok (.bipush 10, 2) := by decide +kernel
theorem d42_2 : decode method_2_code 2 = .ok (.newarray .long, 2) := by decide +kernel
theorem d42_4 : decode method_2_code 4 = .ok (.dup, 1) := by decide +kernel
theorem d42_5 : decode method_2_code 5 = .ok (.iconst 0, 1) := by decide +kernel
theorem d42_6 : decode method_2_code 6 = .ok (.lconst 1, 1) := by decide +kernel
theorem d42_7 : decode method_2_code 7 = .ok (.lastore, 1) := by decide +kernel
theorem d42_8 : decode method_2_code 8 = .ok (.dup, 1) := by decide +kernel
theorem d42_9 : decode method_2_code 9 = .ok (.iconst 1, 1) := by decide +kernel
theorem d42_10 : decode method_2_code 10 = .ok (.ldc2_w 7, 3) := by decide +kernel
theorem d42_13 : decode method_2_code 13 = .ok (.lastore, 1) := by decide +kernel
theorem d42_14 : decode method_2_code 14 = .ok (.dup, 1) := by decide +kernel
theorem d42_15 : decode method_2_code 15 = .ok (.iconst 2, 1) := by decide +kernel
theorem d42_16 : decode method_2_code 16 = .ok (.ldc2_w 9, 3) := by decide +kernel
theorem d42_19 : decode method_2_code 19 = .ok (.lastore, 1) := by decide +kernel
theorem d42_20 : decode method_2_code 20 = .ok (.dup, 1) := by decide +kernel
theorem d42_21 : decode method_2_code 21 = .ok (.iconst 3, 1) := by decide +kernel
theorem d42_22 : decode method_2_code 22 = .ok (.ldc2_w 11, 3) := by decide +kernel
theorem d42_25 : decode method_2_code 25 = .ok (.lastore, 1) := by decide +kernel
theorem d42_26 : decode method_2_code 26 = .ok (.dup, 1) := by decide +kernel
theorem d42_27 : decode method_2_code 27 = .ok (.iconst 4, 1) := by decide +kernel
theorem d42_28 : decode method_2_code 28 = .ok (.ldc2_w 13, 3) := by decide +kernel
theorem d42_31 : decode method_2_code 31 = .ok (.lastore, 1) := by decide +kernel
theorem d42_32 : decode method_2_code 32 = .ok (.dup, 1) := by decide +kernel
theorem d42_33 : decode method_2_code 33 = .ok (.iconst 5, 1) := by decide +kernel
theorem d42_34 : decode method_2_code 34 = .ok (.ldc2_w 15, 3) := by decide +kernel
theorem d42_37 : decode method_2_code 37 = .ok (.lastore, 1) := by decide +kernel
theorem d42_38 : decode method_2_code 38 = .ok (.dup, 1) := by decide +kernel
theorem d42_39 : decode method_2_code 39 = .ok (.bipush 6, 2) := by decide +kernel
theorem d42_41 : decode method_2_code 41 = .ok (.ldc2_w 17, 3) := by decide +kernel
theorem d42_44 : decode method_2_code 44 = .ok (.lastore, 1) := by decide +kernel
theorem d42_45 : decode method_2_code 45 = .ok (.dup, 1) := by decide +kernel
theorem d42_46 : decode method_2_code 46 = .ok (.bipush 7, 2) := by decide +kernel
theorem d42_48 : decode method_2_code 48 = .ok (.ldc2_w 19, 3) := by decide +kernel
theorem d42_51 : decode method_2_code 51 = .ok (.lastore, 1) := by decide +kernel
theorem d42_52 : decode method_2_code 52 = .ok (.dup, 1) := by decide +kernel
theorem d42_53 : decode method_2_code 53 = .ok (.bipush 8, 2) := by decide +kernel
theorem d42_55 : decode method_2_code 55 = .ok (.ldc2_w 21, 3) := by decide +kernel
theorem d42_58 : decode method_2_code 58 = .ok (.lastore, 1) := by decide +kernel
theorem d42_59 : decode method_2_code 59 = .ok (.dup, 1) := by decide +kernel
theorem d42_60 : decode method_2_code 60 = .ok (.bipush 9, 2) := by decide +kernel
theorem d42_62 : decode method_2_code 62 = .ok (.ldc2_w 23, 3) := by decide +kernel
theorem d42_65 : decode method_2_code 65 = .ok (.lastore, 1) := by decide +kernel
theorem d42_66 : decode method_2_code 66 = .ok (.astore_n 1, 1) := by decide +kernel
theorem d42_67 : decode method_2_code 67 = .ok (.aload_n 1, 1) := by decide +kernel
theorem d42_68 : decode method_2_code 68 = .ok (.iload_n 0, 1) := by decide +kernel
theorem d42_69 : decode method_2_code 69 = .ok (.laload, 1) := by decide +kernel
theorem d42_70 : decode method_2_code 70 = .ok (.lreturn, 1) := by decide +kernel
theorem ef_42_v (m : MethodId) (x0 : Int32) : entryFrame m #[(.int x0)] 2 = mkF m 0 #[.val (.int x0), .unset] [] := by first | (simp [entryFrame, mkF, argsToLocals, Value.category]; done) | rfl
def Qr42_1 (Z : State) (p115 : Int32) (q140 : Int64) (h0 : Heap) (n0 : Nat) (v : Option Value) (h : Heap) (L : List Loc) : Prop := Fr n0 L ∧ ∃ b116 : Addr, ∃ k116 : ClassId, v = some (.long q140) ∧ h0.size ≤ b116 ∧ KSx h0 h [] [] ∧ Arv Z h b116 k116 .long (10 : Int32) [(.long (1 : Int64)), (.long (10 : Int64)), (.long (100 : Int64)), (.long (1000 : Int64)), (.long (10000 : Int64)), (.long (100000 : Int64)), (.long (1000000 : Int64)), (.long (10000000 : Int64)), (.long (100000000 : Int64)), (.long (1000000000 : Int64))] (.long (0 : Int64))
theorem r42_1 (l : Launch) (Z : State) (a0 : Array Value) (hw : ∀ d ∈ tables_1, d.before a0 Z = true) (p115 : Int32) (q140 : Int64) (h0 : Heap) (n0 : Nat) (Z0 : n0 ≤ h0.size) (H0 : ¬ (p115 < (0 : Int32))) (H1 : p115 < (10 : Int32)) (H2 : ([(.long (1 : Int64)), (.long (10 : Int64)), (.long (100 : Int64)), (.long (1000 : Int64)), (.long (10000 : Int64)), (.long (100000 : Int64)), (.long (1000000 : Int64)), (.long (10000000 : Int64)), (.long (100000000 : Int64)), (.long (1000000000 : Int64))] : List Value).getD (p115).toNatClampNeg (.long (0 : Int64)) = (.long q140)) :
   OMet l Z mN10 method_2_code 2 (some .long) [] ({ frames := 0, cells := 1, slots := 10, locals := 0 } : Room) h0 #[(.int p115)] (Qr42_1 Z p115 q140 h0 n0) := by
 refine MetFree.of_bodySF (plainFor_of_name pn_com_example_tranchebook_tranchebook_CycleToStringPinLaw) hisR ?_
 intro p e s m args below meth c s₁ Bd hml0 hP hK
 obtain ⟨rfl, hZ, hh⟩ := hP
 have hx := Bd.exec
 have hby := Bd.bytes
 have hml : c.maxLocals = 2 := hml0
 have hown : s.vm.findClass "com/example/tranchebook/tranchebook/CycleToStringPinLaw" = some m.cls := findClass_of_methodNamed Bd.named
 have hnm := (name_of_methodNamed Bd.named Bd.method).1
 have X0 : Stand p l e ({ frames := 0, cells := 1, slots := 10, locals := 0 } : Room) s m #[(.int p115)] below meth c s₁ [] 0 0 := Stand.of_body Bd
 have e0 : s₁.heap = h0 := by rw [← hh, Bd.state]; rfl
 have N0 := Fr.nil n0
 have pre0 : ∀ t, Steps p.tables e below (s₁.setTop (mkF m 0 #[vI p115, .unset] [])) t → Steps p.tables e below (s₁.setTop (entryFrame m #[(.int p115)] 2)) t := fun t k => castTop (ef_42_v m p115) k
 obtain ⟨T116, h116, k116, X116, e116, E116, A116, st116⟩ := newP X0 hx hZ (tw hw 247 rfl) e0 (g := (mkF m 2 #[vI p115, vU] [(.int (10 : Int32))])) rfl (hb hby d42_2) rfl (by decide) (cap := 10) (by decide) (by decide) (by decide) (by decide)
 obtain ⟨b116, g116⟩ : ∃ z, z = h0.size := ⟨_, rfl⟩
 rw [← g116] at A116 st116
 have KC116 := KSx.ext (KSx.refl h0 [] []) E116
 have V116 : Arv Z h116 b116 k116 .long (10 : Int32) [(.long (0 : Int64)), (.long (0 : Int64)), (.long (0 : Int64)), (.long (0 : Int64)), (.long (0 : Int64)), (.long (0 : Int64)), (.long (0 : Int64)), (.long (0 : Int64)), (.long (0 : Int64)), (.long (0 : Int64))] (.long (0 : Int64)) := (Arv.new A116 (by decide)).pad (pad_rep [] (.long (0 : Int64)) 10)
 have vc117 := V116
 obtain ⟨cl117, Ar117, q117, S117, N117, Hh117, G117⟩ := vc117
 have hin117 : ¬ ((0 : Int32) < 0 ∨ cl117.slots.size ≤ ((0 : Int32)).toNatClampNeg) := inb_of S117 ⟨(by decide), (by decide)⟩
 have g118 : n0 ≤ b116 := Nat.le_trans Z0 (Nat.le_of_eq g116.symm)
 obtain ⟨T119, h119, X119, e119, W119, st119⟩ := stJ X116 hx hZ e116 Ar117 (j := (0 : Int32)) hin117 (g := (mkF m 7 #[vI p115, vU] [(.long (1 : Int64)), (.int (0 : Int32)), (.ref b116), (.ref b116)])) rfl rfl (hb hby d42_7)
 have V119 : Arv Z h119 b116 k116 .long (10 : Int32) [(.long (1 : Int64)), (.long (0 : Int64)), (.long (0 : Int64)), (.long (0 : Int64)), (.long (0 : Int64)), (.long (0 : Int64)), (.long (0 : Int64)), (.long (0 : Int64)), (.long (0 : Int64)), (.long (0 : Int64))] (.long (0 : Int64)) := Arv.set Ar117 q117 S117 N117 Hh117 G117 rfl W119 0 rfl (Nat.le_of_ble_eq_true rfl)
 have z120 : h0.size ≤ b116 := Nat.le_trans (KSx.refl h0 [] []).1 (Nat.le_of_eq g116.symm)
 have KC119 := KSx.wrA KC116 W119 (Or.inr z120)
 have N119 := Fr.snoc X119 N0 g118
 have vc121 := V119
 obtain ⟨cl121, Ar121, q121, S121, N121, Hh121, G121⟩ := vc121
 have hin121 : ¬ ((1 : Int32) < 0 ∨ cl121.slots.size ≤ ((1 : Int32)).toNatClampNeg) := inb_of S121 ⟨(by decide), (by decide)⟩
 obtain ⟨T122, h122, X122, e122, W122, st122⟩ := stJ X119 hx hZ e119 Ar121 (j := (1 : Int32)) hin121 (g := (mkF m 13 #[vI p115, vU] [(.long (10 : Int64)), (.int (1 : Int32)), (.ref b116), (.ref b116)])) rfl rfl (hb hby d42_13)
 have V122 : Arv Z h122 b116 k116 .long (10 : Int32) [(.long (1 : Int64)), (.long (10 : Int64)), (.long (0 : Int64)), (.long (0 : Int64)), (.long (0 : Int64)), (.long (0 : Int64)), (.long (0 : Int64)), (.long (0 : Int64)), (.long (0 : Int64)), (.long (0 : Int64))] (.long (0 : Int64)) := Arv.set Ar121 q121 S121 N121 Hh121 G121 rfl W122 1 rfl (Nat.le_of_ble_eq_true rfl)
 have KC122 := KSx.wrA KC119 W122 (Or.inr z120)
 have N122 := Fr.snoc X122 N119 g118
 have vc123 := V122
 obtain ⟨cl123, Ar123, q123, S123, N123, Hh123, G123⟩ := vc123
 have hin123 : ¬ ((2 : Int32) < 0 ∨ cl123.slots.size ≤ ((2 : Int32)).toNatClampNeg) := inb_of S123 ⟨(by decide), (by decide)⟩
 obtain ⟨T124, h124, X124, e124, W124, st124⟩ := stJ X122 hx hZ e122 Ar123 (j := (2 : Int32)) hin123 (g := (mkF m 19 #[vI p115, vU] [(.long (100 : Int64)), (.int (2 : Int32)), (.ref b116), (.ref b116)])) rfl rfl (hb hby d42_19)
 have V124 : Arv Z h124 b116 k116 .long (10 : Int32) [(.long (1 : Int64)), (.long (10 : Int64)), (.long (100 : Int64)), (.long (0 : Int64)), (.long (0 : Int64)), (.long (0 : Int64)), (.long (0 : Int64)), (.long (0 : Int64)), (.long (0 : Int64)), (.long (0 : Int64))] (.long (0 : Int64)) := Arv.set Ar123 q123 S123 N123 Hh123 G123 rfl W124 2 rfl (Nat.le_of_ble_eq_true rfl)
 have KC124 := KSx.wrA KC122 W124 (Or.inr z120)
 have N124 := Fr.snoc X124 N122 g118
 have vc125 := V124
 obtain ⟨cl125, Ar125, q125, S125, N125, Hh125, G125⟩ := vc125
 have hin125 : ¬ ((3 : Int32) < 0 ∨ cl125.slots.size ≤ ((3 : Int32)).toNatClampNeg) := inb_of S125 ⟨(by decide), (by decide)⟩
 obtain ⟨T126, h126, X126, e126, W126, st126⟩ := stJ X124 hx hZ e124 Ar125 (j := (3 : Int32)) hin125 (g := (mkF m 25 #[vI p115, vU] [(.long (1000 : Int64)), (.int (3 : Int32)), (.ref b116), (.ref b116)])) rfl rfl (hb hby d42_25)
 have V126 : Arv Z h126 b116 k116 .long (10 : Int32) [(.long (1 : Int64)), (.long (10 : Int64)), (.long (100 : Int64)), (.long (1000 : Int64)), (.long (0 : Int64)), (.long (0 : Int64)), (.long (0 : Int64)), (.long (0 : Int64)), (.long (0 : Int64)), (.long (0 : Int64))] (.long (0 : Int64)) := Arv.set Ar125 q125 S125 N125 Hh125 G125 rfl W126 3 rfl (Nat.le_of_ble_eq_true rfl)
 have KC126 := KSx.wrA KC124 W126 (Or.inr z120)
 have N126 := Fr.snoc X126 N124 g118
 have vc127 := V126
 obtain ⟨cl127, Ar127, q127, S127, N127, Hh127, G127⟩ := vc127
 have hin127 : ¬ ((4 : Int32) < 0 ∨ cl127.slots.size ≤ ((4 : Int32)).toNatClampNeg) := inb_of S127 ⟨(by decide), (by decide)⟩
 obtain ⟨T128, h128, X128, e128, W128, st128⟩ := stJ X126 hx hZ e126 Ar127 (j := (4 : Int32)) hin127 (g := (mkF m 31 #[vI p115, vU] [(.long (10000 : Int64)), (.int (4 : Int32)), (.ref b116), (.ref b116)])) rfl rfl (hb hby d42_31)
 have V128 : Arv Z h128 b116 k116 .long (10 : Int32) [(.long (1 : Int64)), (.long (10 : Int64)), (.long (100 : Int64)), (.long (1000 : Int64)), (.long (10000 : Int64)), (.long (0 : Int64)), (.long (0 : Int64)), (.long (0 : Int64)), (.long (0 : Int64)), (.long (0 : Int64))] (.long (0 : Int64)) := Arv.set Ar127 q127 S127 N127 Hh127 G127 rfl W128 4 rfl (Nat.le_of_ble_eq_true rfl)
 have KC128 := KSx.wrA KC126 W128 (Or.inr z120)
 have N128 := Fr.snoc X128 N126 g118
 have vc129 := V128
 obtain ⟨cl129, Ar129, q129, S129, N129, Hh129, G129⟩ := vc129
 have hin129 : ¬ ((5 : Int32) < 0 ∨ cl129.slots.size ≤ ((5 : Int32)).toNatClampNeg) := inb_of S129 ⟨(by decide), (by decide)⟩
 obtain ⟨T130, h130, X130, e130, W130, st130⟩ := stJ X128 hx hZ e128 Ar129 (j := (5 : Int32)) hin129 (g := (mkF m 37 #[vI p115, vU] [(.long (100000 : Int64)), (.int (5 : Int32)), (.ref b116), (.ref b116)])) rfl rfl (hb hby d42_37)
 have V130 : Arv Z h130 b116 k116 .long (10 : Int32) [(.long (1 : Int64)), (.long (10 : Int64)), (.long (100 : Int64)), (.long (1000 : Int64)), (.long (10000 : Int64)), (.long (100000 : Int64)), (.long (0 : Int64)), (.long (0 : Int64)), (.long (0 : Int64)), (.long (0 : Int64))] (.long (0 : Int64)) := Arv.set Ar129 q129 S129 N129 Hh129 G129 rfl W130 5 rfl (Nat.le_of_ble_eq_true rfl)
 have KC130 := KSx.wrA KC128 W130 (Or.inr z120)
 have N130 := Fr.snoc X130 N128 g118
 have vc131 := V130
 obtain ⟨cl131, Ar131, q131, S131, N131, Hh131, G131⟩ := vc131
 have hin131 : ¬ ((6 : Int32) < 0 ∨ cl131.slots.size ≤ ((6 : Int32)).toNatClampNeg) := inb_of S131 ⟨(by decide), (by decide)⟩
 obtain ⟨T132, h132, X132, e132, W132, st132⟩ := stJ X130 hx hZ e130 Ar131 (j := (6 : Int32)) hin131 (g := (mkF m 44 #[vI p115, vU] [(.long (1000000 : Int64)), (.int (6 : Int32)), (.ref b116), (.ref b116)])) rfl rfl (hb hby d42_44)
 have V132 : Arv Z h132 b116 k116 .long (10 : Int32) [(.long (1 : Int64)), (.long (10 : Int64)), (.long (100 : Int64)), (.long (1000 : Int64)), (.long (10000 : Int64)), (.long (100000 : Int64)), (.long (1000000 : Int64)), (.long (0 : Int64)), (.long (0 : Int64)), (.long (0 : Int64))] (.long (0 : Int64)) := Arv.set Ar131 q131 S131 N131 Hh131 G131 rfl W132 6 rfl (Nat.le_of_ble_eq_true rfl)
 have KC132 := KSx.wrA KC130 W132 (Or.inr z120)
 have N132 := Fr.snoc X132 N130 g118
 have vc133 := V132
 obtain ⟨cl133, Ar133, q133, S133, N133, Hh133, G133⟩ := vc133
 have hin133 : ¬ ((7 : Int32) < 0 ∨ cl133.slots.size ≤ ((7 : Int32)).toNatClampNeg) := inb_of S133 ⟨(by decide), (by decide)⟩
 obtain ⟨T134, h134, X134, e134, W134, st134⟩ := stJ X132 hx hZ e132 Ar133 (j := (7 : Int32)) hin133 (g := (mkF m 51 #[vI p115, vU] [(.long (10000000 : Int64)), (.int (7 : Int32)), (.ref b116), (.ref b116)])) rfl rfl (hb hby d42_51)
 have V134 : Arv Z h134 b116 k116 .long (10 : Int32) [(.long (1 : Int64)), (.long (10 : Int64)), (.long (100 : Int64)), (.long (1000 : Int64)), (.long (10000 : Int64)), (.long (100000 : Int64)), (.long (1000000 : Int64)), (.long (10000000 : Int64)), (.long (0 : Int64)), (.long (0 : Int64))] (.long (0 : Int64)) := Arv.set Ar133 q133 S133 N133 Hh133 G133 rfl W134 7 rfl (Nat.le_of_ble_eq_true rfl)
 have KC134 := KSx.wrA KC132 W134 (Or.inr z120)
 have N134 := Fr.snoc X134 N132 g118
 have vc135 := V134
 obtain ⟨cl135, Ar135, q135, S135, N135, Hh135, G135⟩ := vc135
 have hin135 : ¬ ((8 : Int32) < 0 ∨ cl135.slots.size ≤ ((8 : Int32)).toNatClampNeg) := inb_of S135 ⟨(by decide), (by decide)⟩
 obtain ⟨T136, h136, X136, e136, W136, st136⟩ := stJ X134 hx hZ e134 Ar135 (j := (8 : Int32)) hin135 (g := (mkF m 58 #[vI p115, vU] [(.long (100000000 : Int64)), (.int (8 : Int32)), (.ref b116), (.ref b116)])) rfl rfl (hb hby d42_58)
 have V136 : Arv Z h136 b116 k116 .long (10 : Int32) [(.long (1 : Int64)), (.long (10 : Int64)), (.long (100 : Int64)), (.long (1000 : Int64)), (.long (10000 : Int64)), (.long (100000 : Int64)), (.long (1000000 : Int64)), (.long (10000000 : Int64)), (.long (100000000 : Int64)), (.long (0 : Int64))] (.long (0 : Int64)) := Arv.set Ar135 q135 S135 N135 Hh135 G135 rfl W136 8 rfl (Nat.le_of_ble_eq_true rfl)
 have KC136 := KSx.wrA KC134 W136 (Or.inr z120)
 have N136 := Fr.snoc X136 N134 g118
 have vc137 := V136
 obtain ⟨cl137, Ar137, q137, S137, N137, Hh137, G137⟩ := vc137
 have hin137 : ¬ ((9 : Int32) < 0 ∨ cl137.slots.size ≤ ((9 : Int32)).toNatClampNeg) := inb_of S137 ⟨(by decide), (by decide)⟩
 obtain ⟨T138, h138, X138, e138, W138, st138⟩ := stJ X136 hx hZ e136 Ar137 (j := (9 : Int32)) hin137 (g := (mkF m 65 #[vI p115, vU] [(.long (1000000000 : Int64)), (.int (9 : Int32)), (.ref b116), (.ref b116)])) rfl rfl (hb hby d42_65)
 have V138 : Arv Z h138 b116 k116 .long (10 : Int32) [(.long (1 : Int64)), (.long (10 : Int64)), (.long (100 : Int64)), (.long (1000 : Int64)), (.long (10000 : Int64)), (.long (100000 : Int64)), (.long (1000000 : Int64)), (.long (10000000 : Int64)), (.long (100000000 : Int64)), (.long (1000000000 : Int64))] (.long (0 : Int64)) := Arv.set Ar137 q137 S137 N137 Hh137 G137 rfl W138 9 rfl (Nat.le_of_ble_eq_true rfl)
 have KC138 := KSx.wrA KC136 W138 (Or.inr z120)
 have N138 := Fr.snoc X138 N136 g118
 have vc139 := V138
 obtain ⟨cl139, Ar139, q139, S139, N139, Hh139, G139⟩ := vc139
 have hin139 : ¬ (p115 < 0 ∨ cl139.slots.size ≤ (p115).toNatClampNeg) := inb_of S139 ⟨H0, H1⟩
 have hat139 : cl139.slots[(p115).toNatClampNeg]? = some (.long q140) := Has.at Hh139 hin139 H2
 obtain ⟨fs, hr, hrun, hended, hW, hsame⟩ := X138.leave (v := some (.long q140)) (fun h => by rw [Bd.returns] at h; cases h)
 refine ⟨_, _, pre0 _ ?_, hrun, hended, _, _, rfl, ?_, ⟨_, rfl⟩, hW, hsame.mono (by decide) (by decide)⟩
 · show SG p e below s₁ (mkF m 0 #[vI p115, vU] []) _
   refine XS.bipush X0.here hx rfl (hb hby d42_0) ?_
   show SG p e below s₁ (mkF m 2 #[vI p115, vU] [(.int (10 : Int32))]) _
   refine st116 _ ?_
   show SG p e below T116 (mkF m 4 #[vI p115, vU] [(.ref b116)]) _
   refine XS.dup X116.here hx rfl (hb hby d42_4) rfl rfl ?_
   show SG p e below T116 (mkF m 5 #[vI p115, vU] [(.ref b116), (.ref b116)]) _
   refine XS.iconst X116.here hx rfl (hb hby d42_5) ?_
   show SG p e below T116 (mkF m 6 #[vI p115, vU] [(.int (0 : Int32)), (.ref b116), (.ref b116)]) _
   refine XS.lconst X116.here hx rfl (hb hby d42_6) ?_
   show SG p e below T116 (mkF m 7 #[vI p115, vU] [(.long (1 : Int64)), (.int (0 : Int32)), (.ref b116), (.ref b116)]) _
   refine st119 _ ?_
   show SG p e below T119 (mkF m 8 #[vI p115, vU] [(.ref b116)]) _
   refine XS.dup X119.here hx rfl (hb hby d42_8) rfl rfl ?_
   show SG p e below T119 (mkF m 9 #[vI p115, vU] [(.ref b116), (.ref b116)]) _
   refine XS.iconst X119.here hx rfl (hb hby d42_9) ?_
   show SG p e below T119 (mkF m 10 #[vI p115, vU] [(.int (1 : Int32)), (.ref b116), (.ref b116)]) _
   refine X119.ldc2Long hx hown (mvT hZ (tw hw 210 rfl)) (g := (mkF m 10 #[vI p115, vU] [(.int (1 : Int32)), (.ref b116), (.ref b116)])) rfl (hb hby d42_10) _ ?_
   show SG p e below T119 (mkF m 13 #[vI p115, vU] [(.long (10 : Int64)), (.int (1 : Int32)), (.ref b116), (.ref b116)]) _
   refine st122 _ ?_
   show SG p e below T122 (mkF m 14 #[vI p115, vU] [(.ref b116)]) _
   refine XS.dup X122.here hx rfl (hb hby d42_14) rfl rfl ?_
   show SG p e below T122 (mkF m 15 #[vI p115, vU] [(.ref b116), (.ref b116)]) _
   refine XS.iconst X122.here hx rfl (hb hby d42_15) ?_
   show SG p e below T122 (mkF m 16 #[vI p115, vU] [(.int (2 : Int32)), (.ref b116), (.ref b116)]) _
   refine X122.ldc2Long hx hown (mvT hZ (tw hw 211 rfl)) (g := (mkF m 16 #[vI p115, vU] [(.int (2 : Int32)), (.ref b116), (.ref b116)])) rfl (hb hby d42_16) _ ?_
   show SG p e below T122 (mkF m 19 #[vI p115, vU] [(.long (100 : Int64)), (.int (2 : Int32)), (.ref b116), (.ref b116)]) _
   refine st124 _ ?_
   show SG p e below T124 (mkF m 20 #[vI p115, vU] [(.ref b116)]) _
   refine XS.dup X124.here hx rfl (hb hby d42_20) rfl rfl ?_
   show SG p e below T124 (mkF m 21 #[vI p115, vU] [(.ref b116), (.ref b116)]) _
   refine XS.iconst X124.here hx rfl (hb hby d42_21) ?_
   show SG p e below T124 (mkF m 22 #[vI p115, vU] [(.int (3 : Int32)), (.ref b116), (.ref b116)]) _
   refine X124.ldc2Long hx hown (mvT hZ (tw hw 212 rfl)) (g := (mkF m 22 #[vI p115, vU] [(.int (3 : Int32)), (.ref b116), (.ref b116)])) rfl (hb hby d42_22) _ ?_
   show SG p e below T124 (mkF m 25 #[vI p115, vU] [(.long (1000 : Int64)), (.int (3 : Int32)), (.ref b116), (.ref b116)]) _
   refine st126 _ ?_
   show SG p e below T126 (mkF m 26 #[vI p115, vU] [(.ref b116)]) _
   refine XS.dup X126.here hx rfl (hb hby d42_26) rfl rfl ?_
   show SG p e below T126 (mkF m 27 #[vI p115, vU] [(.ref b116), (.ref b116)]) _
   refine XS.iconst X126.here hx rfl (hb hby d42_27) ?_
   show SG p e below T126 (mkF m 28 #[vI p115, vU] [(.int (4 : Int32)), (.ref b116), (.ref b116)]) _
   refine X126.ldc2Long hx hown (mvT hZ (tw hw 213 rfl)) (g := (mkF m 28 #[vI p115, vU] [(.int (4 : Int32)), (.ref b116), (.ref b116)])) rfl (hb hby d42_28) _ ?_
   show SG p e below T126 (mkF m 31 #[vI p115, vU] [(.long (10000 : Int64)), (.int (4 : Int32)), (.ref b116), (.ref b116)]) _
   refine st128 _ ?_
   show SG p e below T128 (mkF m 32 #[vI p115, vU] [(.ref b116)]) _
   refine XS.dup X128.here hx rfl (hb hby d42_32) rfl rfl ?_
   show SG p e below T128 (mkF m 33 #[vI p115, vU] [(.ref b116), (.ref b116)]) _
   refine XS.iconst X128.here hx rfl (hb hby d42_33) ?_
   show SG p e below T128 (mkF m 34 #[vI p115, vU] [(.int (5 : Int32)), (.ref b116), (.ref b116)]) _
   refine X128.ldc2Long hx hown (mvT hZ (tw hw 214 rfl)) (g := (mkF m 34 #[vI p115, vU] [(.int (5 : Int32)), (.ref b116), (.ref b116)])) rfl (hb hby d42_34) _ ?_
   show SG p e below T128 (mkF m 37 #[vI p115, vU] [(.long (100000 : Int64)), (.int (5 : Int32)), (.ref b116), (.ref b116)]) _
   refine st130 _ ?_
   show SG p e below T130 (mkF m 38 #[vI p115, vU] [(.ref b116)]) _
   refine XS.dup X130.here hx rfl (hb hby d42_38) rfl rfl ?_
   show SG p e below T130 (mkF m 39 #[vI p115, vU] [(.ref b116), (.ref b116)]) _
   refine XS.bipush X130.here hx rfl (hb hby d42_39) ?_
   show SG p e below T130 (mkF m 41 #[vI p115, vU] [(.int (6 : Int32)), (.ref b116), (.ref b116)]) _
   refine X130.ldc2Long hx hown (mvT hZ (tw hw 215 rfl)) (g := (mkF m 41 #[vI p115, vU] [(.int (6 : Int32)), (.ref b116), (.ref b116)])) rfl (hb hby d42_41) _ ?_
   show SG p e below T130 (mkF m 44 #[vI p115, vU] [(.long (1000000 : Int64)), (.int (6 : Int32)), (.ref b116), (.ref b116)]) _
   refine st132 _ ?_
   show SG p e below T132 (mkF m 45 #[vI p115, vU] [(.ref b116)]) _
   refine XS.dup X132.here hx rfl (hb hby d42_45) rfl rfl ?_
   show SG p e below T132 (mkF m 46 #[vI p115, vU] [(.ref b116), (.ref b116)]) _
   refine XS.bipush X132.here hx rfl (hb hby d42_46) ?_
   show SG p e below T132 (mkF m 48 #[vI p115, vU] [(.int (7 : Int32)), (.ref b116), (.ref b116)]) _
   refine X132.ldc2Long hx hown (mvT hZ (tw hw 216 rfl)) (g := (mkF m 48 #[vI p115, vU] [(.int (7 : Int32)), (.ref b116), (.ref b116)])) rfl (hb hby d42_48) _ ?_
   show SG p e below T132 (mkF m 51 #[vI p115, vU] [(.long (10000000 : Int64)), (.int (7 : Int32)), (.ref b116), (.ref b116)]) _
   refine st134 _ ?_
   show SG p e below T134 (mkF m 52 #[vI p115, vU] [(.ref b116)]) _
   refine XS.dup X134.here hx rfl (hb hby d42_52) rfl rfl ?_
   show SG p e below T134 (mkF m 53 #[vI p115, vU] [(.ref b116), (.ref b116)]) _
   refine XS.bipush X134.here hx rfl (hb hby d42_53) ?_
   show SG p e below T134 (mkF m 55 #[vI p115, vU] [(.int (8 : Int32)), (.ref b116), (.ref b116)]) _
   refine X134.ldc2Long hx hown (mvT hZ (tw hw 217 rfl)) (g := (mkF m 55 #[vI p115, vU] [(.int (8 : Int32)), (.ref b116), (.ref b116)])) rfl (hb hby d42_55) _ ?_
   show SG p e below T134 (mkF m 58 #[vI p115, vU] [(.long (100000000 : Int64)), (.int (8 : Int32)), (.ref b116), (.ref b116)]) _
   refine st136 _ ?_
   show SG p e below T136 (mkF m 59 #[vI p115, vU] [(.ref b116)]) _
   refine XS.dup X136.here hx rfl (hb hby d42_59) rfl rfl ?_
   show SG p e below T136 (mkF m 60 #[vI p115, vU] [(.ref b116), (.ref b116)]) _
   refine XS.bipush X136.here hx rfl (hb hby d42_60) ?_
   show SG p e below T136 (mkF m 62 #[vI p115, vU] [(.int (9 : Int32)), (.ref b116), (.ref b116)]) _
   refine X136.ldc2Long hx hown (mvT hZ (tw hw 218 rfl)) (g := (mkF m 62 #[vI p115, vU] [(.int (9 : Int32)), (.ref b116), (.ref b116)])) rfl (hb hby d42_62) _ ?_
   show SG p e below T136 (mkF m 65 #[vI p115, vU] [(.long (1000000000 : Int64)), (.int (9 : Int32)), (.ref b116), (.ref b116)]) _
   refine st138 _ ?_
   show SG p e below T138 (mkF m 66 #[vI p115, vU] [(.ref b116)]) _
   refine XS.astoreN X138.here hx rfl (hb hby d42_66) rfl rfl (l' := #[vI p115, vR b116]) rfl ?_
   show SG p e below T138 (mkF m 67 #[vI p115, vR b116] []) _
   refine XS.aloadN X138.here hx rfl (hb hby d42_67) rfl rfl ?_
   show SG p e below T138 (mkF m 68 #[vI p115, vR b116] [(.ref b116)]) _
   refine XS.iloadN X138.here hx rfl (hb hby d42_68) rfl ?_
   show SG p e below T138 (mkF m 69 #[vI p115, vR b116] [(.int p115), (.ref b116)]) _
   refine X138.laload hx (j := p115) (v := (.long q140)) (by rw [e138]; exact Ar139.1) (State.isArrayOf_alike hZ.alike Ar139.2.1) Ar139.2.2 hin139 hat139 (g := (mkF m 69 #[vI p115, vR b116] [(.int p115), (.ref b116)])) rfl rfl (hb hby d42_69) _ ?_
   show SG p e below T138 (mkF m 70 #[vI p115, vR b116] [(.long q140)]) _
   jvm_step X138.here [X138.here.top, hx, (hb hby d42_70), X138.method', Bd.returns, narrow]
   first | (intro acts; rw [hr _ acts rfl rfl rfl]) | rw [hr _ _ rfl rfl rfl]
   exact Steps.refl _
 · show Qr42_1 Z p115 q140 h0 n0 _ T138.heap _
   rw [e138]
   exact ⟨N138, b116, k116, rfl, z120, KC138, V138⟩
theorem pd_7 : parseMethodDescriptor "(I)J" = some ⟨[.int], some .long⟩ := by decide +kernel
theorem d41_86 : decode method_5_code 86 = .ok (.lstore 10, 2) := by decide +kernel
theorem d41_88 : decode method_5_code 88 = .ok (.bipush 48, 2) := by decide +kernel
abbrev la22 (a109 : Addr) (p110 : Int32) (p111 : Int32) (q142 : Int64) : Array Slot := #[vR a109, vI p110, vI p111, vJ (-(p111.toInt64)), vS, vI (1 : Int32), vI (Int32.ofNat (SBG.digits ((-(p111.toInt64))).toInt.toNat)), vI ((Int32.ofNat (SBG.digits ((-(p111.toInt64))).toInt.toNat)) + (1 : Int32)), vU, vI (p110 - (1 : Int32)), vJ q142, vS]
theorem d41_90 : decode method_5_code 90 = .ok (.lload_n 3, 1) := by decide +kernel
theorem d41_91 : decode method_5_code 91 = .ok (.lload 10, 2) := by decide +kernel
theorem d41_93 : decode method_5_code 93 = .ok (.ldiv, 1) := by decide +kernel
theorem d41_94 : decode method_5_code 94 = .ok (.ldc2_w 7, 3) := by decide +kernel
theorem d41_97 : decode method_5_code 97 = .ok (.lrem, 1) := by decide +kernel
theorem d41_98 : decode method_5_code 98 = .ok (.l2i, 1) := by decide +kernel
theorem d41_99 : decode method_5_code 99 = .ok (.iadd, 1) := by decide +kernel
theorem d41_100 : decode method_5_code 100 = .ok (.i2c, 1) := by decide +kernel
theorem d41_101 : decode method_5_code 101 = .ok (.istore 8, 2) := by decide +kernel
abbrev la23 (a109 : Addr) (p110 : Int32) (p111 : Int32) (q142 : Int64) : Array Slot := #[vR a109, vI p110, vI p111, vJ (-(p111.toInt64)), vS, vI (1 : Int32), vI (Int32.ofNat (SBG.digits ((-(p111.toInt64))).toInt.toNat)), vI ((Int32.ofNat (SBG.digits ((-(p111.toInt64))).toInt.toNat)) + (1 : Int32)), vI (((48 : Int32) + ((((-(p111.toInt64)) / q142) % (10 : Int64)).toInt32)).toUInt32.toUInt16.toUInt32.toInt32), vI (p110 - (1 : Int32)), vJ q142, vS]
def Qr41_4 (Z : State) (a109 : Addr) (p110 : Int32) (p111 : Int32) (q142 : Int64) (w144 : Int32) (w146 : Int32) (w149 : Addr) (k151 : ClassId) (u152 : Nat → Int32) (p153 : Int32) (x155 : Value) (h0 : Heap) (n0 : Nat) (v : Option Value) (h : Heap) (L : List Loc) : Prop := Fr n0 L ∧ ∃ b141_0 : Addr, ∃ k141_0 : ClassId, v = some (.int (1 : Int32)) ∧ h0.size ≤ b141_0 ∧ KSx h0 h [] [] ∧ Arv Z h b141_0 k141_0 .long (10 : Int32) [(.long (1 : Int64)), (.long (10 : Int64)), (.long (100 : Int64)), (.long (1000 : Int64)), (.long (10000 : Int64)), (.long (100000 : Int64)), (.long (1000000 : Int64)), (.long (10000000 : Int64)), (.long (100000000 : Int64)), (.long (1000000000 : Int64))] (.long (0 : Int64))
theorem r41_4 (l : Launch) (Z : State) (a0 : Array Value) (hw : ∀ d ∈ tables_1, d.before a0 Z = true) (a109 : Addr) (p110 : Int32) (p111 : Int32) (q142 : Int64) (w144 : Int32) (w146 : Int32) (w149 : Addr) (k151 : ClassId) (u152 : Nat → Int32) (p153 : Int32) (x155 : Value) (h0 : Heap) (n0 : Nat) (Z0 : n0 ≤ h0.size) (H0 : (lcmpW (p111.toInt64) (0 : Int64)) < (0 : Int32)) (H1 : p111 < (0 : Int32)) (H2 : 0 ≤ ((-(p111.toInt64))).toInt) (H3 : p110 < ((Int32.ofNat (SBG.digits ((-(p111.toInt64))).toInt.toNat)) + (1 : Int32))) (H4 : ¬ (p110 = (0 : Int32))) (H5 : ¬ ((((Int32.ofNat (SBG.digits ((-(p111.toInt64))).toInt.toNat)) - (1 : Int32)) - (p110 - (1 : Int32))) < (0 : Int32))) (H6 : (((Int32.ofNat (SBG.digits ((-(p111.toInt64))).toInt.toNat)) - (1 : Int32)) - (p110 - (1 : Int32))) < (10 : Int32)) (H7 : ([(.long (1 : Int64)), (.long (10 : Int64)), (.long (100 : Int64)), (.long (1000 : Int64)), (.long (10000 : Int64)), (.long (100000 : Int64)), (.long (1000000 : Int64)), (.long (10000000 : Int64)), (.long (100000000 : Int64)), (.long (1000000000 : Int64))] : List Value).getD ((((Int32.ofNat (SBG.digits ((-(p111.toInt64))).toInt.toNat)) - (1 : Int32)) - (p110 - (1 : Int32)))).toNatClampNeg (.long (0 : Int64)) = (.long q142)) (H8 : ¬ (q142 = (0 : Int64))) (H9 : Sta Z h0 "java/lang/String" "COMPACT_STRINGS" "Z" (.int w144)) (H10 : ¬ (w144 = (0 : Int32))) (H11 : Fld Z h0 a109 "java/lang/String" "coder" "B" (.int w146)) (H12 : w146 = (0 : Int32)) (H13 : Exa Z h0 a109 "java/lang/String") (H14 : Fld Z h0 a109 "java/lang/String" "value" "[B" (.ref w149)) (H15 : BA Z h0 w149 k151 .byte p153 u152) (H16 : Sta Z h0 "jdk/internal/util/Preconditions" "SIOOBE_FORMATTER" "Ljava/util/function/BiFunction;" x155) (H17 : (x155).isRef = true) (H18 : ¬ (((1 : Int32) + p110) < (0 : Int32))) (H19 : ((1 : Int32) + p110) < p153) (H20 : (oc8 (u152 (((1 : Int32) + p110)).toNatClampNeg)) = (((48 : Int32) + ((((-(p111.toInt64)) / q142) % (10 : Int64)).toInt32)).toUInt32.toUInt16.toUInt32.toInt32)) :
   OMet l Z mN9 method_5_code 12 (some .boolean) [] ({ frames := 4, cells := 1, slots := 10, locals := 53 } : Room) h0 #[(.ref a109), (.int p110), (.int p111)] (Qr41_4 Z a109 p110 p111 q142 w144 w146 w149 k151 u152 p153 x155 h0 n0) := by
 refine MetFree.of_bodySF (plainFor_of_name pn_com_example_tranchebook_tranchebook_CycleToStringPinLaw) hisR ?_
 intro p e s m args below meth c s₁ Bd hml0 hP hK
 obtain ⟨rfl, hZ, hh⟩ := hP
 have hx := Bd.exec
 have hby := Bd.bytes
 have hml : c.maxLocals = 12 := hml0
 have hown : s.vm.findClass "com/example/tranchebook/tranchebook/CycleToStringPinLaw" = some m.cls := findClass_of_methodNamed Bd.named
 have hnm := (name_of_methodNamed Bd.named Bd.method).1
 have X0 : Stand p l e ({ frames := 4, cells := 1, slots := 10, locals := 53 } : Room) s m #[(.ref a109), (.int p110), (.int p111)] below meth c s₁ [] 0 0 := Stand.of_body Bd
 have e0 : s₁.heap = h0 := by rw [← hh, Bd.state]; rfl
 have N0 := Fr.nil n0
 have pre0 : ∀ t, Steps p.tables e below (s₁.setTop (mkF m 0 #[vR a109, vI p110, vI p111, .unset, .unset, .unset, .unset, .unset, .unset, .unset, .unset, .unset] [])) t → Steps p.tables e below (s₁.setTop (entryFrame m #[(.ref a109), (.int p110), (.int p111)] 12)) t := fun t k => castTop (ef_41_vvv m a109 p110 p111) k
 obtain ⟨_, _, ⟨T113, L113, k113, n113⟩, -, X113, ⟨Lc113, hQ113, l113, y113, z113⟩, st113⟩ := Jvm.LawKit.callS X0 hx (y := mN7) hown (mvT hZ (tw hw 204 rfl)) (mvT hZ (tw hw 205 rfl)) (mvT hZ (tw hw 197 rfl)) (mvT hZ (tw hw 206 rfl)) (by decide) (backOf (W := 0) (r34_2 l Z a0 hw (p111.toInt64) h0 n0 Z0 H0) hZ (tw hw 206 rfl) (tw hw 197 rfl) (by decide) (by decide)) (g := (mkF m 2 (la16 a109 p110 p111) [(.long (p111.toInt64))])) rfl (by rw [hml]; rfl) (argsL := [(.long (p111.toInt64))]) (rest := []) (lenOf pd_4 rfl) rfl (own_w _) (hb hby d41_2) (fun _ _ => ⟨rfl, e0, (by decide : 0 + 0 ≤ _), (by decide : 0 + 0 ≤ _)⟩)
 dsimp only [Pt.U, Pt.locs, Pt.cells, Pt.slots] at X113 l113 y113 z113 st113 hQ113
 replace X113 := own_mvX X113 (a := 0) (b := 0) y113 z113
 obtain ⟨rfl, N113q, e113⟩ := hQ113
 have N113 := own_mvN l113 N0 N113q
 obtain ⟨_, _, ⟨T114, L114, k114, n114⟩, -, X114, ⟨Lc114, hQ114, l114, y114, z114⟩, st114⟩ := Jvm.LawKit.callS X113 hx (y := mN1) hown (mvT hZ (tw hw 207 rfl)) (mvT hZ (tw hw 208 rfl)) (mvT hZ (tw hw 202 rfl)) (mvT hZ (tw hw 209 rfl)) (by decide) (backOf (W := 0) (own_dig l Z a0 hw (-(p111.toInt64)) h0 n0 Z0 H2) hZ (tw hw 209 rfl) (tw hw 202 rfl) (by decide) (by decide)) (g := (mkF m 18 (la18 a109 p110 p111) [(.long (-(p111.toInt64)))])) rfl (by rw [hml]; rfl) (argsL := [(.long (-(p111.toInt64)))]) (rest := []) (lenOf pd_5 rfl) rfl (own_w _) (hb hby d41_18) (fun _ _ => ⟨rfl, e113, (by decide : 0 + 0 ≤ _), (by decide : 0 + 0 ≤ _)⟩)
 dsimp only [Pt.U, Pt.locs, Pt.cells, Pt.slots] at X114 l114 y114 z114 st114 hQ114
 replace X114 := own_mvX X114 (a := 0) (b := 0) y114 z114
 obtain ⟨rfl, N114q, e114⟩ := hQ114
 have N114 := own_mvN l114 N113 N114q
 obtain ⟨_, _, ⟨T141, L141, k141, n141⟩, -, X141, ⟨Lc141, hQ141, l141, y141, z141⟩, st141⟩ := Jvm.LawKit.callS X114 hx (y := mN10) hown (mvT hZ (tw hw 244 rfl)) (mvT hZ (tw hw 245 rfl)) (mvT hZ (tw hw 202 rfl)) (mvT hZ (tw hw 246 rfl)) (by decide) (backOf (W := 0) (r42_1 l Z a0 hw (((Int32.ofNat (SBG.digits ((-(p111.toInt64))).toInt.toNat)) - (1 : Int32)) - (p110 - (1 : Int32))) q142 h0 n0 Z0 H5 H6 H7) hZ (tw hw 246 rfl) (tw hw 202 rfl) (by decide) (by decide)) (g := (mkF m 83 (la21 a109 p110 p111) [(.int (((Int32.ofNat (SBG.digits ((-(p111.toInt64))).toInt.toNat)) - (1 : Int32)) - (p110 - (1 : Int32))))])) rfl (by rw [hml]; rfl) (argsL := [(.int (((Int32.ofNat (SBG.digits ((-(p111.toInt64))).toInt.toNat)) - (1 : Int32)) - (p110 - (1 : Int32))))]) (rest := []) (lenOf pd_7 rfl) rfl (own_w _) (hb hby d41_83) (fun _ _ => ⟨rfl, e114, (by decide : 0 + 1 ≤ _), (by decide : 0 + 10 ≤ _)⟩)
 dsimp only [Pt.U, Pt.locs, Pt.cells, Pt.slots] at X141 l141 y141 z141 st141 hQ141
 replace X141 := own_mvX X141 (a := 1) (b := 10) y141 z141
 obtain ⟨N141q, b141_0, k141_0, rfl, ge_b141_0, K141, o141_0⟩ := hQ141
 have N141 := own_mvN l141 N114 N141q
 have KC141 := KSx.trans (KSx.refl h0 [] []) K141 ks0 all0
 have f145 := (H9.ks K141)
 have f147 := (H11.ks K141 ks0 all0)
 have f148 := (H13.ks K141)
 have f150 := (H14.ks K141 ks0 all0)
 have f154 := (H15.ks K141 ks0 all0)
 have f156 := (H16.ks K141)
 have Z141 : n0 ≤ T141.heap.size := Nat.le_trans Z0 K141.1
 obtain ⟨cq143, kq143, q143a, q143b, q143c⟩ := isOf hZ rfl f148
 obtain ⟨_, _, ⟨T143, L143, k143, n143⟩, -, X143, ⟨Lc143, hQ143, l143, y143, z143⟩, st143⟩ := X141.virtualBack hx (y := mN6) (z := mN6) hown (mvT hZ (tw hw 220 rfl)) (mvT hZ (tw hw 221 rfl)) (notFace_of_selects (args := #[]) (mvT hZ (tw hw 223 rfl))) (mvT hZ (tw hw 223 rfl)) (mvT hZ (tw hw 222 rfl)) (by decide) (backOf (W := 0) (own_ch l Z a0 hw a109 w144 w146 w149 k151 p153 u152 x155 ((1 : Int32) + p110) T141.heap n0 Z141 f145 H10 f147 H12 f148 f150 f154 f156 H17 H18 H19) hZ (tw hw 224 rfl) (tw hw 52 rfl) (by decide) (by decide)) q143a q143c (g := (mkF m 107 (la23 a109 p110 p111 q142) [(.int ((1 : Int32) + p110)), (.ref a109)])) rfl (by rw [hml]; rfl) (Steps.refl _) (argsL := [(.int ((1 : Int32) + p110))]) (rest := []) (lenOf pd_6 rfl) rfl (own_w _) (hb hby d41_107) (fun _ _ => ⟨rfl, rfl, (by decide : 1 + 0 ≤ _), (by decide : 10 + 0 ≤ _)⟩)
 dsimp only [Pt.U, Pt.locs, Pt.cells, Pt.slots] at X143 l143 y143 z143 st143 hQ143
 replace X143 := own_mvX X143 (a := 1) (b := 10) y143 z143
 obtain ⟨rfl, N143q, e143⟩ := hQ143
 have N143 := own_mvN l143 N141 N143q
 obtain ⟨fs, hr, hrun, hended, hW, hsame⟩ := X143.leave (v := some (.int (1 : Int32))) (fun h => by rw [Bd.returns] at h; cases h)
 refine ⟨_, _, pre0 _ ?_, hrun, hended, _, _, rfl, ?_, ⟨_, rfl⟩, hW, hsame.mono (by decide) (by decide)⟩
 · show SG p e below s₁ (mkF m 0 (la16 a109 p110 p111) []) _
   refine XS.iloadN X0.here hx rfl (hb hby d41_0) rfl ?_
   show SG p e below s₁ (mkF m 1 (la16 a109 p110 p111) [(.int p111)]) _
   refine XS.i2l X0.here hx rfl (hb hby d41_1) rfl ?_
   show SG p e below s₁ (mkF m 2 (la16 a109 p110 p111) [(.long (p111.toInt64))]) _
   refine st113 _ ?_
   show SG p e below T113 (mkF m 5 (la16 a109 p110 p111) [(.long (-(p111.toInt64)))]) _
   refine XS.lstoreN X113.here hx rfl (hb hby d41_5) rfl (l' := #[vR a109, vI p110, vI p111, vJ (-(p111.toInt64)), vS, vU, vU, vU, vU, vU, vU, vU]) rfl ?_
   show SG p e below T113 (mkF m 6 (la17 a109 p110 p111) []) _
   refine XS.iloadN X113.here hx rfl (hb hby d41_6) rfl ?_
   show SG p e below T113 (mkF m 7 (la17 a109 p110 p111) [(.int p111)]) _
   refine XS.ifNo X113.here hx rfl (hb hby d41_7) rfl ((if0 _ _).trans (tlt H1).2.1) ?_
   show SG p e below T113 (mkF m 10 (la17 a109 p110 p111) []) _
   refine XS.iconst X113.here hx rfl (hb hby d41_10) ?_
   show SG p e below T113 (mkF m 11 (la17 a109 p110 p111) [(.int (1 : Int32))]) _
   refine XS.goto X113.here hx rfl (pc0 := 11) (pc' := 15) rfl (hb hby d41_11) (by decide) (by decide) ?_
   show SG p e below T113 (mkF m 15 (la17 a109 p110 p111) [(.int (1 : Int32))]) _
   refine XS.istore X113.here hx rfl (hb hby d41_15) rfl (l' := #[vR a109, vI p110, vI p111, vJ (-(p111.toInt64)), vS, vI (1 : Int32), vU, vU, vU, vU, vU, vU]) rfl ?_
   show SG p e below T113 (mkF m 17 (la18 a109 p110 p111) []) _
   refine XS.lloadN X113.here hx rfl (hb hby d41_17) rfl ?_
   show SG p e below T113 (mkF m 18 (la18 a109 p110 p111) [(.long (-(p111.toInt64)))]) _
   refine st114 _ ?_
   show SG p e below T114 (mkF m 21 (la18 a109 p110 p111) [(.int (Int32.ofNat (SBG.digits ((-(p111.toInt64))).toInt.toNat)))]) _
   refine XS.istore X114.here hx rfl (hb hby d41_21) rfl (l' := #[vR a109, vI p110, vI p111, vJ (-(p111.toInt64)), vS, vI (1 : Int32), vI (Int32.ofNat (SBG.digits ((-(p111.toInt64))).toInt.toNat)), vU, vU, vU, vU, vU]) rfl ?_
   show SG p e below T114 (mkF m 23 (la19 a109 p110 p111) []) _
   refine XS.iload X114.here hx rfl (hb hby d41_23) rfl ?_
   show SG p e below T114 (mkF m 25 (la19 a109 p110 p111) [(.int (Int32.ofNat (SBG.digits ((-(p111.toInt64))).toInt.toNat)))]) _
   refine XS.iload X114.here hx rfl (hb hby d41_25) rfl ?_
   show SG p e below T114 (mkF m 27 (la19 a109 p110 p111) [(.int (1 : Int32)), (.int (Int32.ofNat (SBG.digits ((-(p111.toInt64))).toInt.toNat)))]) _
   refine XS.ifNo X114.here hx rfl (hb hby d41_27) rfl ((if0 _ _).trans (feq (by decide : ¬ ((1 : Int32) = (0 : Int32)))).1) ?_
   show SG p e below T114 (mkF m 30 (la19 a109 p110 p111) [(.int (Int32.ofNat (SBG.digits ((-(p111.toInt64))).toInt.toNat)))]) _
   refine XS.iconst X114.here hx rfl (hb hby d41_30) ?_
   show SG p e below T114 (mkF m 31 (la19 a109 p110 p111) [(.int (1 : Int32)), (.int (Int32.ofNat (SBG.digits ((-(p111.toInt64))).toInt.toNat)))]) _
   refine XS.goto X114.here hx rfl (pc0 := 31) (pc' := 35) rfl (hb hby d41_31) (by decide) (by decide) ?_
   show SG p e below T114 (mkF m 35 (la19 a109 p110 p111) [(.int (1 : Int32)), (.int (Int32.ofNat (SBG.digits ((-(p111.toInt64))).toInt.toNat)))]) _
   refine XS.iadd X114.here hx rfl (hb hby d41_35) rfl ?_
   show SG p e below T114 (mkF m 36 (la19 a109 p110 p111) [(.int ((Int32.ofNat (SBG.digits ((-(p111.toInt64))).toInt.toNat)) + (1 : Int32)))]) _
   refine XS.istore X114.here hx rfl (hb hby d41_36) rfl (l' := #[vR a109, vI p110, vI p111, vJ (-(p111.toInt64)), vS, vI (1 : Int32), vI (Int32.ofNat (SBG.digits ((-(p111.toInt64))).toInt.toNat)), vI ((Int32.ofNat (SBG.digits ((-(p111.toInt64))).toInt.toNat)) + (1 : Int32)), vU, vU, vU, vU]) rfl ?_
   show SG p e below T114 (mkF m 38 (la20 a109 p110 p111) []) _
   refine XS.iloadN X114.here hx rfl (hb hby d41_38) rfl ?_
   show SG p e below T114 (mkF m 39 (la20 a109 p110 p111) [(.int p110)]) _
   refine XS.iload X114.here hx rfl (hb hby d41_39) rfl ?_
   show SG p e below T114 (mkF m 41 (la20 a109 p110 p111) [(.int ((Int32.ofNat (SBG.digits ((-(p111.toInt64))).toInt.toNat)) + (1 : Int32))), (.int p110)]) _
   refine XS.icmpYes X114.here hx rfl (pc0 := 41) (pc' := 46) rfl (hb hby d41_41) rfl (tlt H3).1 (by decide) (by decide) ?_
   show SG p e below T114 (mkF m 46 (la20 a109 p110 p111) []) _
   refine XS.iload X114.here hx rfl (hb hby d41_46) rfl ?_
   show SG p e below T114 (mkF m 48 (la20 a109 p110 p111) [(.int (1 : Int32))]) _
   refine XS.ifNo X114.here hx rfl (hb hby d41_48) rfl ((if0 _ _).trans (feq (by decide : ¬ ((1 : Int32) = (0 : Int32)))).1) ?_
   show SG p e below T114 (mkF m 51 (la20 a109 p110 p111) []) _
   refine XS.iloadN X114.here hx rfl (hb hby d41_51) rfl ?_
   show SG p e below T114 (mkF m 52 (la20 a109 p110 p111) [(.int p110)]) _
   refine XS.ifYes X114.here hx rfl (pc0 := 52) (pc' := 62) rfl (hb hby d41_52) rfl ((if0 _ _).trans (feq H4).2) (by decide) (by decide) ?_
   show SG p e below T114 (mkF m 62 (la20 a109 p110 p111) []) _
   refine XS.iloadN X114.here hx rfl (hb hby d41_62) rfl ?_
   show SG p e below T114 (mkF m 63 (la20 a109 p110 p111) [(.int p110)]) _
   refine XS.iload X114.here hx rfl (hb hby d41_63) rfl ?_
   show SG p e below T114 (mkF m 65 (la20 a109 p110 p111) [(.int (1 : Int32)), (.int p110)]) _
   refine XS.ifNo X114.here hx rfl (hb hby d41_65) rfl ((if0 _ _).trans (feq (by decide : ¬ ((1 : Int32) = (0 : Int32)))).1) ?_
   show SG p e below T114 (mkF m 68 (la20 a109 p110 p111) [(.int p110)]) _
   refine XS.iconst X114.here hx rfl (hb hby d41_68) ?_
   show SG p e below T114 (mkF m 69 (la20 a109 p110 p111) [(.int (1 : Int32)), (.int p110)]) _
   refine XS.goto X114.here hx rfl (pc0 := 69) (pc' := 73) rfl (hb hby d41_69) (by decide) (by decide) ?_
   show SG p e below T114 (mkF m 73 (la20 a109 p110 p111) [(.int (1 : Int32)), (.int p110)]) _
   refine XS.isub X114.here hx rfl (hb hby d41_73) rfl ?_
   show SG p e below T114 (mkF m 74 (la20 a109 p110 p111) [(.int (p110 - (1 : Int32)))]) _
   refine XS.istore X114.here hx rfl (hb hby d41_74) rfl (l' := #[vR a109, vI p110, vI p111, vJ (-(p111.toInt64)), vS, vI (1 : Int32), vI (Int32.ofNat (SBG.digits ((-(p111.toInt64))).toInt.toNat)), vI ((Int32.ofNat (SBG.digits ((-(p111.toInt64))).toInt.toNat)) + (1 : Int32)), vU, vI (p110 - (1 : Int32)), vU, vU]) rfl ?_
   show SG p e below T114 (mkF m 76 (la21 a109 p110 p111) []) _
   refine XS.iload X114.here hx rfl (hb hby d41_76) rfl ?_
   show SG p e below T114 (mkF m 78 (la21 a109 p110 p111) [(.int (Int32.ofNat (SBG.digits ((-(p111.toInt64))).toInt.toNat)))]) _
   refine XS.iconst X114.here hx rfl (hb hby d41_78) ?_
   show SG p e below T114 (mkF m 79 (la21 a109 p110 p111) [(.int (1 : Int32)), (.int (Int32.ofNat (SBG.digits ((-(p111.toInt64))).toInt.toNat)))]) _
   refine XS.isub X114.here hx rfl (hb hby d41_79) rfl ?_
   show SG p e below T114 (mkF m 80 (la21 a109 p110 p111) [(.int ((Int32.ofNat (SBG.digits ((-(p111.toInt64))).toInt.toNat)) - (1 : Int32)))]) _
   refine XS.iload X114.here hx rfl (hb hby d41_80) rfl ?_
   show SG p e below T114 (mkF m 82 (la21 a109 p110 p111) [(.int (p110 - (1 : Int32))), (.int ((Int32.ofNat (SBG.digits ((-(p111.toInt64))).toInt.toNat)) - (1 : Int32)))]) _
   refine XS.isub X114.here hx rfl (hb hby d41_82) rfl ?_
   show SG p e below T114 (mkF m 83 (la21 a109 p110 p111) [(.int (((Int32.ofNat (SBG.digits ((-(p111.toInt64))).toInt.toNat)) - (1 : Int32)) - (p110 - (1 : Int32))))]) _
   refine st141 _ ?_
   show SG p e below T141 (mkF m 86 (la21 a109 p110 p111) [(.long q142)]) _
   refine XS.lstore X141.here hx rfl (hb hby d41_86) rfl (l' := #[vR a109, vI p110, vI p111, vJ (-(p111.toInt64)), vS, vI (1 : Int32), vI (Int32.ofNat (SBG.digits ((-(p111.toInt64))).toInt.toNat)), vI ((Int32.ofNat (SBG.digits ((-(p111.toInt64))).toInt.toNat)) + (1 : Int32)), vU, vI (p110 - (1 : Int32)), vJ q142, vS]) rfl ?_
   show SG p e below T141 (mkF m 88 (la22 a109 p110 p111 q142) []) _
   refine XS.bipush X141.here hx rfl (hb hby d41_88) ?_
   show SG p e below T141 (mkF m 90 (la22 a109 p110 p111 q142) [(.int (48 : Int32))]) _
   refine XS.lloadN X141.here hx rfl (hb hby d41_90) rfl ?_
   show SG p e below T141 (mkF m 91 (la22 a109 p110 p111 q142) [(.long (-(p111.toInt64))), (.int (48 : Int32))]) _
   refine XS.lload X141.here hx rfl (hb hby d41_91) rfl ?_
   show SG p e below T141 (mkF m 93 (la22 a109 p110 p111 q142) [(.long q142), (.long (-(p111.toInt64))), (.int (48 : Int32))]) _
   refine XS.ldiv X141.here hx rfl (hb hby d41_93) rfl H8 ?_
   show SG p e below T141 (mkF m 94 (la22 a109 p110 p111 q142) [(.long ((-(p111.toInt64)) / q142)), (.int (48 : Int32))]) _
   refine X141.ldc2Long hx hown (mvT hZ (tw hw 210 rfl)) (g := (mkF m 94 (la22 a109 p110 p111 q142) [(.long ((-(p111.toInt64)) / q142)), (.int (48 : Int32))])) rfl (hb hby d41_94) _ ?_
   show SG p e below T141 (mkF m 97 (la22 a109 p110 p111 q142) [(.long (10 : Int64)), (.long ((-(p111.toInt64)) / q142)), (.int (48 : Int32))]) _
   refine lremM X141 hx rfl (hb hby d41_97) rfl (by decide) ?_
   show SG p e below T141 (mkF m 98 (la22 a109 p110 p111 q142) [(.long (((-(p111.toInt64)) / q142) % (10 : Int64))), (.int (48 : Int32))]) _
   refine XS.l2i X141.here hx rfl (hb hby d41_98) rfl ?_
   show SG p e below T141 (mkF m 99 (la22 a109 p110 p111 q142) [(.int ((((-(p111.toInt64)) / q142) % (10 : Int64)).toInt32)), (.int (48 : Int32))]) _
   refine XS.iadd X141.here hx rfl (hb hby d41_99) rfl ?_
   show SG p e below T141 (mkF m 100 (la22 a109 p110 p111 q142) [(.int ((48 : Int32) + ((((-(p111.toInt64)) / q142) % (10 : Int64)).toInt32)))]) _
   refine XS.i2c X141.here hx rfl (hb hby d41_100) rfl ?_
   show SG p e below T141 (mkF m 101 (la22 a109 p110 p111 q142) [(.int (((48 : Int32) + ((((-(p111.toInt64)) / q142) % (10 : Int64)).toInt32)).toUInt32.toUInt16.toUInt32.toInt32))]) _
   refine XS.istore X141.here hx rfl (hb hby d41_101) rfl (l' := #[vR a109, vI p110, vI p111, vJ (-(p111.toInt64)), vS, vI (1 : Int32), vI (Int32.ofNat (SBG.digits ((-(p111.toInt64))).toInt.toNat)), vI ((Int32.ofNat (SBG.digits ((-(p111.toInt64))).toInt.toNat)) + (1 : Int32)), vI (((48 : Int32) + ((((-(p111.toInt64)) / q142) % (10 : Int64)).toInt32)).toUInt32.toUInt16.toUInt32.toInt32), vI (p110 - (1 : Int32)), vJ q142, vS]) rfl ?_
   show SG p e below T141 (mkF m 103 (la23 a109 p110 p111 q142) []) _
   refine XS.aloadN X141.here hx rfl (hb hby d41_103) rfl rfl ?_
   show SG p e below T141 (mkF m 104 (la23 a109 p110 p111 q142) [(.ref a109)]) _
   refine XS.iconst X141.here hx rfl (hb hby d41_104) ?_
   show SG p e below T141 (mkF m 105 (la23 a109 p110 p111 q142) [(.int (1 : Int32)), (.ref a109)]) _
   refine XS.iloadN X141.here hx rfl (hb hby d41_105) rfl ?_
   show SG p e below T141 (mkF m 106 (la23 a109 p110 p111 q142) [(.int p110), (.int (1 : Int32)), (.ref a109)]) _
   refine XS.iadd X141.here hx rfl (hb hby d41_106) rfl ?_
   show SG p e below T141 (mkF m 107 (la23 a109 p110 p111 q142) [(.int ((1 : Int32) + p110)), (.ref a109)]) _
   refine st143.trans ?_
   show SG p e below T143 (mkF m 110 (la23 a109 p110 p111 q142) [(.int (oc8 (u152 (((1 : Int32) + p110)).toNatClampNeg)))]) _
   refine XS.iload X143.here hx rfl (hb hby d41_110) rfl ?_
   show SG p e below T143 (mkF m 112 (la23 a109 p110 p111 q142) [(.int (((48 : Int32) + ((((-(p111.toInt64)) / q142) % (10 : Int64)).toInt32)).toUInt32.toUInt16.toUInt32.toInt32)), (.int (oc8 (u152 (((1 : Int32) + p110)).toNatClampNeg)))]) _
   refine XS.icmpNo X143.here hx rfl (hb hby d41_112) rfl (teq H20).2 ?_
   show SG p e below T143 (mkF m 115 (la23 a109 p110 p111 q142) []) _
   refine XS.iconst X143.here hx rfl (hb hby d41_115) ?_
   show SG p e below T143 (mkF m 116 (la23 a109 p110 p111 q142) [(.int (1 : Int32))]) _
   refine XS.goto X143.here hx rfl (pc0 := 116) (pc' := 120) rfl (hb hby d41_116) (by decide) (by decide) ?_
   show SG p e below T143 (mkF m 120 (la23 a109 p110 p111 q142) [(.int (1 : Int32))]) _
   exact retN X143 hx (t := .boolean) Bd.returns (by simp) (hb hby d41_120) hr
 · show Qr41_4 Z a109 p110 p111 q142 w144 w146 w149 k151 u152 p153 x155 h0 n0 _ T143.heap _
   rw [e143]
   exact ⟨N143, b141_0, k141_0, rfl, (Nat.le_trans (KSx.refl h0 [] []).1 ge_b141_0), KC141, o141_0⟩
abbrev la24 (a157 : Addr) (p158 : Int32) (p159 : Int32) : Array Slot := #[vR a157, vI p158, vI p159, vU, vU, vU, vU, vU, vU, vU, vU, vU]
abbrev la25 (a157 : Addr) (p158 : Int32) (p159 : Int32) : Array Slot := #[vR a157, vI p158, vI p159, vJ (p159.toInt64), vS, vU, vU, vU, vU, vU, vU, vU]
abbrev la26 (a157 : Addr) (p158 : Int32) (p159 : Int32) : Array Slot := #[vR a157, vI p158, vI p159, vJ (p159.toInt64), vS, vI (0 : Int32), vU, vU, vU, vU, vU, vU]
abbrev la27 (a157 : Addr) (p158 : Int32) (p159 : Int32) : Array Slot := #[vR a157, vI p158, vI p159, vJ (p159.toInt64), vS, vI (0 : Int32), vI (Int32.ofNat (SBG.digits ((p159.toInt64)).toInt.toNat)), vU, vU, vU, vU, vU]
abbrev la28 (a157 : Addr) (p158 : Int32) (p159 : Int32) : Array Slot := #[vR a157, vI p158, vI p159, vJ (p159.toInt64), vS, vI (0 : Int32), vI (Int32.ofNat (SBG.digits ((p159.toInt64)).toInt.toNat)), vI ((Int32.ofNat (SBG.digits ((p159.toInt64)).toInt.toNat)) + (0 : Int32)), vU, vU, vU, vU]
theorem d41_72 : decode method_5_code 72 = .ok (.iconst 0, 1) := by decide +kernel
abbrev la29 (a157 : Addr) (p158 : Int32) (p159 : Int32) : Array Slot := #[vR a157, vI p158, vI p159, vJ (p159.toInt64), vS, vI (0 : Int32), vI (Int32.ofNat (SBG.digits ((p159.toInt64)).toInt.toNat)), vI ((Int32.ofNat (SBG.digits ((p159.toInt64)).toInt.toNat)) + (0 : Int32)), vU, vI (p158 - (0 : Int32)), vU, vU]
abbrev la30 (a157 : Addr) (p158 : Int32) (p159 : Int32) (q190 : Int64) : Array Slot := #[vR a157, vI p158, vI p159, vJ (p159.toInt64), vS, vI (0 : Int32), vI (Int32.ofNat (SBG.digits ((p159.toInt64)).toInt.toNat)), vI ((Int32.ofNat (SBG.digits ((p159.toInt64)).toInt.toNat)) + (0 : Int32)), vU, vI (p158 - (0 : Int32)), vJ q190, vS]
abbrev la31 (a157 : Addr) (p158 : Int32) (p159 : Int32) (q190 : Int64) : Array Slot := #[vR a157, vI p158, vI p159, vJ (p159.toInt64), vS, vI (0 : Int32), vI (Int32.ofNat (SBG.digits ((p159.toInt64)).toInt.toNat)), vI ((Int32.ofNat (SBG.digits ((p159.toInt64)).toInt.toNat)) + (0 : Int32)), vI (((48 : Int32) + ((((p159.toInt64) / q190) % (10 : Int64)).toInt32)).toUInt32.toUInt16.toUInt32.toInt32), vI (p158 - (0 : Int32)), vJ q190, vS]
def Qr41_5 (Z : State) (a157 : Addr) (p158 : Int32) (p159 : Int32) (q190 : Int64) (w192 : Int32) (w194 : Int32) (w197 : Addr) (k199 : ClassId) (u200 : Nat → Int32) (p201 : Int32) (x203 : Value) (h0 : Heap) (n0 : Nat) (v : Option Value) (h : Heap) (L : List Loc) : Prop := Fr n0 L ∧ ∃ b189_0 : Addr, ∃ k189_0 : ClassId, v = some (.int (1 : Int32)) ∧ h0.size ≤ b189_0 ∧ KSx h0 h [] [] ∧ Arv Z h b189_0 k189_0 .long (10 : Int32) [(.long (1 : Int64)), (.long (10 : Int64)), (.long (100 : Int64)), (.long (1000 : Int64)), (.long (10000 : Int64)), (.long (100000 : Int64)), (.long (1000000 : Int64)), (.long (10000000 : Int64)), (.long (100000000 : Int64)), (.long (1000000000 : Int64))] (.long (0 : Int64))
theorem r41_5 (l : Launch) (Z : State) (a0 : Array Value) (hw : ∀ d ∈ tables_1, d.before a0 Z = true) (a157 : Addr) (p158 : Int32) (p159 : Int32) (q190 : Int64) (w192 : Int32) (w194 : Int32) (w197 : Addr) (k199 : ClassId) (u200 : Nat → Int32) (p201 : Int32) (x203 : Value) (h0 : Heap) (n0 : Nat) (Z0 : n0 ≤ h0.size) (H0 : ¬ ((lcmpW (p159.toInt64) (0 : Int64)) < (0 : Int32))) (H1 : ¬ (p159 < (0 : Int32))) (H2 : 0 ≤ ((p159.toInt64)).toInt) (H3 : p158 < ((Int32.ofNat (SBG.digits ((p159.toInt64)).toInt.toNat)) + (0 : Int32))) (H4 : ¬ ((((Int32.ofNat (SBG.digits ((p159.toInt64)).toInt.toNat)) - (1 : Int32)) - (p158 - (0 : Int32))) < (0 : Int32))) (H5 : (((Int32.ofNat (SBG.digits ((p159.toInt64)).toInt.toNat)) - (1 : Int32)) - (p158 - (0 : Int32))) < (10 : Int32)) (H6 : ([(.long (1 : Int64)), (.long (10 : Int64)), (.long (100 : Int64)), (.long (1000 : Int64)), (.long (10000 : Int64)), (.long (100000 : Int64)), (.long (1000000 : Int64)), (.long (10000000 : Int64)), (.long (100000000 : Int64)), (.long (1000000000 : Int64))] : List Value).getD ((((Int32.ofNat (SBG.digits ((p159.toInt64)).toInt.toNat)) - (1 : Int32)) - (p158 - (0 : Int32)))).toNatClampNeg (.long (0 : Int64)) = (.long q190)) (H7 : ¬ (q190 = (0 : Int64))) (H8 : Sta Z h0 "java/lang/String" "COMPACT_STRINGS" "Z" (.int w192)) (H9 : ¬ (w192 = (0 : Int32))) (H10 : Fld Z h0 a157 "java/lang/String" "coder" "B" (.int w194)) (H11 : w194 = (0 : Int32)) (H12 : Exa Z h0 a157 "java/lang/String") (H13 : Fld Z h0 a157 "java/lang/String" "value" "[B" (.ref w197)) (H14 : BA Z h0 w197 k199 .byte p201 u200) (H15 : Sta Z h0 "jdk/internal/util/Preconditions" "SIOOBE_FORMATTER" "Ljava/util/function/BiFunction;" x203) (H16 : (x203).isRef = true) (H17 : ¬ (((1 : Int32) + p158) < (0 : Int32))) (H18 : ((1 : Int32) + p158) < p201) (H19 : (oc8 (u200 (((1 : Int32) + p158)).toNatClampNeg)) = (((48 : Int32) + ((((p159.toInt64) / q190) % (10 : Int64)).toInt32)).toUInt32.toUInt16.toUInt32.toInt32)) :
   OMet l Z mN9 method_5_code 12 (some .boolean) [] ({ frames := 4, cells := 1, slots := 10, locals := 53 } : Room) h0 #[(.ref a157), (.int p158), (.int p159)] (Qr41_5 Z a157 p158 p159 q190 w192 w194 w197 k199 u200 p201 x203 h0 n0) := by
 refine MetFree.of_bodySF (plainFor_of_name pn_com_example_tranchebook_tranchebook_CycleToStringPinLaw) hisR ?_
 intro p e s m args below meth c s₁ Bd hml0 hP hK
 obtain ⟨rfl, hZ, hh⟩ := hP
 have hx := Bd.exec
 have hby := Bd.bytes
 have hml : c.maxLocals = 12 := hml0
 have hown : s.vm.findClass "com/example/tranchebook/tranchebook/CycleToStringPinLaw" = some m.cls := findClass_of_methodNamed Bd.named
 have hnm := (name_of_methodNamed Bd.named Bd.method).1
 have X0 : Stand p l e ({ frames := 4, cells := 1, slots := 10, locals := 53 } : Room) s m #[(.ref a157), (.int p158), (.int p159)] below meth c s₁ [] 0 0 := Stand.of_body Bd
 have e0 : s₁.heap = h0 := by rw [← hh, Bd.state]; rfl
 have N0 := Fr.nil n0
 have pre0 : ∀ t, Steps p.tables e below (s₁.setTop (mkF m 0 #[vR a157, vI p158, vI p159, .unset, .unset, .unset, .unset, .unset, .unset, .unset, .unset, .unset] [])) t → Steps p.tables e below (s₁.setTop (entryFrame m #[(.ref a157), (.int p158), (.int p159)] 12)) t := fun t k => castTop (ef_41_vvv m a157 p158 p159) k
 obtain ⟨_, _, ⟨T161, L161, k161, n161⟩, -, X161, ⟨Lc161, hQ161, l161, y161, z161⟩, st161⟩ := Jvm.LawKit.callS X0 hx (y := mN7) hown (mvT hZ (tw hw 204 rfl)) (mvT hZ (tw hw 205 rfl)) (mvT hZ (tw hw 197 rfl)) (mvT hZ (tw hw 206 rfl)) (by decide) (backOf (W := 0) (r34_1 l Z a0 hw (p159.toInt64) h0 n0 Z0 H0) hZ (tw hw 206 rfl) (tw hw 197 rfl) (by decide) (by decide)) (g := (mkF m 2 (la24 a157 p158 p159) [(.long (p159.toInt64))])) rfl (by rw [hml]; rfl) (argsL := [(.long (p159.toInt64))]) (rest := []) (lenOf pd_4 rfl) rfl (own_w _) (hb hby d41_2) (fun _ _ => ⟨rfl, e0, (by decide : 0 + 0 ≤ _), (by decide : 0 + 0 ≤ _)⟩)
 dsimp only [Pt.U, Pt.locs, Pt.cells, Pt.slots] at X161 l161 y161 z161 st161 hQ161
 replace X161 := own_mvX X161 (a := 0) (b := 0) y161 z161
 obtain ⟨rfl, N161q, e161⟩ := hQ161
 have N161 := own_mvN l161 N0 N161q
 obtain ⟨_, _, ⟨T162, L162, k162, n162⟩, -, X162, ⟨Lc162, hQ162, l162, y162, z162⟩, st162⟩ := Jvm.LawKit.callS X161 hx (y := mN1) hown (mvT hZ (tw hw 207 rfl)) (mvT hZ (tw hw 208 rfl)) (mvT hZ (tw hw 202 rfl)) (mvT hZ (tw hw 209 rfl)) (by decide) (backOf (W := 0) (own_dig l Z a0 hw (p159.toInt64) h0 n0 Z0 H2) hZ (tw hw 209 rfl) (tw hw 202 rfl) (by decide) (by decide)) (g := (mkF m 18 (la26 a157 p158 p159) [(.long (p159.toInt64))])) rfl (by rw [hml]; rfl) (argsL := [(.long (p159.toInt64))]) (rest := []) (lenOf pd_5 rfl) rfl (own_w _) (hb hby d41_18) (fun _ _ => ⟨rfl, e161, (by decide : 0 + 0 ≤ _), (by decide : 0 + 0 ≤ _)⟩)
 dsimp only [Pt.U, Pt.locs, Pt.cells, Pt.slots] at X162 l162 y162 z162 st162 hQ162
 replace X162 := own_mvX X162 (a := 0) (b := 0) y162 z162
 obtain ⟨rfl, N162q, e162⟩ := hQ162
 have N162 := own_mvN l162 N161 N162q
 obtain ⟨_, _, ⟨T189, L189, k189, n189⟩, -, X189, ⟨Lc189, hQ189, l189, y189, z189⟩, st189⟩ := Jvm.LawKit.callS X162 hx (y := mN10) hown (mvT hZ (tw hw 244 rfl)) (mvT hZ (tw hw 245 rfl)) (mvT hZ (tw hw 202 rfl)) (mvT hZ (tw hw 246 rfl)) (by decide) (backOf (W := 0) (r42_1 l Z a0 hw (((Int32.ofNat (SBG.digits ((p159.toInt64)).toInt.toNat)) - (1 : Int32)) - (p158 - (0 : Int32))) q190 h0 n0 Z0 H4 H5 H6) hZ (tw hw 246 rfl) (tw hw 202 rfl) (by decide) (by decide)) (g := (mkF m 83 (la29 a157 p158 p159) [(.int (((Int32.ofNat (SBG.digits ((p159.toInt64)).toInt.toNat)) - (1 : Int32)) - (p158 - (0 : Int32))))])) rfl (by rw [hml]; rfl) (argsL := [(.int (((Int32.ofNat (SBG.digits ((p159.toInt64)).toInt.toNat)) - (1 : Int32)) - (p158 - (0 : Int32))))]) (rest := []) (lenOf pd_7 rfl) rfl (own_w _) (hb hby d41_83) (fun _ _ => ⟨rfl, e162, (by decide : 0 + 1 ≤ _), (by decide : 0 + 10 ≤ _)⟩)
 dsimp only [Pt.U, Pt.locs, Pt.cells, Pt.slots] at X189 l189 y189 z189 st189 hQ189
 replace X189 := own_mvX X189 (a := 1) (b := 10) y189 z189
 obtain ⟨N189q, b189_0, k189_0, rfl, ge_b189_0, K189, o189_0⟩ := hQ189
 have N189 := own_mvN l189 N162 N189q
 have KC189 := KSx.trans (KSx.refl h0 [] []) K189 ks0 all0
 have f193 := (H8.ks K189)
 have f195 := (H10.ks K189 ks0 all0)
 have f196 := (H12.ks K189)
 have f198 := (H13.ks K189 ks0 all0)
 have f202 := (H14.ks K189 ks0 all0)
 have f204 := (H15.ks K189)
 have Z189 : n0 ≤ T189.heap.size := Nat.le_trans Z0 K189.1
 obtain ⟨cq191, kq191, q191a, q191b, q191c⟩ := isOf hZ rfl f196
 obtain ⟨_, _, ⟨T191, L191, k191, n191⟩, -, X191, ⟨Lc191, hQ191, l191, y191, z191⟩, st191⟩ := X189.virtualBack hx (y := mN6) (z := mN6) hown (mvT hZ (tw hw 220 rfl)) (mvT hZ (tw hw 221 rfl)) (notFace_of_selects (args := #[]) (mvT hZ (tw hw 223 rfl))) (mvT hZ (tw hw 223 rfl)) (mvT hZ (tw hw 222 rfl)) (by decide) (backOf (W := 0) (own_ch l Z a0 hw a157 w192 w194 w197 k199 p201 u200 x203 ((1 : Int32) + p158) T189.heap n0 Z189 f193 H9 f195 H11 f196 f198 f202 f204 H16 H17 H18) hZ (tw hw 224 rfl) (tw hw 52 rfl) (by decide) (by decide)) q191a q191c (g := (mkF m 107 (la31 a157 p158 p159 q190) [(.int ((1 : Int32) + p158)), (.ref a157)])) rfl (by rw [hml]; rfl) (Steps.refl _) (argsL := [(.int ((1 : Int32) + p158))]) (rest := []) (lenOf pd_6 rfl) rfl (own_w _) (hb hby d41_107) (fun _ _ => ⟨rfl, rfl, (by decide : 1 + 0 ≤ _), (by decide : 10 + 0 ≤ _)⟩)
 dsimp only [Pt.U, Pt.locs, Pt.cells, Pt.slots] at X191 l191 y191 z191 st191 hQ191
 replace X191 := own_mvX X191 (a := 1) (b := 10) y191 z191
 obtain ⟨rfl, N191q, e191⟩ := hQ191
 have N191 := own_mvN l191 N189 N191q
 obtain ⟨fs, hr, hrun, hended, hW, hsame⟩ := X191.leave (v := some (.int (1 : Int32))) (fun h => by rw [Bd.returns] at h; cases h)
 refine ⟨_, _, pre0 _ ?_, hrun, hended, _, _, rfl, ?_, ⟨_, rfl⟩, hW, hsame.mono (by decide) (by decide)⟩
 · show SG p e below s₁ (mkF m 0 (la24 a157 p158 p159) []) _
   refine XS.iloadN X0.here hx rfl (hb hby d41_0) rfl ?_
   show SG p e below s₁ (mkF m 1 (la24 a157 p158 p159) [(.int p159)]) _
   refine XS.i2l X0.here hx rfl (hb hby d41_1) rfl ?_
   show SG p e below s₁ (mkF m 2 (la24 a157 p158 p159) [(.long (p159.toInt64))]) _
   refine st161 _ ?_
   show SG p e below T161 (mkF m 5 (la24 a157 p158 p159) [(.long (p159.toInt64))]) _
   refine XS.lstoreN X161.here hx rfl (hb hby d41_5) rfl (l' := #[vR a157, vI p158, vI p159, vJ (p159.toInt64), vS, vU, vU, vU, vU, vU, vU, vU]) rfl ?_
   show SG p e below T161 (mkF m 6 (la25 a157 p158 p159) []) _
   refine XS.iloadN X161.here hx rfl (hb hby d41_6) rfl ?_
   show SG p e below T161 (mkF m 7 (la25 a157 p158 p159) [(.int p159)]) _
   refine XS.ifYes X161.here hx rfl (pc0 := 7) (pc' := 14) rfl (hb hby d41_7) rfl ((if0 _ _).trans (flt H1).2.1) (by decide) (by decide) ?_
   show SG p e below T161 (mkF m 14 (la25 a157 p158 p159) []) _
   refine XS.iconst X161.here hx rfl (hb hby d41_14) ?_
   show SG p e below T161 (mkF m 15 (la25 a157 p158 p159) [(.int (0 : Int32))]) _
   refine XS.istore X161.here hx rfl (hb hby d41_15) rfl (l' := #[vR a157, vI p158, vI p159, vJ (p159.toInt64), vS, vI (0 : Int32), vU, vU, vU, vU, vU, vU]) rfl ?_
   show SG p e below T161 (mkF m 17 (la26 a157 p158 p159) []) _
   refine XS.lloadN X161.here hx rfl (hb hby d41_17) rfl ?_
   show SG p e below T161 (mkF m 18 (la26 a157 p158 p159) [(.long (p159.toInt64))]) _
   refine st162 _ ?_
   show SG p e below T162 (mkF m 21 (la26 a157 p158 p159) [(.int (Int32.ofNat (SBG.digits ((p159.toInt64)).toInt.toNat)))]) _
   refine XS.istore X162.here hx rfl (hb hby d41_21) rfl (l' := #[vR a157, vI p158, vI p159, vJ (p159.toInt64), vS, vI (0 : Int32), vI (Int32.ofNat (SBG.digits ((p159.toInt64)).toInt.toNat)), vU, vU, vU, vU, vU]) rfl ?_
   show SG p e below T162 (mkF m 23 (la27 a157 p158 p159) []) _
   refine XS.iload X162.here hx rfl (hb hby d41_23) rfl ?_
   show SG p e below T162 (mkF m 25 (la27 a157 p158 p159) [(.int (Int32.ofNat (SBG.digits ((p159.toInt64)).toInt.toNat)))]) _
   refine XS.iload X162.here hx rfl (hb hby d41_25) rfl ?_
   show SG p e below T162 (mkF m 27 (la27 a157 p158 p159) [(.int (0 : Int32)), (.int (Int32.ofNat (SBG.digits ((p159.toInt64)).toInt.toNat)))]) _
   refine XS.ifYes X162.here hx rfl (pc0 := 27) (pc' := 34) rfl (hb hby d41_27) rfl ((if0 _ _).trans (teq (rfl : (0 : Int32) = (0 : Int32))).1) (by decide) (by decide) ?_
   show SG p e below T162 (mkF m 34 (la27 a157 p158 p159) [(.int (Int32.ofNat (SBG.digits ((p159.toInt64)).toInt.toNat)))]) _
   refine XS.iconst X162.here hx rfl (hb hby d41_34) ?_
   show SG p e below T162 (mkF m 35 (la27 a157 p158 p159) [(.int (0 : Int32)), (.int (Int32.ofNat (SBG.digits ((p159.toInt64)).toInt.toNat)))]) _
   refine XS.iadd X162.here hx rfl (hb hby d41_35) rfl ?_
   show SG p e below T162 (mkF m 36 (la27 a157 p158 p159) [(.int ((Int32.ofNat (SBG.digits ((p159.toInt64)).toInt.toNat)) + (0 : Int32)))]) _
   refine XS.istore X162.here hx rfl (hb hby d41_36) rfl (l' := #[vR a157, vI p158, vI p159, vJ (p159.toInt64), vS, vI (0 : Int32), vI (Int32.ofNat (SBG.digits ((p159.toInt64)).toInt.toNat)), vI ((Int32.ofNat (SBG.digits ((p159.toInt64)).toInt.toNat)) + (0 : Int32)), vU, vU, vU, vU]) rfl ?_
   show SG p e below T162 (mkF m 38 (la28 a157 p158 p159) []) _
   refine XS.iloadN X162.here hx rfl (hb hby d41_38) rfl ?_
   show SG p e below T162 (mkF m 39 (la28 a157 p158 p159) [(.int p158)]) _
   refine XS.iload X162.here hx rfl (hb hby d41_39) rfl ?_
   show SG p e below T162 (mkF m 41 (la28 a157 p158 p159) [(.int ((Int32.ofNat (SBG.digits ((p159.toInt64)).toInt.toNat)) + (0 : Int32))), (.int p158)]) _
   refine XS.icmpYes X162.here hx rfl (pc0 := 41) (pc' := 46) rfl (hb hby d41_41) rfl (tlt H3).1 (by decide) (by decide) ?_
   show SG p e below T162 (mkF m 46 (la28 a157 p158 p159) []) _
   refine XS.iload X162.here hx rfl (hb hby d41_46) rfl ?_
   show SG p e below T162 (mkF m 48 (la28 a157 p158 p159) [(.int (0 : Int32))]) _
   refine XS.ifYes X162.here hx rfl (pc0 := 48) (pc' := 62) rfl (hb hby d41_48) rfl ((if0 _ _).trans (teq (rfl : (0 : Int32) = (0 : Int32))).1) (by decide) (by decide) ?_
   show SG p e below T162 (mkF m 62 (la28 a157 p158 p159) []) _
   refine XS.iloadN X162.here hx rfl (hb hby d41_62) rfl ?_
   show SG p e below T162 (mkF m 63 (la28 a157 p158 p159) [(.int p158)]) _
   refine XS.iload X162.here hx rfl (hb hby d41_63) rfl ?_
   show SG p e below T162 (mkF m 65 (la28 a157 p158 p159) [(.int (0 : Int32)), (.int p158)]) _
   refine XS.ifYes X162.here hx rfl (pc0 := 65) (pc' := 72) rfl (hb hby d41_65) rfl ((if0 _ _).trans (teq (rfl : (0 : Int32) = (0 : Int32))).1) (by decide) (by decide) ?_
   show SG p e below T162 (mkF m 72 (la28 a157 p158 p159) [(.int p158)]) _
   refine XS.iconst X162.here hx rfl (hb hby d41_72) ?_
   show SG p e below T162 (mkF m 73 (la28 a157 p158 p159) [(.int (0 : Int32)), (.int p158)]) _
   refine XS.isub X162.here hx rfl (hb hby d41_73) rfl ?_
   show SG p e below T162 (mkF m 74 (la28 a157 p158 p159) [(.int (p158 - (0 : Int32)))]) _
   refine XS.istore X162.here hx rfl (hb hby d41_74) rfl (l' := #[vR a157, vI p158, vI p159, vJ (p159.toInt64), vS, vI (0 : Int32), vI (Int32.ofNat (SBG.digits ((p159.toInt64)).toInt.toNat)), vI ((Int32.ofNat (SBG.digits ((p159.toInt64)).toInt.toNat)) + (0 : Int32)), vU, vI (p158 - (0 : Int32)), vU, vU]) rfl ?_
   show SG p e below T162 (mkF m 76 (la29 a157 p158 p159) []) _
   refine XS.iload X162.here hx rfl (hb hby d41_76) rfl ?_
   show SG p e below T162 (mkF m 78 (la29 a157 p158 p159) [(.int (Int32.ofNat (SBG.digits ((p159.toInt64)).toInt.toNat)))]) _
   refine XS.iconst X162.here hx rfl (hb hby d41_78) ?_
   show SG p e below T162 (mkF m 79 (la29 a157 p158 p159) [(.int (1 : Int32)), (.int (Int32.ofNat (SBG.digits ((p159.toInt64)).toInt.toNat)))]) _
   refine XS.isub X162.here hx rfl (hb hby d41_79) rfl ?_
   show SG p e below T162 (mkF m 80 (la29 a157 p158 p159) [(.int ((Int32.ofNat (SBG.digits ((p159.toInt64)).toInt.toNat)) - (1 : Int32)))]) _
   refine XS.iload X162.here hx rfl (hb hby d41_80) rfl ?_
   show SG p e below T162 (mkF m 82 (la29 a157 p158 p159) [(.int (p158 - (0 : Int32))), (.int ((Int32.ofNat (SBG.digits ((p159.toInt64)).toInt.toNat)) - (1 : Int32)))]) _
   refine XS.isub X162.here hx rfl (hb hby d41_82) rfl ?_
   show SG p e below T162 (mkF m 83 (la29 a157 p158 p159) [(.int (((Int32.ofNat (SBG.digits ((p159.toInt64)).toInt.toNat)) - (1 : Int32)) - (p158 - (0 : Int32))))]) _
   refine st189 _ ?_
   show SG p e below T189 (mkF m 86 (la29 a157 p158 p159) [(.long q190)]) _
   refine XS.lstore X189.here hx rfl (hb hby d41_86) rfl (l' := #[vR a157, vI p158, vI p159, vJ (p159.toInt64), vS, vI (0 : Int32), vI (Int32.ofNat (SBG.digits ((p159.toInt64)).toInt.toNat)), vI ((Int32.ofNat (SBG.digits ((p159.toInt64)).toInt.toNat)) + (0 : Int32)), vU, vI (p158 - (0 : Int32)), vJ q190, vS]) rfl ?_
   show SG p e below T189 (mkF m 88 (la30 a157 p158 p159 q190) []) _
   refine XS.bipush X189.here hx rfl (hb hby d41_88) ?_
   show SG p e below T189 (mkF m 90 (la30 a157 p158 p159 q190) [(.int (48 : Int32))]) _
   refine XS.lloadN X189.here hx rfl (hb hby d41_90) rfl ?_
   show SG p e below T189 (mkF m 91 (la30 a157 p158 p159 q190) [(.long (p159.toInt64)), (.int (48 : Int32))]) _
   refine XS.lload X189.here hx rfl (hb hby d41_91) rfl ?_
   show SG p e below T189 (mkF m 93 (la30 a157 p158 p159 q190) [(.long q190), (.long (p159.toInt64)), (.int (48 : Int32))]) _
   refine XS.ldiv X189.here hx rfl (hb hby d41_93) rfl H7 ?_
   show SG p e below T189 (mkF m 94 (la30 a157 p158 p159 q190) [(.long ((p159.toInt64) / q190)), (.int (48 : Int32))]) _
   refine X189.ldc2Long hx hown (mvT hZ (tw hw 210 rfl)) (g := (mkF m 94 (la30 a157 p158 p159 q190) [(.long ((p159.toInt64) / q190)), (.int (48 : Int32))])) rfl (hb hby d41_94) _ ?_
   show SG p e below T189 (mkF m 97 (la30 a157 p158 p159 q190) [(.long (10 : Int64)), (.long ((p159.toInt64) / q190)), (.int (48 : Int32))]) _
   refine lremM X189 hx rfl (hb hby d41_97) rfl (by decide) ?_
   show SG p e below T189 (mkF m 98 (la30 a157 p158 p159 q190) [(.long (((p159.toInt64) / q190) % (10 : Int64))), (.int (48 : Int32))]) _
   refine XS.l2i X189.here hx rfl (hb hby d41_98) rfl ?_
   show SG p e below T189 (mkF m 99 (la30 a157 p158 p159 q190) [(.int ((((p159.toInt64) / q190) % (10 : Int64)).toInt32)), (.int (48 : Int32))]) _
   refine XS.iadd X189.here hx rfl (hb hby d41_99) rfl ?_
   show SG p e below T189 (mkF m 100 (la30 a157 p158 p159 q190) [(.int ((48 : Int32) + ((((p159.toInt64) / q190) % (10 : Int64)).toInt32)))]) _
   refine XS.i2c X189.here hx rfl (hb hby d41_100) rfl ?_
   show SG p e below T189 (mkF m 101 (la30 a157 p158 p159 q190) [(.int (((48 : Int32) + ((((p159.toInt64) / q190) % (10 : Int64)).toInt32)).toUInt32.toUInt16.toUInt32.toInt32))]) _
   refine XS.istore X189.here hx rfl (hb hby d41_101) rfl (l' := #[vR a157, vI p158, vI p159, vJ (p159.toInt64), vS, vI (0 : Int32), vI (Int32.ofNat (SBG.digits ((p159.toInt64)).toInt.toNat)), vI ((Int32.ofNat (SBG.digits ((p159.toInt64)).toInt.toNat)) + (0 : Int32)), vI (((48 : Int32) + ((((p159.toInt64) / q190) % (10 : Int64)).toInt32)).toUInt32.toUInt16.toUInt32.toInt32), vI (p158 - (0 : Int32)), vJ q190, vS]) rfl ?_
   show SG p e below T189 (mkF m 103 (la31 a157 p158 p159 q190) []) _
   refine XS.aloadN X189.here hx rfl (hb hby d41_103) rfl rfl ?_
   show SG p e below T189 (mkF m 104 (la31 a157 p158 p159 q190) [(.ref a157)]) _
   refine XS.iconst X189.here hx rfl (hb hby d41_104) ?_
   show SG p e below T189 (mkF m 105 (la31 a157 p158 p159 q190) [(.int (1 : Int32)), (.ref a157)]) _
   refine XS.iloadN X189.here hx rfl (hb hby d41_105) rfl ?_
   show SG p e below T189 (mkF m 106 (la31 a157 p158 p159 q190) [(.int p158), (.int (1 : Int32)), (.ref a157)]) _
   refine XS.iadd X189.here hx rfl (hb hby d41_106) rfl ?_
   show SG p e below T189 (mkF m 107 (la31 a157 p158 p159 q190) [(.int ((1 : Int32) + p158)), (.ref a157)]) _
   refine st191.trans ?_
   show SG p e below T191 (mkF m 110 (la31 a157 p158 p159 q190) [(.int (oc8 (u200 (((1 : Int32) + p158)).toNatClampNeg)))]) _
   refine XS.iload X191.here hx rfl (hb hby d41_110) rfl ?_
   show SG p e below T191 (mkF m 112 (la31 a157 p158 p159 q190) [(.int (((48 : Int32) + ((((p159.toInt64) / q190) % (10 : Int64)).toInt32)).toUInt32.toUInt16.toUInt32.toInt32)), (.int (oc8 (u200 (((1 : Int32) + p158)).toNatClampNeg)))]) _
   refine XS.icmpNo X191.here hx rfl (hb hby d41_112) rfl (teq H19).2 ?_
   show SG p e below T191 (mkF m 115 (la31 a157 p158 p159 q190) []) _
   refine XS.iconst X191.here hx rfl (hb hby d41_115) ?_
   show SG p e below T191 (mkF m 116 (la31 a157 p158 p159 q190) [(.int (1 : Int32))]) _
   refine XS.goto X191.here hx rfl (pc0 := 116) (pc' := 120) rfl (hb hby d41_116) (by decide) (by decide) ?_
   show SG p e below T191 (mkF m 120 (la31 a157 p158 p159 q190) [(.int (1 : Int32))]) _
   exact retN X191 hx (t := .boolean) Bd.returns (by simp) (hb hby d41_120) hr
 · show Qr41_5 Z a157 p158 p159 q190 w192 w194 w197 k199 u200 p201 x203 h0 n0 _ T191.heap _
   rw [e191]
   exact ⟨N191, b189_0, k189_0, rfl, (Nat.le_trans (KSx.refl h0 [] []).1 ge_b189_0), KC189, o189_0⟩
theorem own_mid (l : Launch) (Z : State) (a0 : Array Value) (hw : ∀ d ∈ tables_1, d.before a0 Z = true) (a : Addr) (wS wc : Int32) (b : Addr) (k : ClassId) (z : Int32) (f : Nat → Int32) (o : Value) (I : Nat) (x : Int32) (h0 : Heap) (n0 : Nat) (Z0 : n0 ≤ h0.size) (H1 : Sta Z h0 "java/lang/String" "COMPACT_STRINGS" "Z" (.int wS)) (H2 : ¬ (wS = (0 : Int32))) (H3 : Fld Z h0 a "java/lang/String" "coder" "B" (.int wc)) (H4 : wc = (0 : Int32)) (H5 : Exa Z h0 a "java/lang/String") (H6 : Fld Z h0 a "java/lang/String" "value" "[B" (.ref b)) (H7 : BA Z h0 b k .byte z f) (H8 : Sta Z h0 "jdk/internal/util/Preconditions" "SIOOBE_FORMATTER" "Ljava/util/function/BiFunction;" o) (H9 : o.isRef = true) (hI : I ≤ 10) (hz : z = Int32.ofNat (osz x + 4)) (hf : ∀ j, j < osz x → f (1 + j) = otc x j) :
   OMet l Z mN9 method_5_code 12 (some .boolean) [] ({ frames := 4, cells := 1, slots := 10, locals := 53 } : Room) h0 #[(.ref a), (.int (Int32.ofNat I)), (.int x)] (OQk (some (.int (1 : Int32))) h0 n0) := by
 have hD := SBG.digits_pos x.toInt.natAbs
 have c1 : ((1 : Int32) + Int32.ofNat I).toNatClampNeg = 1 + I := by show (Int32.ofNat 1 + Int32.ofNat I).toNatClampNeg = _; rw [own_add, own_cl (by omega)]
 have c2 : ¬ (((1 : Int32) + Int32.ofNat I) < (0 : Int32)) := by show ¬ ((Int32.ofNat 1 + Int32.ofNat I) < (0 : Int32)); rw [own_add]; exact own_n0 (by omega)
 rcases Decidable.em (x < 0) with hx | hx
 case inl =>
   have hs : osz x = SBG.digits x.toInt.natAbs + 1 := by simp [osz, osg, hx]
   have e2 : (-(x.toInt64)).toInt.toNat = x.toInt.natAbs := by rw [own_neg hx]; rfl
   by_cases hi : I < SBG.digits x.toInt.natAbs + 1
   · by_cases hi0 : I = 0
     · exact own_imp (r41_3 l Z a0 hw a (Int32.ofNat I) x wS wc b k f z o h0 n0 Z0 (own_lc (n := 0) (by decide) (by rw [c_i2l]; exact Int32.lt_iff_toInt_lt.mp hx)) hx (by rw [own_neg hx]; omega) (by rw [e2]; exact own_a1 (s := 1) (by omega) (by omega)) (by rw [hi0]; rfl) H1 H2 H3 H4 H5 H6 H7 H8 H9 c2 (by rw [hz]; show Int32.ofNat 1 + Int32.ofNat I < _; rw [own_add, own_lt (by omega) (by omega)]; omega) (by rw [c1, hf I (by omega), show otc x I = 45 from if_pos ⟨hx, hi0⟩]; decide)) fun v h L q => ⟨q.2.1, q.1, by rw [q.2.2]; exact KSx.refl _ _ _⟩
     · skip
       have a3 := own_a3 (I := I) (D := SBG.digits x.toInt.natAbs) (s := 1) (by omega) (by omega) (by omega) (by omega)
       change _ - _ - (_ - (1 : Int32)) = _ at a3
       refine own_imp (r41_4 l Z a0 hw a (Int32.ofNat I) x (Int64.ofNat (10 ^ (SBG.digits x.toInt.natAbs - 1 - (I - 1)))) wS wc b k f z o h0 n0 Z0 (own_lc (n := 0) (by decide) (by rw [c_i2l]; exact Int32.lt_iff_toInt_lt.mp hx)) hx (by rw [own_neg hx]; omega) (by rw [e2]; exact own_a1 (s := 1) (by omega) (by omega)) (fun q => hi0 (by have := congrArg Int32.toNatClampNeg q; rw [own_cl (by omega)] at this; exact this)) (by rw [e2, a3]; exact own_n0 (by omega)) (by rw [e2, a3]; exact (own_lt (b := 10) (by omega) (by decide)).mpr (by omega)) (by rw [e2, a3, own_cl (by omega)]; exact own_ten ⟨_, (by omega : (SBG.digits x.toInt.natAbs - 1 - (I - 1)) < 10)⟩) (own_ten0 ⟨_, (by omega : (SBG.digits x.toInt.natAbs - 1 - (I - 1)) < 10)⟩) H1 H2 H3 H4 H5 H6 H7 H8 H9 c2 (by rw [hz]; show Int32.ofNat 1 + Int32.ofNat I < _; rw [own_add, own_lt (by omega) (by omega)]; omega) (by rw [c1, hf I (by omega), show otc x I = SBG.odg x.toInt.natAbs (SBG.digits x.toInt.natAbs - 1 - (I - 1)) from (if_neg (fun q => hi0 q.2)).trans (by rw [show osz x - 1 - I = (SBG.digits x.toInt.natAbs - 1 - (I - 1)) from by omega])]; exact own_dgt (own_neg hx) (by omega))) fun v h L q => ?_
       obtain ⟨N, _, _, e, _, K, _⟩ := q
       exact ⟨N, e, K⟩
   · exact own_imp (r41_2 l Z a0 hw a (Int32.ofNat I) x h0 n0 Z0 (own_lc (n := 0) (by decide) (by rw [c_i2l]; exact Int32.lt_iff_toInt_lt.mp hx)) hx (by rw [own_neg hx]; omega) (by rw [e2]; exact own_a2 (s := 1) (by omega) (by omega))) fun v h L q => ⟨q.2.1, q.1, by rw [q.2.2]; exact KSx.refl _ _ _⟩
 case inr =>
   have hs : osz x = SBG.digits x.toInt.natAbs + 0 := by simp [osz, osg, hx]
   have e2 : (x.toInt64).toInt.toNat = x.toInt.natAbs := by rw [own_pos hx]; rfl
   by_cases hi : I < SBG.digits x.toInt.natAbs + 0
   · skip
     have a3 := own_a3 (I := I) (D := SBG.digits x.toInt.natAbs) (s := 0) (by omega) (by omega) (by omega) (by omega)
     change _ - _ - (_ - (0 : Int32)) = _ at a3
     refine own_imp (r41_5 l Z a0 hw a (Int32.ofNat I) x (Int64.ofNat (10 ^ (SBG.digits x.toInt.natAbs - 1 - (I - 0)))) wS wc b k f z o h0 n0 Z0 (own_lcn (n := 0) (by decide) (by rw [own_pos hx]; omega)) hx (by rw [own_pos hx]; omega) (by rw [e2]; exact own_a1 (s := 0) (by omega) (by omega)) (by rw [e2, a3]; exact own_n0 (by omega)) (by rw [e2, a3]; exact (own_lt (b := 10) (by omega) (by decide)).mpr (by omega)) (by rw [e2, a3, own_cl (by omega)]; exact own_ten ⟨_, (by omega : (SBG.digits x.toInt.natAbs - 1 - (I - 0)) < 10)⟩) (own_ten0 ⟨_, (by omega : (SBG.digits x.toInt.natAbs - 1 - (I - 0)) < 10)⟩) H1 H2 H3 H4 H5 H6 H7 H8 H9 c2 (by rw [hz]; show Int32.ofNat 1 + Int32.ofNat I < _; rw [own_add, own_lt (by omega) (by omega)]; omega) (by rw [c1, hf I (by omega), show otc x I = SBG.odg x.toInt.natAbs (SBG.digits x.toInt.natAbs - 1 - (I - 0)) from (if_neg (fun q => hx q.1)).trans (by rw [show osz x - 1 - I = (SBG.digits x.toInt.natAbs - 1 - (I - 0)) from by omega])]; exact own_dgt (own_pos hx) (by omega))) fun v h L q => ?_
     obtain ⟨N, _, _, e, _, K, _⟩ := q
     exact ⟨N, e, K⟩
   · exact own_imp (r41_1 l Z a0 hw a (Int32.ofNat I) x h0 n0 Z0 (own_lcn (n := 0) (by decide) (by rw [own_pos hx]; omega)) hx (by rw [own_pos hx]; omega) (by rw [e2]; exact own_a2 (s := 0) (by omega) (by omega))) fun v h L q => ⟨q.2.1, q.1, by rw [q.2.2]; exact KSx.refl _ _ _⟩
theorem d3_0 : decode prog_12_method_2_code 0 = .ok (.new 21, 3) := by decide +kernel
theorem d3_3 : decode prog_12_method_2_code 3 = .ok (.dup, 1) := by decide +kernel
theorem d3_4 : decode prog_12_method_2_code 4 = .ok (.invokespecial 23, 3) := by decide +kernel
theorem d4_0 : decode jdk_67_method_1_code 0 = .ok (.aload_n 0, 1) := by decide +kernel
theorem d4_1 : decode jdk_67_method_1_code 1 = .ok (.bipush 16, 2) := by decide +kernel
theorem d4_3 : decode jdk_67_method_1_code 3 = .ok (.invokespecial 1, 3) := by decide +kernel
theorem d5_0 : decode jdk_68_method_2_code 0 = .ok (.aload_n 0, 1) := by decide +kernel
theorem d5_1 : decode jdk_68_method_2_code 1 = .ok (.invokespecial 3, 3) := by decide +kernel
theorem d5_4 : decode jdk_68_method_2_code 4 = .ok (.getstatic 18, 3) := by decide +kernel
theorem d5_7 : decode jdk_68_method_2_code 7 = .ok (.ifCond .eq 18, 3) := by decide +kernel
theorem d5_10 : decode jdk_68_method_2_code 10 = .ok (.aload_n 0, 1) := by decide +kernel
theorem d5_11 : decode jdk_68_method_2_code 11 = .ok (.iload_n 1, 1) := by decide +kernel
theorem d5_12 : decode jdk_68_method_2_code 12 = .ok (.newarray .byte, 2) := by decide +kernel
theorem d5_14 : decode jdk_68_method_2_code 14 = .ok (.putfield 15, 3) := by decide +kernel
theorem d5_17 : decode jdk_68_method_2_code 17 = .ok (.aload_n 0, 1) := by decide +kernel
theorem d5_18 : decode jdk_68_method_2_code 18 = .ok (.iconst 0, 1) := by decide +kernel
theorem d5_19 : decode jdk_68_method_2_code 19 = .ok (.putfield 22, 3) := by decide +kernel
theorem d5_22 : decode jdk_68_method_2_code 22 = .ok (.goto 16, 3) := by decide +kernel
theorem d5_38 : decode jdk_68_method_2_code 38 = .ok (.return_, 1) := by decide +kernel
theorem pn_java_lang_AbstractStringBuilder : plainName "java/lang/AbstractStringBuilder" = true := by first | (simp [plainName, overriddenIn]; done) | decide +kernel
theorem ef_5_vv (m : MethodId) (x0 : Addr) (x1 : Int32) : entryFrame m #[(.ref x0), (.int x1)] 2 = mkF m 0 #[.val (.ref x0), .val (.int x1)] [] := by first | (simp [entryFrame, mkF, argsToLocals, Value.category]; done) | rfl
def Qr5_1 (Z : State) (a208 : Addr) (p209 : Int32) (w211 : Int32) (w218 : Int32) (h0 : Heap) (n0 : Nat) (v : Option Value) (h : Heap) (L : List Loc) : Prop := Fr n0 L ∧ ∃ b213 : Addr, ∃ k213 : ClassId, v = none ∧ h0.size ≤ b213 ∧ KSx h0 h [(a208, Jvm.RoadKit.slotOf Z "java/lang/AbstractStringBuilder" "value" "[B"), (a208, Jvm.RoadKit.slotOf Z "java/lang/AbstractStringBuilder" "coder" "B")] [] ∧ Fld Z h a208 "java/lang/AbstractStringBuilder" "value" "[B" (.ref b213) ∧ Fld Z h a208 "java/lang/AbstractStringBuilder" "coder" "B" (.int (0 : Int32)) ∧ BA Z h b213 k213 .byte p209 (fun _ => (0 : Int32))
theorem r5_1 (l : Launch) (Z : State) (a0 : Array Value) (hw : ∀ d ∈ tables_1, d.before a0 Z = true) (a208 : Addr) (p209 : Int32) (w211 : Int32) (w218 : Int32) (h0 : Heap) (n0 : Nat) (Z0 : n0 ≤ h0.size) (H0 : Sta Z h0 "java/lang/String" "COMPACT_STRINGS" "Z" (.int w211)) (H1 : ¬ (w211 = (0 : Int32))) (H2 : ¬ (p209 < (0 : Int32))) (H3 : ¬ ((16 : Int32) < p209)) (H4 : Exa Z h0 a208 "java/lang/StringBuilder") (H5 : Fld Z h0 a208 "java/lang/AbstractStringBuilder" "value" "[B" .null) (H6 : n0 ≤ a208) (H7 : Fld Z h0 a208 "java/lang/AbstractStringBuilder" "coder" "B" (.int w218)) :
   OMet l Z mN11 jdk_68_method_2_code 2 none [] ({ frames := 1, cells := 1, slots := 16, locals := 12 } : Room) h0 #[(.ref a208), (.int p209)] (Qr5_1 Z a208 p209 w211 w218 h0 n0) := by
 refine MetFree.of_bodySF (plainFor_of_name pn_java_lang_AbstractStringBuilder) hisR ?_
 intro p e s m args below meth c s₁ Bd hml0 hP hK
 obtain ⟨rfl, hZ, hh⟩ := hP
 have hx := Bd.exec
 have hby := Bd.bytes
 have hml : c.maxLocals = 2 := hml0
 have hown : s.vm.findClass "java/lang/AbstractStringBuilder" = some m.cls := findClass_of_methodNamed Bd.named
 have hnm := (name_of_methodNamed Bd.named Bd.method).1
 have X0 : Stand p l e ({ frames := 1, cells := 1, slots := 16, locals := 12 } : Room) s m #[(.ref a208), (.int p209)] below meth c s₁ [] 0 0 := Stand.of_body Bd
 have e0 : s₁.heap = h0 := by rw [← hh, Bd.state]; rfl
 have N0 := Fr.nil n0
 have pre0 : ∀ t, Steps p.tables e below (s₁.setTop (mkF m 0 #[vR a208, vI p209] [])) t → Steps p.tables e below (s₁.setTop (entryFrame m #[(.ref a208), (.int p209)] 2)) t := fun t k => castTop (ef_5_vv m a208 p209) k
 obtain ⟨T210, X210, e210, st210⟩ := initO X0 hx hZ hown (tw hw 50 rfl) (tw hw 25 rfl) (tw hw 26 rfl) e0 (g := (mkF m 1 #[vR a208, vI p209] [(.ref a208)])) rfl (by rw [hml]; rfl) rfl (hb hby d5_1) (by decide) (W := 0) (own_w _) (by decide)
 obtain ⟨T212, X212, e212, st212⟩ := getS2 X210 hx hZ hown (host := "") (Or.inl (tw hw 51 rfl)) Via.refl e210 H0 (g := (mkF m 4 #[vR a208, vI p209] [])) rfl (hb hby d5_4)
 obtain ⟨T213, h213, k213, X213, e213, E213, A213, st213⟩ := newP X212 hx hZ (tw hw 53 rfl) e212 (g := (mkF m 12 #[vR a208, vI p209] [(.int p209), (.ref a208)])) rfl (hb hby d5_12) rfl H2 (cap := 16) (own_cap (k := 16) (by decide) H3) (by decide) (by decide) (by decide)
 obtain ⟨b213, g213⟩ : ∃ z, z = h0.size := ⟨_, rfl⟩
 rw [← g213] at A213 st213
 have KC213 := KSx.ext (KSx.refl h0 [(a208, Jvm.RoadKit.slotOf Z "java/lang/AbstractStringBuilder" "value" "[B"), (a208, Jvm.RoadKit.slotOf Z "java/lang/AbstractStringBuilder" "coder" "B")] []) E213
 have B213 : BA Z h213 b213 k213 .byte p209 (fun _ => (0 : Int32)) := BA.new A213 H2 rfl rfl
 have f214 := (H4.ext E213)
 have f215 := (H5.ext E213)
 obtain ⟨T216, h216, X216, e216, W216, st216⟩ := putF X213 hx hZ hown (host := "") (Or.inl (tw hw 54 rfl)) Via.refl e213 f215 f214 (Or.inl (tw hw 55 rfl)) (tw hw 39 rfl) (ty := (.array .byte)) (by decide) rfl rfl (g := (mkF m 14 #[vR a208, vI p209] [(.ref b213), (.ref a208)])) rfl rfl (hb hby d5_14)
 have Fw216 := Fld.same W216 f215
 have KC216 := KSx.wr KC213 W216 (Or.inl (List.mem_of_getElem? (i := 0) rfl))
 have N216 := Fr.snoc X216 N0 H6
 have f217 := (f214.wr W216)
 have f219 := ((H7.ext E213).other W216 (Or.inr (slot_ne (Or.inl (tw hw 57 rfl)) (Or.inl (tw hw 55 rfl)) (by decide) (t := .byte) (t' := (.array .byte)) (by decide) (by decide))))
 obtain ⟨T220, h220, X220, e220, W220, st220⟩ := putF X216 hx hZ hown (host := "") (Or.inl (tw hw 56 rfl)) Via.refl e216 f219 f217 (Or.inl (tw hw 57 rfl)) (tw hw 39 rfl) (ty := .byte) (by decide) rfl rfl (g := (mkF m 19 #[vR a208, vI p209] [(.int (0 : Int32)), (.ref a208)])) rfl rfl (hb hby d5_19)
 have Fw220 := Fld.same W220 f219
 have KC220 := KSx.wr KC216 W220 (Or.inl (List.mem_of_getElem? (i := 1) rfl))
 have N220 := Fr.snoc X220 N216 H6
 have f221 := (Fw216.other W220 (Or.inr (slot_ne (Or.inl (tw hw 55 rfl)) (Or.inl (tw hw 57 rfl)) (by decide) (t := (.array .byte)) (t' := .byte) (by decide) (by decide))))
 have ne222 : a208 ≠ b213 := (Nat.ne_of_lt (Nat.lt_of_lt_of_le (H4).lt (Nat.le_of_eq g213.symm)))
 have f223 := ((B213.other W216 (Ne.symm ne222)).other W220 (Ne.symm ne222))
 obtain ⟨fs, hr, hrun, hended, hW, hsame⟩ := X220.leave (v := none) (fun _ => rfl)
 refine ⟨_, _, pre0 _ ?_, hrun, hended, _, _, rfl, ?_, ⟨_, rfl⟩, hW, hsame.mono (by decide) (by decide)⟩
 · show SG p e below s₁ (mkF m 0 #[vR a208, vI p209] []) _
   refine XS.aloadN X0.here hx rfl (hb hby d5_0) rfl rfl ?_
   show SG p e below s₁ (mkF m 1 #[vR a208, vI p209] [(.ref a208)]) _
   refine st210 _ ?_
   show SG p e below T210 (mkF m 4 #[vR a208, vI p209] []) _
   refine st212 _ ?_
   show SG p e below T212 (mkF m 7 #[vR a208, vI p209] [(.int w211)]) _
   refine XS.ifNo X212.here hx rfl (hb hby d5_7) rfl ((if0 _ _).trans (feq H1).1) ?_
   show SG p e below T212 (mkF m 10 #[vR a208, vI p209] []) _
   refine XS.aloadN X212.here hx rfl (hb hby d5_10) rfl rfl ?_
   show SG p e below T212 (mkF m 11 #[vR a208, vI p209] [(.ref a208)]) _
   refine XS.iloadN X212.here hx rfl (hb hby d5_11) rfl ?_
   show SG p e below T212 (mkF m 12 #[vR a208, vI p209] [(.int p209), (.ref a208)]) _
   refine st213 _ ?_
   show SG p e below T213 (mkF m 14 #[vR a208, vI p209] [(.ref b213), (.ref a208)]) _
   refine st216 _ ?_
   show SG p e below T216 (mkF m 17 #[vR a208, vI p209] []) _
   refine XS.aloadN X216.here hx rfl (hb hby d5_17) rfl rfl ?_
   show SG p e below T216 (mkF m 18 #[vR a208, vI p209] [(.ref a208)]) _
   refine XS.iconst X216.here hx rfl (hb hby d5_18) ?_
   show SG p e below T216 (mkF m 19 #[vR a208, vI p209] [(.int (0 : Int32)), (.ref a208)]) _
   refine st220 _ ?_
   show SG p e below T220 (mkF m 22 #[vR a208, vI p209] []) _
   refine XS.goto X220.here hx rfl (pc0 := 22) (pc' := 38) rfl (hb hby d5_22) (by decide) (by decide) ?_
   show SG p e below T220 (mkF m 38 #[vR a208, vI p209] []) _
   exact X220.returnOut hx Bd.returns (hb hby d5_38) hr
 · show Qr5_1 Z a208 p209 w211 w218 h0 n0 _ T220.heap _
   rw [e220]
   exact ⟨N220, b213, k213, rfl, (Nat.le_trans (KSx.refl h0 [(a208, Jvm.RoadKit.slotOf Z "java/lang/AbstractStringBuilder" "value" "[B"), (a208, Jvm.RoadKit.slotOf Z "java/lang/AbstractStringBuilder" "coder" "B")] []).1 (Nat.le_of_eq g213.symm)), KC220, f221, Fw220, f223⟩
theorem pd_8 : parseMethodDescriptor "(I)V" = some ⟨[.int], none⟩ := by decide +kernel
theorem d4_6 : decode jdk_67_method_1_code 6 = .ok (.return_, 1) := by decide +kernel
theorem pn_java_lang_StringBuilder : plainName "java/lang/StringBuilder" = true := by first | (simp [plainName, overriddenIn]; done) | decide +kernel
theorem ef_4_v (m : MethodId) (x0 : Addr) : entryFrame m #[(.ref x0)] 1 = mkF m 0 #[.val (.ref x0)] [] := by first | (simp [entryFrame, mkF, argsToLocals, Value.category]; done) | rfl
def Qr4_1 (Z : State) (a207 : Addr) (w225 : Int32) (w226 : Int32) (h0 : Heap) (n0 : Nat) (v : Option Value) (h : Heap) (L : List Loc) : Prop := Fr n0 L ∧ ∃ b224_0 : Addr, ∃ k224_0 : ClassId, v = none ∧ h0.size ≤ b224_0 ∧ KSx h0 h [(a207, Jvm.RoadKit.slotOf Z "java/lang/AbstractStringBuilder" "coder" "B"), (a207, Jvm.RoadKit.slotOf Z "java/lang/AbstractStringBuilder" "value" "[B")] [] ∧ Fld Z h a207 "java/lang/AbstractStringBuilder" "value" "[B" (.ref b224_0) ∧ Fld Z h a207 "java/lang/AbstractStringBuilder" "coder" "B" (.int (0 : Int32)) ∧ BA Z h b224_0 k224_0 .byte (16 : Int32) (fun _ => (0 : Int32))
theorem r4_1 (l : Launch) (Z : State) (a0 : Array Value) (hw : ∀ d ∈ tables_1, d.before a0 Z = true) (a207 : Addr) (w225 : Int32) (w226 : Int32) (h0 : Heap) (n0 : Nat) (Z0 : n0 ≤ h0.size) (H0 : Sta Z h0 "java/lang/String" "COMPACT_STRINGS" "Z" (.int w225)) (H1 : ¬ (w225 = (0 : Int32))) (H2 : Exa Z h0 a207 "java/lang/StringBuilder") (H3 : Fld Z h0 a207 "java/lang/AbstractStringBuilder" "value" "[B" .null) (H4 : n0 ≤ a207) (H5 : Fld Z h0 a207 "java/lang/AbstractStringBuilder" "coder" "B" (.int w226)) :
   OMet l Z mN12 jdk_67_method_1_code 1 none [] ({ frames := 2, cells := 1, slots := 16, locals := 25 } : Room) h0 #[(.ref a207)] (Qr4_1 Z a207 w225 w226 h0 n0) := by
 refine MetFree.of_bodySF (plainFor_of_name pn_java_lang_StringBuilder) hisR ?_
 intro p e s m args below meth c s₁ Bd hml0 hP hK
 obtain ⟨rfl, hZ, hh⟩ := hP
 have hx := Bd.exec
 have hby := Bd.bytes
 have hml : c.maxLocals = 1 := hml0
 have hown : s.vm.findClass "java/lang/StringBuilder" = some m.cls := findClass_of_methodNamed Bd.named
 have hnm := (name_of_methodNamed Bd.named Bd.method).1
 have X0 : Stand p l e ({ frames := 2, cells := 1, slots := 16, locals := 25 } : Room) s m #[(.ref a207)] below meth c s₁ [] 0 0 := Stand.of_body Bd
 have e0 : s₁.heap = h0 := by rw [← hh, Bd.state]; rfl
 have N0 := Fr.nil n0
 have pre0 : ∀ t, Steps p.tables e below (s₁.setTop (mkF m 0 #[vR a207] [])) t → Steps p.tables e below (s₁.setTop (entryFrame m #[(.ref a207)] 1)) t := fun t k => castTop (ef_4_v m a207) k
 obtain ⟨_, _, ⟨T224, L224, k224, n224⟩, -, X224, ⟨Lc224, hQ224, l224, y224, z224⟩, st224⟩ := X0.specialBack hx (y := mN11) rfl hown (mvT hZ (tw hw 44 rfl)) (mvT hZ (tw hw 45 rfl)) (mvT hZ (tw hw 49 rfl)) (by decide) (backOf (W := 0) (r5_1 l Z a0 hw a207 (16 : Int32) w225 w226 h0 n0 Z0 H0 H1 (by first | decide | rfl) (by first | decide | rfl) H2 H3 H4 H5) hZ (tw hw 49 rfl) (tw hw 48 rfl) (by decide) (by decide)) (g := (mkF m 3 #[vR a207] [(.int (16 : Int32)), (.ref a207)])) rfl (by rw [hml]; rfl) (Steps.refl _) (a := a207) (argsL := [(.int (16 : Int32))]) (rest := []) (lenOf pd_8 rfl) rfl (own_w _) (hb hby d4_3) (fun _ _ => ⟨rfl, e0, (by decide : 0 + 1 ≤ _), (by decide : 0 + 16 ≤ _)⟩)
 dsimp only [Pt.U, Pt.locs, Pt.cells, Pt.slots] at X224 l224 y224 z224 st224 hQ224
 replace X224 := own_mvX X224 (a := 1) (b := 16) y224 z224
 obtain ⟨N224q, b224_0, k224_0, rfl, ge_b224_0, K224, o224_0, o224_1, o224_2⟩ := hQ224
 have N224 := own_mvN l224 N0 N224q
 have KC224 := KSx.trans (KSx.refl h0 [(a207, Jvm.RoadKit.slotOf Z "java/lang/AbstractStringBuilder" "coder" "B"), (a207, Jvm.RoadKit.slotOf Z "java/lang/AbstractStringBuilder" "value" "[B")] []) K224 (ksS (Or.inl (List.mem_of_getElem? (i := 1) rfl)) (ksS (Or.inl (List.mem_of_getElem? (i := 0) rfl)) ks0)) all0
 obtain ⟨fs, hr, hrun, hended, hW, hsame⟩ := X224.leave (v := none) (fun _ => rfl)
 refine ⟨_, _, pre0 _ ?_, hrun, hended, _, _, rfl, ?_, ⟨_, rfl⟩, hW, hsame.mono (by decide) (by decide)⟩
 · show SG p e below s₁ (mkF m 0 #[vR a207] []) _
   refine XS.aloadN X0.here hx rfl (hb hby d4_0) rfl rfl ?_
   show SG p e below s₁ (mkF m 1 #[vR a207] [(.ref a207)]) _
   refine XS.bipush X0.here hx rfl (hb hby d4_1) ?_
   show SG p e below s₁ (mkF m 3 #[vR a207] [(.int (16 : Int32)), (.ref a207)]) _
   refine st224.trans ?_
   show SG p e below T224 (mkF m 6 #[vR a207] []) _
   exact X224.returnOut hx Bd.returns (hb hby d4_6) hr
 · show Qr4_1 Z a207 w225 w226 h0 n0 _ T224.heap _
   exact ⟨N224, b224_0, k224_0, rfl, (Nat.le_trans (KSx.refl h0 [(a207, Jvm.RoadKit.slotOf Z "java/lang/AbstractStringBuilder" "coder" "B"), (a207, Jvm.RoadKit.slotOf Z "java/lang/AbstractStringBuilder" "value" "[B")] []).1 ge_b224_0), KC224, o224_0, o224_1, o224_2⟩
theorem pd_9 : parseMethodDescriptor "()V" = some ⟨[], none⟩ := by decide +kernel
theorem d3_7 : decode prog_12_method_2_code 7 = .ok (.ldc 24, 2) := by decide +kernel
theorem str_in : ∀ w ∈ Bundle.stringAtoms, w ∈ tables_1 := by decide +kernel
theorem d3_9 : decode prog_12_method_2_code 9 = .ok (.invokevirtual 26, 3) := by decide +kernel
theorem d6_0 : decode jdk_67_method_7_code 0 = .ok (.aload_n 0, 1) := by decide +kernel
theorem d6_1 : decode jdk_67_method_7_code 1 = .ok (.aload_n 1, 1) := by decide +kernel
theorem d6_2 : decode jdk_67_method_7_code 2 = .ok (.invokespecial 29, 3) := by decide +kernel
theorem d7_0 : decode jdk_68_method_22_code 0 = .ok (.aload_n 1, 1) := by decide +kernel
theorem d7_1 : decode jdk_68_method_22_code 1 = .ok (.ifnonnull 8, 3) := by decide +kernel
theorem d7_9 : decode jdk_68_method_22_code 9 = .ok (.aload_n 1, 1) := by decide +kernel
theorem d7_10 : decode jdk_68_method_22_code 10 = .ok (.invokevirtual 32, 3) := by decide +kernel
theorem d8_0 : decode jdk_42_method_54_code 0 = .ok (.aload_n 0, 1) := by decide +kernel
theorem d8_1 : decode jdk_42_method_54_code 1 = .ok (.getfield 9, 3) := by decide +kernel
theorem d8_4 : decode jdk_42_method_54_code 4 = .ok (.arraylength, 1) := by decide +kernel
theorem d8_5 : decode jdk_42_method_54_code 5 = .ok (.aload_n 0, 1) := by decide +kernel
theorem d8_6 : decode jdk_42_method_54_code 6 = .ok (.invokevirtual 335, 3) := by decide +kernel
theorem d9_0 : decode jdk_42_method_152_code 0 = .ok (.getstatic 38, 3) := by decide +kernel
theorem d9_3 : decode jdk_42_method_152_code 3 = .ok (.ifCond .eq 10, 3) := by decide +kernel
theorem d9_6 : decode jdk_42_method_152_code 6 = .ok (.aload_n 0, 1) := by decide +kernel
theorem d9_7 : decode jdk_42_method_152_code 7 = .ok (.getfield 15, 3) := by decide +kernel
theorem d9_10 : decode jdk_42_method_152_code 10 = .ok (.goto 4, 3) := by decide +kernel
theorem d9_14 : decode jdk_42_method_152_code 14 = .ok (.ireturn, 1) := by decide +kernel
theorem ef_9_v (m : MethodId) (x0 : Addr) : entryFrame m #[(.ref x0)] 1 = mkF m 0 #[.val (.ref x0)] [] := by first | (simp [entryFrame, mkF, argsToLocals, Value.category]; done) | rfl
theorem r9_1 (l : Launch) (Z : State) (a0 : Array Value) (hw : ∀ d ∈ tables_1, d.before a0 Z = true) (a245 : Addr) (w246 : Int32) (w248 : Int32) (h0 : Heap) (n0 : Nat) (Z0 : n0 ≤ h0.size) (H0 : Sta Z h0 "java/lang/String" "COMPACT_STRINGS" "Z" (.int w246)) (H1 : ¬ (w246 = (0 : Int32))) (H2 : Fld Z h0 a245 "java/lang/String" "coder" "B" (.int w248)) (H3 : nar .byte w248 = w248) :
   OMet l Z mN13 jdk_42_method_152_code 1 (some .byte) [] ({ frames := 0, cells := 0, slots := 0, locals := 0 } : Room) h0 #[(.ref a245)] (OQp (some (.int w248)) h0 n0) := by
 refine MetFree.of_bodySF (plainFor_of_name pn_java_lang_String) hisR ?_
 intro p e s m args below meth c s₁ Bd hml0 hP hK
 obtain ⟨rfl, hZ, hh⟩ := hP
 have hx := Bd.exec
 have hby := Bd.bytes
 have hml : c.maxLocals = 1 := hml0
 have hown : s.vm.findClass "java/lang/String" = some m.cls := findClass_of_methodNamed Bd.named
 have hnm := (name_of_methodNamed Bd.named Bd.method).1
 have X0 : Stand p l e ({ frames := 0, cells := 0, slots := 0, locals := 0 } : Room) s m #[(.ref a245)] below meth c s₁ [] 0 0 := Stand.of_body Bd
 have e0 : s₁.heap = h0 := by rw [← hh, Bd.state]; rfl
 have N0 := Fr.nil n0
 have pre0 : ∀ t, Steps p.tables e below (s₁.setTop (mkF m 0 #[vR a245] [])) t → Steps p.tables e below (s₁.setTop (entryFrame m #[(.ref a245)] 1)) t := fun t k => castTop (ef_9_v m a245) k
 obtain ⟨T247, X247, e247, st247⟩ := getS2 X0 hx hZ hown (host := "") (Or.inl (tw hw 85 rfl)) Via.refl e0 H0 (g := (mkF m 0 #[vR a245] [])) rfl (hb hby d9_0)
 obtain ⟨T249, X249, e249, st249⟩ := getF X247 hx hZ hown (host := "") (Or.inl (tw hw 86 rfl)) Via.refl e247 H2 (g := (mkF m 7 #[vR a245] [(.ref a245)])) rfl rfl (hb hby d9_7)
 obtain ⟨fs, hr, hrun, hended, hW, hsame⟩ := X249.leave (v := some (.int w248)) (fun h => by rw [Bd.returns] at h; cases h)
 refine ⟨_, _, pre0 _ ?_, hrun, hended, _, _, rfl, ?_, ⟨_, rfl⟩, hW, hsame.mono (by decide) (by decide)⟩
 · show SG p e below s₁ (mkF m 0 #[vR a245] []) _
   refine st247 _ ?_
   show SG p e below T247 (mkF m 3 #[vR a245] [(.int w246)]) _
   refine XS.ifNo X247.here hx rfl (hb hby d9_3) rfl ((if0 _ _).trans (feq H1).1) ?_
   show SG p e below T247 (mkF m 6 #[vR a245] []) _
   refine XS.aloadN X247.here hx rfl (hb hby d9_6) rfl rfl ?_
   show SG p e below T247 (mkF m 7 #[vR a245] [(.ref a245)]) _
   refine st249 _ ?_
   show SG p e below T249 (mkF m 10 #[vR a245] [(.int w248)]) _
   refine XS.goto X249.here hx rfl (pc0 := 10) (pc' := 14) rfl (hb hby d9_10) (by decide) (by decide) ?_
   show SG p e below T249 (mkF m 14 #[vR a245] [(.int w248)]) _
   exact retN X249 hx (t := .byte) Bd.returns (by simp) (hb hby d9_14) (by rw [H3]; exact hr)
 · show OQp (some (.int w248)) h0 n0 _ T249.heap _
   rw [e249]
   exact ⟨rfl, N0, rfl⟩
theorem pd_10 : parseMethodDescriptor "()B" = some ⟨[], some .byte⟩ := by decide +kernel
theorem d8_9 : decode jdk_42_method_54_code 9 = .ok (.ishr, 1) := by decide +kernel
theorem d8_10 : decode jdk_42_method_54_code 10 = .ok (.ireturn, 1) := by decide +kernel
theorem ef_8_v (m : MethodId) (x0 : Addr) : entryFrame m #[(.ref x0)] 1 = mkF m 0 #[.val (.ref x0)] [] := by first | (simp [entryFrame, mkF, argsToLocals, Value.category]; done) | rfl
theorem r8_1 (l : Launch) (Z : State) (a0 : Array Value) (hw : ∀ d ∈ tables_1, d.before a0 Z = true) (a239 : Addr) (w240 : Addr) (k242 : ClassId) (u243 : Nat → Int32) (w251 : Int32) (w252 : Int32) (h0 : Heap) (n0 : Nat) (Z0 : n0 ≤ h0.size) (H0 : Fld Z h0 a239 "java/lang/String" "value" "[B" (.ref w240)) (H1 : BA Z h0 w240 k242 .byte (1 : Int32) u243) (H2 : Sta Z h0 "java/lang/String" "COMPACT_STRINGS" "Z" (.int w251)) (H3 : ¬ (w251 = (0 : Int32))) (H4 : Fld Z h0 a239 "java/lang/String" "coder" "B" (.int w252)) (H5 : nar .byte w252 = w252) (H6 : Exa Z h0 a239 "java/lang/String") :
   OMet l Z mN14 jdk_42_method_54_code 1 (some .int) [] ({ frames := 1, cells := 0, slots := 0, locals := 13 } : Room) h0 #[(.ref a239)] (OQp (some (.int ((1 : Int32) >>> (w252 &&& 31)))) h0 n0) := by
 refine MetFree.of_bodySF (plainFor_of_name pn_java_lang_String) hisR ?_
 intro p e s m args below meth c s₁ Bd hml0 hP hK
 obtain ⟨rfl, hZ, hh⟩ := hP
 have hx := Bd.exec
 have hby := Bd.bytes
 have hml : c.maxLocals = 1 := hml0
 have hown : s.vm.findClass "java/lang/String" = some m.cls := findClass_of_methodNamed Bd.named
 have hnm := (name_of_methodNamed Bd.named Bd.method).1
 have X0 : Stand p l e ({ frames := 1, cells := 0, slots := 0, locals := 13 } : Room) s m #[(.ref a239)] below meth c s₁ [] 0 0 := Stand.of_body Bd
 have e0 : s₁.heap = h0 := by rw [← hh, Bd.state]; rfl
 have N0 := Fr.nil n0
 have pre0 : ∀ t, Steps p.tables e below (s₁.setTop (mkF m 0 #[vR a239] [])) t → Steps p.tables e below (s₁.setTop (entryFrame m #[(.ref a239)] 1)) t := fun t k => castTop (ef_8_v m a239) k
 obtain ⟨T241, X241, e241, st241⟩ := getF X0 hx hZ hown (host := "") (Or.inl (tw hw 79 rfl)) Via.refl e0 H0 (g := (mkF m 1 #[vR a239] [(.ref a239)])) rfl rfl (hb hby d8_1)
 have vc244 := H1
 obtain ⟨cl244, Ar244, q244, S244, N244, Hh244, G244⟩ := vc244
 obtain ⟨cq250, kq250, q250a, q250b, q250c⟩ := isOf hZ e241 H6
 obtain ⟨_, _, ⟨T250, L250, k250, n250⟩, -, X250, ⟨Lc250, hQ250, l250, y250, z250⟩, st250⟩ := X241.virtualBack hx (y := mN13) (z := mN13) hown (mvT hZ (tw hw 80 rfl)) (mvT hZ (tw hw 81 rfl)) (notFace_of_selects (args := #[]) (mvT hZ (tw hw 83 rfl))) (mvT hZ (tw hw 83 rfl)) (mvT hZ (tw hw 82 rfl)) (by decide) (backOf (W := 1) (r9_1 l Z a0 hw a239 w251 w252 h0 n0 Z0 H2 H3 H4 H5) hZ (tw hw 84 rfl) (tw hw 52 rfl) (by decide) (by decide)) q250a q250c (g := (mkF m 6 #[vR a239] [(.ref a239), (.int (1 : Int32))])) rfl (by rw [hml]; rfl) (Steps.refl _) (argsL := []) (rest := [(.int (1 : Int32))]) (lenOf pd_10 rfl) rfl (own_w _) (hb hby d8_6) (fun _ _ => ⟨rfl, e241, (by decide : 0 + 0 ≤ _), (by decide : 0 + 0 ≤ _)⟩)
 dsimp only [Pt.U, Pt.locs, Pt.cells, Pt.slots] at X250 l250 y250 z250 st250 hQ250
 replace X250 := own_mvX X250 (a := 0) (b := 0) y250 z250
 obtain ⟨rfl, N250q, e250⟩ := hQ250
 have N250 := own_mvN l250 N0 N250q
 obtain ⟨fs, hr, hrun, hended, hW, hsame⟩ := X250.leave (v := some (.int ((1 : Int32) >>> (w252 &&& 31)))) (fun h => by rw [Bd.returns] at h; cases h)
 refine ⟨_, _, pre0 _ ?_, hrun, hended, _, _, rfl, ?_, ⟨_, rfl⟩, hW, hsame.mono (by decide) (by decide)⟩
 · show SG p e below s₁ (mkF m 0 #[vR a239] []) _
   refine XS.aloadN X0.here hx rfl (hb hby d8_0) rfl rfl ?_
   show SG p e below s₁ (mkF m 1 #[vR a239] [(.ref a239)]) _
   refine st241 _ ?_
   show SG p e below T241 (mkF m 4 #[vR a239] [(.ref w240)]) _
   refine X241.arraylength hx (by rw [e241]; exact Ar244.1) (State.isArrayOf_alike hZ.alike Ar244.2.1) (g := (mkF m 4 #[vR a239] [(.ref w240)])) rfl rfl (hb hby d8_4) _ ?_
   rw [len_of S244 N244]
   show SG p e below T241 (mkF m 5 #[vR a239] [(.int (1 : Int32))]) _
   refine XS.aloadN X241.here hx rfl (hb hby d8_5) rfl rfl ?_
   show SG p e below T241 (mkF m 6 #[vR a239] [(.ref a239), (.int (1 : Int32))]) _
   refine st250.trans ?_
   show SG p e below T250 (mkF m 9 #[vR a239] [(.int w252), (.int (1 : Int32))]) _
   refine XS.ishr X250.here hx rfl (hb hby d8_9) rfl ?_
   show SG p e below T250 (mkF m 10 #[vR a239] [(.int ((1 : Int32) >>> (w252 &&& 31)))]) _
   exact retI X250 hx Bd.returns (hb hby d8_10) hr
 · show OQp (some (.int ((1 : Int32) >>> (w252 &&& 31)))) h0 n0 _ T250.heap _
   rw [e250]
   exact ⟨rfl, N250, rfl⟩
theorem pd_11 : parseMethodDescriptor "()I" = some ⟨[], some .int⟩ := by decide +kernel
theorem d7_13 : decode jdk_68_method_22_code 13 = .ok (.istore_n 2, 1) := by decide +kernel
theorem d7_14 : decode jdk_68_method_22_code 14 = .ok (.aload_n 0, 1) := by decide +kernel
theorem d7_15 : decode jdk_68_method_22_code 15 = .ok (.aload_n 0, 1) := by decide +kernel
theorem d7_16 : decode jdk_68_method_22_code 16 = .ok (.getfield 79, 3) := by decide +kernel
theorem d7_19 : decode jdk_68_method_22_code 19 = .ok (.iload_n 2, 1) := by decide +kernel
theorem d7_20 : decode jdk_68_method_22_code 20 = .ok (.iadd, 1) := by decide +kernel
theorem d7_21 : decode jdk_68_method_22_code 21 = .ok (.invokevirtual 100, 3) := by decide +kernel
theorem d10_0 : decode jdk_68_method_9_code 0 = .ok (.aload_n 0, 1) := by decide +kernel
theorem d10_1 : decode jdk_68_method_9_code 1 = .ok (.getfield 15, 3) := by decide +kernel
theorem d10_4 : decode jdk_68_method_9_code 4 = .ok (.arraylength, 1) := by decide +kernel
theorem d10_5 : decode jdk_68_method_9_code 5 = .ok (.aload_n 0, 1) := by decide +kernel
theorem d10_6 : decode jdk_68_method_9_code 6 = .ok (.getfield 22, 3) := by decide +kernel
theorem d10_9 : decode jdk_68_method_9_code 9 = .ok (.ishr, 1) := by decide +kernel
theorem d10_10 : decode jdk_68_method_9_code 10 = .ok (.istore_n 2, 1) := by decide +kernel
theorem d10_11 : decode jdk_68_method_9_code 11 = .ok (.iload_n 1, 1) := by decide +kernel
theorem d10_12 : decode jdk_68_method_9_code 12 = .ok (.iload_n 2, 1) := by decide +kernel
theorem d10_13 : decode jdk_68_method_9_code 13 = .ok (.isub, 1) := by decide +kernel
theorem d10_14 : decode jdk_68_method_9_code 14 = .ok (.ifCond .le 24, 3) := by decide +kernel
theorem d10_38 : decode jdk_68_method_9_code 38 = .ok (.return_, 1) := by decide +kernel
theorem ef_10_vv (m : MethodId) (x0 : Addr) (x1 : Int32) : entryFrame m #[(.ref x0), (.int x1)] 3 = mkF m 0 #[.val (.ref x0), .val (.int x1), .unset] [] := by first | (simp [entryFrame, mkF, argsToLocals, Value.category]; done) | rfl
theorem r10_1 (l : Launch) (Z : State) (a0 : Array Value) (hw : ∀ d ∈ tables_1, d.before a0 Z = true) (a261 : Addr) (p262 : Int32) (w263 : Addr) (k265 : ClassId) (u266 : Nat → Int32) (p267 : Int32) (w269 : Int32) (h0 : Heap) (n0 : Nat) (Z0 : n0 ≤ h0.size) (H0 : Fld Z h0 a261 "java/lang/AbstractStringBuilder" "value" "[B" (.ref w263)) (H1 : BA Z h0 w263 k265 .byte p267 u266) (H2 : Fld Z h0 a261 "java/lang/AbstractStringBuilder" "coder" "B" (.int w269)) (H3 : ¬ ((0 : Int32) < (p262 - (p267 >>> (w269 &&& 31))))) :
   OMet l Z mN15 jdk_68_method_9_code 3 none [] ({ frames := 0, cells := 0, slots := 0, locals := 0 } : Room) h0 #[(.ref a261), (.int p262)] (OQp (none) h0 n0) := by
 refine MetFree.of_bodySF (plainFor_of_name pn_java_lang_AbstractStringBuilder) hisR ?_
 intro p e s m args below meth c s₁ Bd hml0 hP hK
 obtain ⟨rfl, hZ, hh⟩ := hP
 have hx := Bd.exec
 have hby := Bd.bytes
 have hml : c.maxLocals = 3 := hml0
 have hown : s.vm.findClass "java/lang/AbstractStringBuilder" = some m.cls := findClass_of_methodNamed Bd.named
 have hnm := (name_of_methodNamed Bd.named Bd.method).1
 have X0 : Stand p l e ({ frames := 0, cells := 0, slots := 0, locals := 0 } : Room) s m #[(.ref a261), (.int p262)] below meth c s₁ [] 0 0 := Stand.of_body Bd
 have e0 : s₁.heap = h0 := by rw [← hh, Bd.state]; rfl
 have N0 := Fr.nil n0
 have pre0 : ∀ t, Steps p.tables e below (s₁.setTop (mkF m 0 #[vR a261, vI p262, .unset] [])) t → Steps p.tables e below (s₁.setTop (entryFrame m #[(.ref a261), (.int p262)] 3)) t := fun t k => castTop (ef_10_vv m a261 p262) k
 obtain ⟨T264, X264, e264, st264⟩ := getF X0 hx hZ hown (host := "") (Or.inl (tw hw 54 rfl)) Via.refl e0 H0 (g := (mkF m 1 #[vR a261, vI p262, vU] [(.ref a261)])) rfl rfl (hb hby d10_1)
 have vc268 := H1
 obtain ⟨cl268, Ar268, q268, S268, N268, Hh268, G268⟩ := vc268
 obtain ⟨T270, X270, e270, st270⟩ := getF X264 hx hZ hown (host := "") (Or.inl (tw hw 56 rfl)) Via.refl e264 H2 (g := (mkF m 6 #[vR a261, vI p262, vU] [(.ref a261), (.int p267)])) rfl rfl (hb hby d10_6)
 obtain ⟨fs, hr, hrun, hended, hW, hsame⟩ := X270.leave (v := none) (fun _ => rfl)
 refine ⟨_, _, pre0 _ ?_, hrun, hended, _, _, rfl, ?_, ⟨_, rfl⟩, hW, hsame.mono (by decide) (by decide)⟩
 · show SG p e below s₁ (mkF m 0 #[vR a261, vI p262, vU] []) _
   refine XS.aloadN X0.here hx rfl (hb hby d10_0) rfl rfl ?_
   show SG p e below s₁ (mkF m 1 #[vR a261, vI p262, vU] [(.ref a261)]) _
   refine st264 _ ?_
   show SG p e below T264 (mkF m 4 #[vR a261, vI p262, vU] [(.ref w263)]) _
   refine X264.arraylength hx (by rw [e264]; exact Ar268.1) (State.isArrayOf_alike hZ.alike Ar268.2.1) (g := (mkF m 4 #[vR a261, vI p262, vU] [(.ref w263)])) rfl rfl (hb hby d10_4) _ ?_
   rw [len_of S268 N268]
   show SG p e below T264 (mkF m 5 #[vR a261, vI p262, vU] [(.int p267)]) _
   refine XS.aloadN X264.here hx rfl (hb hby d10_5) rfl rfl ?_
   show SG p e below T264 (mkF m 6 #[vR a261, vI p262, vU] [(.ref a261), (.int p267)]) _
   refine st270 _ ?_
   show SG p e below T270 (mkF m 9 #[vR a261, vI p262, vU] [(.int w269), (.int p267)]) _
   refine XS.ishr X270.here hx rfl (hb hby d10_9) rfl ?_
   show SG p e below T270 (mkF m 10 #[vR a261, vI p262, vU] [(.int (p267 >>> (w269 &&& 31)))]) _
   refine XS.istoreN X270.here hx rfl (hb hby d10_10) rfl (l' := #[vR a261, vI p262, vI (p267 >>> (w269 &&& 31))]) rfl ?_
   show SG p e below T270 (mkF m 11 #[vR a261, vI p262, vI (p267 >>> (w269 &&& 31))] []) _
   refine XS.iloadN X270.here hx rfl (hb hby d10_11) rfl ?_
   show SG p e below T270 (mkF m 12 #[vR a261, vI p262, vI (p267 >>> (w269 &&& 31))] [(.int p262)]) _
   refine XS.iloadN X270.here hx rfl (hb hby d10_12) rfl ?_
   show SG p e below T270 (mkF m 13 #[vR a261, vI p262, vI (p267 >>> (w269 &&& 31))] [(.int (p267 >>> (w269 &&& 31))), (.int p262)]) _
   refine XS.isub X270.here hx rfl (hb hby d10_13) rfl ?_
   show SG p e below T270 (mkF m 14 #[vR a261, vI p262, vI (p267 >>> (w269 &&& 31))] [(.int (p262 - (p267 >>> (w269 &&& 31))))]) _
   refine XS.ifYes X270.here hx rfl (pc0 := 14) (pc' := 38) rfl (hb hby d10_14) rfl ((if0 _ _).trans (flt H3).2.2.2) (by decide) (by decide) ?_
   show SG p e below T270 (mkF m 38 #[vR a261, vI p262, vI (p267 >>> (w269 &&& 31))] []) _
   exact X270.returnOut hx Bd.returns (hb hby d10_38) hr
 · show OQp (none) h0 n0 _ T270.heap _
   rw [e270]
   exact ⟨rfl, N0, rfl⟩
theorem d7_24 : decode jdk_68_method_22_code 24 = .ok (.aload_n 0, 1) := by decide +kernel
theorem d7_25 : decode jdk_68_method_22_code 25 = .ok (.aload_n 0, 1) := by decide +kernel
theorem d7_26 : decode jdk_68_method_22_code 26 = .ok (.getfield 79, 3) := by decide +kernel
theorem d7_29 : decode jdk_68_method_22_code 29 = .ok (.aload_n 1, 1) := by decide +kernel
theorem d7_30 : decode jdk_68_method_22_code 30 = .ok (.invokevirtual 208, 3) := by decide +kernel
theorem d11_0 : decode jdk_68_method_73_code 0 = .ok (.aload_n 0, 1) := by decide +kernel
theorem d11_1 : decode jdk_68_method_73_code 1 = .ok (.aload_n 2, 1) := by decide +kernel
theorem d11_2 : decode jdk_68_method_73_code 2 = .ok (.invokevirtual 397, 3) := by decide +kernel
theorem d12_0 : decode jdk_68_method_71_code 0 = .ok (.getstatic 18, 3) := by decide +kernel
theorem d12_3 : decode jdk_68_method_71_code 3 = .ok (.ifCond .eq 18, 3) := by decide +kernel
theorem d12_6 : decode jdk_68_method_71_code 6 = .ok (.aload_n 0, 1) := by decide +kernel
theorem d12_7 : decode jdk_68_method_71_code 7 = .ok (.getfield 22, 3) := by decide +kernel
theorem d12_10 : decode jdk_68_method_71_code 10 = .ok (.aload_n 1, 1) := by decide +kernel
theorem d12_11 : decode jdk_68_method_71_code 11 = .ok (.invokevirtual 40, 3) := by decide +kernel
theorem d12_14 : decode jdk_68_method_71_code 14 = .ok (.if_icmp .eq 7, 3) := by decide +kernel
theorem d12_21 : decode jdk_68_method_71_code 21 = .ok (.return_, 1) := by decide +kernel
theorem ef_12_vv (m : MethodId) (x0 : Addr) (x1 : Addr) : entryFrame m #[(.ref x0), (.ref x1)] 2 = mkF m 0 #[.val (.ref x0), .val (.ref x1)] [] := by first | (simp [entryFrame, mkF, argsToLocals, Value.category]; done) | rfl
theorem r12_1 (l : Launch) (Z : State) (a0 : Array Value) (hw : ∀ d ∈ tables_1, d.before a0 Z = true) (a281 : Addr) (a282 : Addr) (w283 : Int32) (w285 : Int32) (w293 : Int32) (h0 : Heap) (n0 : Nat) (Z0 : n0 ≤ h0.size) (H0 : Sta Z h0 "java/lang/String" "COMPACT_STRINGS" "Z" (.int w283)) (H1 : ¬ (w283 = (0 : Int32))) (H2 : Fld Z h0 a281 "java/lang/AbstractStringBuilder" "coder" "B" (.int w285)) (H3 : Fld Z h0 a282 "java/lang/String" "coder" "B" (.int w293)) (H4 : nar .byte w293 = w293) (H5 : Exa Z h0 a282 "java/lang/String") (H6 : w285 = w293) :
   OMet l Z mN16 jdk_68_method_71_code 2 none [] ({ frames := 1, cells := 0, slots := 0, locals := 13 } : Room) h0 #[(.ref a281), (.ref a282)] (OQp (none) h0 n0) := by
 refine MetFree.of_bodySF (plainFor_of_name pn_java_lang_AbstractStringBuilder) hisR ?_
 intro p e s m args below meth c s₁ Bd hml0 hP hK
 obtain ⟨rfl, hZ, hh⟩ := hP
 have hx := Bd.exec
 have hby := Bd.bytes
 have hml : c.maxLocals = 2 := hml0
 have hown : s.vm.findClass "java/lang/AbstractStringBuilder" = some m.cls := findClass_of_methodNamed Bd.named
 have hnm := (name_of_methodNamed Bd.named Bd.method).1
 have X0 : Stand p l e ({ frames := 1, cells := 0, slots := 0, locals := 13 } : Room) s m #[(.ref a281), (.ref a282)] below meth c s₁ [] 0 0 := Stand.of_body Bd
 have e0 : s₁.heap = h0 := by rw [← hh, Bd.state]; rfl
 have N0 := Fr.nil n0
 have pre0 : ∀ t, Steps p.tables e below (s₁.setTop (mkF m 0 #[vR a281, vR a282] [])) t → Steps p.tables e below (s₁.setTop (entryFrame m #[(.ref a281), (.ref a282)] 2)) t := fun t k => castTop (ef_12_vv m a281 a282) k
 obtain ⟨T284, X284, e284, st284⟩ := getS2 X0 hx hZ hown (host := "") (Or.inl (tw hw 51 rfl)) Via.refl e0 H0 (g := (mkF m 0 #[vR a281, vR a282] [])) rfl (hb hby d12_0)
 obtain ⟨T286, X286, e286, st286⟩ := getF X284 hx hZ hown (host := "") (Or.inl (tw hw 56 rfl)) Via.refl e284 H2 (g := (mkF m 7 #[vR a281, vR a282] [(.ref a281)])) rfl rfl (hb hby d12_7)
 obtain ⟨cq292, kq292, q292a, q292b, q292c⟩ := isOf hZ e286 H5
 obtain ⟨_, _, ⟨T292, L292, k292, n292⟩, -, X292, ⟨Lc292, hQ292, l292, y292, z292⟩, st292⟩ := X286.virtualBack hx (y := mN13) (z := mN13) hown (mvT hZ (tw hw 104 rfl)) (mvT hZ (tw hw 81 rfl)) (notFace_of_selects (args := #[]) (mvT hZ (tw hw 83 rfl))) (mvT hZ (tw hw 83 rfl)) (mvT hZ (tw hw 82 rfl)) (by decide) (backOf (W := 1) (r9_1 l Z a0 hw a282 w283 w293 h0 n0 Z0 H0 H1 H3 H4) hZ (tw hw 84 rfl) (tw hw 52 rfl) (by decide) (by decide)) q292a q292c (g := (mkF m 11 #[vR a281, vR a282] [(.ref a282), (.int w285)])) rfl (by rw [hml]; rfl) (Steps.refl _) (argsL := []) (rest := [(.int w285)]) (lenOf pd_10 rfl) rfl (own_w _) (hb hby d12_11) (fun _ _ => ⟨rfl, e286, (by decide : 0 + 0 ≤ _), (by decide : 0 + 0 ≤ _)⟩)
 dsimp only [Pt.U, Pt.locs, Pt.cells, Pt.slots] at X292 l292 y292 z292 st292 hQ292
 replace X292 := own_mvX X292 (a := 0) (b := 0) y292 z292
 obtain ⟨rfl, N292q, e292⟩ := hQ292
 have N292 := own_mvN l292 N0 N292q
 obtain ⟨fs, hr, hrun, hended, hW, hsame⟩ := X292.leave (v := none) (fun _ => rfl)
 refine ⟨_, _, pre0 _ ?_, hrun, hended, _, _, rfl, ?_, ⟨_, rfl⟩, hW, hsame.mono (by decide) (by decide)⟩
 · show SG p e below s₁ (mkF m 0 #[vR a281, vR a282] []) _
   refine st284 _ ?_
   show SG p e below T284 (mkF m 3 #[vR a281, vR a282] [(.int w283)]) _
   refine XS.ifNo X284.here hx rfl (hb hby d12_3) rfl ((if0 _ _).trans (feq H1).1) ?_
   show SG p e below T284 (mkF m 6 #[vR a281, vR a282] []) _
   refine XS.aloadN X284.here hx rfl (hb hby d12_6) rfl rfl ?_
   show SG p e below T284 (mkF m 7 #[vR a281, vR a282] [(.ref a281)]) _
   refine st286 _ ?_
   show SG p e below T286 (mkF m 10 #[vR a281, vR a282] [(.int w285)]) _
   refine XS.aloadN X286.here hx rfl (hb hby d12_10) rfl rfl ?_
   show SG p e below T286 (mkF m 11 #[vR a281, vR a282] [(.ref a282), (.int w285)]) _
   refine st292.trans ?_
   show SG p e below T292 (mkF m 14 #[vR a281, vR a282] [(.int w293), (.int w285)]) _
   refine XS.icmpYes X292.here hx rfl (pc0 := 14) (pc' := 21) rfl (hb hby d12_14) rfl (teq H6).1 (by decide) (by decide) ?_
   show SG p e below T292 (mkF m 21 #[vR a281, vR a282] []) _
   exact X292.returnOut hx Bd.returns (hb hby d12_21) hr
 · show OQp (none) h0 n0 _ T292.heap _
   rw [e292]
   exact ⟨rfl, N292, rfl⟩
theorem pd_12 : parseMethodDescriptor "(Ljava/lang/String;)V" = some ⟨[(.object "java/lang/String")], none⟩ := by decide +kernel
theorem d11_5 : decode jdk_68_method_73_code 5 = .ok (.aload_n 2, 1) := by decide +kernel
theorem d11_6 : decode jdk_68_method_73_code 6 = .ok (.aload_n 0, 1) := by decide +kernel
theorem d11_7 : decode jdk_68_method_73_code 7 = .ok (.getfield 15, 3) := by decide +kernel
theorem d11_10 : decode jdk_68_method_73_code 10 = .ok (.iload_n 1, 1) := by decide +kernel
theorem d11_11 : decode jdk_68_method_73_code 11 = .ok (.aload_n 0, 1) := by decide +kernel
theorem d11_12 : decode jdk_68_method_73_code 12 = .ok (.getfield 22, 3) := by decide +kernel
theorem d11_15 : decode jdk_68_method_73_code 15 = .ok (.invokevirtual 399, 3) := by decide +kernel
theorem d13_0 : decode jdk_42_method_147_code 0 = .ok (.aload_n 0, 1) := by decide +kernel
theorem d13_1 : decode jdk_42_method_147_code 1 = .ok (.invokevirtual 335, 3) := by decide +kernel
theorem d13_4 : decode jdk_42_method_147_code 4 = .ok (.iload_n 3, 1) := by decide +kernel
theorem d13_5 : decode jdk_42_method_147_code 5 = .ok (.if_icmp .ne 23, 3) := by decide +kernel
theorem d13_8 : decode jdk_42_method_147_code 8 = .ok (.aload_n 0, 1) := by decide +kernel
theorem d13_9 : decode jdk_42_method_147_code 9 = .ok (.getfield 9, 3) := by decide +kernel
theorem d13_12 : decode jdk_42_method_147_code 12 = .ok (.iconst 0, 1) := by decide +kernel
theorem d13_13 : decode jdk_42_method_147_code 13 = .ok (.aload_n 1, 1) := by decide +kernel
theorem d13_14 : decode jdk_42_method_147_code 14 = .ok (.iload_n 2, 1) := by decide +kernel
theorem d13_15 : decode jdk_42_method_147_code 15 = .ok (.iload_n 3, 1) := by decide +kernel
theorem d13_16 : decode jdk_42_method_147_code 16 = .ok (.ishl, 1) := by decide +kernel
theorem d13_17 : decode jdk_42_method_147_code 17 = .ok (.aload_n 0, 1) := by decide +kernel
theorem d13_18 : decode jdk_42_method_147_code 18 = .ok (.getfield 9, 3) := by decide +kernel
theorem d13_21 : decode jdk_42_method_147_code 21 = .ok (.arraylength, 1) := by decide +kernel
theorem d13_22 : decode jdk_42_method_147_code 22 = .ok (.invokestatic 212, 3) := by decide +kernel
theorem d13_25 : decode jdk_42_method_147_code 25 = .ok (.goto 18, 3) := by decide +kernel
theorem d13_43 : decode jdk_42_method_147_code 43 = .ok (.return_, 1) := by decide +kernel
theorem ef_13_vvvv (m : MethodId) (x0 : Addr) (x1 : Addr) (x2 : Int32) (x3 : Int32) : entryFrame m #[(.ref x0), (.ref x1), (.int x2), (.int x3)] 4 = mkF m 0 #[.val (.ref x0), .val (.ref x1), .val (.int x2), .val (.int x3)] [] := by first | (simp [entryFrame, mkF, argsToLocals, Value.category]; done) | rfl
def Qr13_1 (Z : State) (a301 : Addr) (a302 : Addr) (p303 : Int32) (p304 : Int32) (w311 : Int32) (w312 : Int32) (w313 : Addr) (k316 : ClassId) (u317 : Nat → Int32) (k319 : ClassId) (u320 : Nat → Int32) (p321 : Int32) (h0 : Heap) (n0 : Nat) (v : Option Value) (h : Heap) (L : List Loc) : Prop := Fr n0 L ∧ v = none ∧ KSx h0 h [] [a302] ∧ BA Z h a302 k319 .byte p321 (fun i => if ((p303 <<< (p304 &&& 31))).toNatClampNeg ≤ i ∧ i < ((p303 <<< (p304 &&& 31))).toNatClampNeg + ((1 : Int32)).toNatClampNeg then u317 (((0 : Int32)).toNatClampNeg + (i - ((p303 <<< (p304 &&& 31))).toNatClampNeg)) else u320 i)
theorem r13_1 (l : Launch) (Z : State) (a0 : Array Value) (hw : ∀ d ∈ tables_1, d.before a0 Z = true) (a301 : Addr) (a302 : Addr) (p303 : Int32) (p304 : Int32) (w311 : Int32) (w312 : Int32) (w313 : Addr) (k316 : ClassId) (u317 : Nat → Int32) (k319 : ClassId) (u320 : Nat → Int32) (p321 : Int32) (h0 : Heap) (n0 : Nat) (Z0 : n0 ≤ h0.size) (H0 : Sta Z h0 "java/lang/String" "COMPACT_STRINGS" "Z" (.int w311)) (H1 : ¬ (w311 = (0 : Int32))) (H2 : Fld Z h0 a301 "java/lang/String" "coder" "B" (.int w312)) (H3 : nar .byte w312 = w312) (H4 : Exa Z h0 a301 "java/lang/String") (H5 : w312 = p304) (H6 : Fld Z h0 a301 "java/lang/String" "value" "[B" (.ref w313)) (H7 : BA Z h0 w313 k316 .byte (1 : Int32) u317) (H8 : BA Z h0 a302 k319 .byte p321 u320) (H9 : ¬ ((p303 <<< (p304 &&& 31)) < (0 : Int32))) (H10 : ((p303 <<< (p304 &&& 31))).toNatClampNeg + ((1 : Int32)).toNatClampNeg ≤ (p321).toNatClampNeg) (H11 : n0 ≤ a302) :
   OMet l Z mN17 jdk_42_method_147_code 4 none [] ({ frames := 1, cells := 0, slots := 0, locals := 18 } : Room) h0 #[(.ref a301), (.ref a302), (.int p303), (.int p304)] (Qr13_1 Z a301 a302 p303 p304 w311 w312 w313 k316 u317 k319 u320 p321 h0 n0) := by
 refine MetFree.of_bodySF (plainFor_of_name pn_java_lang_String) hisR ?_
 intro p e s m args below meth c s₁ Bd hml0 hP hK
 obtain ⟨rfl, hZ, hh⟩ := hP
 have hx := Bd.exec
 have hby := Bd.bytes
 have hml : c.maxLocals = 4 := hml0
 have hown : s.vm.findClass "java/lang/String" = some m.cls := findClass_of_methodNamed Bd.named
 have hnm := (name_of_methodNamed Bd.named Bd.method).1
 have X0 : Stand p l e ({ frames := 1, cells := 0, slots := 0, locals := 18 } : Room) s m #[(.ref a301), (.ref a302), (.int p303), (.int p304)] below meth c s₁ [] 0 0 := Stand.of_body Bd
 have e0 : s₁.heap = h0 := by rw [← hh, Bd.state]; rfl
 have N0 := Fr.nil n0
 have pre0 : ∀ t, Steps p.tables e below (s₁.setTop (mkF m 0 #[vR a301, vR a302, vI p303, vI p304] [])) t → Steps p.tables e below (s₁.setTop (entryFrame m #[(.ref a301), (.ref a302), (.int p303), (.int p304)] 4)) t := fun t k => castTop (ef_13_vvvv m a301 a302 p303 p304) k
 obtain ⟨cq310, kq310, q310a, q310b, q310c⟩ := isOf hZ e0 H4
 obtain ⟨_, _, ⟨T310, L310, k310, n310⟩, -, X310, ⟨Lc310, hQ310, l310, y310, z310⟩, st310⟩ := X0.virtualBack hx (y := mN13) (z := mN13) hown (mvT hZ (tw hw 80 rfl)) (mvT hZ (tw hw 81 rfl)) (notFace_of_selects (args := #[]) (mvT hZ (tw hw 83 rfl))) (mvT hZ (tw hw 83 rfl)) (mvT hZ (tw hw 82 rfl)) (by decide) (backOf (W := 0) (r9_1 l Z a0 hw a301 w311 w312 h0 n0 Z0 H0 H1 H2 H3) hZ (tw hw 84 rfl) (tw hw 52 rfl) (by decide) (by decide)) q310a q310c (g := (mkF m 1 #[vR a301, vR a302, vI p303, vI p304] [(.ref a301)])) rfl (by rw [hml]; rfl) (Steps.refl _) (argsL := []) (rest := []) (lenOf pd_10 rfl) rfl (own_w _) (hb hby d13_1) (fun _ _ => ⟨rfl, e0, (by decide : 0 + 0 ≤ _), (by decide : 0 + 0 ≤ _)⟩)
 dsimp only [Pt.U, Pt.locs, Pt.cells, Pt.slots] at X310 l310 y310 z310 st310 hQ310
 replace X310 := own_mvX X310 (a := 0) (b := 0) y310 z310
 obtain ⟨rfl, N310q, e310⟩ := hQ310
 have N310 := own_mvN l310 N0 N310q
 obtain ⟨T314, X314, e314, st314⟩ := getF X310 hx hZ hown (host := "") (Or.inl (tw hw 79 rfl)) Via.refl e310 H6 (g := (mkF m 9 #[vR a301, vR a302, vI p303, vI p304] [(.ref a301)])) rfl rfl (hb hby d13_9)
 obtain ⟨T315, X315, e315, st315⟩ := getF X314 hx hZ hown (host := "") (Or.inl (tw hw 79 rfl)) Via.refl e314 H6 (g := (mkF m 18 #[vR a301, vR a302, vI p303, vI p304] [(.ref a301), (.int (p303 <<< (p304 &&& 31))), (.ref a302), (.int (0 : Int32)), (.ref w313)])) rfl rfl (hb hby d13_18)
 have vc318 := H7
 obtain ⟨cl318, Ar318, q318, S318, N318, Hh318, G318⟩ := vc318
 obtain ⟨T322, h322, L322, X322, e322, N322, K322, B322, st322⟩ := cpB X315 hx hZ hown (tw hw 110 rfl) (tw hw 113 rfl) (tw hw 111 rfl) (tw hw 112 rfl) e315 H7 H8 rfl (by decide) H9 (by decide) (by decide) H10 N310 H11 (g0 := (mkF m 22 #[vR a301, vR a302, vI p303, vI p304] [(.int (1 : Int32)), (.int (p303 <<< (p304 &&& 31))), (.ref a302), (.int (0 : Int32)), (.ref w313)])) rfl (by rw [hml]; rfl) rfl (hb hby d13_22) (by decide) (W := 0) (own_w _) (by decide)
 have KC322 := KSx.trans (KSx.refl h0 [] [a302]) K322 ks0 (allS (Or.inl (List.mem_of_getElem? (i := 0) rfl)) all0)
 obtain ⟨fs, hr, hrun, hended, hW, hsame⟩ := X322.leave (v := none) (fun _ => rfl)
 refine ⟨_, _, pre0 _ ?_, hrun, hended, _, _, rfl, ?_, ⟨_, rfl⟩, hW, hsame.mono (by decide) (by decide)⟩
 · show SG p e below s₁ (mkF m 0 #[vR a301, vR a302, vI p303, vI p304] []) _
   refine XS.aloadN X0.here hx rfl (hb hby d13_0) rfl rfl ?_
   show SG p e below s₁ (mkF m 1 #[vR a301, vR a302, vI p303, vI p304] [(.ref a301)]) _
   refine st310.trans ?_
   show SG p e below T310 (mkF m 4 #[vR a301, vR a302, vI p303, vI p304] [(.int w312)]) _
   refine XS.iloadN X310.here hx rfl (hb hby d13_4) rfl ?_
   show SG p e below T310 (mkF m 5 #[vR a301, vR a302, vI p303, vI p304] [(.int p304), (.int w312)]) _
   refine XS.icmpNo X310.here hx rfl (hb hby d13_5) rfl (teq H5).2 ?_
   show SG p e below T310 (mkF m 8 #[vR a301, vR a302, vI p303, vI p304] []) _
   refine XS.aloadN X310.here hx rfl (hb hby d13_8) rfl rfl ?_
   show SG p e below T310 (mkF m 9 #[vR a301, vR a302, vI p303, vI p304] [(.ref a301)]) _
   refine st314 _ ?_
   show SG p e below T314 (mkF m 12 #[vR a301, vR a302, vI p303, vI p304] [(.ref w313)]) _
   refine XS.iconst X314.here hx rfl (hb hby d13_12) ?_
   show SG p e below T314 (mkF m 13 #[vR a301, vR a302, vI p303, vI p304] [(.int (0 : Int32)), (.ref w313)]) _
   refine XS.aloadN X314.here hx rfl (hb hby d13_13) rfl rfl ?_
   show SG p e below T314 (mkF m 14 #[vR a301, vR a302, vI p303, vI p304] [(.ref a302), (.int (0 : Int32)), (.ref w313)]) _
   refine XS.iloadN X314.here hx rfl (hb hby d13_14) rfl ?_
   show SG p e below T314 (mkF m 15 #[vR a301, vR a302, vI p303, vI p304] [(.int p303), (.ref a302), (.int (0 : Int32)), (.ref w313)]) _
   refine XS.iloadN X314.here hx rfl (hb hby d13_15) rfl ?_
   show SG p e below T314 (mkF m 16 #[vR a301, vR a302, vI p303, vI p304] [(.int p304), (.int p303), (.ref a302), (.int (0 : Int32)), (.ref w313)]) _
   refine XS.ishl X314.here hx rfl (hb hby d13_16) rfl ?_
   show SG p e below T314 (mkF m 17 #[vR a301, vR a302, vI p303, vI p304] [(.int (p303 <<< (p304 &&& 31))), (.ref a302), (.int (0 : Int32)), (.ref w313)]) _
   refine XS.aloadN X314.here hx rfl (hb hby d13_17) rfl rfl ?_
   show SG p e below T314 (mkF m 18 #[vR a301, vR a302, vI p303, vI p304] [(.ref a301), (.int (p303 <<< (p304 &&& 31))), (.ref a302), (.int (0 : Int32)), (.ref w313)]) _
   refine st315 _ ?_
   show SG p e below T315 (mkF m 21 #[vR a301, vR a302, vI p303, vI p304] [(.ref w313), (.int (p303 <<< (p304 &&& 31))), (.ref a302), (.int (0 : Int32)), (.ref w313)]) _
   refine X315.arraylength hx (by rw [e315]; exact Ar318.1) (State.isArrayOf_alike hZ.alike Ar318.2.1) (g := (mkF m 21 #[vR a301, vR a302, vI p303, vI p304] [(.ref w313), (.int (p303 <<< (p304 &&& 31))), (.ref a302), (.int (0 : Int32)), (.ref w313)])) rfl rfl (hb hby d13_21) _ ?_
   rw [len_of S318 N318]
   show SG p e below T315 (mkF m 22 #[vR a301, vR a302, vI p303, vI p304] [(.int (1 : Int32)), (.int (p303 <<< (p304 &&& 31))), (.ref a302), (.int (0 : Int32)), (.ref w313)]) _
   refine st322 _ ?_
   show SG p e below T322 (mkF m 25 #[vR a301, vR a302, vI p303, vI p304] []) _
   refine XS.goto X322.here hx rfl (pc0 := 25) (pc' := 43) rfl (hb hby d13_25) (by decide) (by decide) ?_
   show SG p e below T322 (mkF m 43 #[vR a301, vR a302, vI p303, vI p304] []) _
   exact X322.returnOut hx Bd.returns (hb hby d13_43) hr
 · show Qr13_1 Z a301 a302 p303 p304 w311 w312 w313 k316 u317 k319 u320 p321 h0 n0 _ T322.heap _
   rw [e322]
   exact ⟨N322, rfl, KC322, B322⟩
theorem pd_13 : parseMethodDescriptor "([BIB)V" = some ⟨[(.array .byte), .int, .byte], none⟩ := by decide +kernel
theorem d11_18 : decode jdk_68_method_73_code 18 = .ok (.return_, 1) := by decide +kernel
theorem ef_11_vvv (m : MethodId) (x0 : Addr) (x1 : Int32) (x2 : Addr) : entryFrame m #[(.ref x0), (.int x1), (.ref x2)] 3 = mkF m 0 #[.val (.ref x0), .val (.int x1), .val (.ref x2)] [] := by first | (simp [entryFrame, mkF, argsToLocals, Value.category]; done) | rfl
def Qr11_1 (Z : State) (a278 : Addr) (p279 : Int32) (a280 : Addr) (w295 : Int32) (w296 : Int32) (w297 : Int32) (w298 : Addr) (w324 : Addr) (k325 : ClassId) (u326 : Nat → Int32) (k327 : ClassId) (u328 : Nat → Int32) (p329 : Int32) (h0 : Heap) (n0 : Nat) (v : Option Value) (h : Heap) (L : List Loc) : Prop := Fr n0 L ∧ v = none ∧ KSx h0 h [] [w298] ∧ BA Z h w298 k327 .byte p329 (fun i => if ((p279 <<< (w296 &&& 31))).toNatClampNeg ≤ i ∧ i < ((p279 <<< (w296 &&& 31))).toNatClampNeg + ((1 : Int32)).toNatClampNeg then u326 (((0 : Int32)).toNatClampNeg + (i - ((p279 <<< (w296 &&& 31))).toNatClampNeg)) else u328 i)
theorem r11_1 (l : Launch) (Z : State) (a0 : Array Value) (hw : ∀ d ∈ tables_1, d.before a0 Z = true) (a278 : Addr) (p279 : Int32) (a280 : Addr) (w295 : Int32) (w296 : Int32) (w297 : Int32) (w298 : Addr) (w324 : Addr) (k325 : ClassId) (u326 : Nat → Int32) (k327 : ClassId) (u328 : Nat → Int32) (p329 : Int32) (h0 : Heap) (n0 : Nat) (Z0 : n0 ≤ h0.size) (H0 : Sta Z h0 "java/lang/String" "COMPACT_STRINGS" "Z" (.int w295)) (H1 : ¬ (w295 = (0 : Int32))) (H2 : Fld Z h0 a278 "java/lang/AbstractStringBuilder" "coder" "B" (.int w296)) (H3 : Fld Z h0 a280 "java/lang/String" "coder" "B" (.int w297)) (H4 : nar .byte w297 = w297) (H5 : Exa Z h0 a280 "java/lang/String") (H6 : w296 = w297) (H7 : Exa Z h0 a278 "java/lang/StringBuilder") (H8 : Fld Z h0 a278 "java/lang/AbstractStringBuilder" "value" "[B" (.ref w298)) (H9 : w297 = w296) (H10 : Fld Z h0 a280 "java/lang/String" "value" "[B" (.ref w324)) (H11 : BA Z h0 w324 k325 .byte (1 : Int32) u326) (H12 : BA Z h0 w298 k327 .byte p329 u328) (H13 : ¬ ((p279 <<< (w296 &&& 31)) < (0 : Int32))) (H14 : ((p279 <<< (w296 &&& 31))).toNatClampNeg + ((1 : Int32)).toNatClampNeg ≤ (p329).toNatClampNeg) (H15 : n0 ≤ w298) :
   OMet l Z mN18 jdk_68_method_73_code 3 none [] ({ frames := 2, cells := 0, slots := 0, locals := 33 } : Room) h0 #[(.ref a278), (.int p279), (.ref a280)] (Qr11_1 Z a278 p279 a280 w295 w296 w297 w298 w324 k325 u326 k327 u328 p329 h0 n0) := by
 refine MetFree.of_bodySF (plainFor_of_name pn_java_lang_AbstractStringBuilder) hisR ?_
 intro p e s m args below meth c s₁ Bd hml0 hP hK
 obtain ⟨rfl, hZ, hh⟩ := hP
 have hx := Bd.exec
 have hby := Bd.bytes
 have hml : c.maxLocals = 3 := hml0
 have hown : s.vm.findClass "java/lang/AbstractStringBuilder" = some m.cls := findClass_of_methodNamed Bd.named
 have hnm := (name_of_methodNamed Bd.named Bd.method).1
 have X0 : Stand p l e ({ frames := 2, cells := 0, slots := 0, locals := 33 } : Room) s m #[(.ref a278), (.int p279), (.ref a280)] below meth c s₁ [] 0 0 := Stand.of_body Bd
 have e0 : s₁.heap = h0 := by rw [← hh, Bd.state]; rfl
 have N0 := Fr.nil n0
 have pre0 : ∀ t, Steps p.tables e below (s₁.setTop (mkF m 0 #[vR a278, vI p279, vR a280] [])) t → Steps p.tables e below (s₁.setTop (entryFrame m #[(.ref a278), (.int p279), (.ref a280)] 3)) t := fun t k => castTop (ef_11_vvv m a278 p279 a280) k
 obtain ⟨cq294, kq294, q294a, q294b, q294c⟩ := isOf hZ e0 H7
 obtain ⟨_, _, ⟨T294, L294, k294, n294⟩, -, X294, ⟨Lc294, hQ294, l294, y294, z294⟩, st294⟩ := X0.virtualBack hx (y := mN16) (z := mN16) hown (mvT hZ (tw hw 99 rfl)) (own_decl (mvT hZ (tw hw 100 rfl)) (mvT hZ (tw hw 103 rfl))) (notFace_of_selects (args := #[]) (mvT hZ (tw hw 102 rfl))) (mvT hZ (tw hw 102 rfl)) (mvT hZ (tw hw 100 rfl)) (by decide) (backOf (W := 0) (r12_1 l Z a0 hw a278 a280 w295 w296 w297 h0 n0 Z0 H0 H1 H2 H3 H4 H5 H6) hZ (tw hw 103 rfl) (tw hw 48 rfl) (by decide) (by decide)) q294a q294c (g := (mkF m 2 #[vR a278, vI p279, vR a280] [(.ref a280), (.ref a278)])) rfl (by rw [hml]; rfl) (Steps.refl _) (argsL := [(.ref a280)]) (rest := []) (lenOf pd_12 rfl) rfl (own_w _) (hb hby d11_2) (fun _ _ => ⟨rfl, e0, (by decide : 0 + 0 ≤ _), (by decide : 0 + 0 ≤ _)⟩)
 dsimp only [Pt.U, Pt.locs, Pt.cells, Pt.slots] at X294 l294 y294 z294 st294 hQ294
 replace X294 := own_mvX X294 (a := 0) (b := 0) y294 z294
 obtain ⟨rfl, N294q, e294⟩ := hQ294
 have N294 := own_mvN l294 N0 N294q
 obtain ⟨T299, X299, e299, st299⟩ := getF X294 hx hZ hown (host := "") (Or.inl (tw hw 54 rfl)) Via.refl e294 H8 (g := (mkF m 7 #[vR a278, vI p279, vR a280] [(.ref a278), (.ref a280)])) rfl rfl (hb hby d11_7)
 obtain ⟨T300, X300, e300, st300⟩ := getF X299 hx hZ hown (host := "") (Or.inl (tw hw 56 rfl)) Via.refl e299 H2 (g := (mkF m 12 #[vR a278, vI p279, vR a280] [(.ref a278), (.int p279), (.ref w298), (.ref a280)])) rfl rfl (hb hby d11_12)
 obtain ⟨cq323, kq323, q323a, q323b, q323c⟩ := isOf hZ e300 H5
 obtain ⟨_, _, ⟨T323, L323, k323, n323⟩, -, X323, ⟨Lc323, hQ323, l323, y323, z323⟩, st323⟩ := X300.virtualBack hx (y := mN17) (z := mN17) hown (mvT hZ (tw hw 105 rfl)) (mvT hZ (tw hw 106 rfl)) (notFace_of_selects (args := #[]) (mvT hZ (tw hw 108 rfl))) (mvT hZ (tw hw 108 rfl)) (mvT hZ (tw hw 107 rfl)) (by decide) (backOf (W := 0) (r13_1 l Z a0 hw a280 w298 p279 w296 w295 w297 w324 k325 u326 k327 u328 p329 h0 n0 Z0 H0 H1 H3 H4 H5 H9 H10 H11 H12 H13 H14 H15) hZ (tw hw 109 rfl) (tw hw 52 rfl) (by decide) (by decide)) q323a q323c (g := (mkF m 15 #[vR a278, vI p279, vR a280] [(.int w296), (.int p279), (.ref w298), (.ref a280)])) rfl (by rw [hml]; rfl) (Steps.refl _) (argsL := [(.ref w298), (.int p279), (.int w296)]) (rest := []) (lenOf pd_13 rfl) rfl (own_w _) (hb hby d11_15) (fun _ _ => ⟨rfl, e300, (by decide : 0 + 0 ≤ _), (by decide : 0 + 0 ≤ _)⟩)
 dsimp only [Pt.U, Pt.locs, Pt.cells, Pt.slots] at X323 l323 y323 z323 st323 hQ323
 replace X323 := own_mvX X323 (a := 0) (b := 0) y323 z323
 obtain ⟨N323q, rfl, K323, o323_0⟩ := hQ323
 have N323 := own_mvN l323 N294 N323q
 have KC323 := KSx.trans (KSx.refl h0 [] [w298]) K323 ks0 (allS (Or.inl (List.mem_of_getElem? (i := 0) rfl)) all0)
 obtain ⟨fs, hr, hrun, hended, hW, hsame⟩ := X323.leave (v := none) (fun _ => rfl)
 refine ⟨_, _, pre0 _ ?_, hrun, hended, _, _, rfl, ?_, ⟨_, rfl⟩, hW, hsame.mono (by decide) (by decide)⟩
 · show SG p e below s₁ (mkF m 0 #[vR a278, vI p279, vR a280] []) _
   refine XS.aloadN X0.here hx rfl (hb hby d11_0) rfl rfl ?_
   show SG p e below s₁ (mkF m 1 #[vR a278, vI p279, vR a280] [(.ref a278)]) _
   refine XS.aloadN X0.here hx rfl (hb hby d11_1) rfl rfl ?_
   show SG p e below s₁ (mkF m 2 #[vR a278, vI p279, vR a280] [(.ref a280), (.ref a278)]) _
   refine st294.trans ?_
   show SG p e below T294 (mkF m 5 #[vR a278, vI p279, vR a280] []) _
   refine XS.aloadN X294.here hx rfl (hb hby d11_5) rfl rfl ?_
   show SG p e below T294 (mkF m 6 #[vR a278, vI p279, vR a280] [(.ref a280)]) _
   refine XS.aloadN X294.here hx rfl (hb hby d11_6) rfl rfl ?_
   show SG p e below T294 (mkF m 7 #[vR a278, vI p279, vR a280] [(.ref a278), (.ref a280)]) _
   refine st299 _ ?_
   show SG p e below T299 (mkF m 10 #[vR a278, vI p279, vR a280] [(.ref w298), (.ref a280)]) _
   refine XS.iloadN X299.here hx rfl (hb hby d11_10) rfl ?_
   show SG p e below T299 (mkF m 11 #[vR a278, vI p279, vR a280] [(.int p279), (.ref w298), (.ref a280)]) _
   refine XS.aloadN X299.here hx rfl (hb hby d11_11) rfl rfl ?_
   show SG p e below T299 (mkF m 12 #[vR a278, vI p279, vR a280] [(.ref a278), (.int p279), (.ref w298), (.ref a280)]) _
   refine st300 _ ?_
   show SG p e below T300 (mkF m 15 #[vR a278, vI p279, vR a280] [(.int w296), (.int p279), (.ref w298), (.ref a280)]) _
   refine st323.trans ?_
   show SG p e below T323 (mkF m 18 #[vR a278, vI p279, vR a280] []) _
   exact X323.returnOut hx Bd.returns (hb hby d11_18) hr
 · show Qr11_1 Z a278 p279 a280 w295 w296 w297 w298 w324 k325 u326 k327 u328 p329 h0 n0 _ T323.heap _
   exact ⟨N323, rfl, KC323, o323_0⟩
theorem pd_14 : parseMethodDescriptor "(ILjava/lang/String;)V" = some ⟨[.int, (.object "java/lang/String")], none⟩ := by decide +kernel
theorem d7_33 : decode jdk_68_method_22_code 33 = .ok (.aload_n 0, 1) := by decide +kernel
theorem d7_34 : decode jdk_68_method_22_code 34 = .ok (.dup, 1) := by decide +kernel
theorem d7_35 : decode jdk_68_method_22_code 35 = .ok (.getfield 79, 3) := by decide +kernel
theorem d7_38 : decode jdk_68_method_22_code 38 = .ok (.iload_n 2, 1) := by decide +kernel
theorem d7_39 : decode jdk_68_method_22_code 39 = .ok (.iadd, 1) := by decide +kernel
theorem d7_40 : decode jdk_68_method_22_code 40 = .ok (.putfield 79, 3) := by decide +kernel
theorem d7_43 : decode jdk_68_method_22_code 43 = .ok (.aload_n 0, 1) := by decide +kernel
theorem d7_44 : decode jdk_68_method_22_code 44 = .ok (.areturn, 1) := by decide +kernel
theorem ef_7_vv (m : MethodId) (x0 : Addr) (x1 : Addr) : entryFrame m #[(.ref x0), (.ref x1)] 3 = mkF m 0 #[.val (.ref x0), .val (.ref x1), .unset] [] := by first | (simp [entryFrame, mkF, argsToLocals, Value.category]; done) | rfl
def Qr7_1 (Z : State) (a237 : Addr) (a238 : Addr) (w254 : Addr) (k255 : ClassId) (u256 : Nat → Int32) (w257 : Int32) (w258 : Int32) (w259 : Int32) (w272 : Addr) (k273 : ClassId) (u274 : Nat → Int32) (p275 : Int32) (w276 : Int32) (h0 : Heap) (n0 : Nat) (v : Option Value) (h : Heap) (L : List Loc) : Prop := Fr n0 L ∧ v = some (.ref a237) ∧ KSx h0 h [(a237, Jvm.RoadKit.slotOf Z "java/lang/AbstractStringBuilder" "count" "I")] [w272] ∧ Fld Z h a237 "java/lang/AbstractStringBuilder" "count" "I" (.int (w259 + ((1 : Int32) >>> (w258 &&& 31)))) ∧ BA Z h w272 k273 .byte p275 (fun i => if ((w259 <<< (w276 &&& 31))).toNatClampNeg ≤ i ∧ i < ((w259 <<< (w276 &&& 31))).toNatClampNeg + ((1 : Int32)).toNatClampNeg then u256 (((0 : Int32)).toNatClampNeg + (i - ((w259 <<< (w276 &&& 31))).toNatClampNeg)) else u274 i)
theorem r7_1 (l : Launch) (Z : State) (a0 : Array Value) (hw : ∀ d ∈ tables_1, d.before a0 Z = true) (a237 : Addr) (a238 : Addr) (w254 : Addr) (k255 : ClassId) (u256 : Nat → Int32) (w257 : Int32) (w258 : Int32) (w259 : Int32) (w272 : Addr) (k273 : ClassId) (u274 : Nat → Int32) (p275 : Int32) (w276 : Int32) (h0 : Heap) (n0 : Nat) (Z0 : n0 ≤ h0.size) (H0 : Fld Z h0 a238 "java/lang/String" "value" "[B" (.ref w254)) (H1 : BA Z h0 w254 k255 .byte (1 : Int32) u256) (H2 : Sta Z h0 "java/lang/String" "COMPACT_STRINGS" "Z" (.int w257)) (H3 : ¬ (w257 = (0 : Int32))) (H4 : Fld Z h0 a238 "java/lang/String" "coder" "B" (.int w258)) (H5 : nar .byte w258 = w258) (H6 : Exa Z h0 a238 "java/lang/String") (H7 : Fld Z h0 a237 "java/lang/AbstractStringBuilder" "count" "I" (.int w259)) (H8 : Fld Z h0 a237 "java/lang/AbstractStringBuilder" "value" "[B" (.ref w272)) (H9 : BA Z h0 w272 k273 .byte p275 u274) (H10 : Fld Z h0 a237 "java/lang/AbstractStringBuilder" "coder" "B" (.int w276)) (H11 : ¬ ((0 : Int32) < ((w259 + ((1 : Int32) >>> (w258 &&& 31))) - (p275 >>> (w276 &&& 31))))) (H12 : Exa Z h0 a237 "java/lang/StringBuilder") (H13 : w276 = w258) (H14 : w258 = w276) (H15 : ¬ ((w259 <<< (w276 &&& 31)) < (0 : Int32))) (H16 : ((w259 <<< (w276 &&& 31))).toNatClampNeg + ((1 : Int32)).toNatClampNeg ≤ (p275).toNatClampNeg) (H17 : n0 ≤ w272) (H18 : a237 ≠ w272) (H19 : n0 ≤ a237) (H20 : w272 ≠ a237) :
   OMet l Z mN19 jdk_68_method_22_code 3 (some (.object "java/lang/AbstractStringBuilder")) [] ({ frames := 3, cells := 0, slots := 0, locals := 47 } : Room) h0 #[(.ref a237), (.ref a238)] (Qr7_1 Z a237 a238 w254 k255 u256 w257 w258 w259 w272 k273 u274 p275 w276 h0 n0) := by
 refine MetFree.of_bodySF (plainFor_of_name pn_java_lang_AbstractStringBuilder) hisR ?_
 intro p e s m args below meth c s₁ Bd hml0 hP hK
 obtain ⟨rfl, hZ, hh⟩ := hP
 have hx := Bd.exec
 have hby := Bd.bytes
 have hml : c.maxLocals = 3 := hml0
 have hown : s.vm.findClass "java/lang/AbstractStringBuilder" = some m.cls := findClass_of_methodNamed Bd.named
 have hnm := (name_of_methodNamed Bd.named Bd.method).1
 have X0 : Stand p l e ({ frames := 3, cells := 0, slots := 0, locals := 47 } : Room) s m #[(.ref a237), (.ref a238)] below meth c s₁ [] 0 0 := Stand.of_body Bd
 have e0 : s₁.heap = h0 := by rw [← hh, Bd.state]; rfl
 have N0 := Fr.nil n0
 have pre0 : ∀ t, Steps p.tables e below (s₁.setTop (mkF m 0 #[vR a237, vR a238, .unset] [])) t → Steps p.tables e below (s₁.setTop (entryFrame m #[(.ref a237), (.ref a238)] 3)) t := fun t k => castTop (ef_7_vv m a237 a238) k
 obtain ⟨cq253, kq253, q253a, q253b, q253c⟩ := isOf hZ e0 H6
 obtain ⟨_, _, ⟨T253, L253, k253, n253⟩, -, X253, ⟨Lc253, hQ253, l253, y253, z253⟩, st253⟩ := X0.virtualBack hx (y := mN14) (z := mN14) hown (mvT hZ (tw hw 74 rfl)) (mvT hZ (tw hw 75 rfl)) (notFace_of_selects (args := #[]) (mvT hZ (tw hw 77 rfl))) (mvT hZ (tw hw 77 rfl)) (mvT hZ (tw hw 76 rfl)) (by decide) (backOf (W := 0) (r8_1 l Z a0 hw a238 w254 k255 u256 w257 w258 h0 n0 Z0 H0 H1 H2 H3 H4 H5 H6) hZ (tw hw 78 rfl) (tw hw 52 rfl) (by decide) (by decide)) q253a q253c (g := (mkF m 10 #[vR a237, vR a238, vU] [(.ref a238)])) rfl (by rw [hml]; rfl) (Steps.refl _) (argsL := []) (rest := []) (lenOf pd_11 rfl) rfl (own_w _) (hb hby d7_10) (fun _ _ => ⟨rfl, e0, (by decide : 0 + 0 ≤ _), (by decide : 0 + 0 ≤ _)⟩)
 dsimp only [Pt.U, Pt.locs, Pt.cells, Pt.slots] at X253 l253 y253 z253 st253 hQ253
 replace X253 := own_mvX X253 (a := 0) (b := 0) y253 z253
 obtain ⟨rfl, N253q, e253⟩ := hQ253
 have N253 := own_mvN l253 N0 N253q
 obtain ⟨T260, X260, e260, st260⟩ := getF X253 hx hZ hown (host := "") (Or.inl (tw hw 87 rfl)) Via.refl e253 H7 (g := (mkF m 16 #[vR a237, vR a238, vI ((1 : Int32) >>> (w258 &&& 31))] [(.ref a237), (.ref a237)])) rfl rfl (hb hby d7_16)
 obtain ⟨cq271, kq271, q271a, q271b, q271c⟩ := isOf hZ e260 H12
 obtain ⟨_, _, ⟨T271, L271, k271, n271⟩, -, X271, ⟨Lc271, hQ271, l271, y271, z271⟩, st271⟩ := X260.virtualBack hx (y := mN15) (z := mN15) hown (mvT hZ (tw hw 89 rfl)) (own_decl (mvT hZ (tw hw 90 rfl)) (mvT hZ (tw hw 93 rfl))) (notFace_of_selects (args := #[]) (mvT hZ (tw hw 92 rfl))) (mvT hZ (tw hw 92 rfl)) (mvT hZ (tw hw 90 rfl)) (by decide) (backOf (W := 0) (r10_1 l Z a0 hw a237 (w259 + ((1 : Int32) >>> (w258 &&& 31))) w272 k273 u274 p275 w276 h0 n0 Z0 H8 H9 H10 H11) hZ (tw hw 93 rfl) (tw hw 48 rfl) (by decide) (by decide)) q271a q271c (g := (mkF m 21 #[vR a237, vR a238, vI ((1 : Int32) >>> (w258 &&& 31))] [(.int (w259 + ((1 : Int32) >>> (w258 &&& 31)))), (.ref a237)])) rfl (by rw [hml]; rfl) (Steps.refl _) (argsL := [(.int (w259 + ((1 : Int32) >>> (w258 &&& 31))))]) (rest := []) (lenOf pd_8 rfl) rfl (own_w _) (hb hby d7_21) (fun _ _ => ⟨rfl, e260, (by decide : 0 + 0 ≤ _), (by decide : 0 + 0 ≤ _)⟩)
 dsimp only [Pt.U, Pt.locs, Pt.cells, Pt.slots] at X271 l271 y271 z271 st271 hQ271
 replace X271 := own_mvX X271 (a := 0) (b := 0) y271 z271
 obtain ⟨rfl, N271q, e271⟩ := hQ271
 have N271 := own_mvN l271 N253 N271q
 obtain ⟨T277, X277, e277, st277⟩ := getF X271 hx hZ hown (host := "") (Or.inl (tw hw 87 rfl)) Via.refl e271 H7 (g := (mkF m 26 #[vR a237, vR a238, vI ((1 : Int32) >>> (w258 &&& 31))] [(.ref a237), (.ref a237)])) rfl rfl (hb hby d7_26)
 obtain ⟨cq330, kq330, q330a, q330b, q330c⟩ := isOf hZ e277 H12
 obtain ⟨_, _, ⟨T330, L330, k330, n330⟩, -, X330, ⟨Lc330, hQ330, l330, y330, z330⟩, st330⟩ := X277.virtualBack hx (y := mN18) (z := mN18) hown (mvT hZ (tw hw 94 rfl)) (own_decl (mvT hZ (tw hw 95 rfl)) (mvT hZ (tw hw 98 rfl))) (notFace_of_selects (args := #[]) (mvT hZ (tw hw 97 rfl))) (mvT hZ (tw hw 97 rfl)) (mvT hZ (tw hw 95 rfl)) (by decide) (backOf (W := 0) (r11_1 l Z a0 hw a237 w259 a238 w257 w276 w258 w272 w254 k255 u256 k273 u274 p275 h0 n0 Z0 H2 H3 H10 H4 H5 H6 H13 H12 H8 H14 H0 H1 H9 H15 H16 H17) hZ (tw hw 98 rfl) (tw hw 48 rfl) (by decide) (by decide)) q330a q330c (g := (mkF m 30 #[vR a237, vR a238, vI ((1 : Int32) >>> (w258 &&& 31))] [(.ref a238), (.int w259), (.ref a237)])) rfl (by rw [hml]; rfl) (Steps.refl _) (argsL := [(.int w259), (.ref a238)]) (rest := []) (lenOf pd_14 rfl) rfl (own_w _) (hb hby d7_30) (fun _ _ => ⟨rfl, e277, (by decide : 0 + 0 ≤ _), (by decide : 0 + 0 ≤ _)⟩)
 dsimp only [Pt.U, Pt.locs, Pt.cells, Pt.slots] at X330 l330 y330 z330 st330 hQ330
 replace X330 := own_mvX X330 (a := 0) (b := 0) y330 z330
 obtain ⟨N330q, rfl, K330, o330_0⟩ := hQ330
 have N330 := own_mvN l330 N271 N330q
 have KC330 := KSx.trans (KSx.refl h0 [(a237, Jvm.RoadKit.slotOf Z "java/lang/AbstractStringBuilder" "count" "I")] [w272]) K330 ks0 (allS (Or.inl (List.mem_of_getElem? (i := 0) rfl)) all0)
 have f331 := (H7.ks K330 ks0 (allS H18 all0))
 obtain ⟨T332, X332, e332, st332⟩ := getF X330 hx hZ hown (host := "") (Or.inl (tw hw 87 rfl)) Via.refl rfl f331 (g := (mkF m 35 #[vR a237, vR a238, vI ((1 : Int32) >>> (w258 &&& 31))] [(.ref a237), (.ref a237)])) rfl rfl (hb hby d7_35)
 have f333 := (H12.ks K330)
 obtain ⟨T334, h334, X334, e334, W334, st334⟩ := putF X332 hx hZ hown (host := "") (Or.inl (tw hw 87 rfl)) Via.refl e332 f331 f333 (Or.inl (tw hw 88 rfl)) (tw hw 39 rfl) (ty := .int) (by decide) rfl rfl (g := (mkF m 40 #[vR a237, vR a238, vI ((1 : Int32) >>> (w258 &&& 31))] [(.int (w259 + ((1 : Int32) >>> (w258 &&& 31)))), (.ref a237)])) rfl rfl (hb hby d7_40)
 have Fw334 := Fld.same W334 f331
 have KC334 := KSx.wr KC330 W334 (Or.inl (List.mem_of_getElem? (i := 0) rfl))
 have N334 := Fr.snoc X334 N330 H19
 have f335 := (o330_0.other W334 H20)
 obtain ⟨fs, hr, hrun, hended, hW, hsame⟩ := X334.leave (v := some (.ref a237)) (fun h => by rw [Bd.returns] at h; cases h)
 refine ⟨_, _, pre0 _ ?_, hrun, hended, _, _, rfl, ?_, ⟨_, rfl⟩, hW, hsame.mono (by decide) (by decide)⟩
 · show SG p e below s₁ (mkF m 0 #[vR a237, vR a238, vU] []) _
   refine XS.aloadN X0.here hx rfl (hb hby d7_0) rfl rfl ?_
   show SG p e below s₁ (mkF m 1 #[vR a237, vR a238, vU] [(.ref a238)]) _
   refine XS.ifnonnullYes X0.here hx rfl (pc0 := 1) (pc' := 9) rfl (hb hby d7_1) rfl (by decide) (by decide) ?_
   show SG p e below s₁ (mkF m 9 #[vR a237, vR a238, vU] []) _
   refine XS.aloadN X0.here hx rfl (hb hby d7_9) rfl rfl ?_
   show SG p e below s₁ (mkF m 10 #[vR a237, vR a238, vU] [(.ref a238)]) _
   refine st253.trans ?_
   show SG p e below T253 (mkF m 13 #[vR a237, vR a238, vU] [(.int ((1 : Int32) >>> (w258 &&& 31)))]) _
   refine XS.istoreN X253.here hx rfl (hb hby d7_13) rfl (l' := #[vR a237, vR a238, vI ((1 : Int32) >>> (w258 &&& 31))]) rfl ?_
   show SG p e below T253 (mkF m 14 #[vR a237, vR a238, vI ((1 : Int32) >>> (w258 &&& 31))] []) _
   refine XS.aloadN X253.here hx rfl (hb hby d7_14) rfl rfl ?_
   show SG p e below T253 (mkF m 15 #[vR a237, vR a238, vI ((1 : Int32) >>> (w258 &&& 31))] [(.ref a237)]) _
   refine XS.aloadN X253.here hx rfl (hb hby d7_15) rfl rfl ?_
   show SG p e below T253 (mkF m 16 #[vR a237, vR a238, vI ((1 : Int32) >>> (w258 &&& 31))] [(.ref a237), (.ref a237)]) _
   refine st260 _ ?_
   show SG p e below T260 (mkF m 19 #[vR a237, vR a238, vI ((1 : Int32) >>> (w258 &&& 31))] [(.int w259), (.ref a237)]) _
   refine XS.iloadN X260.here hx rfl (hb hby d7_19) rfl ?_
   show SG p e below T260 (mkF m 20 #[vR a237, vR a238, vI ((1 : Int32) >>> (w258 &&& 31))] [(.int ((1 : Int32) >>> (w258 &&& 31))), (.int w259), (.ref a237)]) _
   refine XS.iadd X260.here hx rfl (hb hby d7_20) rfl ?_
   show SG p e below T260 (mkF m 21 #[vR a237, vR a238, vI ((1 : Int32) >>> (w258 &&& 31))] [(.int (w259 + ((1 : Int32) >>> (w258 &&& 31)))), (.ref a237)]) _
   refine st271.trans ?_
   show SG p e below T271 (mkF m 24 #[vR a237, vR a238, vI ((1 : Int32) >>> (w258 &&& 31))] []) _
   refine XS.aloadN X271.here hx rfl (hb hby d7_24) rfl rfl ?_
   show SG p e below T271 (mkF m 25 #[vR a237, vR a238, vI ((1 : Int32) >>> (w258 &&& 31))] [(.ref a237)]) _
   refine XS.aloadN X271.here hx rfl (hb hby d7_25) rfl rfl ?_
   show SG p e below T271 (mkF m 26 #[vR a237, vR a238, vI ((1 : Int32) >>> (w258 &&& 31))] [(.ref a237), (.ref a237)]) _
   refine st277 _ ?_
   show SG p e below T277 (mkF m 29 #[vR a237, vR a238, vI ((1 : Int32) >>> (w258 &&& 31))] [(.int w259), (.ref a237)]) _
   refine XS.aloadN X277.here hx rfl (hb hby d7_29) rfl rfl ?_
   show SG p e below T277 (mkF m 30 #[vR a237, vR a238, vI ((1 : Int32) >>> (w258 &&& 31))] [(.ref a238), (.int w259), (.ref a237)]) _
   refine st330.trans ?_
   show SG p e below T330 (mkF m 33 #[vR a237, vR a238, vI ((1 : Int32) >>> (w258 &&& 31))] []) _
   refine XS.aloadN X330.here hx rfl (hb hby d7_33) rfl rfl ?_
   show SG p e below T330 (mkF m 34 #[vR a237, vR a238, vI ((1 : Int32) >>> (w258 &&& 31))] [(.ref a237)]) _
   refine XS.dup X330.here hx rfl (hb hby d7_34) rfl rfl ?_
   show SG p e below T330 (mkF m 35 #[vR a237, vR a238, vI ((1 : Int32) >>> (w258 &&& 31))] [(.ref a237), (.ref a237)]) _
   refine st332 _ ?_
   show SG p e below T332 (mkF m 38 #[vR a237, vR a238, vI ((1 : Int32) >>> (w258 &&& 31))] [(.int w259), (.ref a237)]) _
   refine XS.iloadN X332.here hx rfl (hb hby d7_38) rfl ?_
   show SG p e below T332 (mkF m 39 #[vR a237, vR a238, vI ((1 : Int32) >>> (w258 &&& 31))] [(.int ((1 : Int32) >>> (w258 &&& 31))), (.int w259), (.ref a237)]) _
   refine XS.iadd X332.here hx rfl (hb hby d7_39) rfl ?_
   show SG p e below T332 (mkF m 40 #[vR a237, vR a238, vI ((1 : Int32) >>> (w258 &&& 31))] [(.int (w259 + ((1 : Int32) >>> (w258 &&& 31)))), (.ref a237)]) _
   refine st334 _ ?_
   show SG p e below T334 (mkF m 43 #[vR a237, vR a238, vI ((1 : Int32) >>> (w258 &&& 31))] []) _
   refine XS.aloadN X334.here hx rfl (hb hby d7_43) rfl rfl ?_
   show SG p e below T334 (mkF m 44 #[vR a237, vR a238, vI ((1 : Int32) >>> (w258 &&& 31))] [(.ref a237)]) _
   jvm_step X334.here [X334.here.top, hx, (hb hby d7_44), X334.method', Bd.returns, Value.isRef, FieldType.isReference]
   first | (intro acts; rw [hr _ acts rfl rfl rfl]) | rw [hr _ _ rfl rfl rfl]
   exact Steps.refl _
 · show Qr7_1 Z a237 a238 w254 k255 u256 w257 w258 w259 w272 k273 u274 p275 w276 h0 n0 _ T334.heap _
   rw [e334]
   exact ⟨N334, rfl, KC334, Fw334, f335⟩
theorem pd_15 : parseMethodDescriptor "(Ljava/lang/String;)Ljava/lang/AbstractStringBuilder;" = some ⟨[(.object "java/lang/String")], some (.object "java/lang/AbstractStringBuilder")⟩ := by decide +kernel
theorem d6_5 : decode jdk_67_method_7_code 5 = .ok (.pop, 1) := by decide +kernel
theorem d6_6 : decode jdk_67_method_7_code 6 = .ok (.aload_n 0, 1) := by decide +kernel
theorem d6_7 : decode jdk_67_method_7_code 7 = .ok (.areturn, 1) := by decide +kernel
theorem ef_6_vv (m : MethodId) (x0 : Addr) (x1 : Addr) : entryFrame m #[(.ref x0), (.ref x1)] 2 = mkF m 0 #[.val (.ref x0), .val (.ref x1)] [] := by first | (simp [entryFrame, mkF, argsToLocals, Value.category]; done) | rfl
def Qr6_1 (Z : State) (a235 : Addr) (a236 : Addr) (w337 : Addr) (k338 : ClassId) (u339 : Nat → Int32) (w340 : Int32) (w341 : Int32) (w342 : Int32) (w343 : Addr) (k344 : ClassId) (u345 : Nat → Int32) (p346 : Int32) (w347 : Int32) (h0 : Heap) (n0 : Nat) (v : Option Value) (h : Heap) (L : List Loc) : Prop := Fr n0 L ∧ v = some (.ref a235) ∧ KSx h0 h [(a235, Jvm.RoadKit.slotOf Z "java/lang/AbstractStringBuilder" "count" "I")] [w343] ∧ Fld Z h a235 "java/lang/AbstractStringBuilder" "count" "I" (.int (w342 + ((1 : Int32) >>> (w341 &&& 31)))) ∧ BA Z h w343 k344 .byte p346 (fun i => if ((w342 <<< (w347 &&& 31))).toNatClampNeg ≤ i ∧ i < ((w342 <<< (w347 &&& 31))).toNatClampNeg + ((1 : Int32)).toNatClampNeg then u339 (((0 : Int32)).toNatClampNeg + (i - ((w342 <<< (w347 &&& 31))).toNatClampNeg)) else u345 i)
theorem r6_1 (l : Launch) (Z : State) (a0 : Array Value) (hw : ∀ d ∈ tables_1, d.before a0 Z = true) (a235 : Addr) (a236 : Addr) (w337 : Addr) (k338 : ClassId) (u339 : Nat → Int32) (w340 : Int32) (w341 : Int32) (w342 : Int32) (w343 : Addr) (k344 : ClassId) (u345 : Nat → Int32) (p346 : Int32) (w347 : Int32) (h0 : Heap) (n0 : Nat) (Z0 : n0 ≤ h0.size) (H0 : Fld Z h0 a236 "java/lang/String" "value" "[B" (.ref w337)) (H1 : BA Z h0 w337 k338 .byte (1 : Int32) u339) (H2 : Sta Z h0 "java/lang/String" "COMPACT_STRINGS" "Z" (.int w340)) (H3 : ¬ (w340 = (0 : Int32))) (H4 : Fld Z h0 a236 "java/lang/String" "coder" "B" (.int w341)) (H5 : nar .byte w341 = w341) (H6 : Exa Z h0 a236 "java/lang/String") (H7 : Fld Z h0 a235 "java/lang/AbstractStringBuilder" "count" "I" (.int w342)) (H8 : Fld Z h0 a235 "java/lang/AbstractStringBuilder" "value" "[B" (.ref w343)) (H9 : BA Z h0 w343 k344 .byte p346 u345) (H10 : Fld Z h0 a235 "java/lang/AbstractStringBuilder" "coder" "B" (.int w347)) (H11 : ¬ ((0 : Int32) < ((w342 + ((1 : Int32) >>> (w341 &&& 31))) - (p346 >>> (w347 &&& 31))))) (H12 : Exa Z h0 a235 "java/lang/StringBuilder") (H13 : w347 = w341) (H14 : w341 = w347) (H15 : ¬ ((w342 <<< (w347 &&& 31)) < (0 : Int32))) (H16 : ((w342 <<< (w347 &&& 31))).toNatClampNeg + ((1 : Int32)).toNatClampNeg ≤ (p346).toNatClampNeg) (H17 : n0 ≤ w343) (H18 : a235 ≠ w343) (H19 : n0 ≤ a235) (H20 : w343 ≠ a235) :
   OMet l Z mN20 jdk_67_method_7_code 2 (some (.object "java/lang/StringBuilder")) [] ({ frames := 4, cells := 0, slots := 0, locals := 61 } : Room) h0 #[(.ref a235), (.ref a236)] (Qr6_1 Z a235 a236 w337 k338 u339 w340 w341 w342 w343 k344 u345 p346 w347 h0 n0) := by
 refine MetFree.of_bodySF (plainFor_of_name pn_java_lang_StringBuilder) hisR ?_
 intro p e s m args below meth c s₁ Bd hml0 hP hK
 obtain ⟨rfl, hZ, hh⟩ := hP
 have hx := Bd.exec
 have hby := Bd.bytes
 have hml : c.maxLocals = 2 := hml0
 have hown : s.vm.findClass "java/lang/StringBuilder" = some m.cls := findClass_of_methodNamed Bd.named
 have hnm := (name_of_methodNamed Bd.named Bd.method).1
 have X0 : Stand p l e ({ frames := 4, cells := 0, slots := 0, locals := 61 } : Room) s m #[(.ref a235), (.ref a236)] below meth c s₁ [] 0 0 := Stand.of_body Bd
 have e0 : s₁.heap = h0 := by rw [← hh, Bd.state]; rfl
 have N0 := Fr.nil n0
 have pre0 : ∀ t, Steps p.tables e below (s₁.setTop (mkF m 0 #[vR a235, vR a236] [])) t → Steps p.tables e below (s₁.setTop (entryFrame m #[(.ref a235), (.ref a236)] 2)) t := fun t k => castTop (ef_6_vv m a235 a236) k
 obtain ⟨_, _, ⟨T336, L336, k336, n336⟩, -, X336, ⟨Lc336, hQ336, l336, y336, z336⟩, st336⟩ := superBack X0 hx hZ (y := mN19) hown (tw hw 69 rfl) (own_same (y := mN19) (by decide) (tw hw 70 rfl) (own_nf (args := a0) (w := mN15) rfl (tw hw 92 rfl))) (tw hw 70 rfl) (tw hw 71 rfl) (by decide) (backOf (W := 0) (r7_1 l Z a0 hw a235 a236 w337 k338 u339 w340 w341 w342 w343 k344 u345 p346 w347 h0 n0 Z0 H0 H1 H2 H3 H4 H5 H6 H7 H8 H9 H10 H11 H12 H13 H14 H15 H16 H17 H18 H19 H20) hZ (tw hw 73 rfl) (tw hw 48 rfl) (by decide) (by decide)) e0 (Ins.self H12) (g := (mkF m 2 #[vR a235, vR a236] [(.ref a236), (.ref a235)])) rfl (by rw [hml]; rfl) (tw hw 73 rfl) (argsL := [(.ref a236)]) (rest := []) (lenOf pd_15 rfl) rfl (own_w _) (hb hby d6_2) (fun _ _ => ⟨rfl, e0, (by decide : 0 + 0 ≤ _), (by decide : 0 + 0 ≤ _)⟩)
 dsimp only [Pt.U, Pt.locs, Pt.cells, Pt.slots] at X336 l336 y336 z336 st336 hQ336
 replace X336 := own_mvX X336 (a := 0) (b := 0) y336 z336
 obtain ⟨N336q, rfl, K336, o336_0, o336_1⟩ := hQ336
 have N336 := own_mvN l336 N0 N336q
 have KC336 := KSx.trans (KSx.refl h0 [(a235, Jvm.RoadKit.slotOf Z "java/lang/AbstractStringBuilder" "count" "I")] [w343]) K336 (ksS (Or.inl (List.mem_of_getElem? (i := 0) rfl)) ks0) (allS (Or.inl (List.mem_of_getElem? (i := 0) rfl)) all0)
 obtain ⟨fs, hr, hrun, hended, hW, hsame⟩ := X336.leave (v := some (.ref a235)) (fun h => by rw [Bd.returns] at h; cases h)
 refine ⟨_, _, pre0 _ ?_, hrun, hended, _, _, rfl, ?_, ⟨_, rfl⟩, hW, hsame.mono (by decide) (by decide)⟩
 · show SG p e below s₁ (mkF m 0 #[vR a235, vR a236] []) _
   refine XS.aloadN X0.here hx rfl (hb hby d6_0) rfl rfl ?_
   show SG p e below s₁ (mkF m 1 #[vR a235, vR a236] [(.ref a235)]) _
   refine XS.aloadN X0.here hx rfl (hb hby d6_1) rfl rfl ?_
   show SG p e below s₁ (mkF m 2 #[vR a235, vR a236] [(.ref a236), (.ref a235)]) _
   refine st336.trans ?_
   show SG p e below T336 (mkF m 5 #[vR a235, vR a236] [(.ref a235)]) _
   refine XS.pop X336.here hx rfl (hb hby d6_5) rfl rfl ?_
   show SG p e below T336 (mkF m 6 #[vR a235, vR a236] []) _
   refine XS.aloadN X336.here hx rfl (hb hby d6_6) rfl rfl ?_
   show SG p e below T336 (mkF m 7 #[vR a235, vR a236] [(.ref a235)]) _
   jvm_step X336.here [X336.here.top, hx, (hb hby d6_7), X336.method', Bd.returns, Value.isRef, FieldType.isReference]
   first | (intro acts; rw [hr _ acts rfl rfl rfl]) | rw [hr _ _ rfl rfl rfl]
   exact Steps.refl _
 · show Qr6_1 Z a235 a236 w337 k338 u339 w340 w341 w342 w343 k344 u345 p346 w347 h0 n0 _ T336.heap _
   exact ⟨N336, rfl, KC336, o336_0, o336_1⟩
theorem pd_16 : parseMethodDescriptor "(Ljava/lang/String;)Ljava/lang/StringBuilder;" = some ⟨[(.object "java/lang/String")], some (.object "java/lang/StringBuilder")⟩ := by decide +kernel
theorem d3_12 : decode prog_12_method_2_code 12 = .ok (.aload_n 0, 1) := by decide +kernel
theorem d3_13 : decode prog_12_method_2_code 13 = .ok (.getfield 7, 3) := by decide +kernel
theorem d3_16 : decode prog_12_method_2_code 16 = .ok (.invokevirtual 30, 3) := by decide +kernel
theorem d14_0 : decode jdk_67_method_15_code 0 = .ok (.aload_n 0, 1) := by decide +kernel
theorem d14_1 : decode jdk_67_method_15_code 1 = .ok (.iload_n 1, 1) := by decide +kernel
theorem d14_2 : decode jdk_67_method_15_code 2 = .ok (.invokespecial 53, 3) := by decide +kernel
theorem d15_0 : decode jdk_68_method_32_code 0 = .ok (.aload_n 0, 1) := by decide +kernel
theorem d15_1 : decode jdk_68_method_32_code 1 = .ok (.getfield 79, 3) := by decide +kernel
theorem d15_4 : decode jdk_68_method_32_code 4 = .ok (.istore_n 2, 1) := by decide +kernel
theorem d15_5 : decode jdk_68_method_32_code 5 = .ok (.iload_n 2, 1) := by decide +kernel
theorem d15_6 : decode jdk_68_method_32_code 6 = .ok (.iload_n 1, 1) := by decide +kernel
theorem d15_7 : decode jdk_68_method_32_code 7 = .ok (.invokestatic 245, 3) := by decide +kernel
theorem pd_17 : parseMethodDescriptor "(I)I" = some ⟨[.int], some .int⟩ := by decide +kernel
theorem d15_10 : decode jdk_68_method_32_code 10 = .ok (.iadd, 1) := by decide +kernel
theorem d15_11 : decode jdk_68_method_32_code 11 = .ok (.istore_n 3, 1) := by decide +kernel
theorem d15_12 : decode jdk_68_method_32_code 12 = .ok (.aload_n 0, 1) := by decide +kernel
abbrev la32 (a367 : Addr) (p368 : Int32) (w369 : Int32) : Array Slot := #[vR a367, vI p368, vI w369, vI (w369 + (SBG.strSizeOf p368))]
theorem d15_13 : decode jdk_68_method_32_code 13 = .ok (.iload_n 3, 1) := by decide +kernel
theorem d15_14 : decode jdk_68_method_32_code 14 = .ok (.invokevirtual 100, 3) := by decide +kernel
theorem d15_17 : decode jdk_68_method_32_code 17 = .ok (.aload_n 0, 1) := by decide +kernel
theorem d15_18 : decode jdk_68_method_32_code 18 = .ok (.invokevirtual 83, 3) := by decide +kernel
theorem d17_0 : decode jdk_68_method_68_code 0 = .ok (.getstatic 18, 3) := by decide +kernel
theorem d17_3 : decode jdk_68_method_68_code 3 = .ok (.ifCond .eq 14, 3) := by decide +kernel
theorem d17_6 : decode jdk_68_method_68_code 6 = .ok (.aload_n 0, 1) := by decide +kernel
theorem d17_7 : decode jdk_68_method_68_code 7 = .ok (.getfield 22, 3) := by decide +kernel
theorem d17_10 : decode jdk_68_method_68_code 10 = .ok (.ifCond .ne 7, 3) := by decide +kernel
theorem d17_13 : decode jdk_68_method_68_code 13 = .ok (.iconst 1, 1) := by decide +kernel
theorem d17_14 : decode jdk_68_method_68_code 14 = .ok (.goto 4, 3) := by decide +kernel
theorem d17_18 : decode jdk_68_method_68_code 18 = .ok (.ireturn, 1) := by decide +kernel
theorem ef_17_v (m : MethodId) (x0 : Addr) : entryFrame m #[(.ref x0)] 1 = mkF m 0 #[.val (.ref x0)] [] := by first | (simp [entryFrame, mkF, argsToLocals, Value.category]; done) | rfl
theorem r17_1 (l : Launch) (Z : State) (a0 : Array Value) (hw : ∀ d ∈ tables_1, d.before a0 Z = true) (a388 : Addr) (w389 : Int32) (w391 : Int32) (h0 : Heap) (n0 : Nat) (Z0 : n0 ≤ h0.size) (H0 : Sta Z h0 "java/lang/String" "COMPACT_STRINGS" "Z" (.int w389)) (H1 : ¬ (w389 = (0 : Int32))) (H2 : Fld Z h0 a388 "java/lang/AbstractStringBuilder" "coder" "B" (.int w391)) (H3 : w391 = (0 : Int32)) :
   OMet l Z mN22 jdk_68_method_68_code 1 (some .boolean) [] ({ frames := 0, cells := 0, slots := 0, locals := 0 } : Room) h0 #[(.ref a388)] (OQp (some (.int (1 : Int32))) h0 n0) := by
 refine MetFree.of_bodySF (plainFor_of_name pn_java_lang_AbstractStringBuilder) hisR ?_
 intro p e s m args below meth c s₁ Bd hml0 hP hK
 obtain ⟨rfl, hZ, hh⟩ := hP
 have hx := Bd.exec
 have hby := Bd.bytes
 have hml : c.maxLocals = 1 := hml0
 have hown : s.vm.findClass "java/lang/AbstractStringBuilder" = some m.cls := findClass_of_methodNamed Bd.named
 have hnm := (name_of_methodNamed Bd.named Bd.method).1
 have X0 : Stand p l e ({ frames := 0, cells := 0, slots := 0, locals := 0 } : Room) s m #[(.ref a388)] below meth c s₁ [] 0 0 := Stand.of_body Bd
 have e0 : s₁.heap = h0 := by rw [← hh, Bd.state]; rfl
 have N0 := Fr.nil n0
 have pre0 : ∀ t, Steps p.tables e below (s₁.setTop (mkF m 0 #[vR a388] [])) t → Steps p.tables e below (s₁.setTop (entryFrame m #[(.ref a388)] 1)) t := fun t k => castTop (ef_17_v m a388) k
 obtain ⟨T390, X390, e390, st390⟩ := getS2 X0 hx hZ hown (host := "") (Or.inl (tw hw 51 rfl)) Via.refl e0 H0 (g := (mkF m 0 #[vR a388] [])) rfl (hb hby d17_0)
 obtain ⟨T392, X392, e392, st392⟩ := getF X390 hx hZ hown (host := "") (Or.inl (tw hw 56 rfl)) Via.refl e390 H2 (g := (mkF m 7 #[vR a388] [(.ref a388)])) rfl rfl (hb hby d17_7)
 obtain ⟨fs, hr, hrun, hended, hW, hsame⟩ := X392.leave (v := some (.int (1 : Int32))) (fun h => by rw [Bd.returns] at h; cases h)
 refine ⟨_, _, pre0 _ ?_, hrun, hended, _, _, rfl, ?_, ⟨_, rfl⟩, hW, hsame.mono (by decide) (by decide)⟩
 · show SG p e below s₁ (mkF m 0 #[vR a388] []) _
   refine st390 _ ?_
   show SG p e below T390 (mkF m 3 #[vR a388] [(.int w389)]) _
   refine XS.ifNo X390.here hx rfl (hb hby d17_3) rfl ((if0 _ _).trans (feq H1).1) ?_
   show SG p e below T390 (mkF m 6 #[vR a388] []) _
   refine XS.aloadN X390.here hx rfl (hb hby d17_6) rfl rfl ?_
   show SG p e below T390 (mkF m 7 #[vR a388] [(.ref a388)]) _
   refine st392 _ ?_
   show SG p e below T392 (mkF m 10 #[vR a388] [(.int w391)]) _
   refine XS.ifNo X392.here hx rfl (hb hby d17_10) rfl ((if0 _ _).trans (teq H3).2) ?_
   show SG p e below T392 (mkF m 13 #[vR a388] []) _
   refine XS.iconst X392.here hx rfl (hb hby d17_13) ?_
   show SG p e below T392 (mkF m 14 #[vR a388] [(.int (1 : Int32))]) _
   refine XS.goto X392.here hx rfl (pc0 := 14) (pc' := 18) rfl (hb hby d17_14) (by decide) (by decide) ?_
   show SG p e below T392 (mkF m 18 #[vR a388] [(.int (1 : Int32))]) _
   exact retN X392 hx (t := .boolean) Bd.returns (by simp) (hb hby d17_18) hr
 · show OQp (some (.int (1 : Int32))) h0 n0 _ T392.heap _
   rw [e392]
   exact ⟨rfl, N0, rfl⟩
theorem d15_21 : decode jdk_68_method_32_code 21 = .ok (.ifCond .eq 16, 3) := by decide +kernel
theorem d15_24 : decode jdk_68_method_32_code 24 = .ok (.iload_n 1, 1) := by decide +kernel
theorem d15_25 : decode jdk_68_method_32_code 25 = .ok (.iload_n 3, 1) := by decide +kernel
theorem d15_26 : decode jdk_68_method_32_code 26 = .ok (.aload_n 0, 1) := by decide +kernel
theorem d15_27 : decode jdk_68_method_32_code 27 = .ok (.getfield 15, 3) := by decide +kernel
theorem d15_30 : decode jdk_68_method_32_code 30 = .ok (.invokestatic 248, 3) := by decide +kernel
theorem pd_18 : parseMethodDescriptor "(II[B)I" = some ⟨[.int, .int, (.array .byte)], some .int⟩ := by decide +kernel
theorem d15_33 : decode jdk_68_method_32_code 33 = .ok (.pop, 1) := by decide +kernel
theorem d15_34 : decode jdk_68_method_32_code 34 = .ok (.goto 14, 3) := by decide +kernel
theorem d15_48 : decode jdk_68_method_32_code 48 = .ok (.aload_n 0, 1) := by decide +kernel
theorem d15_49 : decode jdk_68_method_32_code 49 = .ok (.iload_n 3, 1) := by decide +kernel
theorem d15_50 : decode jdk_68_method_32_code 50 = .ok (.putfield 79, 3) := by decide +kernel
theorem d15_53 : decode jdk_68_method_32_code 53 = .ok (.aload_n 0, 1) := by decide +kernel
theorem d15_54 : decode jdk_68_method_32_code 54 = .ok (.areturn, 1) := by decide +kernel
theorem ef_15_vv (m : MethodId) (x0 : Addr) (x1 : Int32) : entryFrame m #[(.ref x0), (.int x1)] 4 = mkF m 0 #[.val (.ref x0), .val (.int x1), .unset, .unset] [] := by first | (simp [entryFrame, mkF, argsToLocals, Value.category]; done) | rfl
def Qr15_1 (Z : State) (a367 : Addr) (p368 : Int32) (w369 : Int32) (w383 : Addr) (k384 : ClassId) (u385 : Nat → Int32) (p386 : Int32) (w387 : Int32) (w394 : Int32) (w397 : Addr) (w398 : Addr) (k399 : ClassId) (u400 : Nat → Int32) (k401 : ClassId) (u402 : Nat → Int32) (h0 : Heap) (n0 : Nat) (v : Option Value) (h : Heap) (L : List Loc) : Prop := Fr n0 L ∧ v = some (.ref a367) ∧ KSx h0 h [(a367, Jvm.RoadKit.slotOf Z "java/lang/AbstractStringBuilder" "count" "I")] [w383] ∧ Fld Z h a367 "java/lang/AbstractStringBuilder" "count" "I" (.int (w369 + (SBG.strSizeOf p368))) ∧ BA Z h w383 k384 .byte p386 (SBG.ogc (decide (p368 < 0)) (p368).toInt.natAbs (SBG.digits (p368).toInt.natAbs) ((w369 + (SBG.strSizeOf p368))).toNatClampNeg u385)
theorem r15_1 (l : Launch) (Z : State) (a0 : Array Value) (hw : ∀ d ∈ tables_1, d.before a0 Z = true) (a367 : Addr) (p368 : Int32) (w369 : Int32) (w383 : Addr) (k384 : ClassId) (u385 : Nat → Int32) (p386 : Int32) (w387 : Int32) (w394 : Int32) (w397 : Addr) (w398 : Addr) (k399 : ClassId) (u400 : Nat → Int32) (k401 : ClassId) (u402 : Nat → Int32) (h0 : Heap) (n0 : Nat) (Z0 : n0 ≤ h0.size) (H0 : Fld Z h0 a367 "java/lang/AbstractStringBuilder" "count" "I" (.int w369)) (H1 : Fld Z h0 a367 "java/lang/AbstractStringBuilder" "value" "[B" (.ref w383)) (H2 : BA Z h0 w383 k384 .byte p386 u385) (H3 : Fld Z h0 a367 "java/lang/AbstractStringBuilder" "coder" "B" (.int w387)) (H4 : ¬ ((0 : Int32) < ((w369 + (SBG.strSizeOf p368)) - (p386 >>> (w387 &&& 31))))) (H5 : Exa Z h0 a367 "java/lang/StringBuilder") (H6 : Sta Z h0 "java/lang/String" "COMPACT_STRINGS" "Z" (.int w394)) (H7 : ¬ (w394 = (0 : Int32))) (H8 : w387 = (0 : Int32)) (H9 : Sta Z h0 "java/lang/Integer" "DigitOnes" "[B" (.ref w397)) (H10 : Sta Z h0 "java/lang/Integer" "DigitTens" "[B" (.ref w398)) (H11 : BA Z h0 w397 k399 .byte (100 : Int32) u400) (H12 : BA Z h0 w398 k401 .byte (100 : Int32) u402) (H13 : w383 ≠ w397) (H14 : w383 ≠ w398) (H15 : n0 ≤ w383) (H16 : ¬ ((w369 + (SBG.strSizeOf p368)) < (0 : Int32))) (H17 : ((w369 + (SBG.strSizeOf p368))).toNatClampNeg ≤ (p386).toNatClampNeg) (H18 : SBG.digits (p368).toInt.natAbs + (if p368 < 0 then 1 else 0) ≤ ((w369 + (SBG.strSizeOf p368))).toNatClampNeg) (H19 : u400 = (fun r => Int32.ofNat (48 + r % 10))) (H20 : u402 = (fun r => Int32.ofNat (48 + r / 10))) (H21 : (Jvm.Cond.laysStatic "java/lang/Integer" "DigitOnes" "[B").before a0 Z = true) (H22 : (Jvm.Cond.laysStatic "java/lang/Integer" "DigitTens" "[B").before a0 Z = true) (H23 : a367 ≠ w383) (H24 : n0 ≤ a367) (H25 : w383 ≠ a367) :
   OMet l Z mN24 jdk_68_method_32_code 4 (some (.object "java/lang/AbstractStringBuilder")) [] ({ frames := 2, cells := 0, slots := 0, locals := 78 } : Room) h0 #[(.ref a367), (.int p368)] (Qr15_1 Z a367 p368 w369 w383 k384 u385 p386 w387 w394 w397 w398 k399 u400 k401 u402 h0 n0) := by
 refine MetFree.of_bodySF (plainFor_of_name pn_java_lang_AbstractStringBuilder) hisR ?_
 intro p e s m args below meth c s₁ Bd hml0 hP hK
 obtain ⟨rfl, hZ, hh⟩ := hP
 have hx := Bd.exec
 have hby := Bd.bytes
 have hml : c.maxLocals = 4 := hml0
 have hown : s.vm.findClass "java/lang/AbstractStringBuilder" = some m.cls := findClass_of_methodNamed Bd.named
 have hnm := (name_of_methodNamed Bd.named Bd.method).1
 have X0 : Stand p l e ({ frames := 2, cells := 0, slots := 0, locals := 78 } : Room) s m #[(.ref a367), (.int p368)] below meth c s₁ [] 0 0 := Stand.of_body Bd
 have e0 : s₁.heap = h0 := by rw [← hh, Bd.state]; rfl
 have N0 := Fr.nil n0
 have pre0 : ∀ t, Steps p.tables e below (s₁.setTop (mkF m 0 #[vR a367, vI p368, .unset, .unset] [])) t → Steps p.tables e below (s₁.setTop (entryFrame m #[(.ref a367), (.int p368)] 4)) t := fun t k => castTop (ef_15_vv m a367 p368) k
 obtain ⟨T370, X370, e370, st370⟩ := getF X0 hx hZ hown (host := "") (Or.inl (tw hw 87 rfl)) Via.refl e0 H0 (g := (mkF m 1 #[vR a367, vI p368, vU, vU] [(.ref a367)])) rfl rfl (hb hby d15_1)
 obtain ⟨_, _, ⟨T371, L371, k371, n371⟩, -, X371, ⟨Lc371, hQ371, l371, y371, z371⟩, st371⟩ := Jvm.LawKit.callS X370 hx (y := mN21) hown (mvT hZ (tw hw 123 rfl)) (mvT hZ (tw hw 124 rfl)) (mvT hZ (tw hw 125 rfl)) (mvT hZ (tw hw 126 rfl)) (by decide) (backOf (W := 1) (own_ss (l := l) (h0 := h0) (n0 := n0) (x := p368) (tw hw 126 rfl)) hZ (tw hw 126 rfl) (tw hw 125 rfl) (by decide) (by decide)) (g := (mkF m 7 #[vR a367, vI p368, vI w369, vU] [(.int p368), (.int w369)])) rfl (by rw [hml]; rfl) (argsL := [(.int p368)]) (rest := [(.int w369)]) (lenOf pd_17 rfl) rfl (own_w _) (hb hby d15_7) (fun _ _ => ⟨rfl, e370, (by decide : 0 + 0 ≤ _), (by decide : 0 + 0 ≤ _)⟩)
 dsimp only [Pt.U, Pt.locs, Pt.cells, Pt.slots] at X371 l371 y371 z371 st371 hQ371
 replace X371 := own_mvX X371 (a := 0) (b := 0) y371 z371
 obtain ⟨rfl, N371q, e371⟩ := hQ371
 have N371 := own_mvN l371 N0 N371q
 obtain ⟨cq382, kq382, q382a, q382b, q382c⟩ := isOf hZ e371 H5
 obtain ⟨_, _, ⟨T382, L382, k382, n382⟩, -, X382, ⟨Lc382, hQ382, l382, y382, z382⟩, st382⟩ := X371.virtualBack hx (y := mN15) (z := mN15) hown (mvT hZ (tw hw 89 rfl)) (own_decl (mvT hZ (tw hw 90 rfl)) (mvT hZ (tw hw 93 rfl))) (notFace_of_selects (args := #[]) (mvT hZ (tw hw 92 rfl))) (mvT hZ (tw hw 92 rfl)) (mvT hZ (tw hw 90 rfl)) (by decide) (backOf (W := 0) (r10_1 l Z a0 hw a367 (w369 + (SBG.strSizeOf p368)) w383 k384 u385 p386 w387 h0 n0 Z0 H1 H2 H3 H4) hZ (tw hw 93 rfl) (tw hw 48 rfl) (by decide) (by decide)) q382a q382c (g := (mkF m 14 (la32 a367 p368 w369) [(.int (w369 + (SBG.strSizeOf p368))), (.ref a367)])) rfl (by rw [hml]; rfl) (Steps.refl _) (argsL := [(.int (w369 + (SBG.strSizeOf p368)))]) (rest := []) (lenOf pd_8 rfl) rfl (own_w _) (hb hby d15_14) (fun _ _ => ⟨rfl, e371, (by decide : 0 + 0 ≤ _), (by decide : 0 + 0 ≤ _)⟩)
 dsimp only [Pt.U, Pt.locs, Pt.cells, Pt.slots] at X382 l382 y382 z382 st382 hQ382
 replace X382 := own_mvX X382 (a := 0) (b := 0) y382 z382
 obtain ⟨rfl, N382q, e382⟩ := hQ382
 have N382 := own_mvN l382 N371 N382q
 obtain ⟨cq393, kq393, q393a, q393b, q393c⟩ := isOf hZ e382 H5
 obtain ⟨_, _, ⟨T393, L393, k393, n393⟩, -, X393, ⟨Lc393, hQ393, l393, y393, z393⟩, st393⟩ := X382.virtualBack hx (y := mN22) (z := mN22) hown (mvT hZ (tw hw 127 rfl)) (mvT hZ (tw hw 128 rfl)) (notFace_of_selects (args := #[]) (mvT hZ (tw hw 130 rfl))) (mvT hZ (tw hw 130 rfl)) (mvT hZ (tw hw 129 rfl)) (by decide) (backOf (W := 0) (r17_1 l Z a0 hw a367 w394 w387 h0 n0 Z0 H6 H7 H3 H8) hZ (tw hw 131 rfl) (tw hw 48 rfl) (by decide) (by decide)) q393a q393c (g := (mkF m 18 (la32 a367 p368 w369) [(.ref a367)])) rfl (by rw [hml]; rfl) (Steps.refl _) (argsL := []) (rest := []) (lenOf pd_0 rfl) rfl (own_w _) (hb hby d15_18) (fun _ _ => ⟨rfl, e382, (by decide : 0 + 0 ≤ _), (by decide : 0 + 0 ≤ _)⟩)
 dsimp only [Pt.U, Pt.locs, Pt.cells, Pt.slots] at X393 l393 y393 z393 st393 hQ393
 replace X393 := own_mvX X393 (a := 0) (b := 0) y393 z393
 obtain ⟨rfl, N393q, e393⟩ := hQ393
 have N393 := own_mvN l393 N382 N393q
 obtain ⟨T395, X395, e395, st395⟩ := getF X393 hx hZ hown (host := "") (Or.inl (tw hw 54 rfl)) Via.refl e393 H1 (g := (mkF m 27 (la32 a367 p368 w369) [(.ref a367), (.int (w369 + (SBG.strSizeOf p368))), (.int p368)])) rfl rfl (hb hby d15_27)
 obtain ⟨_, _, ⟨T396, L396, k396, n396⟩, -, X396, ⟨Lc396, hQ396, l396, y396, z396⟩, st396⟩ := Jvm.LawKit.callS X395 hx (y := mN23) hown (mvT hZ (tw hw 132 rfl)) (mvT hZ (tw hw 133 rfl)) (mvT hZ (tw hw 125 rfl)) (mvT hZ (tw hw 134 rfl)) (by decide) (backOf (W := 0) (own_gc2 (l := l) (h0 := h0) (n0 := n0) (x := p368) (j := (w369 + (SBG.strSizeOf p368))) (tw hw 134 rfl) (tw hw 135 rfl) (tw hw 248 rfl) H9 H10 H21 H22 H19 H11 H20 H12 H2 H13 H14 H15 H16 H17 H18) hZ (tw hw 134 rfl) (tw hw 125 rfl) (by decide) (by decide)) (g := (mkF m 30 (la32 a367 p368 w369) [(.ref w383), (.int (w369 + (SBG.strSizeOf p368))), (.int p368)])) rfl (by rw [hml]; rfl) (argsL := [(.int p368), (.int (w369 + (SBG.strSizeOf p368))), (.ref w383)]) (rest := []) (lenOf pd_18 rfl) rfl (own_w _) (hb hby d15_30) (fun _ _ => ⟨rfl, e395, (by decide : 0 + 0 ≤ _), (by decide : 0 + 0 ≤ _)⟩)
 dsimp only [Pt.U, Pt.locs, Pt.cells, Pt.slots] at X396 l396 y396 z396 st396 hQ396
 replace X396 := own_mvX X396 (a := 0) (b := 0) y396 z396
 obtain ⟨N396q, rfl, K396, o396_0⟩ := hQ396
 have N396 := own_mvN l396 N393 N396q
 have KC396 := KSx.trans (KSx.refl h0 [(a367, Jvm.RoadKit.slotOf Z "java/lang/AbstractStringBuilder" "count" "I")] [w383]) K396 ks0 (allS (Or.inl (List.mem_of_getElem? (i := 0) rfl)) all0)
 have f403 := (H5.ks K396)
 have f404 := (H0.ks K396 ks0 (allS H23 all0))
 obtain ⟨T405, h405, X405, e405, W405, st405⟩ := putF X396 hx hZ hown (host := "") (Or.inl (tw hw 87 rfl)) Via.refl rfl f404 f403 (Or.inl (tw hw 88 rfl)) (tw hw 39 rfl) (ty := .int) (by decide) rfl rfl (g := (mkF m 50 (la32 a367 p368 w369) [(.int (w369 + (SBG.strSizeOf p368))), (.ref a367)])) rfl rfl (hb hby d15_50)
 have Fw405 := Fld.same W405 f404
 have KC405 := KSx.wr KC396 W405 (Or.inl (List.mem_of_getElem? (i := 0) rfl))
 have N405 := Fr.snoc X405 N396 H24
 have f406 := (o396_0.other W405 H25)
 obtain ⟨fs, hr, hrun, hended, hW, hsame⟩ := X405.leave (v := some (.ref a367)) (fun h => by rw [Bd.returns] at h; cases h)
 refine ⟨_, _, pre0 _ ?_, hrun, hended, _, _, rfl, ?_, ⟨_, rfl⟩, hW, hsame.mono (by decide) (by decide)⟩
 · show SG p e below s₁ (mkF m 0 #[vR a367, vI p368, vU, vU] []) _
   refine XS.aloadN X0.here hx rfl (hb hby d15_0) rfl rfl ?_
   show SG p e below s₁ (mkF m 1 #[vR a367, vI p368, vU, vU] [(.ref a367)]) _
   refine st370 _ ?_
   show SG p e below T370 (mkF m 4 #[vR a367, vI p368, vU, vU] [(.int w369)]) _
   refine XS.istoreN X370.here hx rfl (hb hby d15_4) rfl (l' := #[vR a367, vI p368, vI w369, vU]) rfl ?_
   show SG p e below T370 (mkF m 5 #[vR a367, vI p368, vI w369, vU] []) _
   refine XS.iloadN X370.here hx rfl (hb hby d15_5) rfl ?_
   show SG p e below T370 (mkF m 6 #[vR a367, vI p368, vI w369, vU] [(.int w369)]) _
   refine XS.iloadN X370.here hx rfl (hb hby d15_6) rfl ?_
   show SG p e below T370 (mkF m 7 #[vR a367, vI p368, vI w369, vU] [(.int p368), (.int w369)]) _
   refine st371 _ ?_
   show SG p e below T371 (mkF m 10 #[vR a367, vI p368, vI w369, vU] [(.int (SBG.strSizeOf p368)), (.int w369)]) _
   refine XS.iadd X371.here hx rfl (hb hby d15_10) rfl ?_
   show SG p e below T371 (mkF m 11 #[vR a367, vI p368, vI w369, vU] [(.int (w369 + (SBG.strSizeOf p368)))]) _
   refine XS.istoreN X371.here hx rfl (hb hby d15_11) rfl (l' := #[vR a367, vI p368, vI w369, vI (w369 + (SBG.strSizeOf p368))]) rfl ?_
   show SG p e below T371 (mkF m 12 (la32 a367 p368 w369) []) _
   refine XS.aloadN X371.here hx rfl (hb hby d15_12) rfl rfl ?_
   show SG p e below T371 (mkF m 13 (la32 a367 p368 w369) [(.ref a367)]) _
   refine XS.iloadN X371.here hx rfl (hb hby d15_13) rfl ?_
   show SG p e below T371 (mkF m 14 (la32 a367 p368 w369) [(.int (w369 + (SBG.strSizeOf p368))), (.ref a367)]) _
   refine st382.trans ?_
   show SG p e below T382 (mkF m 17 (la32 a367 p368 w369) []) _
   refine XS.aloadN X382.here hx rfl (hb hby d15_17) rfl rfl ?_
   show SG p e below T382 (mkF m 18 (la32 a367 p368 w369) [(.ref a367)]) _
   refine st393.trans ?_
   show SG p e below T393 (mkF m 21 (la32 a367 p368 w369) [(.int (1 : Int32))]) _
   refine XS.ifNo X393.here hx rfl (hb hby d15_21) rfl ((if0 _ _).trans (feq (by decide : ¬ ((1 : Int32) = (0 : Int32)))).1) ?_
   show SG p e below T393 (mkF m 24 (la32 a367 p368 w369) []) _
   refine XS.iloadN X393.here hx rfl (hb hby d15_24) rfl ?_
   show SG p e below T393 (mkF m 25 (la32 a367 p368 w369) [(.int p368)]) _
   refine XS.iloadN X393.here hx rfl (hb hby d15_25) rfl ?_
   show SG p e below T393 (mkF m 26 (la32 a367 p368 w369) [(.int (w369 + (SBG.strSizeOf p368))), (.int p368)]) _
   refine XS.aloadN X393.here hx rfl (hb hby d15_26) rfl rfl ?_
   show SG p e below T393 (mkF m 27 (la32 a367 p368 w369) [(.ref a367), (.int (w369 + (SBG.strSizeOf p368))), (.int p368)]) _
   refine st395 _ ?_
   show SG p e below T395 (mkF m 30 (la32 a367 p368 w369) [(.ref w383), (.int (w369 + (SBG.strSizeOf p368))), (.int p368)]) _
   refine st396 _ ?_
   show SG p e below T396 (mkF m 33 (la32 a367 p368 w369) [(.int (Int32.ofNat (((w369 + (SBG.strSizeOf p368))).toNatClampNeg - (SBG.digits (p368).toInt.natAbs + (if p368 < 0 then 1 else 0)))))]) _
   refine XS.pop X396.here hx rfl (hb hby d15_33) rfl rfl ?_
   show SG p e below T396 (mkF m 34 (la32 a367 p368 w369) []) _
   refine XS.goto X396.here hx rfl (pc0 := 34) (pc' := 48) rfl (hb hby d15_34) (by decide) (by decide) ?_
   show SG p e below T396 (mkF m 48 (la32 a367 p368 w369) []) _
   refine XS.aloadN X396.here hx rfl (hb hby d15_48) rfl rfl ?_
   show SG p e below T396 (mkF m 49 (la32 a367 p368 w369) [(.ref a367)]) _
   refine XS.iloadN X396.here hx rfl (hb hby d15_49) rfl ?_
   show SG p e below T396 (mkF m 50 (la32 a367 p368 w369) [(.int (w369 + (SBG.strSizeOf p368))), (.ref a367)]) _
   refine st405 _ ?_
   show SG p e below T405 (mkF m 53 (la32 a367 p368 w369) []) _
   refine XS.aloadN X405.here hx rfl (hb hby d15_53) rfl rfl ?_
   show SG p e below T405 (mkF m 54 (la32 a367 p368 w369) [(.ref a367)]) _
   jvm_step X405.here [X405.here.top, hx, (hb hby d15_54), X405.method', Bd.returns, Value.isRef, FieldType.isReference]
   first | (intro acts; rw [hr _ acts rfl rfl rfl]) | rw [hr _ _ rfl rfl rfl]
   exact Steps.refl _
 · show Qr15_1 Z a367 p368 w369 w383 k384 u385 p386 w387 w394 w397 w398 k399 u400 k401 u402 h0 n0 _ T405.heap _
   rw [e405]
   exact ⟨N405, rfl, KC405, Fw405, f406⟩
theorem pd_19 : parseMethodDescriptor "(I)Ljava/lang/AbstractStringBuilder;" = some ⟨[.int], some (.object "java/lang/AbstractStringBuilder")⟩ := by decide +kernel
theorem d14_5 : decode jdk_67_method_15_code 5 = .ok (.pop, 1) := by decide +kernel
theorem d14_6 : decode jdk_67_method_15_code 6 = .ok (.aload_n 0, 1) := by decide +kernel
theorem d14_7 : decode jdk_67_method_15_code 7 = .ok (.areturn, 1) := by decide +kernel
theorem ef_14_vv (m : MethodId) (x0 : Addr) (x1 : Int32) : entryFrame m #[(.ref x0), (.int x1)] 2 = mkF m 0 #[.val (.ref x0), .val (.int x1)] [] := by first | (simp [entryFrame, mkF, argsToLocals, Value.category]; done) | rfl
def Qr14_1 (Z : State) (a365 : Addr) (p366 : Int32) (w408 : Int32) (w409 : Addr) (k410 : ClassId) (u411 : Nat → Int32) (p412 : Int32) (w413 : Int32) (w414 : Int32) (w415 : Addr) (w416 : Addr) (k417 : ClassId) (u418 : Nat → Int32) (k419 : ClassId) (u420 : Nat → Int32) (h0 : Heap) (n0 : Nat) (v : Option Value) (h : Heap) (L : List Loc) : Prop := Fr n0 L ∧ v = some (.ref a365) ∧ KSx h0 h [(a365, Jvm.RoadKit.slotOf Z "java/lang/AbstractStringBuilder" "count" "I")] [w409] ∧ Fld Z h a365 "java/lang/AbstractStringBuilder" "count" "I" (.int (w408 + (SBG.strSizeOf p366))) ∧ BA Z h w409 k410 .byte p412 (SBG.ogc (decide (p366 < 0)) (p366).toInt.natAbs (SBG.digits (p366).toInt.natAbs) ((w408 + (SBG.strSizeOf p366))).toNatClampNeg u411)
theorem r14_1 (l : Launch) (Z : State) (a0 : Array Value) (hw : ∀ d ∈ tables_1, d.before a0 Z = true) (a365 : Addr) (p366 : Int32) (w408 : Int32) (w409 : Addr) (k410 : ClassId) (u411 : Nat → Int32) (p412 : Int32) (w413 : Int32) (w414 : Int32) (w415 : Addr) (w416 : Addr) (k417 : ClassId) (u418 : Nat → Int32) (k419 : ClassId) (u420 : Nat → Int32) (h0 : Heap) (n0 : Nat) (Z0 : n0 ≤ h0.size) (H0 : Fld Z h0 a365 "java/lang/AbstractStringBuilder" "count" "I" (.int w408)) (H1 : Fld Z h0 a365 "java/lang/AbstractStringBuilder" "value" "[B" (.ref w409)) (H2 : BA Z h0 w409 k410 .byte p412 u411) (H3 : Fld Z h0 a365 "java/lang/AbstractStringBuilder" "coder" "B" (.int w413)) (H4 : ¬ ((0 : Int32) < ((w408 + (SBG.strSizeOf p366)) - (p412 >>> (w413 &&& 31))))) (H5 : Exa Z h0 a365 "java/lang/StringBuilder") (H6 : Sta Z h0 "java/lang/String" "COMPACT_STRINGS" "Z" (.int w414)) (H7 : ¬ (w414 = (0 : Int32))) (H8 : w413 = (0 : Int32)) (H9 : Sta Z h0 "java/lang/Integer" "DigitOnes" "[B" (.ref w415)) (H10 : Sta Z h0 "java/lang/Integer" "DigitTens" "[B" (.ref w416)) (H11 : BA Z h0 w415 k417 .byte (100 : Int32) u418) (H12 : BA Z h0 w416 k419 .byte (100 : Int32) u420) (H13 : w409 ≠ w415) (H14 : w409 ≠ w416) (H15 : n0 ≤ w409) (H16 : ¬ ((w408 + (SBG.strSizeOf p366)) < (0 : Int32))) (H17 : ((w408 + (SBG.strSizeOf p366))).toNatClampNeg ≤ (p412).toNatClampNeg) (H18 : SBG.digits (p366).toInt.natAbs + (if p366 < 0 then 1 else 0) ≤ ((w408 + (SBG.strSizeOf p366))).toNatClampNeg) (H19 : u418 = (fun r => Int32.ofNat (48 + r % 10))) (H20 : u420 = (fun r => Int32.ofNat (48 + r / 10))) (H21 : (Jvm.Cond.laysStatic "java/lang/Integer" "DigitOnes" "[B").before a0 Z = true) (H22 : (Jvm.Cond.laysStatic "java/lang/Integer" "DigitTens" "[B").before a0 Z = true) (H23 : a365 ≠ w409) (H24 : n0 ≤ a365) (H25 : w409 ≠ a365) :
   OMet l Z mN25 jdk_67_method_15_code 2 (some (.object "java/lang/StringBuilder")) [] ({ frames := 3, cells := 0, slots := 0, locals := 93 } : Room) h0 #[(.ref a365), (.int p366)] (Qr14_1 Z a365 p366 w408 w409 k410 u411 p412 w413 w414 w415 w416 k417 u418 k419 u420 h0 n0) := by
 refine MetFree.of_bodySF (plainFor_of_name pn_java_lang_StringBuilder) hisR ?_
 intro p e s m args below meth c s₁ Bd hml0 hP hK
 obtain ⟨rfl, hZ, hh⟩ := hP
 have hx := Bd.exec
 have hby := Bd.bytes
 have hml : c.maxLocals = 2 := hml0
 have hown : s.vm.findClass "java/lang/StringBuilder" = some m.cls := findClass_of_methodNamed Bd.named
 have hnm := (name_of_methodNamed Bd.named Bd.method).1
 have X0 : Stand p l e ({ frames := 3, cells := 0, slots := 0, locals := 93 } : Room) s m #[(.ref a365), (.int p366)] below meth c s₁ [] 0 0 := Stand.of_body Bd
 have e0 : s₁.heap = h0 := by rw [← hh, Bd.state]; rfl
 have N0 := Fr.nil n0
 have pre0 : ∀ t, Steps p.tables e below (s₁.setTop (mkF m 0 #[vR a365, vI p366] [])) t → Steps p.tables e below (s₁.setTop (entryFrame m #[(.ref a365), (.int p366)] 2)) t := fun t k => castTop (ef_14_vv m a365 p366) k
 obtain ⟨_, _, ⟨T407, L407, k407, n407⟩, -, X407, ⟨Lc407, hQ407, l407, y407, z407⟩, st407⟩ := superBack X0 hx hZ (y := mN24) hown (tw hw 119 rfl) (own_same (y := mN24) (by decide) (tw hw 120 rfl) (own_nf (args := a0) (w := mN15) rfl (tw hw 92 rfl))) (tw hw 120 rfl) (tw hw 71 rfl) (by decide) (backOf (W := 0) (r15_1 l Z a0 hw a365 p366 w408 w409 k410 u411 p412 w413 w414 w415 w416 k417 u418 k419 u420 h0 n0 Z0 H0 H1 H2 H3 H4 H5 H6 H7 H8 H9 H10 H11 H12 H13 H14 H15 H16 H17 H18 H19 H20 H21 H22 H23 H24 H25) hZ (tw hw 122 rfl) (tw hw 48 rfl) (by decide) (by decide)) e0 (Ins.self H5) (g := (mkF m 2 #[vR a365, vI p366] [(.int p366), (.ref a365)])) rfl (by rw [hml]; rfl) (tw hw 122 rfl) (argsL := [(.int p366)]) (rest := []) (lenOf pd_19 rfl) rfl (own_w _) (hb hby d14_2) (fun _ _ => ⟨rfl, e0, (by decide : 0 + 0 ≤ _), (by decide : 0 + 0 ≤ _)⟩)
 dsimp only [Pt.U, Pt.locs, Pt.cells, Pt.slots] at X407 l407 y407 z407 st407 hQ407
 replace X407 := own_mvX X407 (a := 0) (b := 0) y407 z407
 obtain ⟨N407q, rfl, K407, o407_0, o407_1⟩ := hQ407
 have N407 := own_mvN l407 N0 N407q
 have KC407 := KSx.trans (KSx.refl h0 [(a365, Jvm.RoadKit.slotOf Z "java/lang/AbstractStringBuilder" "count" "I")] [w409]) K407 (ksS (Or.inl (List.mem_of_getElem? (i := 0) rfl)) ks0) (allS (Or.inl (List.mem_of_getElem? (i := 0) rfl)) all0)
 obtain ⟨fs, hr, hrun, hended, hW, hsame⟩ := X407.leave (v := some (.ref a365)) (fun h => by rw [Bd.returns] at h; cases h)
 refine ⟨_, _, pre0 _ ?_, hrun, hended, _, _, rfl, ?_, ⟨_, rfl⟩, hW, hsame.mono (by decide) (by decide)⟩
 · show SG p e below s₁ (mkF m 0 #[vR a365, vI p366] []) _
   refine XS.aloadN X0.here hx rfl (hb hby d14_0) rfl rfl ?_
   show SG p e below s₁ (mkF m 1 #[vR a365, vI p366] [(.ref a365)]) _
   refine XS.iloadN X0.here hx rfl (hb hby d14_1) rfl ?_
   show SG p e below s₁ (mkF m 2 #[vR a365, vI p366] [(.int p366), (.ref a365)]) _
   refine st407.trans ?_
   show SG p e below T407 (mkF m 5 #[vR a365, vI p366] [(.ref a365)]) _
   refine XS.pop X407.here hx rfl (hb hby d14_5) rfl rfl ?_
   show SG p e below T407 (mkF m 6 #[vR a365, vI p366] []) _
   refine XS.aloadN X407.here hx rfl (hb hby d14_6) rfl rfl ?_
   show SG p e below T407 (mkF m 7 #[vR a365, vI p366] [(.ref a365)]) _
   jvm_step X407.here [X407.here.top, hx, (hb hby d14_7), X407.method', Bd.returns, Value.isRef, FieldType.isReference]
   first | (intro acts; rw [hr _ acts rfl rfl rfl]) | rw [hr _ _ rfl rfl rfl]
   exact Steps.refl _
 · show Qr14_1 Z a365 p366 w408 w409 k410 u411 p412 w413 w414 w415 w416 k417 u418 k419 u420 h0 n0 _ T407.heap _
   exact ⟨N407, rfl, KC407, o407_0, o407_1⟩
theorem pd_20 : parseMethodDescriptor "(I)Ljava/lang/StringBuilder;" = some ⟨[.int], some (.object "java/lang/StringBuilder")⟩ := by decide +kernel
theorem d3_19 : decode prog_12_method_2_code 19 = .ok (.aload_n 0, 1) := by decide +kernel
theorem d3_20 : decode prog_12_method_2_code 20 = .ok (.getfield 13, 3) := by decide +kernel
theorem d3_23 : decode prog_12_method_2_code 23 = .ok (.invokevirtual 33, 3) := by decide +kernel
theorem d19_0 : decode prog_13_method_4_code 0 = .ok (.aload_n 0, 1) := by decide +kernel
theorem d19_1 : decode prog_13_method_4_code 1 = .ok (.getfield 41, 3) := by decide +kernel
theorem d19_4 : decode prog_13_method_4_code 4 = .ok (.ireturn, 1) := by decide +kernel
theorem pn_com_example_tranchebook_tranchebook_Cycle_Unit : plainName "com/example/tranchebook/tranchebook/Cycle$Unit" = true := by first | (simp [plainName, overriddenIn]; done) | decide +kernel
theorem ef_19_v (m : MethodId) (x0 : Addr) : entryFrame m #[(.ref x0)] 1 = mkF m 0 #[.val (.ref x0)] [] := by first | (simp [entryFrame, mkF, argsToLocals, Value.category]; done) | rfl
theorem r19_1 (l : Launch) (Z : State) (a0 : Array Value) (hw : ∀ d ∈ tables_1, d.before a0 Z = true) (a446 : Addr) (w447 : Int32) (h0 : Heap) (n0 : Nat) (Z0 : n0 ≤ h0.size) (H0 : Fld Z h0 a446 "com/example/tranchebook/tranchebook/Cycle$Unit" "letter" "C" (.int w447)) (H1 : nar .char w447 = w447) :
   OMet l Z mN26 prog_13_method_4_code 1 (some .char) [] ({ frames := 0, cells := 0, slots := 0, locals := 0 } : Room) h0 #[(.ref a446)] (OQp (some (.int w447)) h0 n0) := by
 refine MetFree.of_bodySF (plainFor_of_name pn_com_example_tranchebook_tranchebook_Cycle_Unit) hisR ?_
 intro p e s m args below meth c s₁ Bd hml0 hP hK
 obtain ⟨rfl, hZ, hh⟩ := hP
 have hx := Bd.exec
 have hby := Bd.bytes
 have hml : c.maxLocals = 1 := hml0
 have hown : s.vm.findClass "com/example/tranchebook/tranchebook/Cycle$Unit" = some m.cls := findClass_of_methodNamed Bd.named
 have hnm := (name_of_methodNamed Bd.named Bd.method).1
 have X0 : Stand p l e ({ frames := 0, cells := 0, slots := 0, locals := 0 } : Room) s m #[(.ref a446)] below meth c s₁ [] 0 0 := Stand.of_body Bd
 have e0 : s₁.heap = h0 := by rw [← hh, Bd.state]; rfl
 have N0 := Fr.nil n0
 have pre0 : ∀ t, Steps p.tables e below (s₁.setTop (mkF m 0 #[vR a446] [])) t → Steps p.tables e below (s₁.setTop (entryFrame m #[(.ref a446)] 1)) t := fun t k => castTop (ef_19_v m a446) k
 obtain ⟨T448, X448, e448, st448⟩ := getF X0 hx hZ hown (host := "") (Or.inl (tw hw 141 rfl)) Via.refl e0 H0 (g := (mkF m 1 #[vR a446] [(.ref a446)])) rfl rfl (hb hby d19_1)
 obtain ⟨fs, hr, hrun, hended, hW, hsame⟩ := X448.leave (v := some (.int w447)) (fun h => by rw [Bd.returns] at h; cases h)
 refine ⟨_, _, pre0 _ ?_, hrun, hended, _, _, rfl, ?_, ⟨_, rfl⟩, hW, hsame.mono (by decide) (by decide)⟩
 · show SG p e below s₁ (mkF m 0 #[vR a446] []) _
   refine XS.aloadN X0.here hx rfl (hb hby d19_0) rfl rfl ?_
   show SG p e below s₁ (mkF m 1 #[vR a446] [(.ref a446)]) _
   refine st448 _ ?_
   show SG p e below T448 (mkF m 4 #[vR a446] [(.int w447)]) _
   exact retN X448 hx (t := .char) Bd.returns (by simp) (hb hby d19_4) (by rw [H1]; exact hr)
 · show OQp (some (.int w447)) h0 n0 _ T448.heap _
   rw [e448]
   exact ⟨rfl, N0, rfl⟩
theorem pd_21 : parseMethodDescriptor "()C" = some ⟨[], some .char⟩ := by decide +kernel
theorem d3_26 : decode prog_12_method_2_code 26 = .ok (.invokevirtual 39, 3) := by decide +kernel
theorem d20_0 : decode jdk_67_method_14_code 0 = .ok (.aload_n 0, 1) := by decide +kernel
theorem d20_1 : decode jdk_67_method_14_code 1 = .ok (.iload_n 1, 1) := by decide +kernel
theorem d20_2 : decode jdk_67_method_14_code 2 = .ok (.invokespecial 50, 3) := by decide +kernel
theorem d21_0 : decode jdk_68_method_31_code 0 = .ok (.aload_n 0, 1) := by decide +kernel
theorem d21_1 : decode jdk_68_method_31_code 1 = .ok (.aload_n 0, 1) := by decide +kernel
theorem d21_2 : decode jdk_68_method_31_code 2 = .ok (.getfield 79, 3) := by decide +kernel
theorem d21_5 : decode jdk_68_method_31_code 5 = .ok (.iconst 1, 1) := by decide +kernel
theorem d21_6 : decode jdk_68_method_31_code 6 = .ok (.iadd, 1) := by decide +kernel
theorem d21_7 : decode jdk_68_method_31_code 7 = .ok (.invokevirtual 100, 3) := by decide +kernel
theorem d21_10 : decode jdk_68_method_31_code 10 = .ok (.aload_n 0, 1) := by decide +kernel
theorem d21_11 : decode jdk_68_method_31_code 11 = .ok (.invokevirtual 83, 3) := by decide +kernel
theorem d21_14 : decode jdk_68_method_31_code 14 = .ok (.ifCond .eq 31, 3) := by decide +kernel
theorem d21_17 : decode jdk_68_method_31_code 17 = .ok (.iload_n 1, 1) := by decide +kernel
theorem d21_18 : decode jdk_68_method_31_code 18 = .ok (.invokestatic 191, 3) := by decide +kernel
theorem d22_0 : decode jdk_43_method_3_code 0 = .ok (.iload_n 0, 1) := by decide +kernel
theorem d22_1 : decode jdk_43_method_3_code 1 = .ok (.sipush 255, 3) := by decide +kernel
theorem d22_4 : decode jdk_43_method_3_code 4 = .ok (.if_icmp .gt 7, 3) := by decide +kernel
theorem d22_7 : decode jdk_43_method_3_code 7 = .ok (.iconst 1, 1) := by decide +kernel
theorem d22_8 : decode jdk_43_method_3_code 8 = .ok (.goto 4, 3) := by decide +kernel
theorem d22_12 : decode jdk_43_method_3_code 12 = .ok (.ireturn, 1) := by decide +kernel
theorem ef_22_v (m : MethodId) (x0 : Int32) : entryFrame m #[(.int x0)] 1 = mkF m 0 #[.val (.int x0)] [] := by first | (simp [entryFrame, mkF, argsToLocals, Value.category]; done) | rfl
theorem r22_1 (l : Launch) (Z : State) (a0 : Array Value) (hw : ∀ d ∈ tables_1, d.before a0 Z = true) (p485 : Int32) (h0 : Heap) (n0 : Nat) (Z0 : n0 ≤ h0.size) (H0 : ¬ ((255 : Int32) < p485)) :
   OMet l Z mN27 jdk_43_method_3_code 1 (some .boolean) [] ({ frames := 0, cells := 0, slots := 0, locals := 0 } : Room) h0 #[(.int p485)] (OQp (some (.int (1 : Int32))) h0 n0) := by
 refine MetFree.of_bodySF (plainFor_of_name pn_java_lang_StringLatin1) hisR ?_
 intro p e s m args below meth c s₁ Bd hml0 hP hK
 obtain ⟨rfl, hZ, hh⟩ := hP
 have hx := Bd.exec
 have hby := Bd.bytes
 have hml : c.maxLocals = 1 := hml0
 have hown : s.vm.findClass "java/lang/StringLatin1" = some m.cls := findClass_of_methodNamed Bd.named
 have hnm := (name_of_methodNamed Bd.named Bd.method).1
 have X0 : Stand p l e ({ frames := 0, cells := 0, slots := 0, locals := 0 } : Room) s m #[(.int p485)] below meth c s₁ [] 0 0 := Stand.of_body Bd
 have e0 : s₁.heap = h0 := by rw [← hh, Bd.state]; rfl
 have N0 := Fr.nil n0
 have pre0 : ∀ t, Steps p.tables e below (s₁.setTop (mkF m 0 #[vI p485] [])) t → Steps p.tables e below (s₁.setTop (entryFrame m #[(.int p485)] 1)) t := fun t k => castTop (ef_22_v m p485) k

 obtain ⟨fs, hr, hrun, hended, hW, hsame⟩ := X0.leave (v := some (.int (1 : Int32))) (fun h => by rw [Bd.returns] at h; cases h)
 refine ⟨_, _, pre0 _ ?_, hrun, hended, _, _, rfl, ?_, ⟨_, rfl⟩, hW, hsame.mono (by decide) (by decide)⟩
 · show SG p e below s₁ (mkF m 0 #[vI p485] []) _
   refine XS.iloadN X0.here hx rfl (hb hby d22_0) rfl ?_
   show SG p e below s₁ (mkF m 1 #[vI p485] [(.int p485)]) _
   refine XS.sipush X0.here hx rfl (hb hby d22_1) ?_
   show SG p e below s₁ (mkF m 4 #[vI p485] [(.int (255 : Int32)), (.int p485)]) _
   refine XS.icmpNo X0.here hx rfl (hb hby d22_4) rfl (flt H0).2.2.1 ?_
   show SG p e below s₁ (mkF m 7 #[vI p485] []) _
   refine XS.iconst X0.here hx rfl (hb hby d22_7) ?_
   show SG p e below s₁ (mkF m 8 #[vI p485] [(.int (1 : Int32))]) _
   refine XS.goto X0.here hx rfl (pc0 := 8) (pc' := 12) rfl (hb hby d22_8) (by decide) (by decide) ?_
   show SG p e below s₁ (mkF m 12 #[vI p485] [(.int (1 : Int32))]) _
   exact retN X0 hx (t := .boolean) Bd.returns (by simp) (hb hby d22_12) hr
 · show OQp (some (.int (1 : Int32))) h0 n0 _ s₁.heap _
   rw [e0]
   exact ⟨rfl, N0, rfl⟩
theorem pd_22 : parseMethodDescriptor "(C)Z" = some ⟨[.char], some .boolean⟩ := by decide +kernel
theorem d21_21 : decode jdk_68_method_31_code 21 = .ok (.ifCond .eq 24, 3) := by decide +kernel
theorem d21_24 : decode jdk_68_method_31_code 24 = .ok (.aload_n 0, 1) := by decide +kernel
theorem d21_25 : decode jdk_68_method_31_code 25 = .ok (.getfield 15, 3) := by decide +kernel
theorem d21_28 : decode jdk_68_method_31_code 28 = .ok (.aload_n 0, 1) := by decide +kernel
theorem d21_29 : decode jdk_68_method_31_code 29 = .ok (.dup, 1) := by decide +kernel
theorem d21_30 : decode jdk_68_method_31_code 30 = .ok (.getfield 79, 3) := by decide +kernel
theorem d21_33 : decode jdk_68_method_31_code 33 = .ok (.dup_x1, 1) := by decide +kernel
theorem d21_34 : decode jdk_68_method_31_code 34 = .ok (.iconst 1, 1) := by decide +kernel
theorem d21_35 : decode jdk_68_method_31_code 35 = .ok (.iadd, 1) := by decide +kernel
theorem d21_36 : decode jdk_68_method_31_code 36 = .ok (.putfield 79, 3) := by decide +kernel
theorem d21_39 : decode jdk_68_method_31_code 39 = .ok (.iload_n 1, 1) := by decide +kernel
theorem d21_40 : decode jdk_68_method_31_code 40 = .ok (.i2b, 1) := by decide +kernel
theorem d21_41 : decode jdk_68_method_31_code 41 = .ok (.bastore, 1) := by decide +kernel
theorem d21_42 : decode jdk_68_method_31_code 42 = .ok (.goto 33, 3) := by decide +kernel
theorem d21_75 : decode jdk_68_method_31_code 75 = .ok (.aload_n 0, 1) := by decide +kernel
theorem d21_76 : decode jdk_68_method_31_code 76 = .ok (.areturn, 1) := by decide +kernel
theorem ef_21_vv (m : MethodId) (x0 : Addr) (x1 : Int32) : entryFrame m #[(.ref x0), (.int x1)] 2 = mkF m 0 #[.val (.ref x0), .val (.int x1)] [] := by first | (simp [entryFrame, mkF, argsToLocals, Value.category]; done) | rfl
def Qr21_1 (Z : State) (a458 : Addr) (p459 : Int32) (w460 : Int32) (w473 : Addr) (k474 : ClassId) (u475 : Nat → Int32) (p476 : Int32) (w477 : Int32) (w484 : Int32) (h0 : Heap) (n0 : Nat) (v : Option Value) (h : Heap) (L : List Loc) : Prop := Fr n0 L ∧ v = some (.ref a458) ∧ KSx h0 h [(a458, Jvm.RoadKit.slotOf Z "java/lang/AbstractStringBuilder" "count" "I")] [w473] ∧ Fld Z h a458 "java/lang/AbstractStringBuilder" "count" "I" (.int (w460 + (1 : Int32))) ∧ BA Z h w473 k474 .byte p476 (fun i => if i = (w460).toNatClampNeg then (p459.toInt8.toInt32).toInt8.toInt32 else u475 i)
theorem r21_1 (l : Launch) (Z : State) (a0 : Array Value) (hw : ∀ d ∈ tables_1, d.before a0 Z = true) (a458 : Addr) (p459 : Int32) (w460 : Int32) (w473 : Addr) (k474 : ClassId) (u475 : Nat → Int32) (p476 : Int32) (w477 : Int32) (w484 : Int32) (h0 : Heap) (n0 : Nat) (Z0 : n0 ≤ h0.size) (H0 : Fld Z h0 a458 "java/lang/AbstractStringBuilder" "count" "I" (.int w460)) (H1 : Fld Z h0 a458 "java/lang/AbstractStringBuilder" "value" "[B" (.ref w473)) (H2 : BA Z h0 w473 k474 .byte p476 u475) (H3 : Fld Z h0 a458 "java/lang/AbstractStringBuilder" "coder" "B" (.int w477)) (H4 : ¬ ((0 : Int32) < ((w460 + (1 : Int32)) - (p476 >>> (w477 &&& 31))))) (H5 : Exa Z h0 a458 "java/lang/StringBuilder") (H6 : Sta Z h0 "java/lang/String" "COMPACT_STRINGS" "Z" (.int w484)) (H7 : ¬ (w484 = (0 : Int32))) (H8 : w477 = (0 : Int32)) (H9 : ¬ ((255 : Int32) < p459)) (H10 : n0 ≤ a458) (H11 : w473 ≠ a458) (H12 : ¬ (w460 < (0 : Int32))) (H13 : w460 < p476) (H14 : n0 ≤ w473) (H15 : a458 ≠ w473) :
   OMet l Z mN28 jdk_68_method_31_code 2 (some (.object "java/lang/AbstractStringBuilder")) [] ({ frames := 1, cells := 0, slots := 0, locals := 14 } : Room) h0 #[(.ref a458), (.int p459)] (Qr21_1 Z a458 p459 w460 w473 k474 u475 p476 w477 w484 h0 n0) := by
 refine MetFree.of_bodySF (plainFor_of_name pn_java_lang_AbstractStringBuilder) hisR ?_
 intro p e s m args below meth c s₁ Bd hml0 hP hK
 obtain ⟨rfl, hZ, hh⟩ := hP
 have hx := Bd.exec
 have hby := Bd.bytes
 have hml : c.maxLocals = 2 := hml0
 have hown : s.vm.findClass "java/lang/AbstractStringBuilder" = some m.cls := findClass_of_methodNamed Bd.named
 have hnm := (name_of_methodNamed Bd.named Bd.method).1
 have X0 : Stand p l e ({ frames := 1, cells := 0, slots := 0, locals := 14 } : Room) s m #[(.ref a458), (.int p459)] below meth c s₁ [] 0 0 := Stand.of_body Bd
 have e0 : s₁.heap = h0 := by rw [← hh, Bd.state]; rfl
 have N0 := Fr.nil n0
 have pre0 : ∀ t, Steps p.tables e below (s₁.setTop (mkF m 0 #[vR a458, vI p459] [])) t → Steps p.tables e below (s₁.setTop (entryFrame m #[(.ref a458), (.int p459)] 2)) t := fun t k => castTop (ef_21_vv m a458 p459) k
 obtain ⟨T461, X461, e461, st461⟩ := getF X0 hx hZ hown (host := "") (Or.inl (tw hw 87 rfl)) Via.refl e0 H0 (g := (mkF m 2 #[vR a458, vI p459] [(.ref a458), (.ref a458)])) rfl rfl (hb hby d21_2)
 obtain ⟨cq472, kq472, q472a, q472b, q472c⟩ := isOf hZ e461 H5
 obtain ⟨_, _, ⟨T472, L472, k472, n472⟩, -, X472, ⟨Lc472, hQ472, l472, y472, z472⟩, st472⟩ := X461.virtualBack hx (y := mN15) (z := mN15) hown (mvT hZ (tw hw 89 rfl)) (own_decl (mvT hZ (tw hw 90 rfl)) (mvT hZ (tw hw 93 rfl))) (notFace_of_selects (args := #[]) (mvT hZ (tw hw 92 rfl))) (mvT hZ (tw hw 92 rfl)) (mvT hZ (tw hw 90 rfl)) (by decide) (backOf (W := 0) (r10_1 l Z a0 hw a458 (w460 + (1 : Int32)) w473 k474 u475 p476 w477 h0 n0 Z0 H1 H2 H3 H4) hZ (tw hw 93 rfl) (tw hw 48 rfl) (by decide) (by decide)) q472a q472c (g := (mkF m 7 #[vR a458, vI p459] [(.int (w460 + (1 : Int32))), (.ref a458)])) rfl (by rw [hml]; rfl) (Steps.refl _) (argsL := [(.int (w460 + (1 : Int32)))]) (rest := []) (lenOf pd_8 rfl) rfl (own_w _) (hb hby d21_7) (fun _ _ => ⟨rfl, e461, (by decide : 0 + 0 ≤ _), (by decide : 0 + 0 ≤ _)⟩)
 dsimp only [Pt.U, Pt.locs, Pt.cells, Pt.slots] at X472 l472 y472 z472 st472 hQ472
 replace X472 := own_mvX X472 (a := 0) (b := 0) y472 z472
 obtain ⟨rfl, N472q, e472⟩ := hQ472
 have N472 := own_mvN l472 N0 N472q
 obtain ⟨cq483, kq483, q483a, q483b, q483c⟩ := isOf hZ e472 H5
 obtain ⟨_, _, ⟨T483, L483, k483, n483⟩, -, X483, ⟨Lc483, hQ483, l483, y483, z483⟩, st483⟩ := X472.virtualBack hx (y := mN22) (z := mN22) hown (mvT hZ (tw hw 127 rfl)) (mvT hZ (tw hw 128 rfl)) (notFace_of_selects (args := #[]) (mvT hZ (tw hw 130 rfl))) (mvT hZ (tw hw 130 rfl)) (mvT hZ (tw hw 129 rfl)) (by decide) (backOf (W := 0) (r17_1 l Z a0 hw a458 w484 w477 h0 n0 Z0 H6 H7 H3 H8) hZ (tw hw 131 rfl) (tw hw 48 rfl) (by decide) (by decide)) q483a q483c (g := (mkF m 11 #[vR a458, vI p459] [(.ref a458)])) rfl (by rw [hml]; rfl) (Steps.refl _) (argsL := []) (rest := []) (lenOf pd_0 rfl) rfl (own_w _) (hb hby d21_11) (fun _ _ => ⟨rfl, e472, (by decide : 0 + 0 ≤ _), (by decide : 0 + 0 ≤ _)⟩)
 dsimp only [Pt.U, Pt.locs, Pt.cells, Pt.slots] at X483 l483 y483 z483 st483 hQ483
 replace X483 := own_mvX X483 (a := 0) (b := 0) y483 z483
 obtain ⟨rfl, N483q, e483⟩ := hQ483
 have N483 := own_mvN l483 N472 N483q
 obtain ⟨_, _, ⟨T486, L486, k486, n486⟩, -, X486, ⟨Lc486, hQ486, l486, y486, z486⟩, st486⟩ := Jvm.LawKit.callS X483 hx (y := mN27) hown (mvT hZ (tw hw 152 rfl)) (mvT hZ (tw hw 153 rfl)) (mvT hZ (tw hw 154 rfl)) (mvT hZ (tw hw 155 rfl)) (by decide) (backOf (W := 0) (r22_1 l Z a0 hw p459 h0 n0 Z0 H9) hZ (tw hw 155 rfl) (tw hw 154 rfl) (by decide) (by decide)) (g := (mkF m 18 #[vR a458, vI p459] [(.int p459)])) rfl (by rw [hml]; rfl) (argsL := [(.int p459)]) (rest := []) (lenOf pd_22 rfl) rfl (own_w _) (hb hby d21_18) (fun _ _ => ⟨rfl, e483, (by decide : 0 + 0 ≤ _), (by decide : 0 + 0 ≤ _)⟩)
 dsimp only [Pt.U, Pt.locs, Pt.cells, Pt.slots] at X486 l486 y486 z486 st486 hQ486
 replace X486 := own_mvX X486 (a := 0) (b := 0) y486 z486
 obtain ⟨rfl, N486q, e486⟩ := hQ486
 have N486 := own_mvN l486 N483 N486q
 obtain ⟨T487, X487, e487, st487⟩ := getF X486 hx hZ hown (host := "") (Or.inl (tw hw 54 rfl)) Via.refl e486 H1 (g := (mkF m 25 #[vR a458, vI p459] [(.ref a458)])) rfl rfl (hb hby d21_25)
 obtain ⟨T488, X488, e488, st488⟩ := getF X487 hx hZ hown (host := "") (Or.inl (tw hw 87 rfl)) Via.refl e487 H0 (g := (mkF m 30 #[vR a458, vI p459] [(.ref a458), (.ref a458), (.ref w473)])) rfl rfl (hb hby d21_30)
 obtain ⟨T489, h489, X489, e489, W489, st489⟩ := putF X488 hx hZ hown (host := "") (Or.inl (tw hw 87 rfl)) Via.refl e488 H0 H5 (Or.inl (tw hw 88 rfl)) (tw hw 39 rfl) (ty := .int) (by decide) rfl rfl (g := (mkF m 36 #[vR a458, vI p459] [(.int (w460 + (1 : Int32))), (.ref a458), (.int w460), (.ref w473)])) rfl rfl (hb hby d21_36)
 have Fw489 := Fld.same W489 H0
 have KC489 := KSx.wr (KSx.refl h0 [(a458, Jvm.RoadKit.slotOf Z "java/lang/AbstractStringBuilder" "count" "I")] [w473]) W489 (Or.inl (List.mem_of_getElem? (i := 0) rfl))
 have N489 := Fr.snoc X489 N486 H10
 have f490 := (H2.other W489 H11)
 have vc491 := f490
 obtain ⟨cl491, Ar491, q491, S491, N491, Hh491, G491⟩ := vc491
 have hin491 : ¬ (w460 < 0 ∨ cl491.slots.size ≤ (w460).toNatClampNeg) := inb_of S491 ⟨H12, H13⟩
 obtain ⟨T492, h492, X492, e492, W492, st492⟩ := stB X489 hx hZ e489 Ar491 (j := w460) hin491 (g := (mkF m 41 #[vR a458, vI p459] [(.int (p459.toInt8.toInt32)), (.int w460), (.ref w473)])) rfl rfl (hb hby d21_41)
 have B492 : BA Z h492 w473 k474 .byte p476 (fun i => if i = (w460).toNatClampNeg then (p459.toInt8.toInt32).toInt8.toInt32 else u475 i) := BA.set f490 W492 (fits_nar_byte _)
 have KC492 := KSx.wrA KC489 W492 (Or.inl (List.mem_of_getElem? (i := 0) rfl))
 have N492 := Fr.snoc X492 N489 H14
 have f493 := (Fw489.other W492 (Or.inl H15))
 obtain ⟨fs, hr, hrun, hended, hW, hsame⟩ := X492.leave (v := some (.ref a458)) (fun h => by rw [Bd.returns] at h; cases h)
 refine ⟨_, _, pre0 _ ?_, hrun, hended, _, _, rfl, ?_, ⟨_, rfl⟩, hW, hsame.mono (by decide) (by decide)⟩
 · show SG p e below s₁ (mkF m 0 #[vR a458, vI p459] []) _
   refine XS.aloadN X0.here hx rfl (hb hby d21_0) rfl rfl ?_
   show SG p e below s₁ (mkF m 1 #[vR a458, vI p459] [(.ref a458)]) _
   refine XS.aloadN X0.here hx rfl (hb hby d21_1) rfl rfl ?_
   show SG p e below s₁ (mkF m 2 #[vR a458, vI p459] [(.ref a458), (.ref a458)]) _
   refine st461 _ ?_
   show SG p e below T461 (mkF m 5 #[vR a458, vI p459] [(.int w460), (.ref a458)]) _
   refine XS.iconst X461.here hx rfl (hb hby d21_5) ?_
   show SG p e below T461 (mkF m 6 #[vR a458, vI p459] [(.int (1 : Int32)), (.int w460), (.ref a458)]) _
   refine XS.iadd X461.here hx rfl (hb hby d21_6) rfl ?_
   show SG p e below T461 (mkF m 7 #[vR a458, vI p459] [(.int (w460 + (1 : Int32))), (.ref a458)]) _
   refine st472.trans ?_
   show SG p e below T472 (mkF m 10 #[vR a458, vI p459] []) _
   refine XS.aloadN X472.here hx rfl (hb hby d21_10) rfl rfl ?_
   show SG p e below T472 (mkF m 11 #[vR a458, vI p459] [(.ref a458)]) _
   refine st483.trans ?_
   show SG p e below T483 (mkF m 14 #[vR a458, vI p459] [(.int (1 : Int32))]) _
   refine XS.ifNo X483.here hx rfl (hb hby d21_14) rfl ((if0 _ _).trans (feq (by decide : ¬ ((1 : Int32) = (0 : Int32)))).1) ?_
   show SG p e below T483 (mkF m 17 #[vR a458, vI p459] []) _
   refine XS.iloadN X483.here hx rfl (hb hby d21_17) rfl ?_
   show SG p e below T483 (mkF m 18 #[vR a458, vI p459] [(.int p459)]) _
   refine st486 _ ?_
   show SG p e below T486 (mkF m 21 #[vR a458, vI p459] [(.int (1 : Int32))]) _
   refine XS.ifNo X486.here hx rfl (hb hby d21_21) rfl ((if0 _ _).trans (feq (by decide : ¬ ((1 : Int32) = (0 : Int32)))).1) ?_
   show SG p e below T486 (mkF m 24 #[vR a458, vI p459] []) _
   refine XS.aloadN X486.here hx rfl (hb hby d21_24) rfl rfl ?_
   show SG p e below T486 (mkF m 25 #[vR a458, vI p459] [(.ref a458)]) _
   refine st487 _ ?_
   show SG p e below T487 (mkF m 28 #[vR a458, vI p459] [(.ref w473)]) _
   refine XS.aloadN X487.here hx rfl (hb hby d21_28) rfl rfl ?_
   show SG p e below T487 (mkF m 29 #[vR a458, vI p459] [(.ref a458), (.ref w473)]) _
   refine XS.dup X487.here hx rfl (hb hby d21_29) rfl rfl ?_
   show SG p e below T487 (mkF m 30 #[vR a458, vI p459] [(.ref a458), (.ref a458), (.ref w473)]) _
   refine st488 _ ?_
   show SG p e below T488 (mkF m 33 #[vR a458, vI p459] [(.int w460), (.ref a458), (.ref w473)]) _
   refine XS.dupX1 X488.here hx rfl (hb hby d21_33) rfl rfl rfl ?_
   show SG p e below T488 (mkF m 34 #[vR a458, vI p459] [(.int w460), (.ref a458), (.int w460), (.ref w473)]) _
   refine XS.iconst X488.here hx rfl (hb hby d21_34) ?_
   show SG p e below T488 (mkF m 35 #[vR a458, vI p459] [(.int (1 : Int32)), (.int w460), (.ref a458), (.int w460), (.ref w473)]) _
   refine XS.iadd X488.here hx rfl (hb hby d21_35) rfl ?_
   show SG p e below T488 (mkF m 36 #[vR a458, vI p459] [(.int (w460 + (1 : Int32))), (.ref a458), (.int w460), (.ref w473)]) _
   refine st489 _ ?_
   show SG p e below T489 (mkF m 39 #[vR a458, vI p459] [(.int w460), (.ref w473)]) _
   refine XS.iloadN X489.here hx rfl (hb hby d21_39) rfl ?_
   show SG p e below T489 (mkF m 40 #[vR a458, vI p459] [(.int p459), (.int w460), (.ref w473)]) _
   refine XS.i2b X489.here hx rfl (hb hby d21_40) rfl ?_
   show SG p e below T489 (mkF m 41 #[vR a458, vI p459] [(.int (p459.toInt8.toInt32)), (.int w460), (.ref w473)]) _
   refine st492 _ ?_
   show SG p e below T492 (mkF m 42 #[vR a458, vI p459] []) _
   refine XS.goto X492.here hx rfl (pc0 := 42) (pc' := 75) rfl (hb hby d21_42) (by decide) (by decide) ?_
   show SG p e below T492 (mkF m 75 #[vR a458, vI p459] []) _
   refine XS.aloadN X492.here hx rfl (hb hby d21_75) rfl rfl ?_
   show SG p e below T492 (mkF m 76 #[vR a458, vI p459] [(.ref a458)]) _
   jvm_step X492.here [X492.here.top, hx, (hb hby d21_76), X492.method', Bd.returns, Value.isRef, FieldType.isReference]
   first | (intro acts; rw [hr _ acts rfl rfl rfl]) | rw [hr _ _ rfl rfl rfl]
   exact Steps.refl _
 · show Qr21_1 Z a458 p459 w460 w473 k474 u475 p476 w477 w484 h0 n0 _ T492.heap _
   rw [e492]
   exact ⟨N492, rfl, KC492, f493, B492⟩
theorem pd_23 : parseMethodDescriptor "(C)Ljava/lang/AbstractStringBuilder;" = some ⟨[.char], some (.object "java/lang/AbstractStringBuilder")⟩ := by decide +kernel
theorem d20_5 : decode jdk_67_method_14_code 5 = .ok (.pop, 1) := by decide +kernel
theorem d20_6 : decode jdk_67_method_14_code 6 = .ok (.aload_n 0, 1) := by decide +kernel
theorem d20_7 : decode jdk_67_method_14_code 7 = .ok (.areturn, 1) := by decide +kernel
theorem ef_20_vv (m : MethodId) (x0 : Addr) (x1 : Int32) : entryFrame m #[(.ref x0), (.int x1)] 2 = mkF m 0 #[.val (.ref x0), .val (.int x1)] [] := by first | (simp [entryFrame, mkF, argsToLocals, Value.category]; done) | rfl
def Qr20_1 (Z : State) (a456 : Addr) (p457 : Int32) (w495 : Int32) (w496 : Addr) (k497 : ClassId) (u498 : Nat → Int32) (p499 : Int32) (w500 : Int32) (w501 : Int32) (h0 : Heap) (n0 : Nat) (v : Option Value) (h : Heap) (L : List Loc) : Prop := Fr n0 L ∧ v = some (.ref a456) ∧ KSx h0 h [(a456, Jvm.RoadKit.slotOf Z "java/lang/AbstractStringBuilder" "count" "I")] [w496] ∧ Fld Z h a456 "java/lang/AbstractStringBuilder" "count" "I" (.int (w495 + (1 : Int32))) ∧ BA Z h w496 k497 .byte p499 (fun i => if i = (w495).toNatClampNeg then (p457.toInt8.toInt32).toInt8.toInt32 else u498 i)
theorem r20_1 (l : Launch) (Z : State) (a0 : Array Value) (hw : ∀ d ∈ tables_1, d.before a0 Z = true) (a456 : Addr) (p457 : Int32) (w495 : Int32) (w496 : Addr) (k497 : ClassId) (u498 : Nat → Int32) (p499 : Int32) (w500 : Int32) (w501 : Int32) (h0 : Heap) (n0 : Nat) (Z0 : n0 ≤ h0.size) (H0 : Fld Z h0 a456 "java/lang/AbstractStringBuilder" "count" "I" (.int w495)) (H1 : Fld Z h0 a456 "java/lang/AbstractStringBuilder" "value" "[B" (.ref w496)) (H2 : BA Z h0 w496 k497 .byte p499 u498) (H3 : Fld Z h0 a456 "java/lang/AbstractStringBuilder" "coder" "B" (.int w500)) (H4 : ¬ ((0 : Int32) < ((w495 + (1 : Int32)) - (p499 >>> (w500 &&& 31))))) (H5 : Exa Z h0 a456 "java/lang/StringBuilder") (H6 : Sta Z h0 "java/lang/String" "COMPACT_STRINGS" "Z" (.int w501)) (H7 : ¬ (w501 = (0 : Int32))) (H8 : w500 = (0 : Int32)) (H9 : ¬ ((255 : Int32) < p457)) (H10 : n0 ≤ a456) (H11 : w496 ≠ a456) (H12 : ¬ (w495 < (0 : Int32))) (H13 : w495 < p499) (H14 : n0 ≤ w496) (H15 : a456 ≠ w496) :
   OMet l Z mN29 jdk_67_method_14_code 2 (some (.object "java/lang/StringBuilder")) [] ({ frames := 2, cells := 0, slots := 0, locals := 27 } : Room) h0 #[(.ref a456), (.int p457)] (Qr20_1 Z a456 p457 w495 w496 k497 u498 p499 w500 w501 h0 n0) := by
 refine MetFree.of_bodySF (plainFor_of_name pn_java_lang_StringBuilder) hisR ?_
 intro p e s m args below meth c s₁ Bd hml0 hP hK
 obtain ⟨rfl, hZ, hh⟩ := hP
 have hx := Bd.exec
 have hby := Bd.bytes
 have hml : c.maxLocals = 2 := hml0
 have hown : s.vm.findClass "java/lang/StringBuilder" = some m.cls := findClass_of_methodNamed Bd.named
 have hnm := (name_of_methodNamed Bd.named Bd.method).1
 have X0 : Stand p l e ({ frames := 2, cells := 0, slots := 0, locals := 27 } : Room) s m #[(.ref a456), (.int p457)] below meth c s₁ [] 0 0 := Stand.of_body Bd
 have e0 : s₁.heap = h0 := by rw [← hh, Bd.state]; rfl
 have N0 := Fr.nil n0
 have pre0 : ∀ t, Steps p.tables e below (s₁.setTop (mkF m 0 #[vR a456, vI p457] [])) t → Steps p.tables e below (s₁.setTop (entryFrame m #[(.ref a456), (.int p457)] 2)) t := fun t k => castTop (ef_20_vv m a456 p457) k
 obtain ⟨_, _, ⟨T494, L494, k494, n494⟩, -, X494, ⟨Lc494, hQ494, l494, y494, z494⟩, st494⟩ := superBack X0 hx hZ (y := mN28) hown (tw hw 148 rfl) (own_same (y := mN28) (by decide) (tw hw 149 rfl) (own_nf (args := a0) (w := mN15) rfl (tw hw 92 rfl))) (tw hw 149 rfl) (tw hw 71 rfl) (by decide) (backOf (W := 0) (r21_1 l Z a0 hw a456 p457 w495 w496 k497 u498 p499 w500 w501 h0 n0 Z0 H0 H1 H2 H3 H4 H5 H6 H7 H8 H9 H10 H11 H12 H13 H14 H15) hZ (tw hw 151 rfl) (tw hw 48 rfl) (by decide) (by decide)) e0 (Ins.self H5) (g := (mkF m 2 #[vR a456, vI p457] [(.int p457), (.ref a456)])) rfl (by rw [hml]; rfl) (tw hw 151 rfl) (argsL := [(.int p457)]) (rest := []) (lenOf pd_23 rfl) rfl (own_w _) (hb hby d20_2) (fun _ _ => ⟨rfl, e0, (by decide : 0 + 0 ≤ _), (by decide : 0 + 0 ≤ _)⟩)
 dsimp only [Pt.U, Pt.locs, Pt.cells, Pt.slots] at X494 l494 y494 z494 st494 hQ494
 replace X494 := own_mvX X494 (a := 0) (b := 0) y494 z494
 obtain ⟨N494q, rfl, K494, o494_0, o494_1⟩ := hQ494
 have N494 := own_mvN l494 N0 N494q
 have KC494 := KSx.trans (KSx.refl h0 [(a456, Jvm.RoadKit.slotOf Z "java/lang/AbstractStringBuilder" "count" "I")] [w496]) K494 (ksS (Or.inl (List.mem_of_getElem? (i := 0) rfl)) ks0) (allS (Or.inl (List.mem_of_getElem? (i := 0) rfl)) all0)
 obtain ⟨fs, hr, hrun, hended, hW, hsame⟩ := X494.leave (v := some (.ref a456)) (fun h => by rw [Bd.returns] at h; cases h)
 refine ⟨_, _, pre0 _ ?_, hrun, hended, _, _, rfl, ?_, ⟨_, rfl⟩, hW, hsame.mono (by decide) (by decide)⟩
 · show SG p e below s₁ (mkF m 0 #[vR a456, vI p457] []) _
   refine XS.aloadN X0.here hx rfl (hb hby d20_0) rfl rfl ?_
   show SG p e below s₁ (mkF m 1 #[vR a456, vI p457] [(.ref a456)]) _
   refine XS.iloadN X0.here hx rfl (hb hby d20_1) rfl ?_
   show SG p e below s₁ (mkF m 2 #[vR a456, vI p457] [(.int p457), (.ref a456)]) _
   refine st494.trans ?_
   show SG p e below T494 (mkF m 5 #[vR a456, vI p457] [(.ref a456)]) _
   refine XS.pop X494.here hx rfl (hb hby d20_5) rfl rfl ?_
   show SG p e below T494 (mkF m 6 #[vR a456, vI p457] []) _
   refine XS.aloadN X494.here hx rfl (hb hby d20_6) rfl rfl ?_
   show SG p e below T494 (mkF m 7 #[vR a456, vI p457] [(.ref a456)]) _
   jvm_step X494.here [X494.here.top, hx, (hb hby d20_7), X494.method', Bd.returns, Value.isRef, FieldType.isReference]
   first | (intro acts; rw [hr _ acts rfl rfl rfl]) | rw [hr _ _ rfl rfl rfl]
   exact Steps.refl _
 · show Qr20_1 Z a456 p457 w495 w496 k497 u498 p499 w500 w501 h0 n0 _ T494.heap _
   exact ⟨N494, rfl, KC494, o494_0, o494_1⟩
theorem pd_24 : parseMethodDescriptor "(C)Ljava/lang/StringBuilder;" = some ⟨[.char], some (.object "java/lang/StringBuilder")⟩ := by decide +kernel
theorem d3_29 : decode prog_12_method_2_code 29 = .ok (.ldc 42, 2) := by decide +kernel
theorem d3_31 : decode prog_12_method_2_code 31 = .ok (.invokevirtual 26, 3) := by decide +kernel
theorem d3_34 : decode prog_12_method_2_code 34 = .ok (.aload_n 0, 1) := by decide +kernel
theorem d3_35 : decode prog_12_method_2_code 35 = .ok (.getfield 17, 3) := by decide +kernel
theorem d3_38 : decode prog_12_method_2_code 38 = .ok (.ifCond .eq 7, 3) := by decide +kernel
theorem d3_45 : decode prog_12_method_2_code 45 = .ok (.iconst 1, 1) := by decide +kernel
theorem d3_46 : decode prog_12_method_2_code 46 = .ok (.invokevirtual 30, 3) := by decide +kernel
abbrev la33 (a636 : Addr) (p637 : Int32) (w638 : Int32) : Array Slot := #[vR a636, vI p637, vI w638, vI (w638 + (SBG.strSizeOf p637))]
theorem d3_49 : decode prog_12_method_2_code 49 = .ok (.invokevirtual 44, 3) := by decide +kernel
theorem d23_0 : decode jdk_67_method_42_code 0 = .ok (.new 18, 3) := by decide +kernel
theorem d23_3 : decode jdk_67_method_42_code 3 = .ok (.dup, 1) := by decide +kernel
theorem d23_4 : decode jdk_67_method_42_code 4 = .ok (.aload_n 0, 1) := by decide +kernel
theorem d23_5 : decode jdk_67_method_42_code 5 = .ok (.invokespecial 137, 3) := by decide +kernel
theorem d24_0 : decode jdk_42_method_53_code 0 = .ok (.aload_n 0, 1) := by decide +kernel
theorem d24_1 : decode jdk_42_method_53_code 1 = .ok (.aload_n 1, 1) := by decide +kernel
theorem d24_2 : decode jdk_42_method_53_code 2 = .ok (.aconst_null, 1) := by decide +kernel
theorem d24_3 : decode jdk_42_method_53_code 3 = .ok (.invokespecial 489, 3) := by decide +kernel
theorem d25_0 : decode jdk_42_method_150_code 0 = .ok (.aload_n 0, 1) := by decide +kernel
theorem d25_1 : decode jdk_42_method_150_code 1 = .ok (.invokespecial 1, 3) := by decide +kernel
theorem d25_4 : decode jdk_42_method_150_code 4 = .ok (.aload_n 1, 1) := by decide +kernel
theorem d25_5 : decode jdk_42_method_150_code 5 = .ok (.invokevirtual 552, 3) := by decide +kernel
theorem d26_0 : decode jdk_68_method_64_code 0 = .ok (.aload_n 0, 1) := by decide +kernel
theorem d26_1 : decode jdk_68_method_64_code 1 = .ok (.getfield 15, 3) := by decide +kernel
theorem d26_4 : decode jdk_68_method_64_code 4 = .ok (.areturn, 1) := by decide +kernel
theorem ef_26_v (m : MethodId) (x0 : Addr) : entryFrame m #[(.ref x0)] 1 = mkF m 0 #[.val (.ref x0)] [] := by first | (simp [entryFrame, mkF, argsToLocals, Value.category]; done) | rfl
theorem r26_1 (l : Launch) (Z : State) (a0 : Array Value) (hw : ∀ d ∈ tables_1, d.before a0 Z = true) (a707 : Addr) (w708 : Addr) (h0 : Heap) (n0 : Nat) (Z0 : n0 ≤ h0.size) (H0 : Fld Z h0 a707 "java/lang/AbstractStringBuilder" "value" "[B" (.ref w708)) :
   OMet l Z mN30 jdk_68_method_64_code 1 (some (.array .byte)) [] ({ frames := 0, cells := 0, slots := 0, locals := 0 } : Room) h0 #[(.ref a707)] (OQp (some (.ref w708)) h0 n0) := by
 refine MetFree.of_bodySF (plainFor_of_name pn_java_lang_AbstractStringBuilder) hisR ?_
 intro p e s m args below meth c s₁ Bd hml0 hP hK
 obtain ⟨rfl, hZ, hh⟩ := hP
 have hx := Bd.exec
 have hby := Bd.bytes
 have hml : c.maxLocals = 1 := hml0
 have hown : s.vm.findClass "java/lang/AbstractStringBuilder" = some m.cls := findClass_of_methodNamed Bd.named
 have hnm := (name_of_methodNamed Bd.named Bd.method).1
 have X0 : Stand p l e ({ frames := 0, cells := 0, slots := 0, locals := 0 } : Room) s m #[(.ref a707)] below meth c s₁ [] 0 0 := Stand.of_body Bd
 have e0 : s₁.heap = h0 := by rw [← hh, Bd.state]; rfl
 have N0 := Fr.nil n0
 have pre0 : ∀ t, Steps p.tables e below (s₁.setTop (mkF m 0 #[vR a707] [])) t → Steps p.tables e below (s₁.setTop (entryFrame m #[(.ref a707)] 1)) t := fun t k => castTop (ef_26_v m a707) k
 obtain ⟨T709, X709, e709, st709⟩ := getF X0 hx hZ hown (host := "") (Or.inl (tw hw 54 rfl)) Via.refl e0 H0 (g := (mkF m 1 #[vR a707] [(.ref a707)])) rfl rfl (hb hby d26_1)
 obtain ⟨fs, hr, hrun, hended, hW, hsame⟩ := X709.leave (v := some (.ref w708)) (fun h => by rw [Bd.returns] at h; cases h)
 refine ⟨_, _, pre0 _ ?_, hrun, hended, _, _, rfl, ?_, ⟨_, rfl⟩, hW, hsame.mono (by decide) (by decide)⟩
 · show SG p e below s₁ (mkF m 0 #[vR a707] []) _
   refine XS.aloadN X0.here hx rfl (hb hby d26_0) rfl rfl ?_
   show SG p e below s₁ (mkF m 1 #[vR a707] [(.ref a707)]) _
   refine st709 _ ?_
   show SG p e below T709 (mkF m 4 #[vR a707] [(.ref w708)]) _
   jvm_step X709.here [X709.here.top, hx, (hb hby d26_4), X709.method', Bd.returns, Value.isRef, FieldType.isReference]
   first | (intro acts; rw [hr _ acts rfl rfl rfl]) | rw [hr _ _ rfl rfl rfl]
   exact Steps.refl _
 · show OQp (some (.ref w708)) h0 n0 _ T709.heap _
   rw [e709]
   exact ⟨rfl, N0, rfl⟩
theorem pd_25 : parseMethodDescriptor "()[B" = some ⟨[], some (.array .byte)⟩ := by decide +kernel
theorem d25_8 : decode jdk_42_method_150_code 8 = .ok (.astore_n 3, 1) := by decide +kernel
theorem d25_9 : decode jdk_42_method_150_code 9 = .ok (.aload_n 1, 1) := by decide +kernel
theorem d25_10 : decode jdk_42_method_150_code 10 = .ok (.invokevirtual 549, 3) := by decide +kernel
theorem d27_0 : decode jdk_67_method_93_code 0 = .ok (.aload_n 0, 1) := by decide +kernel
theorem d27_1 : decode jdk_67_method_93_code 1 = .ok (.invokespecial 343, 3) := by decide +kernel
theorem d28_0 : decode jdk_68_method_6_code 0 = .ok (.aload_n 0, 1) := by decide +kernel
theorem d28_1 : decode jdk_68_method_6_code 1 = .ok (.getfield 79, 3) := by decide +kernel
theorem d28_4 : decode jdk_68_method_6_code 4 = .ok (.ireturn, 1) := by decide +kernel
theorem ef_28_v (m : MethodId) (x0 : Addr) : entryFrame m #[(.ref x0)] 1 = mkF m 0 #[.val (.ref x0)] [] := by first | (simp [entryFrame, mkF, argsToLocals, Value.category]; done) | rfl
theorem r28_1 (l : Launch) (Z : State) (a0 : Array Value) (hw : ∀ d ∈ tables_1, d.before a0 Z = true) (a713 : Addr) (w714 : Int32) (h0 : Heap) (n0 : Nat) (Z0 : n0 ≤ h0.size) (H0 : Fld Z h0 a713 "java/lang/AbstractStringBuilder" "count" "I" (.int w714)) :
   OMet l Z mN31 jdk_68_method_6_code 1 (some .int) [] ({ frames := 0, cells := 0, slots := 0, locals := 0 } : Room) h0 #[(.ref a713)] (OQp (some (.int w714)) h0 n0) := by
 refine MetFree.of_bodySF (plainFor_of_name pn_java_lang_AbstractStringBuilder) hisR ?_
 intro p e s m args below meth c s₁ Bd hml0 hP hK
 obtain ⟨rfl, hZ, hh⟩ := hP
 have hx := Bd.exec
 have hby := Bd.bytes
 have hml : c.maxLocals = 1 := hml0
 have hown : s.vm.findClass "java/lang/AbstractStringBuilder" = some m.cls := findClass_of_methodNamed Bd.named
 have hnm := (name_of_methodNamed Bd.named Bd.method).1
 have X0 : Stand p l e ({ frames := 0, cells := 0, slots := 0, locals := 0 } : Room) s m #[(.ref a713)] below meth c s₁ [] 0 0 := Stand.of_body Bd
 have e0 : s₁.heap = h0 := by rw [← hh, Bd.state]; rfl
 have N0 := Fr.nil n0
 have pre0 : ∀ t, Steps p.tables e below (s₁.setTop (mkF m 0 #[vR a713] [])) t → Steps p.tables e below (s₁.setTop (entryFrame m #[(.ref a713)] 1)) t := fun t k => castTop (ef_28_v m a713) k
 obtain ⟨T715, X715, e715, st715⟩ := getF X0 hx hZ hown (host := "") (Or.inl (tw hw 87 rfl)) Via.refl e0 H0 (g := (mkF m 1 #[vR a713] [(.ref a713)])) rfl rfl (hb hby d28_1)
 obtain ⟨fs, hr, hrun, hended, hW, hsame⟩ := X715.leave (v := some (.int w714)) (fun h => by rw [Bd.returns] at h; cases h)
 refine ⟨_, _, pre0 _ ?_, hrun, hended, _, _, rfl, ?_, ⟨_, rfl⟩, hW, hsame.mono (by decide) (by decide)⟩
 · show SG p e below s₁ (mkF m 0 #[vR a713] []) _
   refine XS.aloadN X0.here hx rfl (hb hby d28_0) rfl rfl ?_
   show SG p e below s₁ (mkF m 1 #[vR a713] [(.ref a713)]) _
   refine st715 _ ?_
   show SG p e below T715 (mkF m 4 #[vR a713] [(.int w714)]) _
   exact retI X715 hx Bd.returns (hb hby d28_4) hr
 · show OQp (some (.int w714)) h0 n0 _ T715.heap _
   rw [e715]
   exact ⟨rfl, N0, rfl⟩
theorem d27_4 : decode jdk_67_method_93_code 4 = .ok (.ireturn, 1) := by decide +kernel
theorem ef_27_v (m : MethodId) (x0 : Addr) : entryFrame m #[(.ref x0)] 1 = mkF m 0 #[.val (.ref x0)] [] := by first | (simp [entryFrame, mkF, argsToLocals, Value.category]; done) | rfl
theorem r27_1 (l : Launch) (Z : State) (a0 : Array Value) (hw : ∀ d ∈ tables_1, d.before a0 Z = true) (a712 : Addr) (w717 : Int32) (h0 : Heap) (n0 : Nat) (Z0 : n0 ≤ h0.size) (H0 : Fld Z h0 a712 "java/lang/AbstractStringBuilder" "count" "I" (.int w717)) (H1 : Exa Z h0 a712 "java/lang/StringBuilder") :
   OMet l Z mN32 jdk_67_method_93_code 1 (some .int) [] ({ frames := 1, cells := 0, slots := 0, locals := 12 } : Room) h0 #[(.ref a712)] (OQp (some (.int w717)) h0 n0) := by
 refine MetFree.of_bodySF (plainFor_of_name pn_java_lang_StringBuilder) hisR ?_
 intro p e s m args below meth c s₁ Bd hml0 hP hK
 obtain ⟨rfl, hZ, hh⟩ := hP
 have hx := Bd.exec
 have hby := Bd.bytes
 have hml : c.maxLocals = 1 := hml0
 have hown : s.vm.findClass "java/lang/StringBuilder" = some m.cls := findClass_of_methodNamed Bd.named
 have hnm := (name_of_methodNamed Bd.named Bd.method).1
 have X0 : Stand p l e ({ frames := 1, cells := 0, slots := 0, locals := 12 } : Room) s m #[(.ref a712)] below meth c s₁ [] 0 0 := Stand.of_body Bd
 have e0 : s₁.heap = h0 := by rw [← hh, Bd.state]; rfl
 have N0 := Fr.nil n0
 have pre0 : ∀ t, Steps p.tables e below (s₁.setTop (mkF m 0 #[vR a712] [])) t → Steps p.tables e below (s₁.setTop (entryFrame m #[(.ref a712)] 1)) t := fun t k => castTop (ef_27_v m a712) k
 obtain ⟨_, _, ⟨T716, L716, k716, n716⟩, -, X716, ⟨Lc716, hQ716, l716, y716, z716⟩, st716⟩ := superBack X0 hx hZ (y := mN31) hown (tw hw 182 rfl) (own_same (y := mN31) (by decide) (tw hw 178 rfl) (own_nf (args := a0) (w := mN15) rfl (tw hw 92 rfl))) (tw hw 178 rfl) (tw hw 71 rfl) (by decide) (backOf (W := 0) (r28_1 l Z a0 hw a712 w717 h0 n0 Z0 H0) hZ (tw hw 183 rfl) (tw hw 48 rfl) (by decide) (by decide)) e0 (Ins.self H1) (g := (mkF m 1 #[vR a712] [(.ref a712)])) rfl (by rw [hml]; rfl) (tw hw 183 rfl) (argsL := []) (rest := []) (lenOf pd_11 rfl) rfl (own_w _) (hb hby d27_1) (fun _ _ => ⟨rfl, e0, (by decide : 0 + 0 ≤ _), (by decide : 0 + 0 ≤ _)⟩)
 dsimp only [Pt.U, Pt.locs, Pt.cells, Pt.slots] at X716 l716 y716 z716 st716 hQ716
 replace X716 := own_mvX X716 (a := 0) (b := 0) y716 z716
 obtain ⟨rfl, N716q, e716⟩ := hQ716
 have N716 := own_mvN l716 N0 N716q
 obtain ⟨fs, hr, hrun, hended, hW, hsame⟩ := X716.leave (v := some (.int w717)) (fun h => by rw [Bd.returns] at h; cases h)
 refine ⟨_, _, pre0 _ ?_, hrun, hended, _, _, rfl, ?_, ⟨_, rfl⟩, hW, hsame.mono (by decide) (by decide)⟩
 · show SG p e below s₁ (mkF m 0 #[vR a712] []) _
   refine XS.aloadN X0.here hx rfl (hb hby d27_0) rfl rfl ?_
   show SG p e below s₁ (mkF m 1 #[vR a712] [(.ref a712)]) _
   refine st716.trans ?_
   show SG p e below T716 (mkF m 4 #[vR a712] [(.int w717)]) _
   exact retI X716 hx Bd.returns (hb hby d27_4) hr
 · show OQp (some (.int w717)) h0 n0 _ T716.heap _
   rw [e716]
   exact ⟨rfl, N716, rfl⟩
theorem d25_13 : decode jdk_42_method_150_code 13 = .ok (.istore 4, 2) := by decide +kernel
theorem d25_15 : decode jdk_42_method_150_code 15 = .ok (.aload_n 1, 1) := by decide +kernel
theorem d25_16 : decode jdk_42_method_150_code 16 = .ok (.invokevirtual 1047, 3) := by decide +kernel
theorem d25_19 : decode jdk_42_method_150_code 19 = .ok (.ifCond .eq 22, 3) := by decide +kernel
theorem d25_22 : decode jdk_42_method_150_code 22 = .ok (.aload_n 0, 1) := by decide +kernel
theorem d25_23 : decode jdk_42_method_150_code 23 = .ok (.iconst 0, 1) := by decide +kernel
theorem d25_24 : decode jdk_42_method_150_code 24 = .ok (.putfield 15, 3) := by decide +kernel
theorem d25_27 : decode jdk_42_method_150_code 27 = .ok (.aload_n 0, 1) := by decide +kernel
theorem d25_28 : decode jdk_42_method_150_code 28 = .ok (.aload_n 3, 1) := by decide +kernel
theorem d25_29 : decode jdk_42_method_150_code 29 = .ok (.iconst 0, 1) := by decide +kernel
theorem d25_30 : decode jdk_42_method_150_code 30 = .ok (.iload 4, 2) := by decide +kernel
theorem d25_32 : decode jdk_42_method_150_code 32 = .ok (.invokestatic 54, 3) := by decide +kernel
theorem d29_0 : decode jdk_65_method_132_code 0 = .ok (.iload_n 1, 1) := by decide +kernel
theorem d29_1 : decode jdk_65_method_132_code 1 = .ok (.ifCond .ne 9, 3) := by decide +kernel
theorem d29_4 : decode jdk_65_method_132_code 4 = .ok (.iload_n 2, 1) := by decide +kernel
theorem d29_5 : decode jdk_65_method_132_code 5 = .ok (.aload_n 0, 1) := by decide +kernel
theorem d29_6 : decode jdk_65_method_132_code 6 = .ok (.arraylength, 1) := by decide +kernel
theorem d29_7 : decode jdk_65_method_132_code 7 = .ok (.if_icmp .eq 10, 3) := by decide +kernel
theorem d29_10 : decode jdk_65_method_132_code 10 = .ok (.aload_n 0, 1) := by decide +kernel
theorem d29_11 : decode jdk_65_method_132_code 11 = .ok (.iload_n 1, 1) := by decide +kernel
theorem d29_12 : decode jdk_65_method_132_code 12 = .ok (.iload_n 2, 1) := by decide +kernel
theorem d29_13 : decode jdk_65_method_132_code 13 = .ok (.invokestatic 339, 3) := by decide +kernel
theorem d30_0 : decode jdk_65_method_133_code 0 = .ok (.iload_n 1, 1) := by decide +kernel
theorem d30_1 : decode jdk_65_method_133_code 1 = .ok (.iload_n 2, 1) := by decide +kernel
theorem d30_2 : decode jdk_65_method_133_code 2 = .ok (.invokestatic 343, 3) := by decide +kernel
theorem d31_0 : decode jdk_65_method_131_code 0 = .ok (.iload_n 1, 1) := by decide +kernel
theorem d31_1 : decode jdk_65_method_131_code 1 = .ok (.iload_n 0, 1) := by decide +kernel
theorem d31_2 : decode jdk_65_method_131_code 2 = .ok (.if_icmp .ge 35, 3) := by decide +kernel
theorem d31_37 : decode jdk_65_method_131_code 37 = .ok (.return_, 1) := by decide +kernel
theorem pn_java_util_Arrays : plainName "java/util/Arrays" = true := by first | (simp [plainName, overriddenIn]; done) | decide +kernel
theorem ef_31_vv (m : MethodId) (x0 : Int32) (x1 : Int32) : entryFrame m #[(.int x0), (.int x1)] 2 = mkF m 0 #[.val (.int x0), .val (.int x1)] [] := by first | (simp [entryFrame, mkF, argsToLocals, Value.category]; done) | rfl
theorem r31_1 (l : Launch) (Z : State) (a0 : Array Value) (hw : ∀ d ∈ tables_1, d.before a0 Z = true) (p740 : Int32) (p741 : Int32) (h0 : Heap) (n0 : Nat) (Z0 : n0 ≤ h0.size) (H0 : ¬ (p741 < p740)) :
   OMet l Z mN33 jdk_65_method_131_code 2 none [] ({ frames := 0, cells := 0, slots := 0, locals := 0 } : Room) h0 #[(.int p740), (.int p741)] (OQp (none) h0 n0) := by
 refine MetFree.of_bodySF (plainFor_of_name pn_java_util_Arrays) hisR ?_
 intro p e s m args below meth c s₁ Bd hml0 hP hK
 obtain ⟨rfl, hZ, hh⟩ := hP
 have hx := Bd.exec
 have hby := Bd.bytes
 have hml : c.maxLocals = 2 := hml0
 have hown : s.vm.findClass "java/util/Arrays" = some m.cls := findClass_of_methodNamed Bd.named
 have hnm := (name_of_methodNamed Bd.named Bd.method).1
 have X0 : Stand p l e ({ frames := 0, cells := 0, slots := 0, locals := 0 } : Room) s m #[(.int p740), (.int p741)] below meth c s₁ [] 0 0 := Stand.of_body Bd
 have e0 : s₁.heap = h0 := by rw [← hh, Bd.state]; rfl
 have N0 := Fr.nil n0
 have pre0 : ∀ t, Steps p.tables e below (s₁.setTop (mkF m 0 #[vI p740, vI p741] [])) t → Steps p.tables e below (s₁.setTop (entryFrame m #[(.int p740), (.int p741)] 2)) t := fun t k => castTop (ef_31_vv m p740 p741) k

 obtain ⟨fs, hr, hrun, hended, hW, hsame⟩ := X0.leave (v := none) (fun _ => rfl)
 refine ⟨_, _, pre0 _ ?_, hrun, hended, _, _, rfl, ?_, ⟨_, rfl⟩, hW, hsame.mono (by decide) (by decide)⟩
 · show SG p e below s₁ (mkF m 0 #[vI p740, vI p741] []) _
   refine XS.iloadN X0.here hx rfl (hb hby d31_0) rfl ?_
   show SG p e below s₁ (mkF m 1 #[vI p740, vI p741] [(.int p741)]) _
   refine XS.iloadN X0.here hx rfl (hb hby d31_1) rfl ?_
   show SG p e below s₁ (mkF m 2 #[vI p740, vI p741] [(.int p740), (.int p741)]) _
   refine XS.icmpYes X0.here hx rfl (pc0 := 2) (pc' := 37) rfl (hb hby d31_2) rfl (flt H0).2.1 (by decide) (by decide) ?_
   show SG p e below s₁ (mkF m 37 #[vI p740, vI p741] []) _
   exact X0.returnOut hx Bd.returns (hb hby d31_37) hr
 · show OQp (none) h0 n0 _ s₁.heap _
   rw [e0]
   exact ⟨rfl, N0, rfl⟩
theorem d30_5 : decode jdk_65_method_133_code 5 = .ok (.iload_n 2, 1) := by decide +kernel
theorem d30_6 : decode jdk_65_method_133_code 6 = .ok (.iload_n 1, 1) := by decide +kernel
theorem d30_7 : decode jdk_65_method_133_code 7 = .ok (.isub, 1) := by decide +kernel
theorem d30_8 : decode jdk_65_method_133_code 8 = .ok (.istore_n 3, 1) := by decide +kernel
theorem d30_9 : decode jdk_65_method_133_code 9 = .ok (.iload_n 3, 1) := by decide +kernel
theorem d30_10 : decode jdk_65_method_133_code 10 = .ok (.newarray .byte, 2) := by decide +kernel
theorem d30_12 : decode jdk_65_method_133_code 12 = .ok (.astore 4, 2) := by decide +kernel
theorem d30_14 : decode jdk_65_method_133_code 14 = .ok (.aload_n 0, 1) := by decide +kernel
theorem d30_15 : decode jdk_65_method_133_code 15 = .ok (.iload_n 1, 1) := by decide +kernel
theorem d30_16 : decode jdk_65_method_133_code 16 = .ok (.aload 4, 2) := by decide +kernel
theorem d30_18 : decode jdk_65_method_133_code 18 = .ok (.iconst 0, 1) := by decide +kernel
theorem d30_19 : decode jdk_65_method_133_code 19 = .ok (.aload_n 0, 1) := by decide +kernel
theorem d30_20 : decode jdk_65_method_133_code 20 = .ok (.arraylength, 1) := by decide +kernel
theorem d30_21 : decode jdk_65_method_133_code 21 = .ok (.iload_n 1, 1) := by decide +kernel
theorem d30_22 : decode jdk_65_method_133_code 22 = .ok (.isub, 1) := by decide +kernel
theorem d30_23 : decode jdk_65_method_133_code 23 = .ok (.iload_n 3, 1) := by decide +kernel
theorem d30_24 : decode jdk_65_method_133_code 24 = .ok (.invokestatic 304, 3) := by decide +kernel
theorem d32_0 : decode jdk_29_method_69_code 0 = .ok (.iload_n 0, 1) := by decide +kernel
theorem d32_1 : decode jdk_29_method_69_code 1 = .ok (.iload_n 1, 1) := by decide +kernel
theorem d32_2 : decode jdk_29_method_69_code 2 = .ok (.if_icmp .gt 7, 3) := by decide +kernel
theorem d32_9 : decode jdk_29_method_69_code 9 = .ok (.iload_n 1, 1) := by decide +kernel
theorem d32_10 : decode jdk_29_method_69_code 10 = .ok (.ireturn, 1) := by decide +kernel
theorem ef_32_vv (m : MethodId) (x0 : Int32) (x1 : Int32) : entryFrame m #[(.int x0), (.int x1)] 2 = mkF m 0 #[.val (.int x0), .val (.int x1)] [] := by first | (simp [entryFrame, mkF, argsToLocals, Value.category]; done) | rfl
theorem r32_1 (l : Launch) (Z : State) (a0 : Array Value) (hw : ∀ d ∈ tables_1, d.before a0 Z = true) (p749 : Int32) (p750 : Int32) (h0 : Heap) (n0 : Nat) (Z0 : n0 ≤ h0.size) (H0 : p750 < p749) :
   OMet l Z mN34 jdk_29_method_69_code 2 (some .int) [] ({ frames := 0, cells := 0, slots := 0, locals := 0 } : Room) h0 #[(.int p749), (.int p750)] (OQp (some (.int p750)) h0 n0) := by
 refine MetFree.of_bodySF (Jvm.Free.JP.mathPlain rfl (by decide +kernel)) hisR ?_
 intro p e s m args below meth c s₁ Bd hml0 hP hK
 obtain ⟨rfl, hZ, hh⟩ := hP
 have hx := Bd.exec
 have hby := Bd.bytes
 have hml : c.maxLocals = 2 := hml0
 have hown : s.vm.findClass "java/lang/Math" = some m.cls := findClass_of_methodNamed Bd.named
 have hnm := (name_of_methodNamed Bd.named Bd.method).1
 have X0 : Stand p l e ({ frames := 0, cells := 0, slots := 0, locals := 0 } : Room) s m #[(.int p749), (.int p750)] below meth c s₁ [] 0 0 := Stand.of_body Bd
 have e0 : s₁.heap = h0 := by rw [← hh, Bd.state]; rfl
 have N0 := Fr.nil n0
 have pre0 : ∀ t, Steps p.tables e below (s₁.setTop (mkF m 0 #[vI p749, vI p750] [])) t → Steps p.tables e below (s₁.setTop (entryFrame m #[(.int p749), (.int p750)] 2)) t := fun t k => castTop (ef_32_vv m p749 p750) k

 obtain ⟨fs, hr, hrun, hended, hW, hsame⟩ := X0.leave (v := some (.int p750)) (fun h => by rw [Bd.returns] at h; cases h)
 refine ⟨_, _, pre0 _ ?_, hrun, hended, _, _, rfl, ?_, ⟨_, rfl⟩, hW, hsame.mono (by decide) (by decide)⟩
 · show SG p e below s₁ (mkF m 0 #[vI p749, vI p750] []) _
   refine XS.iloadN X0.here hx rfl (hb hby d32_0) rfl ?_
   show SG p e below s₁ (mkF m 1 #[vI p749, vI p750] [(.int p749)]) _
   refine XS.iloadN X0.here hx rfl (hb hby d32_1) rfl ?_
   show SG p e below s₁ (mkF m 2 #[vI p749, vI p750] [(.int p750), (.int p749)]) _
   refine XS.icmpYes X0.here hx rfl (pc0 := 2) (pc' := 9) rfl (hb hby d32_2) rfl (tlt H0).2.2.1 (by decide) (by decide) ?_
   show SG p e below s₁ (mkF m 9 #[vI p749, vI p750] []) _
   refine XS.iloadN X0.here hx rfl (hb hby d32_9) rfl ?_
   show SG p e below s₁ (mkF m 10 #[vI p749, vI p750] [(.int p750)]) _
   exact retI X0 hx Bd.returns (hb hby d32_10) hr
 · show OQp (some (.int p750)) h0 n0 _ s₁.heap _
   rw [e0]
   exact ⟨rfl, N0, rfl⟩
theorem pd_26 : parseMethodDescriptor "(II)I" = some ⟨[.int, .int], some .int⟩ := by decide +kernel
theorem d30_27 : decode jdk_65_method_133_code 27 = .ok (.invokestatic 150, 3) := by decide +kernel
theorem d30_30 : decode jdk_65_method_133_code 30 = .ok (.aload 4, 2) := by decide +kernel
theorem d30_32 : decode jdk_65_method_133_code 32 = .ok (.areturn, 1) := by decide +kernel
theorem ef_30_vvv (m : MethodId) (x0 : Addr) (x1 : Int32) (x2 : Int32) : entryFrame m #[(.ref x0), (.int x1), (.int x2)] 5 = mkF m 0 #[.val (.ref x0), .val (.int x1), .val (.int x2), .unset, .unset] [] := by first | (simp [entryFrame, mkF, argsToLocals, Value.category]; done) | rfl
def Qr30_1 (Z : State) (a737 : Addr) (p738 : Int32) (p739 : Int32) (k744 : ClassId) (u745 : Nat → Int32) (p746 : Int32) (h0 : Heap) (n0 : Nat) (v : Option Value) (h : Heap) (L : List Loc) : Prop := Fr n0 L ∧ ∃ b743 : Addr, ∃ k743 : ClassId, v = some (.ref b743) ∧ h0.size ≤ b743 ∧ KSx h0 h [] [] ∧ BA Z h b743 k743 .byte (p739 - p738) (fun i => if ((0 : Int32)).toNatClampNeg ≤ i ∧ i < ((0 : Int32)).toNatClampNeg + ((p739 - p738)).toNatClampNeg then u745 ((p738).toNatClampNeg + (i - ((0 : Int32)).toNatClampNeg)) else (fun _ => (0 : Int32)) i)
theorem r30_1 (l : Launch) (Z : State) (a0 : Array Value) (hw : ∀ d ∈ tables_1, d.before a0 Z = true) (a737 : Addr) (p738 : Int32) (p739 : Int32) (k744 : ClassId) (u745 : Nat → Int32) (p746 : Int32) (h0 : Heap) (n0 : Nat) (Z0 : n0 ≤ h0.size) (H0 : ¬ (p739 < p738)) (H1 : ¬ ((p739 - p738) < (0 : Int32))) (H2 : ¬ ((16 : Int32) < (p739 - p738))) (H3 : BA Z h0 a737 k744 .byte p746 u745) (H4 : (p739 - p738) < (p746 - p738)) (H5 : ¬ (p738 < (0 : Int32))) (H6 : (p738).toNatClampNeg + ((p739 - p738)).toNatClampNeg ≤ (p746).toNatClampNeg) (H7 : ((0 : Int32)).toNatClampNeg + ((p739 - p738)).toNatClampNeg ≤ ((p739 - p738)).toNatClampNeg) :
   OMet l Z mN35 jdk_65_method_133_code 5 (some (.array .byte)) [] ({ frames := 1, cells := 1, slots := 16, locals := 18 } : Room) h0 #[(.ref a737), (.int p738), (.int p739)] (Qr30_1 Z a737 p738 p739 k744 u745 p746 h0 n0) := by
 refine MetFree.of_bodySF (plainFor_of_name pn_java_util_Arrays) hisR ?_
 intro p e s m args below meth c s₁ Bd hml0 hP hK
 obtain ⟨rfl, hZ, hh⟩ := hP
 have hx := Bd.exec
 have hby := Bd.bytes
 have hml : c.maxLocals = 5 := hml0
 have hown : s.vm.findClass "java/util/Arrays" = some m.cls := findClass_of_methodNamed Bd.named
 have hnm := (name_of_methodNamed Bd.named Bd.method).1
 have X0 : Stand p l e ({ frames := 1, cells := 1, slots := 16, locals := 18 } : Room) s m #[(.ref a737), (.int p738), (.int p739)] below meth c s₁ [] 0 0 := Stand.of_body Bd
 have e0 : s₁.heap = h0 := by rw [← hh, Bd.state]; rfl
 have N0 := Fr.nil n0
 have pre0 : ∀ t, Steps p.tables e below (s₁.setTop (mkF m 0 #[vR a737, vI p738, vI p739, .unset, .unset] [])) t → Steps p.tables e below (s₁.setTop (entryFrame m #[(.ref a737), (.int p738), (.int p739)] 5)) t := fun t k => castTop (ef_30_vvv m a737 p738 p739) k
 obtain ⟨_, _, ⟨T742, L742, k742, n742⟩, -, X742, ⟨Lc742, hQ742, l742, y742, z742⟩, st742⟩ := Jvm.LawKit.callS X0 hx (y := mN33) hown (mvT hZ (tw hw 192 rfl)) (mvT hZ (tw hw 193 rfl)) (mvT hZ (tw hw 187 rfl)) (mvT hZ (tw hw 194 rfl)) (by decide) (backOf (W := 0) (r31_1 l Z a0 hw p738 p739 h0 n0 Z0 H0) hZ (tw hw 194 rfl) (tw hw 187 rfl) (by decide) (by decide)) (g := (mkF m 2 #[vR a737, vI p738, vI p739, vU, vU] [(.int p739), (.int p738)])) rfl (by rw [hml]; rfl) (argsL := [(.int p738), (.int p739)]) (rest := []) (lenOf pd_2 rfl) rfl (own_w _) (hb hby d30_2) (fun _ _ => ⟨rfl, e0, (by decide : 0 + 0 ≤ _), (by decide : 0 + 0 ≤ _)⟩)
 dsimp only [Pt.U, Pt.locs, Pt.cells, Pt.slots] at X742 l742 y742 z742 st742 hQ742
 replace X742 := own_mvX X742 (a := 0) (b := 0) y742 z742
 obtain ⟨rfl, N742q, e742⟩ := hQ742
 have N742 := own_mvN l742 N0 N742q
 obtain ⟨T743, h743, k743, X743, e743, E743, A743, st743⟩ := newP X742 hx hZ (tw hw 53 rfl) e742 (g := (mkF m 10 #[vR a737, vI p738, vI p739, vI (p739 - p738), vU] [(.int (p739 - p738))])) rfl (hb hby d30_10) rfl H1 (cap := 16) (own_cap (k := 16) (by decide) H2) (by decide) (by decide) (by decide)
 obtain ⟨b743, g743⟩ : ∃ z, z = h0.size := ⟨_, rfl⟩
 rw [← g743] at A743 st743
 have KC743 := KSx.ext (KSx.refl h0 [] []) E743
 have B743 : BA Z h743 b743 k743 .byte (p739 - p738) (fun _ => (0 : Int32)) := BA.new A743 H1 rfl rfl
 have f747 := (H3.ext E743)
 have vc748 := f747
 obtain ⟨cl748, Ar748, q748, S748, N748, Hh748, G748⟩ := vc748
 have Z743 : n0 ≤ h743.size := Nat.le_trans Z0 E743.1
 obtain ⟨_, _, ⟨T751, L751, k751, n751⟩, -, X751, ⟨Lc751, hQ751, l751, y751, z751⟩, st751⟩ := Jvm.LawKit.callS X743 hx (y := mN34) hown (mvT hZ (tw hw 195 rfl)) (mvT hZ (tw hw 196 rfl)) (mvT hZ (tw hw 197 rfl)) (mvT hZ (tw hw 198 rfl)) (by decide) (backOf (W := 4) (r32_1 l Z a0 hw (p746 - p738) (p739 - p738) h743 n0 Z743 H4) hZ (tw hw 198 rfl) (tw hw 197 rfl) (by decide) (by decide)) (g := (mkF m 24 #[vR a737, vI p738, vI p739, vI (p739 - p738), vR b743] [(.int (p739 - p738)), (.int (p746 - p738)), (.int (0 : Int32)), (.ref b743), (.int p738), (.ref a737)])) rfl (by rw [hml]; rfl) (argsL := [(.int (p746 - p738)), (.int (p739 - p738))]) (rest := [(.int (0 : Int32)), (.ref b743), (.int p738), (.ref a737)]) (lenOf pd_26 rfl) rfl (own_w _) (hb hby d30_24) (fun _ _ => ⟨rfl, e743, (by decide : 1 + 0 ≤ _), (by decide : 16 + 0 ≤ _)⟩)
 dsimp only [Pt.U, Pt.locs, Pt.cells, Pt.slots] at X751 l751 y751 z751 st751 hQ751
 replace X751 := own_mvX X751 (a := 1) (b := 16) y751 z751
 obtain ⟨rfl, N751q, e751⟩ := hQ751
 have N751 := own_mvN l751 N742 N751q
 have g752 : n0 ≤ b743 := Nat.le_trans Z0 (Nat.le_of_eq g743.symm)
 obtain ⟨T753, h753, L753, X753, e753, N753, K753, B753, st753⟩ := cpB X751 hx hZ hown (tw hw 199 rfl) (tw hw 113 rfl) (tw hw 111 rfl) (tw hw 112 rfl) e751 f747 B743 rfl H5 (by decide) H1 H6 H7 N751 g752 (g0 := (mkF m 27 #[vR a737, vI p738, vI p739, vI (p739 - p738), vR b743] [(.int (p739 - p738)), (.int (0 : Int32)), (.ref b743), (.int p738), (.ref a737)])) rfl (by rw [hml]; rfl) rfl (hb hby d30_27) (by decide) (W := 0) (own_w _) (by decide)
 have z754 : h0.size ≤ b743 := Nat.le_trans (KSx.refl h0 [] []).1 (Nat.le_of_eq g743.symm)
 have KC753 := KSx.trans KC743 K753 ks0 (allS (Or.inr z754) all0)
 obtain ⟨fs, hr, hrun, hended, hW, hsame⟩ := X753.leave (v := some (.ref b743)) (fun h => by rw [Bd.returns] at h; cases h)
 refine ⟨_, _, pre0 _ ?_, hrun, hended, _, _, rfl, ?_, ⟨_, rfl⟩, hW, hsame.mono (by decide) (by decide)⟩
 · show SG p e below s₁ (mkF m 0 #[vR a737, vI p738, vI p739, vU, vU] []) _
   refine XS.iloadN X0.here hx rfl (hb hby d30_0) rfl ?_
   show SG p e below s₁ (mkF m 1 #[vR a737, vI p738, vI p739, vU, vU] [(.int p738)]) _
   refine XS.iloadN X0.here hx rfl (hb hby d30_1) rfl ?_
   show SG p e below s₁ (mkF m 2 #[vR a737, vI p738, vI p739, vU, vU] [(.int p739), (.int p738)]) _
   refine st742 _ ?_
   show SG p e below T742 (mkF m 5 #[vR a737, vI p738, vI p739, vU, vU] []) _
   refine XS.iloadN X742.here hx rfl (hb hby d30_5) rfl ?_
   show SG p e below T742 (mkF m 6 #[vR a737, vI p738, vI p739, vU, vU] [(.int p739)]) _
   refine XS.iloadN X742.here hx rfl (hb hby d30_6) rfl ?_
   show SG p e below T742 (mkF m 7 #[vR a737, vI p738, vI p739, vU, vU] [(.int p738), (.int p739)]) _
   refine XS.isub X742.here hx rfl (hb hby d30_7) rfl ?_
   show SG p e below T742 (mkF m 8 #[vR a737, vI p738, vI p739, vU, vU] [(.int (p739 - p738))]) _
   refine XS.istoreN X742.here hx rfl (hb hby d30_8) rfl (l' := #[vR a737, vI p738, vI p739, vI (p739 - p738), vU]) rfl ?_
   show SG p e below T742 (mkF m 9 #[vR a737, vI p738, vI p739, vI (p739 - p738), vU] []) _
   refine XS.iloadN X742.here hx rfl (hb hby d30_9) rfl ?_
   show SG p e below T742 (mkF m 10 #[vR a737, vI p738, vI p739, vI (p739 - p738), vU] [(.int (p739 - p738))]) _
   refine st743 _ ?_
   show SG p e below T743 (mkF m 12 #[vR a737, vI p738, vI p739, vI (p739 - p738), vU] [(.ref b743)]) _
   refine XS.astore X743.here hx rfl (hb hby d30_12) rfl rfl (l' := #[vR a737, vI p738, vI p739, vI (p739 - p738), vR b743]) rfl ?_
   show SG p e below T743 (mkF m 14 #[vR a737, vI p738, vI p739, vI (p739 - p738), vR b743] []) _
   refine XS.aloadN X743.here hx rfl (hb hby d30_14) rfl rfl ?_
   show SG p e below T743 (mkF m 15 #[vR a737, vI p738, vI p739, vI (p739 - p738), vR b743] [(.ref a737)]) _
   refine XS.iloadN X743.here hx rfl (hb hby d30_15) rfl ?_
   show SG p e below T743 (mkF m 16 #[vR a737, vI p738, vI p739, vI (p739 - p738), vR b743] [(.int p738), (.ref a737)]) _
   refine XS.aload X743.here hx rfl (hb hby d30_16) rfl rfl ?_
   show SG p e below T743 (mkF m 18 #[vR a737, vI p738, vI p739, vI (p739 - p738), vR b743] [(.ref b743), (.int p738), (.ref a737)]) _
   refine XS.iconst X743.here hx rfl (hb hby d30_18) ?_
   show SG p e below T743 (mkF m 19 #[vR a737, vI p738, vI p739, vI (p739 - p738), vR b743] [(.int (0 : Int32)), (.ref b743), (.int p738), (.ref a737)]) _
   refine XS.aloadN X743.here hx rfl (hb hby d30_19) rfl rfl ?_
   show SG p e below T743 (mkF m 20 #[vR a737, vI p738, vI p739, vI (p739 - p738), vR b743] [(.ref a737), (.int (0 : Int32)), (.ref b743), (.int p738), (.ref a737)]) _
   refine X743.arraylength hx (by rw [e743]; exact Ar748.1) (State.isArrayOf_alike hZ.alike Ar748.2.1) (g := (mkF m 20 #[vR a737, vI p738, vI p739, vI (p739 - p738), vR b743] [(.ref a737), (.int (0 : Int32)), (.ref b743), (.int p738), (.ref a737)])) rfl rfl (hb hby d30_20) _ ?_
   rw [len_of S748 N748]
   show SG p e below T743 (mkF m 21 #[vR a737, vI p738, vI p739, vI (p739 - p738), vR b743] [(.int p746), (.int (0 : Int32)), (.ref b743), (.int p738), (.ref a737)]) _
   refine XS.iloadN X743.here hx rfl (hb hby d30_21) rfl ?_
   show SG p e below T743 (mkF m 22 #[vR a737, vI p738, vI p739, vI (p739 - p738), vR b743] [(.int p738), (.int p746), (.int (0 : Int32)), (.ref b743), (.int p738), (.ref a737)]) _
   refine XS.isub X743.here hx rfl (hb hby d30_22) rfl ?_
   show SG p e below T743 (mkF m 23 #[vR a737, vI p738, vI p739, vI (p739 - p738), vR b743] [(.int (p746 - p738)), (.int (0 : Int32)), (.ref b743), (.int p738), (.ref a737)]) _
   refine XS.iloadN X743.here hx rfl (hb hby d30_23) rfl ?_
   show SG p e below T743 (mkF m 24 #[vR a737, vI p738, vI p739, vI (p739 - p738), vR b743] [(.int (p739 - p738)), (.int (p746 - p738)), (.int (0 : Int32)), (.ref b743), (.int p738), (.ref a737)]) _
   refine st751 _ ?_
   show SG p e below T751 (mkF m 27 #[vR a737, vI p738, vI p739, vI (p739 - p738), vR b743] [(.int (p739 - p738)), (.int (0 : Int32)), (.ref b743), (.int p738), (.ref a737)]) _
   refine st753 _ ?_
   show SG p e below T753 (mkF m 30 #[vR a737, vI p738, vI p739, vI (p739 - p738), vR b743] []) _
   refine XS.aload X753.here hx rfl (hb hby d30_30) rfl rfl ?_
   show SG p e below T753 (mkF m 32 #[vR a737, vI p738, vI p739, vI (p739 - p738), vR b743] [(.ref b743)]) _
   jvm_step X753.here [X753.here.top, hx, (hb hby d30_32), X753.method', Bd.returns, Value.isRef, FieldType.isReference]
   first | (intro acts; rw [hr _ acts rfl rfl rfl]) | rw [hr _ _ rfl rfl rfl]
   exact Steps.refl _
 · show Qr30_1 Z a737 p738 p739 k744 u745 p746 h0 n0 _ T753.heap _
   rw [e753]
   exact ⟨N753, b743, k743, rfl, z754, KC753, B753⟩
theorem pd_27 : parseMethodDescriptor "([BII)[B" = some ⟨[(.array .byte), .int, .int], some (.array .byte)⟩ := by decide +kernel
theorem d29_16 : decode jdk_65_method_132_code 16 = .ok (.areturn, 1) := by decide +kernel
theorem ef_29_vvv (m : MethodId) (x0 : Addr) (x1 : Int32) (x2 : Int32) : entryFrame m #[(.ref x0), (.int x1), (.int x2)] 3 = mkF m 0 #[.val (.ref x0), .val (.int x1), .val (.int x2)] [] := by first | (simp [entryFrame, mkF, argsToLocals, Value.category]; done) | rfl
def Qr29_1 (Z : State) (a730 : Addr) (p731 : Int32) (p732 : Int32) (k733 : ClassId) (u734 : Nat → Int32) (p735 : Int32) (h0 : Heap) (n0 : Nat) (v : Option Value) (h : Heap) (L : List Loc) : Prop := Fr n0 L ∧ ∃ b755_0 : Addr, ∃ k755_0 : ClassId, v = some (.ref b755_0) ∧ h0.size ≤ b755_0 ∧ KSx h0 h [] [] ∧ BA Z h b755_0 k755_0 .byte (p732 - p731) (fun i => if ((0 : Int32)).toNatClampNeg ≤ i ∧ i < ((0 : Int32)).toNatClampNeg + ((p732 - p731)).toNatClampNeg then u734 ((p731).toNatClampNeg + (i - ((0 : Int32)).toNatClampNeg)) else (fun _ => (0 : Int32)) i)
theorem r29_1 (l : Launch) (Z : State) (a0 : Array Value) (hw : ∀ d ∈ tables_1, d.before a0 Z = true) (a730 : Addr) (p731 : Int32) (p732 : Int32) (k733 : ClassId) (u734 : Nat → Int32) (p735 : Int32) (h0 : Heap) (n0 : Nat) (Z0 : n0 ≤ h0.size) (H0 : p731 = (0 : Int32)) (H1 : BA Z h0 a730 k733 .byte p735 u734) (H2 : ¬ (p732 = p735)) (H3 : ¬ (p732 < p731)) (H4 : ¬ ((p732 - p731) < (0 : Int32))) (H5 : ¬ ((16 : Int32) < (p732 - p731))) (H6 : (p732 - p731) < (p735 - p731)) (H7 : ¬ (p731 < (0 : Int32))) (H8 : (p731).toNatClampNeg + ((p732 - p731)).toNatClampNeg ≤ (p735).toNatClampNeg) (H9 : ((0 : Int32)).toNatClampNeg + ((p732 - p731)).toNatClampNeg ≤ ((p732 - p731)).toNatClampNeg) :
   OMet l Z mN36 jdk_65_method_132_code 3 (some (.array .byte)) [] ({ frames := 2, cells := 1, slots := 16, locals := 34 } : Room) h0 #[(.ref a730), (.int p731), (.int p732)] (Qr29_1 Z a730 p731 p732 k733 u734 p735 h0 n0) := by
 refine MetFree.of_bodySF (plainFor_of_name pn_java_util_Arrays) hisR ?_
 intro p e s m args below meth c s₁ Bd hml0 hP hK
 obtain ⟨rfl, hZ, hh⟩ := hP
 have hx := Bd.exec
 have hby := Bd.bytes
 have hml : c.maxLocals = 3 := hml0
 have hown : s.vm.findClass "java/util/Arrays" = some m.cls := findClass_of_methodNamed Bd.named
 have hnm := (name_of_methodNamed Bd.named Bd.method).1
 have X0 : Stand p l e ({ frames := 2, cells := 1, slots := 16, locals := 34 } : Room) s m #[(.ref a730), (.int p731), (.int p732)] below meth c s₁ [] 0 0 := Stand.of_body Bd
 have e0 : s₁.heap = h0 := by rw [← hh, Bd.state]; rfl
 have N0 := Fr.nil n0
 have pre0 : ∀ t, Steps p.tables e below (s₁.setTop (mkF m 0 #[vR a730, vI p731, vI p732] [])) t → Steps p.tables e below (s₁.setTop (entryFrame m #[(.ref a730), (.int p731), (.int p732)] 3)) t := fun t k => castTop (ef_29_vvv m a730 p731 p732) k
 have vc736 := H1
 obtain ⟨cl736, Ar736, q736, S736, N736, Hh736, G736⟩ := vc736
 obtain ⟨_, _, ⟨T755, L755, k755, n755⟩, -, X755, ⟨Lc755, hQ755, l755, y755, z755⟩, st755⟩ := Jvm.LawKit.callS X0 hx (y := mN35) hown (mvT hZ (tw hw 189 rfl)) (mvT hZ (tw hw 190 rfl)) (mvT hZ (tw hw 187 rfl)) (mvT hZ (tw hw 191 rfl)) (by decide) (backOf (W := 0) (r30_1 l Z a0 hw a730 p731 p732 k733 u734 p735 h0 n0 Z0 H3 H4 H5 H1 H6 H7 H8 H9) hZ (tw hw 191 rfl) (tw hw 187 rfl) (by decide) (by decide)) (g := (mkF m 13 #[vR a730, vI p731, vI p732] [(.int p732), (.int p731), (.ref a730)])) rfl (by rw [hml]; rfl) (argsL := [(.ref a730), (.int p731), (.int p732)]) (rest := []) (lenOf pd_27 rfl) rfl (own_w _) (hb hby d29_13) (fun _ _ => ⟨rfl, e0, (by decide : 0 + 1 ≤ _), (by decide : 0 + 16 ≤ _)⟩)
 dsimp only [Pt.U, Pt.locs, Pt.cells, Pt.slots] at X755 l755 y755 z755 st755 hQ755
 replace X755 := own_mvX X755 (a := 1) (b := 16) y755 z755
 obtain ⟨N755q, b755_0, k755_0, rfl, ge_b755_0, K755, o755_0⟩ := hQ755
 have N755 := own_mvN l755 N0 N755q
 have KC755 := KSx.trans (KSx.refl h0 [] []) K755 ks0 all0
 obtain ⟨fs, hr, hrun, hended, hW, hsame⟩ := X755.leave (v := some (.ref b755_0)) (fun h => by rw [Bd.returns] at h; cases h)
 refine ⟨_, _, pre0 _ ?_, hrun, hended, _, _, rfl, ?_, ⟨_, rfl⟩, hW, hsame.mono (by decide) (by decide)⟩
 · show SG p e below s₁ (mkF m 0 #[vR a730, vI p731, vI p732] []) _
   refine XS.iloadN X0.here hx rfl (hb hby d29_0) rfl ?_
   show SG p e below s₁ (mkF m 1 #[vR a730, vI p731, vI p732] [(.int p731)]) _
   refine XS.ifNo X0.here hx rfl (hb hby d29_1) rfl ((if0 _ _).trans (teq H0).2) ?_
   show SG p e below s₁ (mkF m 4 #[vR a730, vI p731, vI p732] []) _
   refine XS.iloadN X0.here hx rfl (hb hby d29_4) rfl ?_
   show SG p e below s₁ (mkF m 5 #[vR a730, vI p731, vI p732] [(.int p732)]) _
   refine XS.aloadN X0.here hx rfl (hb hby d29_5) rfl rfl ?_
   show SG p e below s₁ (mkF m 6 #[vR a730, vI p731, vI p732] [(.ref a730), (.int p732)]) _
   refine X0.arraylength hx (by rw [e0]; exact Ar736.1) (State.isArrayOf_alike hZ.alike Ar736.2.1) (g := (mkF m 6 #[vR a730, vI p731, vI p732] [(.ref a730), (.int p732)])) rfl rfl (hb hby d29_6) _ ?_
   rw [len_of S736 N736]
   show SG p e below s₁ (mkF m 7 #[vR a730, vI p731, vI p732] [(.int p735), (.int p732)]) _
   refine XS.icmpNo X0.here hx rfl (hb hby d29_7) rfl (feq H2).1 ?_
   show SG p e below s₁ (mkF m 10 #[vR a730, vI p731, vI p732] []) _
   refine XS.aloadN X0.here hx rfl (hb hby d29_10) rfl rfl ?_
   show SG p e below s₁ (mkF m 11 #[vR a730, vI p731, vI p732] [(.ref a730)]) _
   refine XS.iloadN X0.here hx rfl (hb hby d29_11) rfl ?_
   show SG p e below s₁ (mkF m 12 #[vR a730, vI p731, vI p732] [(.int p731), (.ref a730)]) _
   refine XS.iloadN X0.here hx rfl (hb hby d29_12) rfl ?_
   show SG p e below s₁ (mkF m 13 #[vR a730, vI p731, vI p732] [(.int p732), (.int p731), (.ref a730)]) _
   refine st755 _ ?_
   show SG p e below T755 (mkF m 16 #[vR a730, vI p731, vI p732] [(.ref b755_0)]) _
   jvm_step X755.here [X755.here.top, hx, (hb hby d29_16), X755.method', Bd.returns, Value.isRef, FieldType.isReference]
   first | (intro acts; rw [hr _ acts rfl rfl rfl]) | rw [hr _ _ rfl rfl rfl]
   exact Steps.refl _
 · show Qr29_1 Z a730 p731 p732 k733 u734 p735 h0 n0 _ T755.heap _
   exact ⟨N755, b755_0, k755_0, rfl, (Nat.le_trans (KSx.refl h0 [] []).1 ge_b755_0), KC755, o755_0⟩
theorem d25_35 : decode jdk_42_method_150_code 35 = .ok (.putfield 9, 3) := by decide +kernel
theorem d25_38 : decode jdk_42_method_150_code 38 = .ok (.goto 59, 3) := by decide +kernel
theorem d25_97 : decode jdk_42_method_150_code 97 = .ok (.return_, 1) := by decide +kernel
theorem ef_25_vvn (m : MethodId) (x0 : Addr) (x1 : Addr) : entryFrame m #[(.ref x0), (.ref x1), .null] 5 = mkF m 0 #[.val (.ref x0), .val (.ref x1), .val .null, .unset, .unset] [] := by first | (simp [entryFrame, mkF, argsToLocals, Value.category]; done) | rfl
def Qr25_1 (Z : State) (a704 : Addr) (a705 : Addr) (w711 : Addr) (w719 : Int32) (w726 : Int32) (w727 : Int32) (w728 : Int32) (k757 : ClassId) (u758 : Nat → Int32) (p759 : Int32) (h0 : Heap) (n0 : Nat) (v : Option Value) (h : Heap) (L : List Loc) : Prop := Fr n0 L ∧ ∃ b756_0 : Addr, ∃ k756_0 : ClassId, v = none ∧ h0.size ≤ b756_0 ∧ KSx h0 h [(a704, Jvm.RoadKit.slotOf Z "java/lang/String" "coder" "B"), (a704, Jvm.RoadKit.slotOf Z "java/lang/String" "value" "[B")] [] ∧ Fld Z h a704 "java/lang/String" "coder" "B" (.int (0 : Int32)) ∧ Fld Z h a704 "java/lang/String" "value" "[B" (.ref b756_0) ∧ BA Z h b756_0 k756_0 .byte (w719 - (0 : Int32)) (fun i => if ((0 : Int32)).toNatClampNeg ≤ i ∧ i < ((0 : Int32)).toNatClampNeg + ((w719 - (0 : Int32))).toNatClampNeg then u758 (((0 : Int32)).toNatClampNeg + (i - ((0 : Int32)).toNatClampNeg)) else (fun _ => (0 : Int32)) i)
theorem r25_1 (l : Launch) (Z : State) (a0 : Array Value) (hw : ∀ d ∈ tables_1, d.before a0 Z = true) (a704 : Addr) (a705 : Addr) (w711 : Addr) (w719 : Int32) (w726 : Int32) (w727 : Int32) (w728 : Int32) (k757 : ClassId) (u758 : Nat → Int32) (p759 : Int32) (h0 : Heap) (n0 : Nat) (Z0 : n0 ≤ h0.size) (H0 : Fld Z h0 a705 "java/lang/AbstractStringBuilder" "value" "[B" (.ref w711)) (H1 : Exa Z h0 a705 "java/lang/StringBuilder") (H2 : Fld Z h0 a705 "java/lang/AbstractStringBuilder" "count" "I" (.int w719)) (H3 : Sta Z h0 "java/lang/String" "COMPACT_STRINGS" "Z" (.int w726)) (H4 : ¬ (w726 = (0 : Int32))) (H5 : Fld Z h0 a705 "java/lang/AbstractStringBuilder" "coder" "B" (.int w727)) (H6 : w727 = (0 : Int32)) (H7 : Exa Z h0 a704 "java/lang/String") (H8 : Fld Z h0 a704 "java/lang/String" "coder" "B" (.int w728)) (H9 : n0 ≤ a704) (H10 : BA Z h0 w711 k757 .byte p759 u758) (H11 : w711 ≠ a704) (H12 : ¬ (w719 = p759)) (H13 : ¬ (w719 < (0 : Int32))) (H14 : ¬ ((w719 - (0 : Int32)) < (0 : Int32))) (H15 : ¬ ((16 : Int32) < (w719 - (0 : Int32)))) (H16 : (w719 - (0 : Int32)) < (p759 - (0 : Int32))) (H17 : ((0 : Int32)).toNatClampNeg + ((w719 - (0 : Int32))).toNatClampNeg ≤ (p759).toNatClampNeg) (H18 : ((0 : Int32)).toNatClampNeg + ((w719 - (0 : Int32))).toNatClampNeg ≤ ((w719 - (0 : Int32))).toNatClampNeg) (H19 : Fld Z h0 a704 "java/lang/String" "value" "[B" .null) :
   OMet l Z mN37 jdk_42_method_150_code 5 none [] ({ frames := 3, cells := 1, slots := 16, locals := 49 } : Room) h0 #[(.ref a704), (.ref a705), .null] (Qr25_1 Z a704 a705 w711 w719 w726 w727 w728 k757 u758 p759 h0 n0) := by
 refine MetFree.of_bodySF (plainFor_of_name pn_java_lang_String) hisR ?_
 intro p e s m args below meth c s₁ Bd hml0 hP hK
 obtain ⟨rfl, hZ, hh⟩ := hP
 have hx := Bd.exec
 have hby := Bd.bytes
 have hml : c.maxLocals = 5 := hml0
 have hown : s.vm.findClass "java/lang/String" = some m.cls := findClass_of_methodNamed Bd.named
 have hnm := (name_of_methodNamed Bd.named Bd.method).1
 have X0 : Stand p l e ({ frames := 3, cells := 1, slots := 16, locals := 49 } : Room) s m #[(.ref a704), (.ref a705), .null] below meth c s₁ [] 0 0 := Stand.of_body Bd
 have e0 : s₁.heap = h0 := by rw [← hh, Bd.state]; rfl
 have N0 := Fr.nil n0
 have pre0 : ∀ t, Steps p.tables e below (s₁.setTop (mkF m 0 #[vR a704, vR a705, .val .null, .unset, .unset] [])) t → Steps p.tables e below (s₁.setTop (entryFrame m #[(.ref a704), (.ref a705), .null] 5)) t := fun t k => castTop (ef_25_vvn m a704 a705) k
 obtain ⟨T706, X706, e706, st706⟩ := initO X0 hx hZ hown (tw hw 170 rfl) (tw hw 25 rfl) (tw hw 26 rfl) e0 (g := (mkF m 1 #[vR a704, vR a705, .val .null, vU, vU] [(.ref a704)])) rfl (by rw [hml]; rfl) rfl (hb hby d25_1) (by decide) (W := 0) (own_w _) (by decide)
 obtain ⟨cq710, kq710, q710a, q710b, q710c⟩ := isOf hZ e706 H1
 obtain ⟨_, _, ⟨T710, L710, k710, n710⟩, -, X710, ⟨Lc710, hQ710, l710, y710, z710⟩, st710⟩ := X706.virtualBack hx (y := mN30) (z := mN30) hown (mvT hZ (tw hw 171 rfl)) (mvT hZ (tw hw 172 rfl)) (notFace_of_selects (args := #[]) (mvT hZ (tw hw 174 rfl))) (mvT hZ (tw hw 174 rfl)) (mvT hZ (tw hw 173 rfl)) (by decide) (backOf (W := 0) (r26_1 l Z a0 hw a705 w711 h0 n0 Z0 H0) hZ (tw hw 175 rfl) (tw hw 48 rfl) (by decide) (by decide)) q710a q710c (g := (mkF m 5 #[vR a704, vR a705, .val .null, vU, vU] [(.ref a705)])) rfl (by rw [hml]; rfl) (Steps.refl _) (argsL := []) (rest := []) (lenOf pd_25 rfl) rfl (own_w _) (hb hby d25_5) (fun _ _ => ⟨rfl, e706, (by decide : 0 + 0 ≤ _), (by decide : 0 + 0 ≤ _)⟩)
 dsimp only [Pt.U, Pt.locs, Pt.cells, Pt.slots] at X710 l710 y710 z710 st710 hQ710
 replace X710 := own_mvX X710 (a := 0) (b := 0) y710 z710
 obtain ⟨rfl, N710q, e710⟩ := hQ710
 have N710 := own_mvN l710 N0 N710q
 obtain ⟨cq718, kq718, q718a, q718b, q718c⟩ := isOf hZ e710 H1
 obtain ⟨_, _, ⟨T718, L718, k718, n718⟩, -, X718, ⟨Lc718, hQ718, l718, y718, z718⟩, st718⟩ := X710.virtualBack hx (y := mN31) (z := mN32) hown (mvT hZ (tw hw 176 rfl)) (mvT hZ (tw hw 177 rfl)) (own_nf (w := mN15) (args := #[]) rfl (mvT hZ (tw hw 92 rfl))) (mvT hZ (tw hw 179 rfl)) (mvT hZ (tw hw 180 rfl)) (by decide) (backOf (W := 0) (r27_1 l Z a0 hw a705 w719 h0 n0 Z0 H2 H1) hZ (tw hw 181 rfl) (tw hw 40 rfl) (by decide) (by decide)) q718a q718c (g := (mkF m 10 #[vR a704, vR a705, .val .null, vR w711, vU] [(.ref a705)])) rfl (by rw [hml]; rfl) (Steps.refl _) (argsL := []) (rest := []) (lenOf pd_11 rfl) rfl (own_w _) (hb hby d25_10) (fun _ _ => ⟨rfl, e710, (by decide : 0 + 0 ≤ _), (by decide : 0 + 0 ≤ _)⟩)
 dsimp only [Pt.U, Pt.locs, Pt.cells, Pt.slots] at X718 l718 y718 z718 st718 hQ718
 replace X718 := own_mvX X718 (a := 0) (b := 0) y718 z718
 obtain ⟨rfl, N718q, e718⟩ := hQ718
 have N718 := own_mvN l718 N710 N718q
 obtain ⟨cq725, kq725, q725a, q725b, q725c⟩ := isOf hZ e718 H1
 obtain ⟨_, _, ⟨T725, L725, k725, n725⟩, -, X725, ⟨Lc725, hQ725, l725, y725, z725⟩, st725⟩ := X718.virtualBack hx (y := mN22) (z := mN22) hown (mvT hZ (tw hw 184 rfl)) (mvT hZ (tw hw 128 rfl)) (notFace_of_selects (args := #[]) (mvT hZ (tw hw 130 rfl))) (mvT hZ (tw hw 130 rfl)) (mvT hZ (tw hw 129 rfl)) (by decide) (backOf (W := 0) (r17_1 l Z a0 hw a705 w726 w727 h0 n0 Z0 H3 H4 H5 H6) hZ (tw hw 131 rfl) (tw hw 48 rfl) (by decide) (by decide)) q725a q725c (g := (mkF m 16 #[vR a704, vR a705, .val .null, vR w711, vI w719] [(.ref a705)])) rfl (by rw [hml]; rfl) (Steps.refl _) (argsL := []) (rest := []) (lenOf pd_0 rfl) rfl (own_w _) (hb hby d25_16) (fun _ _ => ⟨rfl, e718, (by decide : 0 + 0 ≤ _), (by decide : 0 + 0 ≤ _)⟩)
 dsimp only [Pt.U, Pt.locs, Pt.cells, Pt.slots] at X725 l725 y725 z725 st725 hQ725
 replace X725 := own_mvX X725 (a := 0) (b := 0) y725 z725
 obtain ⟨rfl, N725q, e725⟩ := hQ725
 have N725 := own_mvN l725 N718 N725q
 obtain ⟨T729, h729, X729, e729, W729, st729⟩ := putF X725 hx hZ hown (host := "") (Or.inl (tw hw 86 rfl)) Via.refl e725 H8 H7 (Or.inr ⟨(tw hw 61 rfl), rfl, hnm⟩) (tw hw 59 rfl) (ty := .byte) (by decide) rfl rfl (g := (mkF m 24 #[vR a704, vR a705, .val .null, vR w711, vI w719] [(.int (0 : Int32)), (.ref a704)])) rfl rfl (hb hby d25_24)
 have Fw729 := Fld.same W729 H8
 have KC729 := KSx.wr (KSx.refl h0 [(a704, Jvm.RoadKit.slotOf Z "java/lang/String" "coder" "B"), (a704, Jvm.RoadKit.slotOf Z "java/lang/String" "value" "[B")] []) W729 (Or.inl (List.mem_of_getElem? (i := 0) rfl))
 have N729 := Fr.snoc X729 N725 H9
 have f760 := (H10.other W729 H11)
 have Z729 : n0 ≤ h729.size := Nat.le_trans Z0 (Nat.le_of_eq W729.size.symm)
 obtain ⟨_, _, ⟨T756, L756, k756, n756⟩, -, X756, ⟨Lc756, hQ756, l756, y756, z756⟩, st756⟩ := Jvm.LawKit.callS X729 hx (y := mN36) hown (mvT hZ (tw hw 185 rfl)) (mvT hZ (tw hw 186 rfl)) (mvT hZ (tw hw 187 rfl)) (mvT hZ (tw hw 188 rfl)) (by decide) (backOf (W := 1) (r29_1 l Z a0 hw w711 (0 : Int32) w719 k757 u758 p759 h729 n0 Z729 rfl f760 H12 H13 H14 H15 H16 (by first | decide | rfl) H17 H18) hZ (tw hw 188 rfl) (tw hw 187 rfl) (by decide) (by decide)) (g := (mkF m 32 #[vR a704, vR a705, .val .null, vR w711, vI w719] [(.int w719), (.int (0 : Int32)), (.ref w711), (.ref a704)])) rfl (by rw [hml]; rfl) (argsL := [(.ref w711), (.int (0 : Int32)), (.int w719)]) (rest := [(.ref a704)]) (lenOf pd_27 rfl) rfl (own_w _) (hb hby d25_32) (fun _ _ => ⟨rfl, e729, (by decide : 0 + 1 ≤ _), (by decide : 0 + 16 ≤ _)⟩)
 dsimp only [Pt.U, Pt.locs, Pt.cells, Pt.slots] at X756 l756 y756 z756 st756 hQ756
 replace X756 := own_mvX X756 (a := 1) (b := 16) y756 z756
 obtain ⟨N756q, b756_0, k756_0, rfl, ge_b756_0, K756, o756_0⟩ := hQ756
 have N756 := own_mvN l756 N729 N756q
 have KC756 := KSx.trans KC729 K756 ks0 all0
 have f761 := ((H7.wr W729).ks K756)
 have f762 := ((H19.other W729 (Or.inr (slot_ne (Or.inr (tw hw 60 rfl)) (Or.inr (tw hw 61 rfl)) (by decide) (t := (.array .byte)) (t' := .byte) (by decide) (by decide)))).ks K756 ks0 all0)
 obtain ⟨T763, h763, X763, e763, W763, st763⟩ := putF X756 hx hZ hown (host := "") (Or.inl (tw hw 79 rfl)) Via.refl rfl f762 f761 (Or.inr ⟨(tw hw 60 rfl), rfl, hnm⟩) (tw hw 59 rfl) (ty := (.array .byte)) (by decide) rfl rfl (g := (mkF m 35 #[vR a704, vR a705, .val .null, vR w711, vI w719] [(.ref b756_0), (.ref a704)])) rfl rfl (hb hby d25_35)
 have Fw763 := Fld.same W763 f762
 have KC763 := KSx.wr KC756 W763 (Or.inl (List.mem_of_getElem? (i := 1) rfl))
 have N763 := Fr.snoc X763 N756 H9
 have f764 := ((Fw729.ks K756 ks0 all0).other W763 (Or.inr (slot_ne (Or.inr (tw hw 61 rfl)) (Or.inr (tw hw 60 rfl)) (by decide) (t := .byte) (t' := (.array .byte)) (by decide) (by decide))))
 have f765 := (H7.wr W729)
 have ne766 : a704 ≠ b756_0 := (Nat.ne_of_lt (Nat.lt_of_lt_of_le (f765).lt ge_b756_0))
 have f767 := (o756_0.other W763 (Ne.symm ne766))
 obtain ⟨fs, hr, hrun, hended, hW, hsame⟩ := X763.leave (v := none) (fun _ => rfl)
 refine ⟨_, _, pre0 _ ?_, hrun, hended, _, _, rfl, ?_, ⟨_, rfl⟩, hW, hsame.mono (by decide) (by decide)⟩
 · show SG p e below s₁ (mkF m 0 #[vR a704, vR a705, .val .null, vU, vU] []) _
   refine XS.aloadN X0.here hx rfl (hb hby d25_0) rfl rfl ?_
   show SG p e below s₁ (mkF m 1 #[vR a704, vR a705, .val .null, vU, vU] [(.ref a704)]) _
   refine st706 _ ?_
   show SG p e below T706 (mkF m 4 #[vR a704, vR a705, .val .null, vU, vU] []) _
   refine XS.aloadN X706.here hx rfl (hb hby d25_4) rfl rfl ?_
   show SG p e below T706 (mkF m 5 #[vR a704, vR a705, .val .null, vU, vU] [(.ref a705)]) _
   refine st710.trans ?_
   show SG p e below T710 (mkF m 8 #[vR a704, vR a705, .val .null, vU, vU] [(.ref w711)]) _
   refine XS.astoreN X710.here hx rfl (hb hby d25_8) rfl rfl (l' := #[vR a704, vR a705, .val .null, vR w711, vU]) rfl ?_
   show SG p e below T710 (mkF m 9 #[vR a704, vR a705, .val .null, vR w711, vU] []) _
   refine XS.aloadN X710.here hx rfl (hb hby d25_9) rfl rfl ?_
   show SG p e below T710 (mkF m 10 #[vR a704, vR a705, .val .null, vR w711, vU] [(.ref a705)]) _
   refine st718.trans ?_
   show SG p e below T718 (mkF m 13 #[vR a704, vR a705, .val .null, vR w711, vU] [(.int w719)]) _
   refine XS.istore X718.here hx rfl (hb hby d25_13) rfl (l' := #[vR a704, vR a705, .val .null, vR w711, vI w719]) rfl ?_
   show SG p e below T718 (mkF m 15 #[vR a704, vR a705, .val .null, vR w711, vI w719] []) _
   refine XS.aloadN X718.here hx rfl (hb hby d25_15) rfl rfl ?_
   show SG p e below T718 (mkF m 16 #[vR a704, vR a705, .val .null, vR w711, vI w719] [(.ref a705)]) _
   refine st725.trans ?_
   show SG p e below T725 (mkF m 19 #[vR a704, vR a705, .val .null, vR w711, vI w719] [(.int (1 : Int32))]) _
   refine XS.ifNo X725.here hx rfl (hb hby d25_19) rfl ((if0 _ _).trans (feq (by decide : ¬ ((1 : Int32) = (0 : Int32)))).1) ?_
   show SG p e below T725 (mkF m 22 #[vR a704, vR a705, .val .null, vR w711, vI w719] []) _
   refine XS.aloadN X725.here hx rfl (hb hby d25_22) rfl rfl ?_
   show SG p e below T725 (mkF m 23 #[vR a704, vR a705, .val .null, vR w711, vI w719] [(.ref a704)]) _
   refine XS.iconst X725.here hx rfl (hb hby d25_23) ?_
   show SG p e below T725 (mkF m 24 #[vR a704, vR a705, .val .null, vR w711, vI w719] [(.int (0 : Int32)), (.ref a704)]) _
   refine st729 _ ?_
   show SG p e below T729 (mkF m 27 #[vR a704, vR a705, .val .null, vR w711, vI w719] []) _
   refine XS.aloadN X729.here hx rfl (hb hby d25_27) rfl rfl ?_
   show SG p e below T729 (mkF m 28 #[vR a704, vR a705, .val .null, vR w711, vI w719] [(.ref a704)]) _
   refine XS.aloadN X729.here hx rfl (hb hby d25_28) rfl rfl ?_
   show SG p e below T729 (mkF m 29 #[vR a704, vR a705, .val .null, vR w711, vI w719] [(.ref w711), (.ref a704)]) _
   refine XS.iconst X729.here hx rfl (hb hby d25_29) ?_
   show SG p e below T729 (mkF m 30 #[vR a704, vR a705, .val .null, vR w711, vI w719] [(.int (0 : Int32)), (.ref w711), (.ref a704)]) _
   refine XS.iload X729.here hx rfl (hb hby d25_30) rfl ?_
   show SG p e below T729 (mkF m 32 #[vR a704, vR a705, .val .null, vR w711, vI w719] [(.int w719), (.int (0 : Int32)), (.ref w711), (.ref a704)]) _
   refine st756 _ ?_
   show SG p e below T756 (mkF m 35 #[vR a704, vR a705, .val .null, vR w711, vI w719] [(.ref b756_0), (.ref a704)]) _
   refine st763 _ ?_
   show SG p e below T763 (mkF m 38 #[vR a704, vR a705, .val .null, vR w711, vI w719] []) _
   refine XS.goto X763.here hx rfl (pc0 := 38) (pc' := 97) rfl (hb hby d25_38) (by decide) (by decide) ?_
   show SG p e below T763 (mkF m 97 #[vR a704, vR a705, .val .null, vR w711, vI w719] []) _
   exact X763.returnOut hx Bd.returns (hb hby d25_97) hr
 · show Qr25_1 Z a704 a705 w711 w719 w726 w727 w728 k757 u758 p759 h0 n0 _ T763.heap _
   rw [e763]
   exact ⟨N763, b756_0, k756_0, rfl, (Nat.le_trans KC729.1 ge_b756_0), KC763, f764, Fw763, f767⟩
theorem pd_28 : parseMethodDescriptor "(Ljava/lang/AbstractStringBuilder;Ljava/lang/Void;)V" = some ⟨[(.object "java/lang/AbstractStringBuilder"), (.object "java/lang/Void")], none⟩ := by decide +kernel
theorem d24_6 : decode jdk_42_method_53_code 6 = .ok (.return_, 1) := by decide +kernel
theorem ef_24_vv (m : MethodId) (x0 : Addr) (x1 : Addr) : entryFrame m #[(.ref x0), (.ref x1)] 2 = mkF m 0 #[.val (.ref x0), .val (.ref x1)] [] := by first | (simp [entryFrame, mkF, argsToLocals, Value.category]; done) | rfl
def Qr24_1 (Z : State) (a702 : Addr) (a703 : Addr) (w769 : Addr) (w770 : Int32) (w771 : Int32) (w772 : Int32) (w773 : Int32) (k774 : ClassId) (u775 : Nat → Int32) (p776 : Int32) (h0 : Heap) (n0 : Nat) (v : Option Value) (h : Heap) (L : List Loc) : Prop := Fr n0 L ∧ ∃ b768_0 : Addr, ∃ k768_0 : ClassId, v = none ∧ h0.size ≤ b768_0 ∧ KSx h0 h [(a702, Jvm.RoadKit.slotOf Z "java/lang/String" "value" "[B"), (a702, Jvm.RoadKit.slotOf Z "java/lang/String" "coder" "B")] [] ∧ Fld Z h a702 "java/lang/String" "coder" "B" (.int (0 : Int32)) ∧ Fld Z h a702 "java/lang/String" "value" "[B" (.ref b768_0) ∧ BA Z h b768_0 k768_0 .byte (w770 - (0 : Int32)) (fun i => if ((0 : Int32)).toNatClampNeg ≤ i ∧ i < ((0 : Int32)).toNatClampNeg + ((w770 - (0 : Int32))).toNatClampNeg then u775 (((0 : Int32)).toNatClampNeg + (i - ((0 : Int32)).toNatClampNeg)) else (fun _ => (0 : Int32)) i)
theorem r24_1 (l : Launch) (Z : State) (a0 : Array Value) (hw : ∀ d ∈ tables_1, d.before a0 Z = true) (a702 : Addr) (a703 : Addr) (w769 : Addr) (w770 : Int32) (w771 : Int32) (w772 : Int32) (w773 : Int32) (k774 : ClassId) (u775 : Nat → Int32) (p776 : Int32) (h0 : Heap) (n0 : Nat) (Z0 : n0 ≤ h0.size) (H0 : Fld Z h0 a703 "java/lang/AbstractStringBuilder" "value" "[B" (.ref w769)) (H1 : Exa Z h0 a703 "java/lang/StringBuilder") (H2 : Fld Z h0 a703 "java/lang/AbstractStringBuilder" "count" "I" (.int w770)) (H3 : Sta Z h0 "java/lang/String" "COMPACT_STRINGS" "Z" (.int w771)) (H4 : ¬ (w771 = (0 : Int32))) (H5 : Fld Z h0 a703 "java/lang/AbstractStringBuilder" "coder" "B" (.int w772)) (H6 : w772 = (0 : Int32)) (H7 : Exa Z h0 a702 "java/lang/String") (H8 : Fld Z h0 a702 "java/lang/String" "coder" "B" (.int w773)) (H9 : n0 ≤ a702) (H10 : BA Z h0 w769 k774 .byte p776 u775) (H11 : w769 ≠ a702) (H12 : ¬ (w770 = p776)) (H13 : ¬ (w770 < (0 : Int32))) (H14 : ¬ ((w770 - (0 : Int32)) < (0 : Int32))) (H15 : ¬ ((16 : Int32) < (w770 - (0 : Int32)))) (H16 : (w770 - (0 : Int32)) < (p776 - (0 : Int32))) (H17 : ((0 : Int32)).toNatClampNeg + ((w770 - (0 : Int32))).toNatClampNeg ≤ (p776).toNatClampNeg) (H18 : ((0 : Int32)).toNatClampNeg + ((w770 - (0 : Int32))).toNatClampNeg ≤ ((w770 - (0 : Int32))).toNatClampNeg) (H19 : Fld Z h0 a702 "java/lang/String" "value" "[B" .null) :
   OMet l Z mN38 jdk_42_method_53_code 2 none [] ({ frames := 4, cells := 1, slots := 16, locals := 65 } : Room) h0 #[(.ref a702), (.ref a703)] (Qr24_1 Z a702 a703 w769 w770 w771 w772 w773 k774 u775 p776 h0 n0) := by
 refine MetFree.of_bodySF (plainFor_of_name pn_java_lang_String) hisR ?_
 intro p e s m args below meth c s₁ Bd hml0 hP hK
 obtain ⟨rfl, hZ, hh⟩ := hP
 have hx := Bd.exec
 have hby := Bd.bytes
 have hml : c.maxLocals = 2 := hml0
 have hown : s.vm.findClass "java/lang/String" = some m.cls := findClass_of_methodNamed Bd.named
 have hnm := (name_of_methodNamed Bd.named Bd.method).1
 have X0 : Stand p l e ({ frames := 4, cells := 1, slots := 16, locals := 65 } : Room) s m #[(.ref a702), (.ref a703)] below meth c s₁ [] 0 0 := Stand.of_body Bd
 have e0 : s₁.heap = h0 := by rw [← hh, Bd.state]; rfl
 have N0 := Fr.nil n0
 have pre0 : ∀ t, Steps p.tables e below (s₁.setTop (mkF m 0 #[vR a702, vR a703] [])) t → Steps p.tables e below (s₁.setTop (entryFrame m #[(.ref a702), (.ref a703)] 2)) t := fun t k => castTop (ef_24_vv m a702 a703) k
 obtain ⟨_, _, ⟨T768, L768, k768, n768⟩, -, X768, ⟨Lc768, hQ768, l768, y768, z768⟩, st768⟩ := X0.specialBack hx (y := mN37) rfl hown (mvT hZ (tw hw 167 rfl)) (mvT hZ (tw hw 168 rfl)) (mvT hZ (tw hw 169 rfl)) (by decide) (backOf (W := 0) (r25_1 l Z a0 hw a702 a703 w769 w770 w771 w772 w773 k774 u775 p776 h0 n0 Z0 H0 H1 H2 H3 H4 H5 H6 H7 H8 H9 H10 H11 H12 H13 H14 H15 H16 H17 H18 H19) hZ (tw hw 169 rfl) (tw hw 52 rfl) (by decide) (by decide)) (g := (mkF m 3 #[vR a702, vR a703] [.null, (.ref a703), (.ref a702)])) rfl (by rw [hml]; rfl) (Steps.refl _) (a := a702) (argsL := [(.ref a703), .null]) (rest := []) (lenOf pd_28 rfl) rfl (own_w _) (hb hby d24_3) (fun _ _ => ⟨rfl, e0, (by decide : 0 + 1 ≤ _), (by decide : 0 + 16 ≤ _)⟩)
 dsimp only [Pt.U, Pt.locs, Pt.cells, Pt.slots] at X768 l768 y768 z768 st768 hQ768
 replace X768 := own_mvX X768 (a := 1) (b := 16) y768 z768
 obtain ⟨N768q, b768_0, k768_0, rfl, ge_b768_0, K768, o768_0, o768_1, o768_2⟩ := hQ768
 have N768 := own_mvN l768 N0 N768q
 have KC768 := KSx.trans (KSx.refl h0 [(a702, Jvm.RoadKit.slotOf Z "java/lang/String" "value" "[B"), (a702, Jvm.RoadKit.slotOf Z "java/lang/String" "coder" "B")] []) K768 (ksS (Or.inl (List.mem_of_getElem? (i := 1) rfl)) (ksS (Or.inl (List.mem_of_getElem? (i := 0) rfl)) ks0)) all0
 obtain ⟨fs, hr, hrun, hended, hW, hsame⟩ := X768.leave (v := none) (fun _ => rfl)
 refine ⟨_, _, pre0 _ ?_, hrun, hended, _, _, rfl, ?_, ⟨_, rfl⟩, hW, hsame.mono (by decide) (by decide)⟩
 · show SG p e below s₁ (mkF m 0 #[vR a702, vR a703] []) _
   refine XS.aloadN X0.here hx rfl (hb hby d24_0) rfl rfl ?_
   show SG p e below s₁ (mkF m 1 #[vR a702, vR a703] [(.ref a702)]) _
   refine XS.aloadN X0.here hx rfl (hb hby d24_1) rfl rfl ?_
   show SG p e below s₁ (mkF m 2 #[vR a702, vR a703] [(.ref a703), (.ref a702)]) _
   refine XS.aconstNull X0.here hx rfl (hb hby d24_2) ?_
   show SG p e below s₁ (mkF m 3 #[vR a702, vR a703] [.null, (.ref a703), (.ref a702)]) _
   refine st768.trans ?_
   show SG p e below T768 (mkF m 6 #[vR a702, vR a703] []) _
   exact X768.returnOut hx Bd.returns (hb hby d24_6) hr
 · show Qr24_1 Z a702 a703 w769 w770 w771 w772 w773 k774 u775 p776 h0 n0 _ T768.heap _
   exact ⟨N768, b768_0, k768_0, rfl, (Nat.le_trans (KSx.refl h0 [(a702, Jvm.RoadKit.slotOf Z "java/lang/String" "value" "[B"), (a702, Jvm.RoadKit.slotOf Z "java/lang/String" "coder" "B")] []).1 ge_b768_0), KC768, o768_0, o768_1, o768_2⟩
theorem pd_29 : parseMethodDescriptor "(Ljava/lang/StringBuilder;)V" = some ⟨[(.object "java/lang/StringBuilder")], none⟩ := by decide +kernel
theorem d23_8 : decode jdk_67_method_42_code 8 = .ok (.areturn, 1) := by decide +kernel
theorem ef_23_v (m : MethodId) (x0 : Addr) : entryFrame m #[(.ref x0)] 1 = mkF m 0 #[.val (.ref x0)] [] := by first | (simp [entryFrame, mkF, argsToLocals, Value.category]; done) | rfl
def Qr23_1 (Z : State) (a700 : Addr) (w778 : Addr) (w781 : Int32) (w783 : Int32) (w785 : Int32) (k788 : ClassId) (u789 : Nat → Int32) (p790 : Int32) (h0 : Heap) (n0 : Nat) (v : Option Value) (h : Heap) (L : List Loc) : Prop := Fr n0 L ∧ ∃ b701 b777_0 : Addr, ∃ k777_0 : ClassId, v = some (.ref b701) ∧ h0.size ≤ b701 ∧ h0.size ≤ b777_0 ∧ KSx h0 h [] [] ∧ Exa Z h b701 "java/lang/String" ∧ Fld Z h b701 "java/lang/String" "value" "[B" (.ref b777_0) ∧ Fld Z h b701 "java/lang/String" "coder" "B" (.int (0 : Int32)) ∧ BA Z h b777_0 k777_0 .byte (w781 - (0 : Int32)) (fun i => if ((0 : Int32)).toNatClampNeg ≤ i ∧ i < ((0 : Int32)).toNatClampNeg + ((w781 - (0 : Int32))).toNatClampNeg then u789 (((0 : Int32)).toNatClampNeg + (i - ((0 : Int32)).toNatClampNeg)) else (fun _ => (0 : Int32)) i)
theorem r23_1 (l : Launch) (Z : State) (a0 : Array Value) (hw : ∀ d ∈ tables_1, d.before a0 Z = true) (a700 : Addr) (w778 : Addr) (w781 : Int32) (w783 : Int32) (w785 : Int32) (k788 : ClassId) (u789 : Nat → Int32) (p790 : Int32) (h0 : Heap) (n0 : Nat) (Z0 : n0 ≤ h0.size) (H0 : Fld Z h0 a700 "java/lang/AbstractStringBuilder" "value" "[B" (.ref w778)) (H1 : Exa Z h0 a700 "java/lang/StringBuilder") (H2 : Fld Z h0 a700 "java/lang/AbstractStringBuilder" "count" "I" (.int w781)) (H3 : Sta Z h0 "java/lang/String" "COMPACT_STRINGS" "Z" (.int w783)) (H4 : ¬ (w783 = (0 : Int32))) (H5 : Fld Z h0 a700 "java/lang/AbstractStringBuilder" "coder" "B" (.int w785)) (H6 : w785 = (0 : Int32)) (H7 : BA Z h0 w778 k788 .byte p790 u789) (H8 : ¬ (w781 = p790)) (H9 : ¬ (w781 < (0 : Int32))) (H10 : ¬ ((w781 - (0 : Int32)) < (0 : Int32))) (H11 : ¬ ((16 : Int32) < (w781 - (0 : Int32)))) (H12 : (w781 - (0 : Int32)) < (p790 - (0 : Int32))) (H13 : ((0 : Int32)).toNatClampNeg + ((w781 - (0 : Int32))).toNatClampNeg ≤ (p790).toNatClampNeg) (H14 : ((0 : Int32)).toNatClampNeg + ((w781 - (0 : Int32))).toNatClampNeg ≤ ((w781 - (0 : Int32))).toNatClampNeg) :
   OMet l Z mN39 jdk_67_method_42_code 1 (some (.object "java/lang/String")) [] ({ frames := 5, cells := 2, slots := 20, locals := 79 } : Room) h0 #[(.ref a700)] (Qr23_1 Z a700 w778 w781 w783 w785 k788 u789 p790 h0 n0) := by
 refine MetFree.of_bodySF (plainFor_of_name pn_java_lang_StringBuilder) hisR ?_
 intro p e s m args below meth c s₁ Bd hml0 hP hK
 obtain ⟨rfl, hZ, hh⟩ := hP
 have hx := Bd.exec
 have hby := Bd.bytes
 have hml : c.maxLocals = 1 := hml0
 have hown : s.vm.findClass "java/lang/StringBuilder" = some m.cls := findClass_of_methodNamed Bd.named
 have hnm := (name_of_methodNamed Bd.named Bd.method).1
 have X0 : Stand p l e ({ frames := 5, cells := 2, slots := 20, locals := 79 } : Room) s m #[(.ref a700)] below meth c s₁ [] 0 0 := Stand.of_body Bd
 have e0 : s₁.heap = h0 := by rw [← hh, Bd.state]; rfl
 have N0 := Fr.nil n0
 have pre0 : ∀ t, Steps p.tables e below (s₁.setTop (mkF m 0 #[vR a700] [])) t → Steps p.tables e below (s₁.setTop (entryFrame m #[(.ref a700)] 1)) t := fun t k => castTop (ef_23_v m a700) k
 obtain ⟨T701, h701, X701, e701, E701, A701, D701, -, st701⟩ := newO X0 hx hZ hown (tw hw 162 rfl) (tw hw 59 rfl) (tw hw 52 rfl) e0 (g := (mkF m 0 #[vR a700] [])) rfl (hb hby d23_0) (by decide) (by decide)
 obtain ⟨b701, g701⟩ : ∃ z, z = h0.size := ⟨_, rfl⟩
 rw [← g701] at A701 D701 st701
 have KC701 := KSx.ext (KSx.refl h0 [] []) E701
 have f779 := (H0.ext E701)
 have f780 := (H1.ext E701)
 have f782 := (H2.ext E701)
 have f784 := (H3.ext E701)
 have f786 := (H5.ext E701)
 have g787 : n0 ≤ b701 := Nat.le_trans Z0 (Nat.le_of_eq g701.symm)
 have f791 := (H7.ext E701)
 have ne792 : w778 ≠ b701 := (Nat.ne_of_lt (Nat.lt_of_lt_of_le (H7).lt (Nat.le_of_eq g701.symm)))
 have Z701 : n0 ≤ h701.size := Nat.le_trans Z0 E701.1
 obtain ⟨_, _, ⟨T777, L777, k777, n777⟩, -, X777, ⟨Lc777, hQ777, l777, y777, z777⟩, st777⟩ := X701.specialBack hx (y := mN38) rfl hown (mvT hZ (tw hw 163 rfl)) (mvT hZ (tw hw 164 rfl)) (mvT hZ (tw hw 166 rfl)) (by decide) (backOf (W := 1) (r24_1 l Z a0 hw b701 a700 w778 w781 w783 w785 (0 : Int32) k788 u789 p790 h701 n0 Z701 f779 f780 f782 f784 H4 f786 H6 A701 (D701 (Or.inr (tw hw 61 rfl)) (ty := .byte) (by decide)) g787 f791 ne792 H8 H9 H10 H11 H12 H13 H14 (D701 (Or.inr (tw hw 60 rfl)) (ty := (.array .byte)) (by decide))) hZ (tw hw 166 rfl) (tw hw 52 rfl) (by decide) (by decide)) (g := (mkF m 5 #[vR a700] [(.ref a700), (.ref b701), (.ref b701)])) rfl (by rw [hml]; rfl) (Steps.refl _) (a := b701) (argsL := [(.ref a700)]) (rest := [(.ref b701)]) (lenOf pd_29 rfl) rfl (own_w _) (hb hby d23_5) (fun _ _ => ⟨rfl, e701, (by decide : 1 + 1 ≤ _), (by decide : 4 + 16 ≤ _)⟩)
 dsimp only [Pt.U, Pt.locs, Pt.cells, Pt.slots] at X777 l777 y777 z777 st777 hQ777
 replace X777 := own_mvX X777 (a := 2) (b := 20) y777 z777
 obtain ⟨N777q, b777_0, k777_0, rfl, ge_b777_0, K777, o777_0, o777_1, o777_2⟩ := hQ777
 have N777 := own_mvN l777 N0 N777q
 have z793 : h0.size ≤ b701 := Nat.le_trans (KSx.refl h0 [] []).1 (Nat.le_of_eq g701.symm)
 have KC777 := KSx.trans KC701 K777 (ksS (Or.inr z793) (ksS (Or.inr z793) ks0)) all0
 have f794 := (A701.ks K777)
 obtain ⟨fs, hr, hrun, hended, hW, hsame⟩ := X777.leave (v := some (.ref b701)) (fun h => by rw [Bd.returns] at h; cases h)
 refine ⟨_, _, pre0 _ ?_, hrun, hended, _, _, rfl, ?_, ⟨_, rfl⟩, hW, hsame.mono (by decide) (by decide)⟩
 · show SG p e below s₁ (mkF m 0 #[vR a700] []) _
   refine st701 _ ?_
   show SG p e below T701 (mkF m 3 #[vR a700] [(.ref b701)]) _
   refine XS.dup X701.here hx rfl (hb hby d23_3) rfl rfl ?_
   show SG p e below T701 (mkF m 4 #[vR a700] [(.ref b701), (.ref b701)]) _
   refine XS.aloadN X701.here hx rfl (hb hby d23_4) rfl rfl ?_
   show SG p e below T701 (mkF m 5 #[vR a700] [(.ref a700), (.ref b701), (.ref b701)]) _
   refine st777.trans ?_
   show SG p e below T777 (mkF m 8 #[vR a700] [(.ref b701)]) _
   jvm_step X777.here [X777.here.top, hx, (hb hby d23_8), X777.method', Bd.returns, Value.isRef, FieldType.isReference]
   first | (intro acts; rw [hr _ acts rfl rfl rfl]) | rw [hr _ _ rfl rfl rfl]
   exact Steps.refl _
 · show Qr23_1 Z a700 w778 w781 w783 w785 k788 u789 p790 h0 n0 _ T777.heap _
   exact ⟨N777, b701, b777_0, k777_0, rfl, z793, (Nat.le_trans KC701.1 ge_b777_0), KC777, f794, o777_1, o777_0, o777_2⟩
theorem pd_30 : parseMethodDescriptor "()Ljava/lang/String;" = some ⟨[], some (.object "java/lang/String")⟩ := by decide +kernel
theorem d3_52 : decode prog_12_method_2_code 52 = .ok (.areturn, 1) := by decide +kernel
theorem pn_com_example_tranchebook_tranchebook_Cycle : plainName "com/example/tranchebook/tranchebook/Cycle" = true := by first | (simp [plainName, overriddenIn]; done) | decide +kernel
theorem ef_3_v (m : MethodId) (x0 : Addr) : entryFrame m #[(.ref x0)] 1 = mkF m 0 #[.val (.ref x0)] [] := by first | (simp [entryFrame, mkF, argsToLocals, Value.category]; done) | rfl
def Qr3_1 (Z : State) (a205 : Addr) (w228 : Int32) (w359 : Int32) (w426 : Addr) (w428 : Addr) (k430 : ClassId) (u431 : Nat → Int32) (k436 : ClassId) (u437 : Nat → Int32) (w443 : Addr) (w450 : Int32) (w631 : Int32) (h0 : Heap) (n0 : Nat) (v : Option Value) (h : Heap) (L : List Loc) : Prop := Fr n0 L ∧ ∃ b206 b227_0 b795_0 b795_1 : Addr, ∃ k227_0 k795_0 : ClassId, v = some (.ref b795_0) ∧ h0.size ≤ b206 ∧ h0.size ≤ b227_0 ∧ h0.size ≤ b795_0 ∧ h0.size ≤ b795_1 ∧ KSx h0 h [] [] ∧ Exa Z h b206 "java/lang/StringBuilder" ∧ Exa Z h b795_0 "java/lang/String" ∧ Fld Z h b206 "java/lang/AbstractStringBuilder" "value" "[B" (.ref b227_0) ∧ Fld Z h b206 "java/lang/AbstractStringBuilder" "coder" "B" (.int (0 : Int32)) ∧ Fld Z h b206 "java/lang/AbstractStringBuilder" "count" "I" (.int ((((((0 : Int32) + ((1 : Int32) >>> ((0 : Int32) &&& 31))) + (SBG.strSizeOf w359)) + (1 : Int32)) + ((1 : Int32) >>> ((0 : Int32) &&& 31))) + (SBG.strSizeOf (1 : Int32)))) ∧ Fld Z h b795_0 "java/lang/String" "value" "[B" (.ref b795_1) ∧ Fld Z h b795_0 "java/lang/String" "coder" "B" (.int (0 : Int32)) ∧ BA Z h b227_0 k227_0 .byte (16 : Int32) (SBG.ogc (decide ((1 : Int32) < 0)) ((1 : Int32)).toInt.natAbs (SBG.digits ((1 : Int32)).toInt.natAbs) (((((((0 : Int32) + ((1 : Int32) >>> ((0 : Int32) &&& 31))) + (SBG.strSizeOf w359)) + (1 : Int32)) + ((1 : Int32) >>> ((0 : Int32) &&& 31))) + (SBG.strSizeOf (1 : Int32)))).toNatClampNeg (fun i => if ((((((0 : Int32) + ((1 : Int32) >>> ((0 : Int32) &&& 31))) + (SBG.strSizeOf w359)) + (1 : Int32)) <<< ((0 : Int32) &&& 31))).toNatClampNeg ≤ i ∧ i < ((((((0 : Int32) + ((1 : Int32) >>> ((0 : Int32) &&& 31))) + (SBG.strSizeOf w359)) + (1 : Int32)) <<< ((0 : Int32) &&& 31))).toNatClampNeg + ((1 : Int32)).toNatClampNeg then (fun i => ([76] : List Int32).getD i 0) (((0 : Int32)).toNatClampNeg + (i - ((((((0 : Int32) + ((1 : Int32) >>> ((0 : Int32) &&& 31))) + (SBG.strSizeOf w359)) + (1 : Int32)) <<< ((0 : Int32) &&& 31))).toNatClampNeg)) else (fun i => if i = ((((0 : Int32) + ((1 : Int32) >>> ((0 : Int32) &&& 31))) + (SBG.strSizeOf w359))).toNatClampNeg then (w450.toInt8.toInt32).toInt8.toInt32 else (SBG.ogc (decide (w359 < 0)) (w359).toInt.natAbs (SBG.digits (w359).toInt.natAbs) ((((0 : Int32) + ((1 : Int32) >>> ((0 : Int32) &&& 31))) + (SBG.strSizeOf w359))).toNatClampNeg (fun i => if (((0 : Int32) <<< ((0 : Int32) &&& 31))).toNatClampNeg ≤ i ∧ i < (((0 : Int32) <<< ((0 : Int32) &&& 31))).toNatClampNeg + ((1 : Int32)).toNatClampNeg then (fun i => ([80] : List Int32).getD i 0) (((0 : Int32)).toNatClampNeg + (i - (((0 : Int32) <<< ((0 : Int32) &&& 31))).toNatClampNeg)) else (fun _ => (0 : Int32)) i)) i) i)) ∧ BA Z h b795_1 k795_0 .byte (((((((0 : Int32) + ((1 : Int32) >>> ((0 : Int32) &&& 31))) + (SBG.strSizeOf w359)) + (1 : Int32)) + ((1 : Int32) >>> ((0 : Int32) &&& 31))) + (SBG.strSizeOf (1 : Int32))) - (0 : Int32)) (fun i => if ((0 : Int32)).toNatClampNeg ≤ i ∧ i < ((0 : Int32)).toNatClampNeg + ((((((((0 : Int32) + ((1 : Int32) >>> ((0 : Int32) &&& 31))) + (SBG.strSizeOf w359)) + (1 : Int32)) + ((1 : Int32) >>> ((0 : Int32) &&& 31))) + (SBG.strSizeOf (1 : Int32))) - (0 : Int32))).toNatClampNeg then (SBG.ogc (decide ((1 : Int32) < 0)) ((1 : Int32)).toInt.natAbs (SBG.digits ((1 : Int32)).toInt.natAbs) (((((((0 : Int32) + ((1 : Int32) >>> ((0 : Int32) &&& 31))) + (SBG.strSizeOf w359)) + (1 : Int32)) + ((1 : Int32) >>> ((0 : Int32) &&& 31))) + (SBG.strSizeOf (1 : Int32)))).toNatClampNeg (fun i => if ((((((0 : Int32) + ((1 : Int32) >>> ((0 : Int32) &&& 31))) + (SBG.strSizeOf w359)) + (1 : Int32)) <<< ((0 : Int32) &&& 31))).toNatClampNeg ≤ i ∧ i < ((((((0 : Int32) + ((1 : Int32) >>> ((0 : Int32) &&& 31))) + (SBG.strSizeOf w359)) + (1 : Int32)) <<< ((0 : Int32) &&& 31))).toNatClampNeg + ((1 : Int32)).toNatClampNeg then (fun i => ([76] : List Int32).getD i 0) (((0 : Int32)).toNatClampNeg + (i - ((((((0 : Int32) + ((1 : Int32) >>> ((0 : Int32) &&& 31))) + (SBG.strSizeOf w359)) + (1 : Int32)) <<< ((0 : Int32) &&& 31))).toNatClampNeg)) else (fun i => if i = ((((0 : Int32) + ((1 : Int32) >>> ((0 : Int32) &&& 31))) + (SBG.strSizeOf w359))).toNatClampNeg then (w450.toInt8.toInt32).toInt8.toInt32 else (SBG.ogc (decide (w359 < 0)) (w359).toInt.natAbs (SBG.digits (w359).toInt.natAbs) ((((0 : Int32) + ((1 : Int32) >>> ((0 : Int32) &&& 31))) + (SBG.strSizeOf w359))).toNatClampNeg (fun i => if (((0 : Int32) <<< ((0 : Int32) &&& 31))).toNatClampNeg ≤ i ∧ i < (((0 : Int32) <<< ((0 : Int32) &&& 31))).toNatClampNeg + ((1 : Int32)).toNatClampNeg then (fun i => ([80] : List Int32).getD i 0) (((0 : Int32)).toNatClampNeg + (i - (((0 : Int32) <<< ((0 : Int32) &&& 31))).toNatClampNeg)) else (fun _ => (0 : Int32)) i)) i) i)) (((0 : Int32)).toNatClampNeg + (i - ((0 : Int32)).toNatClampNeg)) else (fun _ => (0 : Int32)) i)
theorem r3_1 (l : Launch) (Z : State) (a0 : Array Value) (hw : ∀ d ∈ tables_1, d.before a0 Z = true) (a205 : Addr) (w228 : Int32) (w359 : Int32) (w426 : Addr) (w428 : Addr) (k430 : ClassId) (u431 : Nat → Int32) (k436 : ClassId) (u437 : Nat → Int32) (w443 : Addr) (w450 : Int32) (w631 : Int32) (h0 : Heap) (n0 : Nat) (Z0 : n0 ≤ h0.size) (H0 : Sta Z h0 "java/lang/String" "COMPACT_STRINGS" "Z" (.int w228)) (H1 : ¬ (w228 = (0 : Int32))) (H2 : Fld Z h0 a205 "com/example/tranchebook/tranchebook/Cycle" "count" "I" (.int w359)) (H3 : ¬ ((0 : Int32) < ((((0 : Int32) + ((1 : Int32) >>> ((0 : Int32) &&& 31))) + (SBG.strSizeOf w359)) - ((16 : Int32) >>> ((0 : Int32) &&& 31))))) (H4 : Sta Z h0 "java/lang/Integer" "DigitOnes" "[B" (.ref w426)) (H5 : Sta Z h0 "java/lang/Integer" "DigitTens" "[B" (.ref w428)) (H6 : BA Z h0 w426 k430 .byte (100 : Int32) u431) (H7 : BA Z h0 w428 k436 .byte (100 : Int32) u437) (H8 : ¬ ((((0 : Int32) + ((1 : Int32) >>> ((0 : Int32) &&& 31))) + (SBG.strSizeOf w359)) < (0 : Int32))) (H9 : ((((0 : Int32) + ((1 : Int32) >>> ((0 : Int32) &&& 31))) + (SBG.strSizeOf w359))).toNatClampNeg ≤ ((16 : Int32)).toNatClampNeg) (H10 : SBG.digits (w359).toInt.natAbs + (if w359 < 0 then 1 else 0) ≤ ((((0 : Int32) + ((1 : Int32) >>> ((0 : Int32) &&& 31))) + (SBG.strSizeOf w359))).toNatClampNeg) (H11 : u431 = (fun r => Int32.ofNat (48 + r % 10))) (H12 : u437 = (fun r => Int32.ofNat (48 + r / 10))) (H13 : (Jvm.Cond.laysStatic "java/lang/Integer" "DigitOnes" "[B").before a0 Z = true) (H14 : (Jvm.Cond.laysStatic "java/lang/Integer" "DigitTens" "[B").before a0 Z = true) (H15 : Fld Z h0 a205 "com/example/tranchebook/tranchebook/Cycle" "unit" "Lcom/example/tranchebook/tranchebook/Cycle$Unit;" (.ref w443)) (H16 : Fld Z h0 w443 "com/example/tranchebook/tranchebook/Cycle$Unit" "letter" "C" (.int w450)) (H17 : nar .char w450 = w450) (H18 : Exa Z h0 w443 "com/example/tranchebook/tranchebook/Cycle$Unit") (H19 : ¬ ((0 : Int32) < (((((0 : Int32) + ((1 : Int32) >>> ((0 : Int32) &&& 31))) + (SBG.strSizeOf w359)) + (1 : Int32)) - ((16 : Int32) >>> ((0 : Int32) &&& 31))))) (H20 : ¬ ((255 : Int32) < w450)) (H21 : (((0 : Int32) + ((1 : Int32) >>> ((0 : Int32) &&& 31))) + (SBG.strSizeOf w359)) < (16 : Int32)) (H22 : ¬ ((0 : Int32) < ((((((0 : Int32) + ((1 : Int32) >>> ((0 : Int32) &&& 31))) + (SBG.strSizeOf w359)) + (1 : Int32)) + ((1 : Int32) >>> ((0 : Int32) &&& 31))) - ((16 : Int32) >>> ((0 : Int32) &&& 31))))) (H23 : ¬ ((((((0 : Int32) + ((1 : Int32) >>> ((0 : Int32) &&& 31))) + (SBG.strSizeOf w359)) + (1 : Int32)) <<< ((0 : Int32) &&& 31)) < (0 : Int32))) (H24 : ((((((0 : Int32) + ((1 : Int32) >>> ((0 : Int32) &&& 31))) + (SBG.strSizeOf w359)) + (1 : Int32)) <<< ((0 : Int32) &&& 31))).toNatClampNeg + ((1 : Int32)).toNatClampNeg ≤ ((16 : Int32)).toNatClampNeg) (H25 : Fld Z h0 a205 "com/example/tranchebook/tranchebook/Cycle" "longStub" "Z" (.int w631)) (H26 : w631 = (0 : Int32)) (H27 : ¬ ((0 : Int32) < (((((((0 : Int32) + ((1 : Int32) >>> ((0 : Int32) &&& 31))) + (SBG.strSizeOf w359)) + (1 : Int32)) + ((1 : Int32) >>> ((0 : Int32) &&& 31))) + (SBG.strSizeOf (1 : Int32))) - ((16 : Int32) >>> ((0 : Int32) &&& 31))))) (H28 : ¬ (((((((0 : Int32) + ((1 : Int32) >>> ((0 : Int32) &&& 31))) + (SBG.strSizeOf w359)) + (1 : Int32)) + ((1 : Int32) >>> ((0 : Int32) &&& 31))) + (SBG.strSizeOf (1 : Int32))) < (0 : Int32))) (H29 : (((((((0 : Int32) + ((1 : Int32) >>> ((0 : Int32) &&& 31))) + (SBG.strSizeOf w359)) + (1 : Int32)) + ((1 : Int32) >>> ((0 : Int32) &&& 31))) + (SBG.strSizeOf (1 : Int32)))).toNatClampNeg ≤ ((16 : Int32)).toNatClampNeg) (H30 : SBG.digits ((1 : Int32)).toInt.natAbs + (if (1 : Int32) < 0 then 1 else 0) ≤ (((((((0 : Int32) + ((1 : Int32) >>> ((0 : Int32) &&& 31))) + (SBG.strSizeOf w359)) + (1 : Int32)) + ((1 : Int32) >>> ((0 : Int32) &&& 31))) + (SBG.strSizeOf (1 : Int32)))).toNatClampNeg) (H31 : ¬ (((((((0 : Int32) + ((1 : Int32) >>> ((0 : Int32) &&& 31))) + (SBG.strSizeOf w359)) + (1 : Int32)) + ((1 : Int32) >>> ((0 : Int32) &&& 31))) + (SBG.strSizeOf (1 : Int32))) = (16 : Int32))) (H32 : ¬ ((((((((0 : Int32) + ((1 : Int32) >>> ((0 : Int32) &&& 31))) + (SBG.strSizeOf w359)) + (1 : Int32)) + ((1 : Int32) >>> ((0 : Int32) &&& 31))) + (SBG.strSizeOf (1 : Int32))) - (0 : Int32)) < (0 : Int32))) (H33 : ¬ ((16 : Int32) < (((((((0 : Int32) + ((1 : Int32) >>> ((0 : Int32) &&& 31))) + (SBG.strSizeOf w359)) + (1 : Int32)) + ((1 : Int32) >>> ((0 : Int32) &&& 31))) + (SBG.strSizeOf (1 : Int32))) - (0 : Int32)))) (H34 : (((((((0 : Int32) + ((1 : Int32) >>> ((0 : Int32) &&& 31))) + (SBG.strSizeOf w359)) + (1 : Int32)) + ((1 : Int32) >>> ((0 : Int32) &&& 31))) + (SBG.strSizeOf (1 : Int32))) - (0 : Int32)) < ((16 : Int32) - (0 : Int32))) (H35 : ((0 : Int32)).toNatClampNeg + ((((((((0 : Int32) + ((1 : Int32) >>> ((0 : Int32) &&& 31))) + (SBG.strSizeOf w359)) + (1 : Int32)) + ((1 : Int32) >>> ((0 : Int32) &&& 31))) + (SBG.strSizeOf (1 : Int32))) - (0 : Int32))).toNatClampNeg ≤ ((16 : Int32)).toNatClampNeg) (H36 : ((0 : Int32)).toNatClampNeg + ((((((((0 : Int32) + ((1 : Int32) >>> ((0 : Int32) &&& 31))) + (SBG.strSizeOf w359)) + (1 : Int32)) + ((1 : Int32) >>> ((0 : Int32) &&& 31))) + (SBG.strSizeOf (1 : Int32))) - (0 : Int32))).toNatClampNeg ≤ ((((((((0 : Int32) + ((1 : Int32) >>> ((0 : Int32) &&& 31))) + (SBG.strSizeOf w359)) + (1 : Int32)) + ((1 : Int32) >>> ((0 : Int32) &&& 31))) + (SBG.strSizeOf (1 : Int32))) - (0 : Int32))).toNatClampNeg) :
   OMetH EL l Z mN40 prog_12_method_2_code 1 (some (.object "java/lang/String")) [] ({ frames := 6, cells := 8, slots := 56, locals := 106 } : Room) h0 #[(.ref a205)] (Qr3_1 Z a205 w228 w359 w426 w428 k430 u431 k436 u437 w443 w450 w631 h0 n0) := by
 refine MetFree.of_bodySF (plainFor_of_name pn_com_example_tranchebook_tranchebook_Cycle) hisR ?_
 intro p e s m args below meth c s₁ Bd hml0 hP hK
 obtain ⟨rfl, hZ, hh, hCH⟩ := hP
 have hx := Bd.exec
 have hby := Bd.bytes
 have hml : c.maxLocals = 1 := hml0
 have hown : s.vm.findClass "com/example/tranchebook/tranchebook/Cycle" = some m.cls := findClass_of_methodNamed Bd.named
 have hnm := (name_of_methodNamed Bd.named Bd.method).1
 have X0 : Stand p l e ({ frames := 6, cells := 8, slots := 56, locals := 106 } : Room) s m #[(.ref a205)] below meth c s₁ [] 0 0 := Stand.of_body Bd
 have e0 : s₁.heap = h0 := by rw [← hh, Bd.state]; rfl
 have N0 := Fr.nil n0
 have R0 : CHr Z EL s.vm h0 s.vm h0 := CHr.refl hCH
 have pre0 : ∀ t, Steps p.tables e below (s₁.setTop (mkF m 0 #[vR a205] [])) t → Steps p.tables e below (s₁.setTop (entryFrame m #[(.ref a205)] 1)) t := fun t k => castTop (ef_3_v m a205) k
 obtain ⟨T206, h206, X206, e206, E206, A206, D206, -, st206⟩ := newO X0 hx hZ hown (tw hw 38 rfl) (tw hw 39 rfl) (tw hw 40 rfl) e0 (g := (mkF m 0 #[vR a205] [])) rfl (hb hby d3_0) (by decide) (by decide)
 obtain ⟨b206, g206⟩ : ∃ z, z = h0.size := ⟨_, rfl⟩
 rw [← g206] at A206 D206 st206
 have KC206 := KSx.ext (KSx.refl h0 [] []) E206
 have R206 := CHr.trans R0 (CHr.ext E206 R0.1)
 have f229 := (H0.ext E206)
 have g230 : n0 ≤ b206 := Nat.le_trans Z0 (Nat.le_of_eq g206.symm)
 have Z206 : n0 ≤ h206.size := Nat.le_trans Z0 E206.1
 obtain ⟨_, _, ⟨T227, L227, k227, n227⟩, -, X227, ⟨Lc227, hQ227, l227, y227, z227⟩, st227⟩ := X206.specialBack hx (y := mN12) rfl hown (mvT hZ (tw hw 41 rfl)) (mvT hZ (tw hw 42 rfl)) (mvT hZ (tw hw 43 rfl)) (by decide) (backOf (W := 1) (r4_1 l Z a0 hw b206 w228 (0 : Int32) h206 n0 Z206 f229 H1 A206 (D206 (Or.inl (tw hw 55 rfl)) (ty := (.array .byte)) (by decide)) g230 (D206 (Or.inl (tw hw 57 rfl)) (ty := .byte) (by decide))) hZ (tw hw 43 rfl) (tw hw 40 rfl) (by decide) (by decide)) (g := (mkF m 4 #[vR a205] [(.ref b206), (.ref b206)])) rfl (by rw [hml]; rfl) (Steps.refl _) (a := b206) (argsL := []) (rest := [(.ref b206)]) (lenOf pd_9 rfl) rfl (own_w _) (hb hby d3_4) (fun _ _ => ⟨rfl, e206, (by decide : 1 + 1 ≤ _), (by decide : 4 + 16 ≤ _)⟩)
 dsimp only [Pt.U, Pt.locs, Pt.cells, Pt.slots] at X227 l227 y227 z227 st227 hQ227
 replace X227 := own_mvX X227 (a := 2) (b := 20) y227 z227
 obtain ⟨N227q, b227_0, k227_0, rfl, ge_b227_0, K227, o227_0, o227_1, o227_2⟩ := hQ227
 have N227 := own_mvN l227 N0 N227q
 have z231 : h0.size ≤ b206 := Nat.le_trans (KSx.refl h0 [] []).1 (Nat.le_of_eq g206.symm)
 have KC227 := KSx.trans KC206 K227 (ksS (Or.inr z231) (ksS (Or.inr z231) ks0)) all0
 have R227 := CHr.trans R206 (CHr.ks K227 (ksS (Safe.exa hZ.alike A206 (by decide) (by decide)) (ksS (Safe.exa hZ.alike A206 (by decide) (by decide)) ks0)) all0 R206.1)
 have sf232 := Safe.ks K227 (ksS (Safe.exa hZ.alike A206 (by decide) (by decide)) (ksS (Safe.exa hZ.alike A206 (by decide) (by decide)) ks0)) all0 R206.1 (Safe.new ge_b227_0)
 obtain ⟨b233, T233, h233, j233, b233_1, k233, X233, e233, E233, hS233, hk233, hZ233, ho233, A233, Fc233, Fv233, V233, lt233, lu233, ch233, -, sx233, st233⟩ := ldcCH (s := s) (vm0 := s.vm) X227 hx hZ hown (tw hw 58 rfl) (fun d hd => hw d (str_in d hd)) rfl ((State.WarmedH.refl s).since 0) (Nat.zero_le _) (el_ok hw) (List.mem_of_getElem? (i := 0) rfl) R227.1 (vs := [(.int (80 : Int32))]) (z := (1 : Int32)) ⟨by decide, by decide +kernel⟩ (by decide) rfl (g := (mkF m 7 #[vR a205] [(.ref b206)])) rfl (hb hby d3_7) (n := 4) (by decide) (by decide) (by decide) (by decide)
 have KC233 := KSx.ext KC227 E233
 have R233 := CHr.trans R227 ch233
 have sf234 := CHr.safe ch233 (o227_2).lt sf232
 have Bl233 : BA Z h233 b233_1 k233 .byte (1 : Int32) (fun i => ([80] : List Int32).getD i 0) := BA.of_arv V233 (fun i hi => by match i, hi with | 0, _ => rfl | _ + 1, hi => exact absurd hi (by simp only [show (1 : Int32).toNatClampNeg = 1 from rfl]; omega))
 have f349 := ((f229.ks K227).ext E233)
 have f350 := (((D206 (Or.inl (tw hw 88 rfl)) (ty := .int) (by decide)).ks K227 (ksS (Or.inr (slot_ne (Or.inl (tw hw 88 rfl)) (Or.inl (tw hw 57 rfl)) (by decide) (t := .int) (t' := .byte) (by decide) (by decide))) (ksS (Or.inr (slot_ne (Or.inl (tw hw 88 rfl)) (Or.inl (tw hw 55 rfl)) (by decide) (t := .int) (t' := (.array .byte)) (by decide) (by decide))) ks0)) all0).ext E233)
 have f351 := (o227_0.ext E233)
 have f352 := (o227_2.ext E233)
 have f353 := (o227_1.ext E233)
 have f354 := ((A206.ks K227).ext E233)
 have g355 : n0 ≤ b227_0 := Nat.le_trans Z206 ge_b227_0
 have ne356 : b206 ≠ b227_0 := (Nat.ne_of_lt (Nat.lt_of_lt_of_le (A206).lt ge_b227_0))
 have Z227 : n0 ≤ T227.heap.size := Nat.le_trans Z206 K227.1
 have Z233 : n0 ≤ h233.size := Nat.le_trans Z227 E233.1
 obtain ⟨cq348, kq348, q348a, q348b, q348c⟩ := isOf hZ233 e233 f354
 obtain ⟨_, _, ⟨T348, L348, k348, n348⟩, -, X348, ⟨Lc348, hQ348, l348, y348, z348⟩, st348⟩ := X233.virtualBack hx (y := mN20) (z := mN20) ho233 (mvT hZ233 (tw hw 64 rfl)) (mvT hZ233 (tw hw 65 rfl)) (notFace_of_selects (args := #[]) (mvT hZ233 (tw hw 67 rfl))) (mvT hZ233 (tw hw 67 rfl)) (mvT hZ233 (tw hw 66 rfl)) (by decide) (backOf (W := 0) (r6_1 l Z a0 hw b206 b233 b233_1 k233 (fun i => ([80] : List Int32).getD i 0) w228 (0 : Int32) (0 : Int32) b227_0 k227_0 (fun _ => (0 : Int32)) (16 : Int32) (0 : Int32) h233 n0 Z233 Fv233 Bl233 f349 H1 Fc233 (by first | decide | rfl) A233 f350 f351 f352 f353 (by first | decide | rfl) f354 rfl rfl (by first | decide | rfl) (by first | decide | rfl) g355 ne356 g230 (Ne.symm ne356)) hZ233 (tw hw 68 rfl) (tw hw 40 rfl) (by decide) (by decide)) q348a q348c (g := (mkF m 9 #[vR a205] [(.ref b233), (.ref b206)])) rfl (by rw [hml]; rfl) (Steps.refl _) (argsL := [(.ref b233)]) (rest := []) (lenOf pd_16 rfl) rfl (own_w _) (hb hby d3_9) (fun _ _ => ⟨rfl, e233, (by decide : 4 + 0 ≤ _), (by decide : 28 + 0 ≤ _)⟩)
 dsimp only [Pt.U, Pt.locs, Pt.cells, Pt.slots] at X348 l348 y348 z348 st348 hQ348
 replace X348 := own_mvX X348 (a := 4) (b := 28) y348 z348
 obtain ⟨N348q, rfl, K348, o348_0, o348_1⟩ := hQ348
 have N348 := own_mvN l348 N227 N348q
 have z357 : h0.size ≤ b227_0 := Nat.le_trans KC206.1 ge_b227_0
 have KC348 := KSx.trans KC233 K348 (ksS (Or.inr z231) ks0) (allS (Or.inr z357) all0)
 have R348 := CHr.trans R233 (CHr.ks K348 (ksS (Safe.exa hZ233.alike f354 (by decide) (by decide)) ks0) (allS sf234 all0) R233.1)
 have sf358 := Safe.ks K348 (ksS (Safe.exa hZ233.alike f354 (by decide) (by decide)) ks0) (allS sf234 all0) R233.1 sf234
 have ne360 : a205 ≠ b206 := (Nat.ne_of_lt (Nat.lt_of_lt_of_le (H2).lt (Nat.le_of_eq g206.symm)))
 have f361 := (H2.ext E206)
 have ne362 : a205 ≠ b227_0 := (Nat.ne_of_lt (Nat.lt_of_lt_of_le (f361).lt ge_b227_0))
 have f363 := ((((H2.ext E206).ks K227 (ksS (Or.inl ne360) (ksS (Or.inl ne360) ks0)) all0).ext E233).ks K348 (ksS (Or.inl ne360) ks0) (allS ne362 all0))
 obtain ⟨T364, X364, e364, st364⟩ := getF X348 hx hZ233 ho233 (host := "") (Or.inl (tw hw 27 rfl)) Via.refl rfl f363 (g := (mkF m 13 #[vR a205] [(.ref a205), (.ref b206)])) rfl rfl (hb hby d3_13)
 have f422 := (f351.ks K348 (ksS (Or.inr (slot_ne (Or.inl (tw hw 55 rfl)) (Or.inl (tw hw 88 rfl)) (by decide) (t := (.array .byte)) (t' := .int) (by decide) (by decide))) ks0) (allS ne356 all0))
 have f423 := (f353.ks K348 (ksS (Or.inr (slot_ne (Or.inl (tw hw 57 rfl)) (Or.inl (tw hw 88 rfl)) (by decide) (t := .byte) (t' := .int) (by decide) (by decide))) ks0) (allS ne356 all0))
 have f424 := (f354.ks K348)
 have f425 := (f349.ks K348)
 have f427 := ((((H4.ext E206).ks K227).ext E233).ks K348)
 have f429 := ((((H5.ext E206).ks K227).ext E233).ks K348)
 have ne432 : w426 ≠ b206 := (Nat.ne_of_lt (Nat.lt_of_lt_of_le (H6).lt (Nat.le_of_eq g206.symm)))
 have f433 := (H6.ext E206)
 have ne434 : w426 ≠ b227_0 := (Nat.ne_of_lt (Nat.lt_of_lt_of_le (f433).lt ge_b227_0))
 have f435 := ((((H6.ext E206).ks K227 (ksS ne432 (ksS ne432 ks0)) all0).ext E233).ks K348 (ksS ne432 ks0) (allS ne434 all0))
 have ne438 : w428 ≠ b206 := (Nat.ne_of_lt (Nat.lt_of_lt_of_le (H7).lt (Nat.le_of_eq g206.symm)))
 have f439 := (H7.ext E206)
 have ne440 : w428 ≠ b227_0 := (Nat.ne_of_lt (Nat.lt_of_lt_of_le (f439).lt ge_b227_0))
 have f441 := ((((H7.ext E206).ks K227 (ksS ne438 (ksS ne438 ks0)) all0).ext E233).ks K348 (ksS ne438 ks0) (allS ne440 all0))
 have Z348 : n0 ≤ T348.heap.size := Nat.le_trans Z233 K348.1
 obtain ⟨cq421, kq421, q421a, q421b, q421c⟩ := isOf hZ233 e364 f424
 obtain ⟨_, _, ⟨T421, L421, k421, n421⟩, -, X421, ⟨Lc421, hQ421, l421, y421, z421⟩, st421⟩ := X364.virtualBack hx (y := mN25) (z := mN25) ho233 (mvT hZ233 (tw hw 114 rfl)) (mvT hZ233 (tw hw 115 rfl)) (notFace_of_selects (args := #[]) (mvT hZ233 (tw hw 117 rfl))) (mvT hZ233 (tw hw 117 rfl)) (mvT hZ233 (tw hw 116 rfl)) (by decide) (backOf (W := 0) (r14_1 l Z a0 hw b206 w359 ((0 : Int32) + ((1 : Int32) >>> ((0 : Int32) &&& 31))) b227_0 k227_0 (fun i => if (((0 : Int32) <<< ((0 : Int32) &&& 31))).toNatClampNeg ≤ i ∧ i < (((0 : Int32) <<< ((0 : Int32) &&& 31))).toNatClampNeg + ((1 : Int32)).toNatClampNeg then (fun i => ([80] : List Int32).getD i 0) (((0 : Int32)).toNatClampNeg + (i - (((0 : Int32) <<< ((0 : Int32) &&& 31))).toNatClampNeg)) else (fun _ => (0 : Int32)) i) (16 : Int32) (0 : Int32) w228 w426 w428 k430 u431 k436 u437 T348.heap n0 Z348 o348_0 f422 o348_1 f423 H3 f424 f425 H1 rfl f427 f429 f435 f441 (Ne.symm ne434) (Ne.symm ne440) g355 H8 H9 H10 H11 H12 H13 H14 ne356 g230 (Ne.symm ne356)) hZ233 (tw hw 118 rfl) (tw hw 40 rfl) (by decide) (by decide)) q421a q421c (g := (mkF m 16 #[vR a205] [(.int w359), (.ref b206)])) rfl (by rw [hml]; rfl) (Steps.refl _) (argsL := [(.int w359)]) (rest := []) (lenOf pd_20 rfl) rfl (own_w _) (hb hby d3_16) (fun _ _ => ⟨rfl, e364, (by decide : 4 + 0 ≤ _), (by decide : 28 + 0 ≤ _)⟩)
 dsimp only [Pt.U, Pt.locs, Pt.cells, Pt.slots] at X421 l421 y421 z421 st421 hQ421
 replace X421 := own_mvX X421 (a := 4) (b := 28) y421 z421
 obtain ⟨N421q, rfl, K421, o421_0, o421_1⟩ := hQ421
 have N421 := own_mvN l421 N348 N421q
 have KC421 := KSx.trans KC348 K421 (ksS (Or.inr z231) ks0) (allS (Or.inr z357) all0)
 have R421 := CHr.trans R348 (CHr.ks K421 (ksS (Safe.exa hZ233.alike f424 (by decide) (by decide)) ks0) (allS sf358 all0) R348.1)
 have sf442 := Safe.ks K421 (ksS (Safe.exa hZ233.alike f424 (by decide) (by decide)) ks0) (allS sf358 all0) R348.1 sf358
 have f444 := (((((H15.ext E206).ks K227 (ksS (Or.inl ne360) (ksS (Or.inl ne360) ks0)) all0).ext E233).ks K348 (ksS (Or.inl ne360) ks0) (allS ne362 all0)).ks K421 (ksS (Or.inl ne360) ks0) (allS ne362 all0))
 obtain ⟨T445, X445, e445, st445⟩ := getF X421 hx hZ233 ho233 (host := "") (Or.inl (tw hw 29 rfl)) Via.refl rfl f444 (g := (mkF m 20 #[vR a205] [(.ref a205), (.ref b206)])) rfl rfl (hb hby d3_20)
 have ne451 : w443 ≠ b206 := (Nat.ne_of_lt (Nat.lt_of_lt_of_le (H16).lt (Nat.le_of_eq g206.symm)))
 have f452 := (H16.ext E206)
 have ne453 : w443 ≠ b227_0 := (Nat.ne_of_lt (Nat.lt_of_lt_of_le (f452).lt ge_b227_0))
 have f454 := (((((H16.ext E206).ks K227 (ksS (Or.inl ne451) (ksS (Or.inl ne451) ks0)) all0).ext E233).ks K348 (ksS (Or.inl ne451) ks0) (allS ne453 all0)).ks K421 (ksS (Or.inl ne451) ks0) (allS ne453 all0))
 have Z421 : n0 ≤ T421.heap.size := Nat.le_trans Z348 K421.1
 have f455 := (((((H18.ext E206).ks K227).ext E233).ks K348).ks K421)
 obtain ⟨cq449, kq449, q449a, q449b, q449c⟩ := isOf hZ233 e445 f455
 obtain ⟨_, _, ⟨T449, L449, k449, n449⟩, -, X449, ⟨Lc449, hQ449, l449, y449, z449⟩, st449⟩ := X445.virtualBack hx (y := mN26) (z := mN26) ho233 (mvT hZ233 (tw hw 136 rfl)) (mvT hZ233 (tw hw 137 rfl)) (notFace_of_selects (args := #[]) (mvT hZ233 (tw hw 139 rfl))) (mvT hZ233 (tw hw 139 rfl)) (mvT hZ233 (tw hw 138 rfl)) (by decide) (backOf (W := 1) (r19_1 l Z a0 hw w443 w450 T421.heap n0 Z421 f454 H17) hZ233 (tw hw 140 rfl) (tw hw 3 rfl) (by decide) (by decide)) q449a q449c (g := (mkF m 23 #[vR a205] [(.ref w443), (.ref b206)])) rfl (by rw [hml]; rfl) (Steps.refl _) (argsL := []) (rest := [(.ref b206)]) (lenOf pd_21 rfl) rfl (own_w _) (hb hby d3_23) (fun _ _ => ⟨rfl, e445, (by decide : 4 + 0 ≤ _), (by decide : 28 + 0 ≤ _)⟩)
 dsimp only [Pt.U, Pt.locs, Pt.cells, Pt.slots] at X449 l449 y449 z449 st449 hQ449
 replace X449 := own_mvX X449 (a := 4) (b := 28) y449 z449
 obtain ⟨rfl, N449q, e449⟩ := hQ449
 have N449 := own_mvN l449 N421 N449q
 have f503 := (f422.ks K421 (ksS (Or.inr (slot_ne (Or.inl (tw hw 55 rfl)) (Or.inl (tw hw 88 rfl)) (by decide) (t := (.array .byte)) (t' := .int) (by decide) (by decide))) ks0) (allS ne356 all0))
 have f504 := (f423.ks K421 (ksS (Or.inr (slot_ne (Or.inl (tw hw 57 rfl)) (Or.inl (tw hw 88 rfl)) (by decide) (t := .byte) (t' := .int) (by decide) (by decide))) ks0) (allS ne356 all0))
 have f505 := (f424.ks K421)
 have f506 := (f425.ks K421)
 obtain ⟨cq502, kq502, q502a, q502b, q502c⟩ := isOf hZ233 e449 f505
 obtain ⟨_, _, ⟨T502, L502, k502, n502⟩, -, X502, ⟨Lc502, hQ502, l502, y502, z502⟩, st502⟩ := X449.virtualBack hx (y := mN29) (z := mN29) ho233 (mvT hZ233 (tw hw 143 rfl)) (mvT hZ233 (tw hw 144 rfl)) (notFace_of_selects (args := #[]) (mvT hZ233 (tw hw 146 rfl))) (mvT hZ233 (tw hw 146 rfl)) (mvT hZ233 (tw hw 145 rfl)) (by decide) (backOf (W := 0) (r20_1 l Z a0 hw b206 w450 (((0 : Int32) + ((1 : Int32) >>> ((0 : Int32) &&& 31))) + (SBG.strSizeOf w359)) b227_0 k227_0 (SBG.ogc (decide (w359 < 0)) (w359).toInt.natAbs (SBG.digits (w359).toInt.natAbs) ((((0 : Int32) + ((1 : Int32) >>> ((0 : Int32) &&& 31))) + (SBG.strSizeOf w359))).toNatClampNeg (fun i => if (((0 : Int32) <<< ((0 : Int32) &&& 31))).toNatClampNeg ≤ i ∧ i < (((0 : Int32) <<< ((0 : Int32) &&& 31))).toNatClampNeg + ((1 : Int32)).toNatClampNeg then (fun i => ([80] : List Int32).getD i 0) (((0 : Int32)).toNatClampNeg + (i - (((0 : Int32) <<< ((0 : Int32) &&& 31))).toNatClampNeg)) else (fun _ => (0 : Int32)) i)) (16 : Int32) (0 : Int32) w228 T421.heap n0 Z421 o421_0 f503 o421_1 f504 H19 f505 f506 H1 rfl H20 g230 (Ne.symm ne356) H8 H21 g355 ne356) hZ233 (tw hw 147 rfl) (tw hw 40 rfl) (by decide) (by decide)) q502a q502c (g := (mkF m 26 #[vR a205] [(.int w450), (.ref b206)])) rfl (by rw [hml]; rfl) (Steps.refl _) (argsL := [(.int w450)]) (rest := []) (lenOf pd_24 rfl) rfl (own_w _) (hb hby d3_26) (fun _ _ => ⟨rfl, e449, (by decide : 4 + 0 ≤ _), (by decide : 28 + 0 ≤ _)⟩)
 dsimp only [Pt.U, Pt.locs, Pt.cells, Pt.slots] at X502 l502 y502 z502 st502 hQ502
 replace X502 := own_mvX X502 (a := 4) (b := 28) y502 z502
 obtain ⟨N502q, rfl, K502, o502_0, o502_1⟩ := hQ502
 have N502 := own_mvN l502 N449 N502q
 have KC502 := KSx.trans KC421 K502 (ksS (Or.inr z231) ks0) (allS (Or.inr z357) all0)
 have R502 := CHr.trans R421 (CHr.ks K502 (ksS (Safe.exa hZ233.alike f505 (by decide) (by decide)) ks0) (allS sf442 all0) R421.1)
 have sf507 := Safe.ks K502 (ksS (Safe.exa hZ233.alike f505 (by decide) (by decide)) ks0) (allS sf442 all0) R421.1 sf442
 obtain ⟨b508, T508, h508, j508, b508_1, k508, X508, e508, E508, hS508, hk508, hZ508, ho508, A508, Fc508, Fv508, V508, lt508, lu508, ch508, -, sx508, st508⟩ := ldcCH (s := s) X502 hx hZ233 ho233 (tw hw 156 rfl) (fun d hd => hw d (str_in d hd)) rfl hS233 (Nat.le_trans hk233 (Nat.le_trans (Nat.le_trans K348.1 K421.1) K502.1)) (el_ok hw) (List.mem_of_getElem? (i := 1) rfl) R502.1 (vs := [(.int (76 : Int32))]) (z := (1 : Int32)) ⟨by decide, by decide +kernel⟩ (by decide) rfl (g := (mkF m 29 #[vR a205] [(.ref b206)])) rfl (hb hby d3_29) (n := 4) (by decide) (by decide) (by decide) (by decide)
 have KC508 := KSx.ext KC502 E508
 have R508 := CHr.trans R502 ch508
 have sf509 := CHr.safe ch508 (o502_1).lt sf507
 have Bl508 : BA Z h508 b508_1 k508 .byte (1 : Int32) (fun i => ([76] : List Int32).getD i 0) := BA.of_arv V508 (fun i hi => by match i, hi with | 0, _ => rfl | _ + 1, hi => exact absurd hi (by simp only [show (1 : Int32).toNatClampNeg = 1 from rfl]; omega))
 have f624 := ((f506.ks K502).ext E508)
 have f625 := (o502_0.ext E508)
 have f626 := ((f503.ks K502 (ksS (Or.inr (slot_ne (Or.inl (tw hw 55 rfl)) (Or.inl (tw hw 88 rfl)) (by decide) (t := (.array .byte)) (t' := .int) (by decide) (by decide))) ks0) (allS ne356 all0)).ext E508)
 have f627 := (o502_1.ext E508)
 have f628 := ((f504.ks K502 (ksS (Or.inr (slot_ne (Or.inl (tw hw 57 rfl)) (Or.inl (tw hw 88 rfl)) (by decide) (t := .byte) (t' := .int) (by decide) (by decide))) ks0) (allS ne356 all0)).ext E508)
 have f629 := ((f505.ks K502).ext E508)
 have Z502 : n0 ≤ T502.heap.size := Nat.le_trans Z421 K502.1
 have Z508 : n0 ≤ h508.size := Nat.le_trans Z502 E508.1
 obtain ⟨cq623, kq623, q623a, q623b, q623c⟩ := isOf hZ508 e508 f629
 obtain ⟨_, _, ⟨T623, L623, k623, n623⟩, -, X623, ⟨Lc623, hQ623, l623, y623, z623⟩, st623⟩ := X508.virtualBack hx (y := mN20) (z := mN20) ho508 (mvT hZ508 (tw hw 64 rfl)) (mvT hZ508 (tw hw 65 rfl)) (notFace_of_selects (args := #[]) (mvT hZ508 (tw hw 67 rfl))) (mvT hZ508 (tw hw 67 rfl)) (mvT hZ508 (tw hw 66 rfl)) (by decide) (backOf (W := 0) (r6_1 l Z a0 hw b206 b508 b508_1 k508 (fun i => ([76] : List Int32).getD i 0) w228 (0 : Int32) ((((0 : Int32) + ((1 : Int32) >>> ((0 : Int32) &&& 31))) + (SBG.strSizeOf w359)) + (1 : Int32)) b227_0 k227_0 (fun i => if i = ((((0 : Int32) + ((1 : Int32) >>> ((0 : Int32) &&& 31))) + (SBG.strSizeOf w359))).toNatClampNeg then (w450.toInt8.toInt32).toInt8.toInt32 else (SBG.ogc (decide (w359 < 0)) (w359).toInt.natAbs (SBG.digits (w359).toInt.natAbs) ((((0 : Int32) + ((1 : Int32) >>> ((0 : Int32) &&& 31))) + (SBG.strSizeOf w359))).toNatClampNeg (fun i => if (((0 : Int32) <<< ((0 : Int32) &&& 31))).toNatClampNeg ≤ i ∧ i < (((0 : Int32) <<< ((0 : Int32) &&& 31))).toNatClampNeg + ((1 : Int32)).toNatClampNeg then (fun i => ([80] : List Int32).getD i 0) (((0 : Int32)).toNatClampNeg + (i - (((0 : Int32) <<< ((0 : Int32) &&& 31))).toNatClampNeg)) else (fun _ => (0 : Int32)) i)) i) (16 : Int32) (0 : Int32) h508 n0 Z508 Fv508 Bl508 f624 H1 Fc508 (by first | decide | rfl) A508 f625 f626 f627 f628 H22 f629 rfl rfl H23 H24 g355 ne356 g230 (Ne.symm ne356)) hZ508 (tw hw 68 rfl) (tw hw 40 rfl) (by decide) (by decide)) q623a q623c (g := (mkF m 31 #[vR a205] [(.ref b508), (.ref b206)])) rfl (by rw [hml]; rfl) (Steps.refl _) (argsL := [(.ref b508)]) (rest := []) (lenOf pd_16 rfl) rfl (own_w _) (hb hby d3_31) (fun _ _ => ⟨rfl, e508, (by decide : 6 + 0 ≤ _), (by decide : 36 + 0 ≤ _)⟩)
 dsimp only [Pt.U, Pt.locs, Pt.cells, Pt.slots] at X623 l623 y623 z623 st623 hQ623
 replace X623 := own_mvX X623 (a := 6) (b := 36) y623 z623
 obtain ⟨N623q, rfl, K623, o623_0, o623_1⟩ := hQ623
 have N623 := own_mvN l623 N502 N623q
 have KC623 := KSx.trans KC508 K623 (ksS (Or.inr z231) ks0) (allS (Or.inr z357) all0)
 have R623 := CHr.trans R508 (CHr.ks K623 (ksS (Safe.exa hZ508.alike f629 (by decide) (by decide)) ks0) (allS sf509 all0) R508.1)
 have sf630 := Safe.ks K623 (ksS (Safe.exa hZ508.alike f629 (by decide) (by decide)) ks0) (allS sf509 all0) R508.1 sf509
 have f632 := ((((((((H25.ext E206).ks K227 (ksS (Or.inl ne360) (ksS (Or.inl ne360) ks0)) all0).ext E233).ks K348 (ksS (Or.inl ne360) ks0) (allS ne362 all0)).ks K421 (ksS (Or.inl ne360) ks0) (allS ne362 all0)).ks K502 (ksS (Or.inl ne360) ks0) (allS ne362 all0)).ext E508).ks K623 (ksS (Or.inl ne360) ks0) (allS ne362 all0))
 obtain ⟨T633, X633, e633, st633⟩ := getF X623 hx hZ508 ho508 (host := "") (Or.inl (tw hw 31 rfl)) Via.refl rfl f632 (g := (mkF m 35 #[vR a205] [(.ref a205), (.ref b206)])) rfl rfl (hb hby d3_35)
 have f691 := (f626.ks K623 (ksS (Or.inr (slot_ne (Or.inl (tw hw 55 rfl)) (Or.inl (tw hw 88 rfl)) (by decide) (t := (.array .byte)) (t' := .int) (by decide) (by decide))) ks0) (allS ne356 all0))
 have f692 := (f628.ks K623 (ksS (Or.inr (slot_ne (Or.inl (tw hw 57 rfl)) (Or.inl (tw hw 88 rfl)) (by decide) (t := .byte) (t' := .int) (by decide) (by decide))) ks0) (allS ne356 all0))
 have f693 := (f629.ks K623)
 have f694 := (f624.ks K623)
 have f695 := ((((f427.ks K421).ks K502).ext E508).ks K623)
 have f696 := ((((f429.ks K421).ks K502).ext E508).ks K623)
 have f697 := ((((f435.ks K421 (ksS ne432 ks0) (allS ne434 all0)).ks K502 (ksS ne432 ks0) (allS ne434 all0)).ext E508).ks K623 (ksS ne432 ks0) (allS ne434 all0))
 have f698 := ((((f441.ks K421 (ksS ne438 ks0) (allS ne440 all0)).ks K502 (ksS ne438 ks0) (allS ne440 all0)).ext E508).ks K623 (ksS ne438 ks0) (allS ne440 all0))
 have Z623 : n0 ≤ T623.heap.size := Nat.le_trans Z508 K623.1
 obtain ⟨cq690, kq690, q690a, q690b, q690c⟩ := isOf hZ508 e633 f693
 obtain ⟨_, _, ⟨T690, L690, k690, n690⟩, -, X690, ⟨Lc690, hQ690, l690, y690, z690⟩, st690⟩ := X633.virtualBack hx (y := mN25) (z := mN25) ho508 (mvT hZ508 (tw hw 114 rfl)) (mvT hZ508 (tw hw 115 rfl)) (notFace_of_selects (args := #[]) (mvT hZ508 (tw hw 117 rfl))) (mvT hZ508 (tw hw 117 rfl)) (mvT hZ508 (tw hw 116 rfl)) (by decide) (backOf (W := 0) (r14_1 l Z a0 hw b206 (1 : Int32) (((((0 : Int32) + ((1 : Int32) >>> ((0 : Int32) &&& 31))) + (SBG.strSizeOf w359)) + (1 : Int32)) + ((1 : Int32) >>> ((0 : Int32) &&& 31))) b227_0 k227_0 (fun i => if ((((((0 : Int32) + ((1 : Int32) >>> ((0 : Int32) &&& 31))) + (SBG.strSizeOf w359)) + (1 : Int32)) <<< ((0 : Int32) &&& 31))).toNatClampNeg ≤ i ∧ i < ((((((0 : Int32) + ((1 : Int32) >>> ((0 : Int32) &&& 31))) + (SBG.strSizeOf w359)) + (1 : Int32)) <<< ((0 : Int32) &&& 31))).toNatClampNeg + ((1 : Int32)).toNatClampNeg then (fun i => ([76] : List Int32).getD i 0) (((0 : Int32)).toNatClampNeg + (i - ((((((0 : Int32) + ((1 : Int32) >>> ((0 : Int32) &&& 31))) + (SBG.strSizeOf w359)) + (1 : Int32)) <<< ((0 : Int32) &&& 31))).toNatClampNeg)) else (fun i => if i = ((((0 : Int32) + ((1 : Int32) >>> ((0 : Int32) &&& 31))) + (SBG.strSizeOf w359))).toNatClampNeg then (w450.toInt8.toInt32).toInt8.toInt32 else (SBG.ogc (decide (w359 < 0)) (w359).toInt.natAbs (SBG.digits (w359).toInt.natAbs) ((((0 : Int32) + ((1 : Int32) >>> ((0 : Int32) &&& 31))) + (SBG.strSizeOf w359))).toNatClampNeg (fun i => if (((0 : Int32) <<< ((0 : Int32) &&& 31))).toNatClampNeg ≤ i ∧ i < (((0 : Int32) <<< ((0 : Int32) &&& 31))).toNatClampNeg + ((1 : Int32)).toNatClampNeg then (fun i => ([80] : List Int32).getD i 0) (((0 : Int32)).toNatClampNeg + (i - (((0 : Int32) <<< ((0 : Int32) &&& 31))).toNatClampNeg)) else (fun _ => (0 : Int32)) i)) i) i) (16 : Int32) (0 : Int32) w228 w426 w428 k430 u431 k436 u437 T623.heap n0 Z623 o623_0 f691 o623_1 f692 H27 f693 f694 H1 rfl f695 f696 f697 f698 (Ne.symm ne434) (Ne.symm ne440) g355 H28 H29 H30 H11 H12 H13 H14 ne356 g230 (Ne.symm ne356)) hZ508 (tw hw 118 rfl) (tw hw 40 rfl) (by decide) (by decide)) q690a q690c (g := (mkF m 46 #[vR a205] [(.int (1 : Int32)), (.ref b206)])) rfl (by rw [hml]; rfl) (Steps.refl _) (argsL := [(.int (1 : Int32))]) (rest := []) (lenOf pd_20 rfl) rfl (own_w _) (hb hby d3_46) (fun _ _ => ⟨rfl, e633, (by decide : 6 + 0 ≤ _), (by decide : 36 + 0 ≤ _)⟩)
 dsimp only [Pt.U, Pt.locs, Pt.cells, Pt.slots] at X690 l690 y690 z690 st690 hQ690
 replace X690 := own_mvX X690 (a := 6) (b := 36) y690 z690
 obtain ⟨N690q, rfl, K690, o690_0, o690_1⟩ := hQ690
 have N690 := own_mvN l690 N623 N690q
 have KC690 := KSx.trans KC623 K690 (ksS (Or.inr z231) ks0) (allS (Or.inr z357) all0)
 have R690 := CHr.trans R623 (CHr.ks K690 (ksS (Safe.exa hZ508.alike f693 (by decide) (by decide)) ks0) (allS sf630 all0) R623.1)
 have sf699 := Safe.ks K690 (ksS (Safe.exa hZ508.alike f693 (by decide) (by decide)) ks0) (allS sf630 all0) R623.1 sf630
 have f796 := (f691.ks K690 (ksS (Or.inr (slot_ne (Or.inl (tw hw 55 rfl)) (Or.inl (tw hw 88 rfl)) (by decide) (t := (.array .byte)) (t' := .int) (by decide) (by decide))) ks0) (allS ne356 all0))
 have f797 := (f693.ks K690)
 have f798 := (f694.ks K690)
 have f799 := (f692.ks K690 (ksS (Or.inr (slot_ne (Or.inl (tw hw 57 rfl)) (Or.inl (tw hw 88 rfl)) (by decide) (t := .byte) (t' := .int) (by decide) (by decide))) ks0) (allS ne356 all0))
 have Z690 : n0 ≤ T690.heap.size := Nat.le_trans Z623 K690.1
 obtain ⟨cq795, kq795, q795a, q795b, q795c⟩ := isOf hZ508 rfl f797
 obtain ⟨_, _, ⟨T795, L795, k795, n795⟩, -, X795, ⟨Lc795, hQ795, l795, y795, z795⟩, st795⟩ := X690.virtualBack hx (y := mN39) (z := mN39) ho508 (mvT hZ508 (tw hw 157 rfl)) (mvT hZ508 (tw hw 158 rfl)) (notFace_of_selects (args := #[]) (mvT hZ508 (tw hw 160 rfl))) (mvT hZ508 (tw hw 160 rfl)) (mvT hZ508 (tw hw 159 rfl)) (by decide) (backOf (W := 0) (r23_1 l Z a0 hw b206 b227_0 ((((((0 : Int32) + ((1 : Int32) >>> ((0 : Int32) &&& 31))) + (SBG.strSizeOf w359)) + (1 : Int32)) + ((1 : Int32) >>> ((0 : Int32) &&& 31))) + (SBG.strSizeOf (1 : Int32))) w228 (0 : Int32) k227_0 (SBG.ogc (decide ((1 : Int32) < 0)) ((1 : Int32)).toInt.natAbs (SBG.digits ((1 : Int32)).toInt.natAbs) (((((((0 : Int32) + ((1 : Int32) >>> ((0 : Int32) &&& 31))) + (SBG.strSizeOf w359)) + (1 : Int32)) + ((1 : Int32) >>> ((0 : Int32) &&& 31))) + (SBG.strSizeOf (1 : Int32)))).toNatClampNeg (fun i => if ((((((0 : Int32) + ((1 : Int32) >>> ((0 : Int32) &&& 31))) + (SBG.strSizeOf w359)) + (1 : Int32)) <<< ((0 : Int32) &&& 31))).toNatClampNeg ≤ i ∧ i < ((((((0 : Int32) + ((1 : Int32) >>> ((0 : Int32) &&& 31))) + (SBG.strSizeOf w359)) + (1 : Int32)) <<< ((0 : Int32) &&& 31))).toNatClampNeg + ((1 : Int32)).toNatClampNeg then (fun i => ([76] : List Int32).getD i 0) (((0 : Int32)).toNatClampNeg + (i - ((((((0 : Int32) + ((1 : Int32) >>> ((0 : Int32) &&& 31))) + (SBG.strSizeOf w359)) + (1 : Int32)) <<< ((0 : Int32) &&& 31))).toNatClampNeg)) else (fun i => if i = ((((0 : Int32) + ((1 : Int32) >>> ((0 : Int32) &&& 31))) + (SBG.strSizeOf w359))).toNatClampNeg then (w450.toInt8.toInt32).toInt8.toInt32 else (SBG.ogc (decide (w359 < 0)) (w359).toInt.natAbs (SBG.digits (w359).toInt.natAbs) ((((0 : Int32) + ((1 : Int32) >>> ((0 : Int32) &&& 31))) + (SBG.strSizeOf w359))).toNatClampNeg (fun i => if (((0 : Int32) <<< ((0 : Int32) &&& 31))).toNatClampNeg ≤ i ∧ i < (((0 : Int32) <<< ((0 : Int32) &&& 31))).toNatClampNeg + ((1 : Int32)).toNatClampNeg then (fun i => ([80] : List Int32).getD i 0) (((0 : Int32)).toNatClampNeg + (i - (((0 : Int32) <<< ((0 : Int32) &&& 31))).toNatClampNeg)) else (fun _ => (0 : Int32)) i)) i) i)) (16 : Int32) T690.heap n0 Z690 f796 f797 o690_0 f798 H1 f799 rfl o690_1 H31 H28 H32 H33 H34 H35 H36) hZ508 (tw hw 161 rfl) (tw hw 40 rfl) (by decide) (by decide)) q795a q795c (g := (mkF m 49 #[vR a205] [(.ref b206)])) rfl (by rw [hml]; rfl) (Steps.refl _) (argsL := []) (rest := []) (lenOf pd_30 rfl) rfl (own_w _) (hb hby d3_49) (fun _ _ => ⟨rfl, rfl, (by decide : 6 + 2 ≤ _), (by decide : 36 + 20 ≤ _)⟩)
 dsimp only [Pt.U, Pt.locs, Pt.cells, Pt.slots] at X795 l795 y795 z795 st795 hQ795
 replace X795 := own_mvX X795 (a := 8) (b := 56) y795 z795
 obtain ⟨N795q, b795_0, b795_1, k795_0, rfl, ge_b795_0, ge_b795_1, K795, o795_0, o795_1, o795_2, o795_3⟩ := hQ795
 have N795 := own_mvN l795 N690 N795q
 have KC795 := KSx.trans KC690 K795 ks0 all0
 have R795 := CHr.trans R690 (CHr.ks K795 ks0 all0 R690.1)
 have sf800 := Safe.ks K795 ks0 all0 R690.1 sf699
 have sf801 := Safe.ks K795 ks0 all0 R690.1 (Safe.new ge_b795_1)
 have f802 := (f797.ks K795)
 have f803 := (f796.ks K795 ks0 all0)
 have f804 := (f799.ks K795 ks0 all0)
 have f805 := (o690_0.ks K795 ks0 all0)
 have f806 := (o690_1.ks K795 ks0 all0)
 obtain ⟨fs, hr, hrun, hended, hR1, hR2, hR3, hR4⟩ := X795.leaveW (s := s) hS508 ((Nat.le_trans hk508 (Nat.le_trans (Nat.le_trans K623.1 K690.1) K795.1))) (v := some (.ref b795_0)) (fun h => by rw [Bd.returns] at h; cases h)
 refine ⟨_, _, pre0 _ ?_, hrun, hended, _, _, rfl, ?_, ?_, hR1, hR2, hR3, hR4.mono (by decide) (by decide)⟩
 · show SG p e below s₁ (mkF m 0 #[vR a205] []) _
   refine st206 _ ?_
   show SG p e below T206 (mkF m 3 #[vR a205] [(.ref b206)]) _
   refine XS.dup X206.here hx rfl (hb hby d3_3) rfl rfl ?_
   show SG p e below T206 (mkF m 4 #[vR a205] [(.ref b206), (.ref b206)]) _
   refine st227.trans ?_
   show SG p e below T227 (mkF m 7 #[vR a205] [(.ref b206)]) _
   refine st233 _ ?_
   show SG p e below T233 (mkF m 9 #[vR a205] [(.ref b233), (.ref b206)]) _
   refine st348.trans ?_
   show SG p e below T348 (mkF m 12 #[vR a205] [(.ref b206)]) _
   refine XS.aloadN X348.here hx rfl (hb hby d3_12) rfl rfl ?_
   show SG p e below T348 (mkF m 13 #[vR a205] [(.ref a205), (.ref b206)]) _
   refine st364 _ ?_
   show SG p e below T364 (mkF m 16 #[vR a205] [(.int w359), (.ref b206)]) _
   refine st421.trans ?_
   show SG p e below T421 (mkF m 19 #[vR a205] [(.ref b206)]) _
   refine XS.aloadN X421.here hx rfl (hb hby d3_19) rfl rfl ?_
   show SG p e below T421 (mkF m 20 #[vR a205] [(.ref a205), (.ref b206)]) _
   refine st445 _ ?_
   show SG p e below T445 (mkF m 23 #[vR a205] [(.ref w443), (.ref b206)]) _
   refine st449.trans ?_
   show SG p e below T449 (mkF m 26 #[vR a205] [(.int w450), (.ref b206)]) _
   refine st502.trans ?_
   show SG p e below T502 (mkF m 29 #[vR a205] [(.ref b206)]) _
   refine st508 _ ?_
   show SG p e below T508 (mkF m 31 #[vR a205] [(.ref b508), (.ref b206)]) _
   refine st623.trans ?_
   show SG p e below T623 (mkF m 34 #[vR a205] [(.ref b206)]) _
   refine XS.aloadN X623.here hx rfl (hb hby d3_34) rfl rfl ?_
   show SG p e below T623 (mkF m 35 #[vR a205] [(.ref a205), (.ref b206)]) _
   refine st633 _ ?_
   show SG p e below T633 (mkF m 38 #[vR a205] [(.int w631), (.ref b206)]) _
   refine XS.ifYes X633.here hx rfl (pc0 := 38) (pc' := 45) rfl (hb hby d3_38) rfl ((if0 _ _).trans (teq H26).1) (by decide) (by decide) ?_
   show SG p e below T633 (mkF m 45 #[vR a205] [(.ref b206)]) _
   refine XS.iconst X633.here hx rfl (hb hby d3_45) ?_
   show SG p e below T633 (mkF m 46 #[vR a205] [(.int (1 : Int32)), (.ref b206)]) _
   refine st690.trans ?_
   show SG p e below T690 (mkF m 49 #[vR a205] [(.ref b206)]) _
   refine st795.trans ?_
   show SG p e below T795 (mkF m 52 #[vR a205] [(.ref b795_0)]) _
   jvm_step X795.here [X795.here.top, hx, (hb hby d3_52), X795.method', Bd.returns, Value.isRef, FieldType.isReference]
   first | (intro acts; rw [hr _ acts rfl rfl rfl]) | rw [hr _ _ rfl rfl rfl]
   exact Steps.refl _
 · show Qr3_1 Z a205 w228 w359 w426 w428 k430 u431 k436 u437 w443 w450 w631 h0 n0 _ T795.heap _
   exact ⟨N795, b206, b227_0, b795_0, b795_1, k227_0, k795_0, rfl, z231, z357, (Nat.le_trans KC690.1 ge_b795_0), (Nat.le_trans KC690.1 ge_b795_1), KC795, f802, o795_0, f803, f804, f805, o795_1, o795_2, f806, o795_3⟩
 · rw [hh]
   show CHr Z EL s.vm h0 T795.vm T795.heap
   exact CHr.trans R795 (CHv.at X795 hZ508 (el_ok hw) R795.1)
abbrev la34 (a969 : Addr) (p970 : Int32) (w971 : Int32) : Array Slot := #[vR a969, vI p970, vI w971, vI (w971 + (SBG.strSizeOf p970))]
theorem d3_41 : decode prog_12_method_2_code 41 = .ok (.iconst 0, 1) := by decide +kernel
theorem d3_42 : decode prog_12_method_2_code 42 = .ok (.goto 4, 3) := by decide +kernel
abbrev la35 (a1238 : Addr) (p1239 : Int32) (w1240 : Int32) : Array Slot := #[vR a1238, vI p1239, vI w1240, vI (w1240 + (SBG.strSizeOf p1239))]
abbrev la36 (a1339 : Addr) (p1340 : Int32) (p1341 : Int32) (b1345 : Addr) : Array Slot := #[vR a1339, vI p1340, vI p1341, vI (p1341 - p1340), vR b1345]
def Qr3_2 (Z : State) (a807 : Addr) (w830 : Int32) (w961 : Int32) (w1028 : Addr) (w1030 : Addr) (k1032 : ClassId) (u1033 : Nat → Int32) (k1038 : ClassId) (u1039 : Nat → Int32) (w1045 : Addr) (w1052 : Int32) (w1233 : Int32) (h0 : Heap) (n0 : Nat) (v : Option Value) (h : Heap) (L : List Loc) : Prop := Fr n0 L ∧ ∃ b808 b829_0 b1397_0 b1397_1 : Addr, ∃ k1397_0 k829_0 : ClassId, v = some (.ref b1397_0) ∧ h0.size ≤ b808 ∧ h0.size ≤ b829_0 ∧ h0.size ≤ b1397_0 ∧ h0.size ≤ b1397_1 ∧ KSx h0 h [] [] ∧ Exa Z h b808 "java/lang/StringBuilder" ∧ Exa Z h b1397_0 "java/lang/String" ∧ Fld Z h b808 "java/lang/AbstractStringBuilder" "value" "[B" (.ref b829_0) ∧ Fld Z h b808 "java/lang/AbstractStringBuilder" "coder" "B" (.int (0 : Int32)) ∧ Fld Z h b808 "java/lang/AbstractStringBuilder" "count" "I" (.int ((((((0 : Int32) + ((1 : Int32) >>> ((0 : Int32) &&& 31))) + (SBG.strSizeOf w961)) + (1 : Int32)) + ((1 : Int32) >>> ((0 : Int32) &&& 31))) + (SBG.strSizeOf (0 : Int32)))) ∧ Fld Z h b1397_0 "java/lang/String" "value" "[B" (.ref b1397_1) ∧ Fld Z h b1397_0 "java/lang/String" "coder" "B" (.int (0 : Int32)) ∧ BA Z h b829_0 k829_0 .byte (16 : Int32) (SBG.ogc (decide ((0 : Int32) < 0)) ((0 : Int32)).toInt.natAbs (SBG.digits ((0 : Int32)).toInt.natAbs) (((((((0 : Int32) + ((1 : Int32) >>> ((0 : Int32) &&& 31))) + (SBG.strSizeOf w961)) + (1 : Int32)) + ((1 : Int32) >>> ((0 : Int32) &&& 31))) + (SBG.strSizeOf (0 : Int32)))).toNatClampNeg (fun i => if ((((((0 : Int32) + ((1 : Int32) >>> ((0 : Int32) &&& 31))) + (SBG.strSizeOf w961)) + (1 : Int32)) <<< ((0 : Int32) &&& 31))).toNatClampNeg ≤ i ∧ i < ((((((0 : Int32) + ((1 : Int32) >>> ((0 : Int32) &&& 31))) + (SBG.strSizeOf w961)) + (1 : Int32)) <<< ((0 : Int32) &&& 31))).toNatClampNeg + ((1 : Int32)).toNatClampNeg then (fun i => ([76] : List Int32).getD i 0) (((0 : Int32)).toNatClampNeg + (i - ((((((0 : Int32) + ((1 : Int32) >>> ((0 : Int32) &&& 31))) + (SBG.strSizeOf w961)) + (1 : Int32)) <<< ((0 : Int32) &&& 31))).toNatClampNeg)) else (fun i => if i = ((((0 : Int32) + ((1 : Int32) >>> ((0 : Int32) &&& 31))) + (SBG.strSizeOf w961))).toNatClampNeg then (w1052.toInt8.toInt32).toInt8.toInt32 else (SBG.ogc (decide (w961 < 0)) (w961).toInt.natAbs (SBG.digits (w961).toInt.natAbs) ((((0 : Int32) + ((1 : Int32) >>> ((0 : Int32) &&& 31))) + (SBG.strSizeOf w961))).toNatClampNeg (fun i => if (((0 : Int32) <<< ((0 : Int32) &&& 31))).toNatClampNeg ≤ i ∧ i < (((0 : Int32) <<< ((0 : Int32) &&& 31))).toNatClampNeg + ((1 : Int32)).toNatClampNeg then (fun i => ([80] : List Int32).getD i 0) (((0 : Int32)).toNatClampNeg + (i - (((0 : Int32) <<< ((0 : Int32) &&& 31))).toNatClampNeg)) else (fun _ => (0 : Int32)) i)) i) i)) ∧ BA Z h b1397_1 k1397_0 .byte (((((((0 : Int32) + ((1 : Int32) >>> ((0 : Int32) &&& 31))) + (SBG.strSizeOf w961)) + (1 : Int32)) + ((1 : Int32) >>> ((0 : Int32) &&& 31))) + (SBG.strSizeOf (0 : Int32))) - (0 : Int32)) (fun i => if ((0 : Int32)).toNatClampNeg ≤ i ∧ i < ((0 : Int32)).toNatClampNeg + ((((((((0 : Int32) + ((1 : Int32) >>> ((0 : Int32) &&& 31))) + (SBG.strSizeOf w961)) + (1 : Int32)) + ((1 : Int32) >>> ((0 : Int32) &&& 31))) + (SBG.strSizeOf (0 : Int32))) - (0 : Int32))).toNatClampNeg then (SBG.ogc (decide ((0 : Int32) < 0)) ((0 : Int32)).toInt.natAbs (SBG.digits ((0 : Int32)).toInt.natAbs) (((((((0 : Int32) + ((1 : Int32) >>> ((0 : Int32) &&& 31))) + (SBG.strSizeOf w961)) + (1 : Int32)) + ((1 : Int32) >>> ((0 : Int32) &&& 31))) + (SBG.strSizeOf (0 : Int32)))).toNatClampNeg (fun i => if ((((((0 : Int32) + ((1 : Int32) >>> ((0 : Int32) &&& 31))) + (SBG.strSizeOf w961)) + (1 : Int32)) <<< ((0 : Int32) &&& 31))).toNatClampNeg ≤ i ∧ i < ((((((0 : Int32) + ((1 : Int32) >>> ((0 : Int32) &&& 31))) + (SBG.strSizeOf w961)) + (1 : Int32)) <<< ((0 : Int32) &&& 31))).toNatClampNeg + ((1 : Int32)).toNatClampNeg then (fun i => ([76] : List Int32).getD i 0) (((0 : Int32)).toNatClampNeg + (i - ((((((0 : Int32) + ((1 : Int32) >>> ((0 : Int32) &&& 31))) + (SBG.strSizeOf w961)) + (1 : Int32)) <<< ((0 : Int32) &&& 31))).toNatClampNeg)) else (fun i => if i = ((((0 : Int32) + ((1 : Int32) >>> ((0 : Int32) &&& 31))) + (SBG.strSizeOf w961))).toNatClampNeg then (w1052.toInt8.toInt32).toInt8.toInt32 else (SBG.ogc (decide (w961 < 0)) (w961).toInt.natAbs (SBG.digits (w961).toInt.natAbs) ((((0 : Int32) + ((1 : Int32) >>> ((0 : Int32) &&& 31))) + (SBG.strSizeOf w961))).toNatClampNeg (fun i => if (((0 : Int32) <<< ((0 : Int32) &&& 31))).toNatClampNeg ≤ i ∧ i < (((0 : Int32) <<< ((0 : Int32) &&& 31))).toNatClampNeg + ((1 : Int32)).toNatClampNeg then (fun i => ([80] : List Int32).getD i 0) (((0 : Int32)).toNatClampNeg + (i - (((0 : Int32) <<< ((0 : Int32) &&& 31))).toNatClampNeg)) else (fun _ => (0 : Int32)) i)) i) i)) (((0 : Int32)).toNatClampNeg + (i - ((0 : Int32)).toNatClampNeg)) else (fun _ => (0 : Int32)) i)
theorem r3_2 (l : Launch) (Z : State) (a0 : Array Value) (hw : ∀ d ∈ tables_1, d.before a0 Z = true) (a807 : Addr) (w830 : Int32) (w961 : Int32) (w1028 : Addr) (w1030 : Addr) (k1032 : ClassId) (u1033 : Nat → Int32) (k1038 : ClassId) (u1039 : Nat → Int32) (w1045 : Addr) (w1052 : Int32) (w1233 : Int32) (h0 : Heap) (n0 : Nat) (Z0 : n0 ≤ h0.size) (H0 : Sta Z h0 "java/lang/String" "COMPACT_STRINGS" "Z" (.int w830)) (H1 : ¬ (w830 = (0 : Int32))) (H2 : Fld Z h0 a807 "com/example/tranchebook/tranchebook/Cycle" "count" "I" (.int w961)) (H3 : ¬ ((0 : Int32) < ((((0 : Int32) + ((1 : Int32) >>> ((0 : Int32) &&& 31))) + (SBG.strSizeOf w961)) - ((16 : Int32) >>> ((0 : Int32) &&& 31))))) (H4 : Sta Z h0 "java/lang/Integer" "DigitOnes" "[B" (.ref w1028)) (H5 : Sta Z h0 "java/lang/Integer" "DigitTens" "[B" (.ref w1030)) (H6 : BA Z h0 w1028 k1032 .byte (100 : Int32) u1033) (H7 : BA Z h0 w1030 k1038 .byte (100 : Int32) u1039) (H8 : ¬ ((((0 : Int32) + ((1 : Int32) >>> ((0 : Int32) &&& 31))) + (SBG.strSizeOf w961)) < (0 : Int32))) (H9 : ((((0 : Int32) + ((1 : Int32) >>> ((0 : Int32) &&& 31))) + (SBG.strSizeOf w961))).toNatClampNeg ≤ ((16 : Int32)).toNatClampNeg) (H10 : SBG.digits (w961).toInt.natAbs + (if w961 < 0 then 1 else 0) ≤ ((((0 : Int32) + ((1 : Int32) >>> ((0 : Int32) &&& 31))) + (SBG.strSizeOf w961))).toNatClampNeg) (H11 : u1033 = (fun r => Int32.ofNat (48 + r % 10))) (H12 : u1039 = (fun r => Int32.ofNat (48 + r / 10))) (H13 : (Jvm.Cond.laysStatic "java/lang/Integer" "DigitOnes" "[B").before a0 Z = true) (H14 : (Jvm.Cond.laysStatic "java/lang/Integer" "DigitTens" "[B").before a0 Z = true) (H15 : Fld Z h0 a807 "com/example/tranchebook/tranchebook/Cycle" "unit" "Lcom/example/tranchebook/tranchebook/Cycle$Unit;" (.ref w1045)) (H16 : Fld Z h0 w1045 "com/example/tranchebook/tranchebook/Cycle$Unit" "letter" "C" (.int w1052)) (H17 : nar .char w1052 = w1052) (H18 : Exa Z h0 w1045 "com/example/tranchebook/tranchebook/Cycle$Unit") (H19 : ¬ ((0 : Int32) < (((((0 : Int32) + ((1 : Int32) >>> ((0 : Int32) &&& 31))) + (SBG.strSizeOf w961)) + (1 : Int32)) - ((16 : Int32) >>> ((0 : Int32) &&& 31))))) (H20 : ¬ ((255 : Int32) < w1052)) (H21 : (((0 : Int32) + ((1 : Int32) >>> ((0 : Int32) &&& 31))) + (SBG.strSizeOf w961)) < (16 : Int32)) (H22 : ¬ ((0 : Int32) < ((((((0 : Int32) + ((1 : Int32) >>> ((0 : Int32) &&& 31))) + (SBG.strSizeOf w961)) + (1 : Int32)) + ((1 : Int32) >>> ((0 : Int32) &&& 31))) - ((16 : Int32) >>> ((0 : Int32) &&& 31))))) (H23 : ¬ ((((((0 : Int32) + ((1 : Int32) >>> ((0 : Int32) &&& 31))) + (SBG.strSizeOf w961)) + (1 : Int32)) <<< ((0 : Int32) &&& 31)) < (0 : Int32))) (H24 : ((((((0 : Int32) + ((1 : Int32) >>> ((0 : Int32) &&& 31))) + (SBG.strSizeOf w961)) + (1 : Int32)) <<< ((0 : Int32) &&& 31))).toNatClampNeg + ((1 : Int32)).toNatClampNeg ≤ ((16 : Int32)).toNatClampNeg) (H25 : Fld Z h0 a807 "com/example/tranchebook/tranchebook/Cycle" "longStub" "Z" (.int w1233)) (H26 : ¬ (w1233 = (0 : Int32))) (H27 : ¬ ((0 : Int32) < (((((((0 : Int32) + ((1 : Int32) >>> ((0 : Int32) &&& 31))) + (SBG.strSizeOf w961)) + (1 : Int32)) + ((1 : Int32) >>> ((0 : Int32) &&& 31))) + (SBG.strSizeOf (0 : Int32))) - ((16 : Int32) >>> ((0 : Int32) &&& 31))))) (H28 : ¬ (((((((0 : Int32) + ((1 : Int32) >>> ((0 : Int32) &&& 31))) + (SBG.strSizeOf w961)) + (1 : Int32)) + ((1 : Int32) >>> ((0 : Int32) &&& 31))) + (SBG.strSizeOf (0 : Int32))) < (0 : Int32))) (H29 : (((((((0 : Int32) + ((1 : Int32) >>> ((0 : Int32) &&& 31))) + (SBG.strSizeOf w961)) + (1 : Int32)) + ((1 : Int32) >>> ((0 : Int32) &&& 31))) + (SBG.strSizeOf (0 : Int32)))).toNatClampNeg ≤ ((16 : Int32)).toNatClampNeg) (H30 : SBG.digits ((0 : Int32)).toInt.natAbs + (if (0 : Int32) < 0 then 1 else 0) ≤ (((((((0 : Int32) + ((1 : Int32) >>> ((0 : Int32) &&& 31))) + (SBG.strSizeOf w961)) + (1 : Int32)) + ((1 : Int32) >>> ((0 : Int32) &&& 31))) + (SBG.strSizeOf (0 : Int32)))).toNatClampNeg) (H31 : ¬ (((((((0 : Int32) + ((1 : Int32) >>> ((0 : Int32) &&& 31))) + (SBG.strSizeOf w961)) + (1 : Int32)) + ((1 : Int32) >>> ((0 : Int32) &&& 31))) + (SBG.strSizeOf (0 : Int32))) = (16 : Int32))) (H32 : ¬ ((((((((0 : Int32) + ((1 : Int32) >>> ((0 : Int32) &&& 31))) + (SBG.strSizeOf w961)) + (1 : Int32)) + ((1 : Int32) >>> ((0 : Int32) &&& 31))) + (SBG.strSizeOf (0 : Int32))) - (0 : Int32)) < (0 : Int32))) (H33 : ¬ ((16 : Int32) < (((((((0 : Int32) + ((1 : Int32) >>> ((0 : Int32) &&& 31))) + (SBG.strSizeOf w961)) + (1 : Int32)) + ((1 : Int32) >>> ((0 : Int32) &&& 31))) + (SBG.strSizeOf (0 : Int32))) - (0 : Int32)))) (H34 : (((((((0 : Int32) + ((1 : Int32) >>> ((0 : Int32) &&& 31))) + (SBG.strSizeOf w961)) + (1 : Int32)) + ((1 : Int32) >>> ((0 : Int32) &&& 31))) + (SBG.strSizeOf (0 : Int32))) - (0 : Int32)) < ((16 : Int32) - (0 : Int32))) (H35 : ((0 : Int32)).toNatClampNeg + ((((((((0 : Int32) + ((1 : Int32) >>> ((0 : Int32) &&& 31))) + (SBG.strSizeOf w961)) + (1 : Int32)) + ((1 : Int32) >>> ((0 : Int32) &&& 31))) + (SBG.strSizeOf (0 : Int32))) - (0 : Int32))).toNatClampNeg ≤ ((16 : Int32)).toNatClampNeg) (H36 : ((0 : Int32)).toNatClampNeg + ((((((((0 : Int32) + ((1 : Int32) >>> ((0 : Int32) &&& 31))) + (SBG.strSizeOf w961)) + (1 : Int32)) + ((1 : Int32) >>> ((0 : Int32) &&& 31))) + (SBG.strSizeOf (0 : Int32))) - (0 : Int32))).toNatClampNeg ≤ ((((((((0 : Int32) + ((1 : Int32) >>> ((0 : Int32) &&& 31))) + (SBG.strSizeOf w961)) + (1 : Int32)) + ((1 : Int32) >>> ((0 : Int32) &&& 31))) + (SBG.strSizeOf (0 : Int32))) - (0 : Int32))).toNatClampNeg) :
   OMetH EL l Z mN40 prog_12_method_2_code 1 (some (.object "java/lang/String")) [] ({ frames := 6, cells := 8, slots := 56, locals := 106 } : Room) h0 #[(.ref a807)] (Qr3_2 Z a807 w830 w961 w1028 w1030 k1032 u1033 k1038 u1039 w1045 w1052 w1233 h0 n0) := by
 refine MetFree.of_bodySF (plainFor_of_name pn_com_example_tranchebook_tranchebook_Cycle) hisR ?_
 intro p e s m args below meth c s₁ Bd hml0 hP hK
 obtain ⟨rfl, hZ, hh, hCH⟩ := hP
 have hx := Bd.exec
 have hby := Bd.bytes
 have hml : c.maxLocals = 1 := hml0
 have hown : s.vm.findClass "com/example/tranchebook/tranchebook/Cycle" = some m.cls := findClass_of_methodNamed Bd.named
 have hnm := (name_of_methodNamed Bd.named Bd.method).1
 have X0 : Stand p l e ({ frames := 6, cells := 8, slots := 56, locals := 106 } : Room) s m #[(.ref a807)] below meth c s₁ [] 0 0 := Stand.of_body Bd
 have e0 : s₁.heap = h0 := by rw [← hh, Bd.state]; rfl
 have N0 := Fr.nil n0
 have R0 : CHr Z EL s.vm h0 s.vm h0 := CHr.refl hCH
 have pre0 : ∀ t, Steps p.tables e below (s₁.setTop (mkF m 0 #[vR a807] [])) t → Steps p.tables e below (s₁.setTop (entryFrame m #[(.ref a807)] 1)) t := fun t k => castTop (ef_3_v m a807) k
 obtain ⟨T808, h808, X808, e808, E808, A808, D808, -, st808⟩ := newO X0 hx hZ hown (tw hw 38 rfl) (tw hw 39 rfl) (tw hw 40 rfl) e0 (g := (mkF m 0 #[vR a807] [])) rfl (hb hby d3_0) (by decide) (by decide)
 obtain ⟨b808, g808⟩ : ∃ z, z = h0.size := ⟨_, rfl⟩
 rw [← g808] at A808 D808 st808
 have KC808 := KSx.ext (KSx.refl h0 [] []) E808
 have R808 := CHr.trans R0 (CHr.ext E808 R0.1)
 have f831 := (H0.ext E808)
 have g832 : n0 ≤ b808 := Nat.le_trans Z0 (Nat.le_of_eq g808.symm)
 have Z808 : n0 ≤ h808.size := Nat.le_trans Z0 E808.1
 obtain ⟨_, _, ⟨T829, L829, k829, n829⟩, -, X829, ⟨Lc829, hQ829, l829, y829, z829⟩, st829⟩ := X808.specialBack hx (y := mN12) rfl hown (mvT hZ (tw hw 41 rfl)) (mvT hZ (tw hw 42 rfl)) (mvT hZ (tw hw 43 rfl)) (by decide) (backOf (W := 1) (r4_1 l Z a0 hw b808 w830 (0 : Int32) h808 n0 Z808 f831 H1 A808 (D808 (Or.inl (tw hw 55 rfl)) (ty := (.array .byte)) (by decide)) g832 (D808 (Or.inl (tw hw 57 rfl)) (ty := .byte) (by decide))) hZ (tw hw 43 rfl) (tw hw 40 rfl) (by decide) (by decide)) (g := (mkF m 4 #[vR a807] [(.ref b808), (.ref b808)])) rfl (by rw [hml]; rfl) (Steps.refl _) (a := b808) (argsL := []) (rest := [(.ref b808)]) (lenOf pd_9 rfl) rfl (own_w _) (hb hby d3_4) (fun _ _ => ⟨rfl, e808, (by decide : 1 + 1 ≤ _), (by decide : 4 + 16 ≤ _)⟩)
 dsimp only [Pt.U, Pt.locs, Pt.cells, Pt.slots] at X829 l829 y829 z829 st829 hQ829
 replace X829 := own_mvX X829 (a := 2) (b := 20) y829 z829
 obtain ⟨N829q, b829_0, k829_0, rfl, ge_b829_0, K829, o829_0, o829_1, o829_2⟩ := hQ829
 have N829 := own_mvN l829 N0 N829q
 have z833 : h0.size ≤ b808 := Nat.le_trans (KSx.refl h0 [] []).1 (Nat.le_of_eq g808.symm)
 have KC829 := KSx.trans KC808 K829 (ksS (Or.inr z833) (ksS (Or.inr z833) ks0)) all0
 have R829 := CHr.trans R808 (CHr.ks K829 (ksS (Safe.exa hZ.alike A808 (by decide) (by decide)) (ksS (Safe.exa hZ.alike A808 (by decide) (by decide)) ks0)) all0 R808.1)
 have sf834 := Safe.ks K829 (ksS (Safe.exa hZ.alike A808 (by decide) (by decide)) (ksS (Safe.exa hZ.alike A808 (by decide) (by decide)) ks0)) all0 R808.1 (Safe.new ge_b829_0)
 obtain ⟨b835, T835, h835, j835, b835_1, k835, X835, e835, E835, hS835, hk835, hZ835, ho835, A835, Fc835, Fv835, V835, lt835, lu835, ch835, -, sx835, st835⟩ := ldcCH (s := s) (vm0 := s.vm) X829 hx hZ hown (tw hw 58 rfl) (fun d hd => hw d (str_in d hd)) rfl ((State.WarmedH.refl s).since 0) (Nat.zero_le _) (el_ok hw) (List.mem_of_getElem? (i := 0) rfl) R829.1 (vs := [(.int (80 : Int32))]) (z := (1 : Int32)) ⟨by decide, by decide +kernel⟩ (by decide) rfl (g := (mkF m 7 #[vR a807] [(.ref b808)])) rfl (hb hby d3_7) (n := 4) (by decide) (by decide) (by decide) (by decide)
 have KC835 := KSx.ext KC829 E835
 have R835 := CHr.trans R829 ch835
 have sf836 := CHr.safe ch835 (o829_2).lt sf834
 have Bl835 : BA Z h835 b835_1 k835 .byte (1 : Int32) (fun i => ([80] : List Int32).getD i 0) := BA.of_arv V835 (fun i hi => by match i, hi with | 0, _ => rfl | _ + 1, hi => exact absurd hi (by simp only [show (1 : Int32).toNatClampNeg = 1 from rfl]; omega))
 have f951 := ((f831.ks K829).ext E835)
 have f952 := (((D808 (Or.inl (tw hw 88 rfl)) (ty := .int) (by decide)).ks K829 (ksS (Or.inr (slot_ne (Or.inl (tw hw 88 rfl)) (Or.inl (tw hw 57 rfl)) (by decide) (t := .int) (t' := .byte) (by decide) (by decide))) (ksS (Or.inr (slot_ne (Or.inl (tw hw 88 rfl)) (Or.inl (tw hw 55 rfl)) (by decide) (t := .int) (t' := (.array .byte)) (by decide) (by decide))) ks0)) all0).ext E835)
 have f953 := (o829_0.ext E835)
 have f954 := (o829_2.ext E835)
 have f955 := (o829_1.ext E835)
 have f956 := ((A808.ks K829).ext E835)
 have g957 : n0 ≤ b829_0 := Nat.le_trans Z808 ge_b829_0
 have ne958 : b808 ≠ b829_0 := (Nat.ne_of_lt (Nat.lt_of_lt_of_le (A808).lt ge_b829_0))
 have Z829 : n0 ≤ T829.heap.size := Nat.le_trans Z808 K829.1
 have Z835 : n0 ≤ h835.size := Nat.le_trans Z829 E835.1
 obtain ⟨cq950, kq950, q950a, q950b, q950c⟩ := isOf hZ835 e835 f956
 obtain ⟨_, _, ⟨T950, L950, k950, n950⟩, -, X950, ⟨Lc950, hQ950, l950, y950, z950⟩, st950⟩ := X835.virtualBack hx (y := mN20) (z := mN20) ho835 (mvT hZ835 (tw hw 64 rfl)) (mvT hZ835 (tw hw 65 rfl)) (notFace_of_selects (args := #[]) (mvT hZ835 (tw hw 67 rfl))) (mvT hZ835 (tw hw 67 rfl)) (mvT hZ835 (tw hw 66 rfl)) (by decide) (backOf (W := 0) (r6_1 l Z a0 hw b808 b835 b835_1 k835 (fun i => ([80] : List Int32).getD i 0) w830 (0 : Int32) (0 : Int32) b829_0 k829_0 (fun _ => (0 : Int32)) (16 : Int32) (0 : Int32) h835 n0 Z835 Fv835 Bl835 f951 H1 Fc835 (by first | decide | rfl) A835 f952 f953 f954 f955 (by first | decide | rfl) f956 rfl rfl (by first | decide | rfl) (by first | decide | rfl) g957 ne958 g832 (Ne.symm ne958)) hZ835 (tw hw 68 rfl) (tw hw 40 rfl) (by decide) (by decide)) q950a q950c (g := (mkF m 9 #[vR a807] [(.ref b835), (.ref b808)])) rfl (by rw [hml]; rfl) (Steps.refl _) (argsL := [(.ref b835)]) (rest := []) (lenOf pd_16 rfl) rfl (own_w _) (hb hby d3_9) (fun _ _ => ⟨rfl, e835, (by decide : 4 + 0 ≤ _), (by decide : 28 + 0 ≤ _)⟩)
 dsimp only [Pt.U, Pt.locs, Pt.cells, Pt.slots] at X950 l950 y950 z950 st950 hQ950
 replace X950 := own_mvX X950 (a := 4) (b := 28) y950 z950
 obtain ⟨N950q, rfl, K950, o950_0, o950_1⟩ := hQ950
 have N950 := own_mvN l950 N829 N950q
 have z959 : h0.size ≤ b829_0 := Nat.le_trans KC808.1 ge_b829_0
 have KC950 := KSx.trans KC835 K950 (ksS (Or.inr z833) ks0) (allS (Or.inr z959) all0)
 have R950 := CHr.trans R835 (CHr.ks K950 (ksS (Safe.exa hZ835.alike f956 (by decide) (by decide)) ks0) (allS sf836 all0) R835.1)
 have sf960 := Safe.ks K950 (ksS (Safe.exa hZ835.alike f956 (by decide) (by decide)) ks0) (allS sf836 all0) R835.1 sf836
 have ne962 : a807 ≠ b808 := (Nat.ne_of_lt (Nat.lt_of_lt_of_le (H2).lt (Nat.le_of_eq g808.symm)))
 have f963 := (H2.ext E808)
 have ne964 : a807 ≠ b829_0 := (Nat.ne_of_lt (Nat.lt_of_lt_of_le (f963).lt ge_b829_0))
 have f965 := ((((H2.ext E808).ks K829 (ksS (Or.inl ne962) (ksS (Or.inl ne962) ks0)) all0).ext E835).ks K950 (ksS (Or.inl ne962) ks0) (allS ne964 all0))
 obtain ⟨T966, X966, e966, st966⟩ := getF X950 hx hZ835 ho835 (host := "") (Or.inl (tw hw 27 rfl)) Via.refl rfl f965 (g := (mkF m 13 #[vR a807] [(.ref a807), (.ref b808)])) rfl rfl (hb hby d3_13)
 have f1024 := (f953.ks K950 (ksS (Or.inr (slot_ne (Or.inl (tw hw 55 rfl)) (Or.inl (tw hw 88 rfl)) (by decide) (t := (.array .byte)) (t' := .int) (by decide) (by decide))) ks0) (allS ne958 all0))
 have f1025 := (f955.ks K950 (ksS (Or.inr (slot_ne (Or.inl (tw hw 57 rfl)) (Or.inl (tw hw 88 rfl)) (by decide) (t := .byte) (t' := .int) (by decide) (by decide))) ks0) (allS ne958 all0))
 have f1026 := (f956.ks K950)
 have f1027 := (f951.ks K950)
 have f1029 := ((((H4.ext E808).ks K829).ext E835).ks K950)
 have f1031 := ((((H5.ext E808).ks K829).ext E835).ks K950)
 have ne1034 : w1028 ≠ b808 := (Nat.ne_of_lt (Nat.lt_of_lt_of_le (H6).lt (Nat.le_of_eq g808.symm)))
 have f1035 := (H6.ext E808)
 have ne1036 : w1028 ≠ b829_0 := (Nat.ne_of_lt (Nat.lt_of_lt_of_le (f1035).lt ge_b829_0))
 have f1037 := ((((H6.ext E808).ks K829 (ksS ne1034 (ksS ne1034 ks0)) all0).ext E835).ks K950 (ksS ne1034 ks0) (allS ne1036 all0))
 have ne1040 : w1030 ≠ b808 := (Nat.ne_of_lt (Nat.lt_of_lt_of_le (H7).lt (Nat.le_of_eq g808.symm)))
 have f1041 := (H7.ext E808)
 have ne1042 : w1030 ≠ b829_0 := (Nat.ne_of_lt (Nat.lt_of_lt_of_le (f1041).lt ge_b829_0))
 have f1043 := ((((H7.ext E808).ks K829 (ksS ne1040 (ksS ne1040 ks0)) all0).ext E835).ks K950 (ksS ne1040 ks0) (allS ne1042 all0))
 have Z950 : n0 ≤ T950.heap.size := Nat.le_trans Z835 K950.1
 obtain ⟨cq1023, kq1023, q1023a, q1023b, q1023c⟩ := isOf hZ835 e966 f1026
 obtain ⟨_, _, ⟨T1023, L1023, k1023, n1023⟩, -, X1023, ⟨Lc1023, hQ1023, l1023, y1023, z1023⟩, st1023⟩ := X966.virtualBack hx (y := mN25) (z := mN25) ho835 (mvT hZ835 (tw hw 114 rfl)) (mvT hZ835 (tw hw 115 rfl)) (notFace_of_selects (args := #[]) (mvT hZ835 (tw hw 117 rfl))) (mvT hZ835 (tw hw 117 rfl)) (mvT hZ835 (tw hw 116 rfl)) (by decide) (backOf (W := 0) (r14_1 l Z a0 hw b808 w961 ((0 : Int32) + ((1 : Int32) >>> ((0 : Int32) &&& 31))) b829_0 k829_0 (fun i => if (((0 : Int32) <<< ((0 : Int32) &&& 31))).toNatClampNeg ≤ i ∧ i < (((0 : Int32) <<< ((0 : Int32) &&& 31))).toNatClampNeg + ((1 : Int32)).toNatClampNeg then (fun i => ([80] : List Int32).getD i 0) (((0 : Int32)).toNatClampNeg + (i - (((0 : Int32) <<< ((0 : Int32) &&& 31))).toNatClampNeg)) else (fun _ => (0 : Int32)) i) (16 : Int32) (0 : Int32) w830 w1028 w1030 k1032 u1033 k1038 u1039 T950.heap n0 Z950 o950_0 f1024 o950_1 f1025 H3 f1026 f1027 H1 rfl f1029 f1031 f1037 f1043 (Ne.symm ne1036) (Ne.symm ne1042) g957 H8 H9 H10 H11 H12 H13 H14 ne958 g832 (Ne.symm ne958)) hZ835 (tw hw 118 rfl) (tw hw 40 rfl) (by decide) (by decide)) q1023a q1023c (g := (mkF m 16 #[vR a807] [(.int w961), (.ref b808)])) rfl (by rw [hml]; rfl) (Steps.refl _) (argsL := [(.int w961)]) (rest := []) (lenOf pd_20 rfl) rfl (own_w _) (hb hby d3_16) (fun _ _ => ⟨rfl, e966, (by decide : 4 + 0 ≤ _), (by decide : 28 + 0 ≤ _)⟩)
 dsimp only [Pt.U, Pt.locs, Pt.cells, Pt.slots] at X1023 l1023 y1023 z1023 st1023 hQ1023
 replace X1023 := own_mvX X1023 (a := 4) (b := 28) y1023 z1023
 obtain ⟨N1023q, rfl, K1023, o1023_0, o1023_1⟩ := hQ1023
 have N1023 := own_mvN l1023 N950 N1023q
 have KC1023 := KSx.trans KC950 K1023 (ksS (Or.inr z833) ks0) (allS (Or.inr z959) all0)
 have R1023 := CHr.trans R950 (CHr.ks K1023 (ksS (Safe.exa hZ835.alike f1026 (by decide) (by decide)) ks0) (allS sf960 all0) R950.1)
 have sf1044 := Safe.ks K1023 (ksS (Safe.exa hZ835.alike f1026 (by decide) (by decide)) ks0) (allS sf960 all0) R950.1 sf960
 have f1046 := (((((H15.ext E808).ks K829 (ksS (Or.inl ne962) (ksS (Or.inl ne962) ks0)) all0).ext E835).ks K950 (ksS (Or.inl ne962) ks0) (allS ne964 all0)).ks K1023 (ksS (Or.inl ne962) ks0) (allS ne964 all0))
 obtain ⟨T1047, X1047, e1047, st1047⟩ := getF X1023 hx hZ835 ho835 (host := "") (Or.inl (tw hw 29 rfl)) Via.refl rfl f1046 (g := (mkF m 20 #[vR a807] [(.ref a807), (.ref b808)])) rfl rfl (hb hby d3_20)
 have ne1053 : w1045 ≠ b808 := (Nat.ne_of_lt (Nat.lt_of_lt_of_le (H16).lt (Nat.le_of_eq g808.symm)))
 have f1054 := (H16.ext E808)
 have ne1055 : w1045 ≠ b829_0 := (Nat.ne_of_lt (Nat.lt_of_lt_of_le (f1054).lt ge_b829_0))
 have f1056 := (((((H16.ext E808).ks K829 (ksS (Or.inl ne1053) (ksS (Or.inl ne1053) ks0)) all0).ext E835).ks K950 (ksS (Or.inl ne1053) ks0) (allS ne1055 all0)).ks K1023 (ksS (Or.inl ne1053) ks0) (allS ne1055 all0))
 have Z1023 : n0 ≤ T1023.heap.size := Nat.le_trans Z950 K1023.1
 have f1057 := (((((H18.ext E808).ks K829).ext E835).ks K950).ks K1023)
 obtain ⟨cq1051, kq1051, q1051a, q1051b, q1051c⟩ := isOf hZ835 e1047 f1057
 obtain ⟨_, _, ⟨T1051, L1051, k1051, n1051⟩, -, X1051, ⟨Lc1051, hQ1051, l1051, y1051, z1051⟩, st1051⟩ := X1047.virtualBack hx (y := mN26) (z := mN26) ho835 (mvT hZ835 (tw hw 136 rfl)) (mvT hZ835 (tw hw 137 rfl)) (notFace_of_selects (args := #[]) (mvT hZ835 (tw hw 139 rfl))) (mvT hZ835 (tw hw 139 rfl)) (mvT hZ835 (tw hw 138 rfl)) (by decide) (backOf (W := 1) (r19_1 l Z a0 hw w1045 w1052 T1023.heap n0 Z1023 f1056 H17) hZ835 (tw hw 140 rfl) (tw hw 3 rfl) (by decide) (by decide)) q1051a q1051c (g := (mkF m 23 #[vR a807] [(.ref w1045), (.ref b808)])) rfl (by rw [hml]; rfl) (Steps.refl _) (argsL := []) (rest := [(.ref b808)]) (lenOf pd_21 rfl) rfl (own_w _) (hb hby d3_23) (fun _ _ => ⟨rfl, e1047, (by decide : 4 + 0 ≤ _), (by decide : 28 + 0 ≤ _)⟩)
 dsimp only [Pt.U, Pt.locs, Pt.cells, Pt.slots] at X1051 l1051 y1051 z1051 st1051 hQ1051
 replace X1051 := own_mvX X1051 (a := 4) (b := 28) y1051 z1051
 obtain ⟨rfl, N1051q, e1051⟩ := hQ1051
 have N1051 := own_mvN l1051 N1023 N1051q
 have f1105 := (f1024.ks K1023 (ksS (Or.inr (slot_ne (Or.inl (tw hw 55 rfl)) (Or.inl (tw hw 88 rfl)) (by decide) (t := (.array .byte)) (t' := .int) (by decide) (by decide))) ks0) (allS ne958 all0))
 have f1106 := (f1025.ks K1023 (ksS (Or.inr (slot_ne (Or.inl (tw hw 57 rfl)) (Or.inl (tw hw 88 rfl)) (by decide) (t := .byte) (t' := .int) (by decide) (by decide))) ks0) (allS ne958 all0))
 have f1107 := (f1026.ks K1023)
 have f1108 := (f1027.ks K1023)
 obtain ⟨cq1104, kq1104, q1104a, q1104b, q1104c⟩ := isOf hZ835 e1051 f1107
 obtain ⟨_, _, ⟨T1104, L1104, k1104, n1104⟩, -, X1104, ⟨Lc1104, hQ1104, l1104, y1104, z1104⟩, st1104⟩ := X1051.virtualBack hx (y := mN29) (z := mN29) ho835 (mvT hZ835 (tw hw 143 rfl)) (mvT hZ835 (tw hw 144 rfl)) (notFace_of_selects (args := #[]) (mvT hZ835 (tw hw 146 rfl))) (mvT hZ835 (tw hw 146 rfl)) (mvT hZ835 (tw hw 145 rfl)) (by decide) (backOf (W := 0) (r20_1 l Z a0 hw b808 w1052 (((0 : Int32) + ((1 : Int32) >>> ((0 : Int32) &&& 31))) + (SBG.strSizeOf w961)) b829_0 k829_0 (SBG.ogc (decide (w961 < 0)) (w961).toInt.natAbs (SBG.digits (w961).toInt.natAbs) ((((0 : Int32) + ((1 : Int32) >>> ((0 : Int32) &&& 31))) + (SBG.strSizeOf w961))).toNatClampNeg (fun i => if (((0 : Int32) <<< ((0 : Int32) &&& 31))).toNatClampNeg ≤ i ∧ i < (((0 : Int32) <<< ((0 : Int32) &&& 31))).toNatClampNeg + ((1 : Int32)).toNatClampNeg then (fun i => ([80] : List Int32).getD i 0) (((0 : Int32)).toNatClampNeg + (i - (((0 : Int32) <<< ((0 : Int32) &&& 31))).toNatClampNeg)) else (fun _ => (0 : Int32)) i)) (16 : Int32) (0 : Int32) w830 T1023.heap n0 Z1023 o1023_0 f1105 o1023_1 f1106 H19 f1107 f1108 H1 rfl H20 g832 (Ne.symm ne958) H8 H21 g957 ne958) hZ835 (tw hw 147 rfl) (tw hw 40 rfl) (by decide) (by decide)) q1104a q1104c (g := (mkF m 26 #[vR a807] [(.int w1052), (.ref b808)])) rfl (by rw [hml]; rfl) (Steps.refl _) (argsL := [(.int w1052)]) (rest := []) (lenOf pd_24 rfl) rfl (own_w _) (hb hby d3_26) (fun _ _ => ⟨rfl, e1051, (by decide : 4 + 0 ≤ _), (by decide : 28 + 0 ≤ _)⟩)
 dsimp only [Pt.U, Pt.locs, Pt.cells, Pt.slots] at X1104 l1104 y1104 z1104 st1104 hQ1104
 replace X1104 := own_mvX X1104 (a := 4) (b := 28) y1104 z1104
 obtain ⟨N1104q, rfl, K1104, o1104_0, o1104_1⟩ := hQ1104
 have N1104 := own_mvN l1104 N1051 N1104q
 have KC1104 := KSx.trans KC1023 K1104 (ksS (Or.inr z833) ks0) (allS (Or.inr z959) all0)
 have R1104 := CHr.trans R1023 (CHr.ks K1104 (ksS (Safe.exa hZ835.alike f1107 (by decide) (by decide)) ks0) (allS sf1044 all0) R1023.1)
 have sf1109 := Safe.ks K1104 (ksS (Safe.exa hZ835.alike f1107 (by decide) (by decide)) ks0) (allS sf1044 all0) R1023.1 sf1044
 obtain ⟨b1110, T1110, h1110, j1110, b1110_1, k1110, X1110, e1110, E1110, hS1110, hk1110, hZ1110, ho1110, A1110, Fc1110, Fv1110, V1110, lt1110, lu1110, ch1110, -, sx1110, st1110⟩ := ldcCH (s := s) X1104 hx hZ835 ho835 (tw hw 156 rfl) (fun d hd => hw d (str_in d hd)) rfl hS835 (Nat.le_trans hk835 (Nat.le_trans (Nat.le_trans K950.1 K1023.1) K1104.1)) (el_ok hw) (List.mem_of_getElem? (i := 1) rfl) R1104.1 (vs := [(.int (76 : Int32))]) (z := (1 : Int32)) ⟨by decide, by decide +kernel⟩ (by decide) rfl (g := (mkF m 29 #[vR a807] [(.ref b808)])) rfl (hb hby d3_29) (n := 4) (by decide) (by decide) (by decide) (by decide)
 have KC1110 := KSx.ext KC1104 E1110
 have R1110 := CHr.trans R1104 ch1110
 have sf1111 := CHr.safe ch1110 (o1104_1).lt sf1109
 have Bl1110 : BA Z h1110 b1110_1 k1110 .byte (1 : Int32) (fun i => ([76] : List Int32).getD i 0) := BA.of_arv V1110 (fun i hi => by match i, hi with | 0, _ => rfl | _ + 1, hi => exact absurd hi (by simp only [show (1 : Int32).toNatClampNeg = 1 from rfl]; omega))
 have f1226 := ((f1108.ks K1104).ext E1110)
 have f1227 := (o1104_0.ext E1110)
 have f1228 := ((f1105.ks K1104 (ksS (Or.inr (slot_ne (Or.inl (tw hw 55 rfl)) (Or.inl (tw hw 88 rfl)) (by decide) (t := (.array .byte)) (t' := .int) (by decide) (by decide))) ks0) (allS ne958 all0)).ext E1110)
 have f1229 := (o1104_1.ext E1110)
 have f1230 := ((f1106.ks K1104 (ksS (Or.inr (slot_ne (Or.inl (tw hw 57 rfl)) (Or.inl (tw hw 88 rfl)) (by decide) (t := .byte) (t' := .int) (by decide) (by decide))) ks0) (allS ne958 all0)).ext E1110)
 have f1231 := ((f1107.ks K1104).ext E1110)
 have Z1104 : n0 ≤ T1104.heap.size := Nat.le_trans Z1023 K1104.1
 have Z1110 : n0 ≤ h1110.size := Nat.le_trans Z1104 E1110.1
 obtain ⟨cq1225, kq1225, q1225a, q1225b, q1225c⟩ := isOf hZ1110 e1110 f1231
 obtain ⟨_, _, ⟨T1225, L1225, k1225, n1225⟩, -, X1225, ⟨Lc1225, hQ1225, l1225, y1225, z1225⟩, st1225⟩ := X1110.virtualBack hx (y := mN20) (z := mN20) ho1110 (mvT hZ1110 (tw hw 64 rfl)) (mvT hZ1110 (tw hw 65 rfl)) (notFace_of_selects (args := #[]) (mvT hZ1110 (tw hw 67 rfl))) (mvT hZ1110 (tw hw 67 rfl)) (mvT hZ1110 (tw hw 66 rfl)) (by decide) (backOf (W := 0) (r6_1 l Z a0 hw b808 b1110 b1110_1 k1110 (fun i => ([76] : List Int32).getD i 0) w830 (0 : Int32) ((((0 : Int32) + ((1 : Int32) >>> ((0 : Int32) &&& 31))) + (SBG.strSizeOf w961)) + (1 : Int32)) b829_0 k829_0 (fun i => if i = ((((0 : Int32) + ((1 : Int32) >>> ((0 : Int32) &&& 31))) + (SBG.strSizeOf w961))).toNatClampNeg then (w1052.toInt8.toInt32).toInt8.toInt32 else (SBG.ogc (decide (w961 < 0)) (w961).toInt.natAbs (SBG.digits (w961).toInt.natAbs) ((((0 : Int32) + ((1 : Int32) >>> ((0 : Int32) &&& 31))) + (SBG.strSizeOf w961))).toNatClampNeg (fun i => if (((0 : Int32) <<< ((0 : Int32) &&& 31))).toNatClampNeg ≤ i ∧ i < (((0 : Int32) <<< ((0 : Int32) &&& 31))).toNatClampNeg + ((1 : Int32)).toNatClampNeg then (fun i => ([80] : List Int32).getD i 0) (((0 : Int32)).toNatClampNeg + (i - (((0 : Int32) <<< ((0 : Int32) &&& 31))).toNatClampNeg)) else (fun _ => (0 : Int32)) i)) i) (16 : Int32) (0 : Int32) h1110 n0 Z1110 Fv1110 Bl1110 f1226 H1 Fc1110 (by first | decide | rfl) A1110 f1227 f1228 f1229 f1230 H22 f1231 rfl rfl H23 H24 g957 ne958 g832 (Ne.symm ne958)) hZ1110 (tw hw 68 rfl) (tw hw 40 rfl) (by decide) (by decide)) q1225a q1225c (g := (mkF m 31 #[vR a807] [(.ref b1110), (.ref b808)])) rfl (by rw [hml]; rfl) (Steps.refl _) (argsL := [(.ref b1110)]) (rest := []) (lenOf pd_16 rfl) rfl (own_w _) (hb hby d3_31) (fun _ _ => ⟨rfl, e1110, (by decide : 6 + 0 ≤ _), (by decide : 36 + 0 ≤ _)⟩)
 dsimp only [Pt.U, Pt.locs, Pt.cells, Pt.slots] at X1225 l1225 y1225 z1225 st1225 hQ1225
 replace X1225 := own_mvX X1225 (a := 6) (b := 36) y1225 z1225
 obtain ⟨N1225q, rfl, K1225, o1225_0, o1225_1⟩ := hQ1225
 have N1225 := own_mvN l1225 N1104 N1225q
 have KC1225 := KSx.trans KC1110 K1225 (ksS (Or.inr z833) ks0) (allS (Or.inr z959) all0)
 have R1225 := CHr.trans R1110 (CHr.ks K1225 (ksS (Safe.exa hZ1110.alike f1231 (by decide) (by decide)) ks0) (allS sf1111 all0) R1110.1)
 have sf1232 := Safe.ks K1225 (ksS (Safe.exa hZ1110.alike f1231 (by decide) (by decide)) ks0) (allS sf1111 all0) R1110.1 sf1111
 have f1234 := ((((((((H25.ext E808).ks K829 (ksS (Or.inl ne962) (ksS (Or.inl ne962) ks0)) all0).ext E835).ks K950 (ksS (Or.inl ne962) ks0) (allS ne964 all0)).ks K1023 (ksS (Or.inl ne962) ks0) (allS ne964 all0)).ks K1104 (ksS (Or.inl ne962) ks0) (allS ne964 all0)).ext E1110).ks K1225 (ksS (Or.inl ne962) ks0) (allS ne964 all0))
 obtain ⟨T1235, X1235, e1235, st1235⟩ := getF X1225 hx hZ1110 ho1110 (host := "") (Or.inl (tw hw 31 rfl)) Via.refl rfl f1234 (g := (mkF m 35 #[vR a807] [(.ref a807), (.ref b808)])) rfl rfl (hb hby d3_35)
 have f1293 := (f1228.ks K1225 (ksS (Or.inr (slot_ne (Or.inl (tw hw 55 rfl)) (Or.inl (tw hw 88 rfl)) (by decide) (t := (.array .byte)) (t' := .int) (by decide) (by decide))) ks0) (allS ne958 all0))
 have f1294 := (f1230.ks K1225 (ksS (Or.inr (slot_ne (Or.inl (tw hw 57 rfl)) (Or.inl (tw hw 88 rfl)) (by decide) (t := .byte) (t' := .int) (by decide) (by decide))) ks0) (allS ne958 all0))
 have f1295 := (f1231.ks K1225)
 have f1296 := (f1226.ks K1225)
 have f1297 := ((((f1029.ks K1023).ks K1104).ext E1110).ks K1225)
 have f1298 := ((((f1031.ks K1023).ks K1104).ext E1110).ks K1225)
 have f1299 := ((((f1037.ks K1023 (ksS ne1034 ks0) (allS ne1036 all0)).ks K1104 (ksS ne1034 ks0) (allS ne1036 all0)).ext E1110).ks K1225 (ksS ne1034 ks0) (allS ne1036 all0))
 have f1300 := ((((f1043.ks K1023 (ksS ne1040 ks0) (allS ne1042 all0)).ks K1104 (ksS ne1040 ks0) (allS ne1042 all0)).ext E1110).ks K1225 (ksS ne1040 ks0) (allS ne1042 all0))
 have Z1225 : n0 ≤ T1225.heap.size := Nat.le_trans Z1110 K1225.1
 obtain ⟨cq1292, kq1292, q1292a, q1292b, q1292c⟩ := isOf hZ1110 e1235 f1295
 obtain ⟨_, _, ⟨T1292, L1292, k1292, n1292⟩, -, X1292, ⟨Lc1292, hQ1292, l1292, y1292, z1292⟩, st1292⟩ := X1235.virtualBack hx (y := mN25) (z := mN25) ho1110 (mvT hZ1110 (tw hw 114 rfl)) (mvT hZ1110 (tw hw 115 rfl)) (notFace_of_selects (args := #[]) (mvT hZ1110 (tw hw 117 rfl))) (mvT hZ1110 (tw hw 117 rfl)) (mvT hZ1110 (tw hw 116 rfl)) (by decide) (backOf (W := 0) (r14_1 l Z a0 hw b808 (0 : Int32) (((((0 : Int32) + ((1 : Int32) >>> ((0 : Int32) &&& 31))) + (SBG.strSizeOf w961)) + (1 : Int32)) + ((1 : Int32) >>> ((0 : Int32) &&& 31))) b829_0 k829_0 (fun i => if ((((((0 : Int32) + ((1 : Int32) >>> ((0 : Int32) &&& 31))) + (SBG.strSizeOf w961)) + (1 : Int32)) <<< ((0 : Int32) &&& 31))).toNatClampNeg ≤ i ∧ i < ((((((0 : Int32) + ((1 : Int32) >>> ((0 : Int32) &&& 31))) + (SBG.strSizeOf w961)) + (1 : Int32)) <<< ((0 : Int32) &&& 31))).toNatClampNeg + ((1 : Int32)).toNatClampNeg then (fun i => ([76] : List Int32).getD i 0) (((0 : Int32)).toNatClampNeg + (i - ((((((0 : Int32) + ((1 : Int32) >>> ((0 : Int32) &&& 31))) + (SBG.strSizeOf w961)) + (1 : Int32)) <<< ((0 : Int32) &&& 31))).toNatClampNeg)) else (fun i => if i = ((((0 : Int32) + ((1 : Int32) >>> ((0 : Int32) &&& 31))) + (SBG.strSizeOf w961))).toNatClampNeg then (w1052.toInt8.toInt32).toInt8.toInt32 else (SBG.ogc (decide (w961 < 0)) (w961).toInt.natAbs (SBG.digits (w961).toInt.natAbs) ((((0 : Int32) + ((1 : Int32) >>> ((0 : Int32) &&& 31))) + (SBG.strSizeOf w961))).toNatClampNeg (fun i => if (((0 : Int32) <<< ((0 : Int32) &&& 31))).toNatClampNeg ≤ i ∧ i < (((0 : Int32) <<< ((0 : Int32) &&& 31))).toNatClampNeg + ((1 : Int32)).toNatClampNeg then (fun i => ([80] : List Int32).getD i 0) (((0 : Int32)).toNatClampNeg + (i - (((0 : Int32) <<< ((0 : Int32) &&& 31))).toNatClampNeg)) else (fun _ => (0 : Int32)) i)) i) i) (16 : Int32) (0 : Int32) w830 w1028 w1030 k1032 u1033 k1038 u1039 T1225.heap n0 Z1225 o1225_0 f1293 o1225_1 f1294 H27 f1295 f1296 H1 rfl f1297 f1298 f1299 f1300 (Ne.symm ne1036) (Ne.symm ne1042) g957 H28 H29 H30 H11 H12 H13 H14 ne958 g832 (Ne.symm ne958)) hZ1110 (tw hw 118 rfl) (tw hw 40 rfl) (by decide) (by decide)) q1292a q1292c (g := (mkF m 46 #[vR a807] [(.int (0 : Int32)), (.ref b808)])) rfl (by rw [hml]; rfl) (Steps.refl _) (argsL := [(.int (0 : Int32))]) (rest := []) (lenOf pd_20 rfl) rfl (own_w _) (hb hby d3_46) (fun _ _ => ⟨rfl, e1235, (by decide : 6 + 0 ≤ _), (by decide : 36 + 0 ≤ _)⟩)
 dsimp only [Pt.U, Pt.locs, Pt.cells, Pt.slots] at X1292 l1292 y1292 z1292 st1292 hQ1292
 replace X1292 := own_mvX X1292 (a := 6) (b := 36) y1292 z1292
 obtain ⟨N1292q, rfl, K1292, o1292_0, o1292_1⟩ := hQ1292
 have N1292 := own_mvN l1292 N1225 N1292q
 have KC1292 := KSx.trans KC1225 K1292 (ksS (Or.inr z833) ks0) (allS (Or.inr z959) all0)
 have R1292 := CHr.trans R1225 (CHr.ks K1292 (ksS (Safe.exa hZ1110.alike f1295 (by decide) (by decide)) ks0) (allS sf1232 all0) R1225.1)
 have sf1301 := Safe.ks K1292 (ksS (Safe.exa hZ1110.alike f1295 (by decide) (by decide)) ks0) (allS sf1232 all0) R1225.1 sf1232
 have f1398 := (f1293.ks K1292 (ksS (Or.inr (slot_ne (Or.inl (tw hw 55 rfl)) (Or.inl (tw hw 88 rfl)) (by decide) (t := (.array .byte)) (t' := .int) (by decide) (by decide))) ks0) (allS ne958 all0))
 have f1399 := (f1295.ks K1292)
 have f1400 := (f1296.ks K1292)
 have f1401 := (f1294.ks K1292 (ksS (Or.inr (slot_ne (Or.inl (tw hw 57 rfl)) (Or.inl (tw hw 88 rfl)) (by decide) (t := .byte) (t' := .int) (by decide) (by decide))) ks0) (allS ne958 all0))
 have Z1292 : n0 ≤ T1292.heap.size := Nat.le_trans Z1225 K1292.1
 obtain ⟨cq1397, kq1397, q1397a, q1397b, q1397c⟩ := isOf hZ1110 rfl f1399
 obtain ⟨_, _, ⟨T1397, L1397, k1397, n1397⟩, -, X1397, ⟨Lc1397, hQ1397, l1397, y1397, z1397⟩, st1397⟩ := X1292.virtualBack hx (y := mN39) (z := mN39) ho1110 (mvT hZ1110 (tw hw 157 rfl)) (mvT hZ1110 (tw hw 158 rfl)) (notFace_of_selects (args := #[]) (mvT hZ1110 (tw hw 160 rfl))) (mvT hZ1110 (tw hw 160 rfl)) (mvT hZ1110 (tw hw 159 rfl)) (by decide) (backOf (W := 0) (r23_1 l Z a0 hw b808 b829_0 ((((((0 : Int32) + ((1 : Int32) >>> ((0 : Int32) &&& 31))) + (SBG.strSizeOf w961)) + (1 : Int32)) + ((1 : Int32) >>> ((0 : Int32) &&& 31))) + (SBG.strSizeOf (0 : Int32))) w830 (0 : Int32) k829_0 (SBG.ogc (decide ((0 : Int32) < 0)) ((0 : Int32)).toInt.natAbs (SBG.digits ((0 : Int32)).toInt.natAbs) (((((((0 : Int32) + ((1 : Int32) >>> ((0 : Int32) &&& 31))) + (SBG.strSizeOf w961)) + (1 : Int32)) + ((1 : Int32) >>> ((0 : Int32) &&& 31))) + (SBG.strSizeOf (0 : Int32)))).toNatClampNeg (fun i => if ((((((0 : Int32) + ((1 : Int32) >>> ((0 : Int32) &&& 31))) + (SBG.strSizeOf w961)) + (1 : Int32)) <<< ((0 : Int32) &&& 31))).toNatClampNeg ≤ i ∧ i < ((((((0 : Int32) + ((1 : Int32) >>> ((0 : Int32) &&& 31))) + (SBG.strSizeOf w961)) + (1 : Int32)) <<< ((0 : Int32) &&& 31))).toNatClampNeg + ((1 : Int32)).toNatClampNeg then (fun i => ([76] : List Int32).getD i 0) (((0 : Int32)).toNatClampNeg + (i - ((((((0 : Int32) + ((1 : Int32) >>> ((0 : Int32) &&& 31))) + (SBG.strSizeOf w961)) + (1 : Int32)) <<< ((0 : Int32) &&& 31))).toNatClampNeg)) else (fun i => if i = ((((0 : Int32) + ((1 : Int32) >>> ((0 : Int32) &&& 31))) + (SBG.strSizeOf w961))).toNatClampNeg then (w1052.toInt8.toInt32).toInt8.toInt32 else (SBG.ogc (decide (w961 < 0)) (w961).toInt.natAbs (SBG.digits (w961).toInt.natAbs) ((((0 : Int32) + ((1 : Int32) >>> ((0 : Int32) &&& 31))) + (SBG.strSizeOf w961))).toNatClampNeg (fun i => if (((0 : Int32) <<< ((0 : Int32) &&& 31))).toNatClampNeg ≤ i ∧ i < (((0 : Int32) <<< ((0 : Int32) &&& 31))).toNatClampNeg + ((1 : Int32)).toNatClampNeg then (fun i => ([80] : List Int32).getD i 0) (((0 : Int32)).toNatClampNeg + (i - (((0 : Int32) <<< ((0 : Int32) &&& 31))).toNatClampNeg)) else (fun _ => (0 : Int32)) i)) i) i)) (16 : Int32) T1292.heap n0 Z1292 f1398 f1399 o1292_0 f1400 H1 f1401 rfl o1292_1 H31 H28 H32 H33 H34 H35 H36) hZ1110 (tw hw 161 rfl) (tw hw 40 rfl) (by decide) (by decide)) q1397a q1397c (g := (mkF m 49 #[vR a807] [(.ref b808)])) rfl (by rw [hml]; rfl) (Steps.refl _) (argsL := []) (rest := []) (lenOf pd_30 rfl) rfl (own_w _) (hb hby d3_49) (fun _ _ => ⟨rfl, rfl, (by decide : 6 + 2 ≤ _), (by decide : 36 + 20 ≤ _)⟩)
 dsimp only [Pt.U, Pt.locs, Pt.cells, Pt.slots] at X1397 l1397 y1397 z1397 st1397 hQ1397
 replace X1397 := own_mvX X1397 (a := 8) (b := 56) y1397 z1397
 obtain ⟨N1397q, b1397_0, b1397_1, k1397_0, rfl, ge_b1397_0, ge_b1397_1, K1397, o1397_0, o1397_1, o1397_2, o1397_3⟩ := hQ1397
 have N1397 := own_mvN l1397 N1292 N1397q
 have KC1397 := KSx.trans KC1292 K1397 ks0 all0
 have R1397 := CHr.trans R1292 (CHr.ks K1397 ks0 all0 R1292.1)
 have sf1402 := Safe.ks K1397 ks0 all0 R1292.1 sf1301
 have sf1403 := Safe.ks K1397 ks0 all0 R1292.1 (Safe.new ge_b1397_1)
 have f1404 := (f1399.ks K1397)
 have f1405 := (f1398.ks K1397 ks0 all0)
 have f1406 := (f1401.ks K1397 ks0 all0)
 have f1407 := (o1292_0.ks K1397 ks0 all0)
 have f1408 := (o1292_1.ks K1397 ks0 all0)
 obtain ⟨fs, hr, hrun, hended, hR1, hR2, hR3, hR4⟩ := X1397.leaveW (s := s) hS1110 ((Nat.le_trans hk1110 (Nat.le_trans (Nat.le_trans K1225.1 K1292.1) K1397.1))) (v := some (.ref b1397_0)) (fun h => by rw [Bd.returns] at h; cases h)
 refine ⟨_, _, pre0 _ ?_, hrun, hended, _, _, rfl, ?_, ?_, hR1, hR2, hR3, hR4.mono (by decide) (by decide)⟩
 · show SG p e below s₁ (mkF m 0 #[vR a807] []) _
   refine st808 _ ?_
   show SG p e below T808 (mkF m 3 #[vR a807] [(.ref b808)]) _
   refine XS.dup X808.here hx rfl (hb hby d3_3) rfl rfl ?_
   show SG p e below T808 (mkF m 4 #[vR a807] [(.ref b808), (.ref b808)]) _
   refine st829.trans ?_
   show SG p e below T829 (mkF m 7 #[vR a807] [(.ref b808)]) _
   refine st835 _ ?_
   show SG p e below T835 (mkF m 9 #[vR a807] [(.ref b835), (.ref b808)]) _
   refine st950.trans ?_
   show SG p e below T950 (mkF m 12 #[vR a807] [(.ref b808)]) _
   refine XS.aloadN X950.here hx rfl (hb hby d3_12) rfl rfl ?_
   show SG p e below T950 (mkF m 13 #[vR a807] [(.ref a807), (.ref b808)]) _
   refine st966 _ ?_
   show SG p e below T966 (mkF m 16 #[vR a807] [(.int w961), (.ref b808)]) _
   refine st1023.trans ?_
   show SG p e below T1023 (mkF m 19 #[vR a807] [(.ref b808)]) _
   refine XS.aloadN X1023.here hx rfl (hb hby d3_19) rfl rfl ?_
   show SG p e below T1023 (mkF m 20 #[vR a807] [(.ref a807), (.ref b808)]) _
   refine st1047 _ ?_
   show SG p e below T1047 (mkF m 23 #[vR a807] [(.ref w1045), (.ref b808)]) _
   refine st1051.trans ?_
   show SG p e below T1051 (mkF m 26 #[vR a807] [(.int w1052), (.ref b808)]) _
   refine st1104.trans ?_
   show SG p e below T1104 (mkF m 29 #[vR a807] [(.ref b808)]) _
   refine st1110 _ ?_
   show SG p e below T1110 (mkF m 31 #[vR a807] [(.ref b1110), (.ref b808)]) _
   refine st1225.trans ?_
   show SG p e below T1225 (mkF m 34 #[vR a807] [(.ref b808)]) _
   refine XS.aloadN X1225.here hx rfl (hb hby d3_34) rfl rfl ?_
   show SG p e below T1225 (mkF m 35 #[vR a807] [(.ref a807), (.ref b808)]) _
   refine st1235 _ ?_
   show SG p e below T1235 (mkF m 38 #[vR a807] [(.int w1233), (.ref b808)]) _
   refine XS.ifNo X1235.here hx rfl (hb hby d3_38) rfl ((if0 _ _).trans (feq H26).1) ?_
   show SG p e below T1235 (mkF m 41 #[vR a807] [(.ref b808)]) _
   refine XS.iconst X1235.here hx rfl (hb hby d3_41) ?_
   show SG p e below T1235 (mkF m 42 #[vR a807] [(.int (0 : Int32)), (.ref b808)]) _
   refine XS.goto X1235.here hx rfl (pc0 := 42) (pc' := 46) rfl (hb hby d3_42) (by decide) (by decide) ?_
   show SG p e below T1235 (mkF m 46 #[vR a807] [(.int (0 : Int32)), (.ref b808)]) _
   refine st1292.trans ?_
   show SG p e below T1292 (mkF m 49 #[vR a807] [(.ref b808)]) _
   refine st1397.trans ?_
   show SG p e below T1397 (mkF m 52 #[vR a807] [(.ref b1397_0)]) _
   jvm_step X1397.here [X1397.here.top, hx, (hb hby d3_52), X1397.method', Bd.returns, Value.isRef, FieldType.isReference]
   first | (intro acts; rw [hr _ acts rfl rfl rfl]) | rw [hr _ _ rfl rfl rfl]
   exact Steps.refl _
 · show Qr3_2 Z a807 w830 w961 w1028 w1030 k1032 u1033 k1038 u1039 w1045 w1052 w1233 h0 n0 _ T1397.heap _
   exact ⟨N1397, b808, b829_0, b1397_0, b1397_1, k1397_0, k829_0, rfl, z833, z959, (Nat.le_trans KC1292.1 ge_b1397_0), (Nat.le_trans KC1292.1 ge_b1397_1), KC1397, f1404, o1397_0, f1405, f1406, f1407, o1397_1, o1397_2, f1408, o1397_3⟩
 · rw [hh]
   show CHr Z EL s.vm h0 T1397.vm T1397.heap
   exact CHr.trans R1397 (CHv.at X1397 hZ1110 (el_ok hw) R1397.1)
def OQt (Z : State) (x lt d : Int32) (h0 : Heap) (n0 : Nat) (v : Option Value) (h : Heap) (L : List Loc) : Prop := Fr n0 L ∧ ∃ sa sd : Addr, ∃ k : ClassId, v = some (.ref sa) ∧ h0.size ≤ sa ∧ h0.size ≤ sd ∧ KSx h0 h [] [] ∧ Exa Z h sa "java/lang/String" ∧ Fld Z h sa "java/lang/String" "value" "[B" (.ref sd) ∧ Fld Z h sa "java/lang/String" "coder" "B" (.int (0 : Int32)) ∧ BA Z h sd k .byte (Int32.ofNat (osz x + 4)) (otx x lt d)
theorem own_tp0_1 (x : Int32) : ¬ ((0 : Int32) < ((((0 : Int32) + ((1 : Int32) >>> ((0 : Int32) &&& 31))) + (SBG.strSizeOf x)) - ((16 : Int32) >>> ((0 : Int32) &&& 31)))) := by
 have hz := osz_le x
 simp only [own_ishr0, own_ishl0, own_ssx, own_01, own_add, own_ad1, own_sub0, own_s1, own_s0, own_c0, own_c1, own_c16, own_osz]
 exact own_g1 (by omega)
theorem own_tp0_2 (x : Int32) : ¬ ((((0 : Int32) + ((1 : Int32) >>> ((0 : Int32) &&& 31))) + (SBG.strSizeOf x)) < (0 : Int32)) := by
 have hz := osz_le x
 simp only [own_ishr0, own_ishl0, own_ssx, own_01, own_add, own_ad1, own_sub0, own_s1, own_s0, own_c0, own_c1, own_c16, own_osz]
 exact own_n0 (by omega)
theorem own_tp0_3 (x : Int32) : ((((0 : Int32) + ((1 : Int32) >>> ((0 : Int32) &&& 31))) + (SBG.strSizeOf x))).toNatClampNeg ≤ ((16 : Int32)).toNatClampNeg := by
 have hz := osz_le x
 simp only [own_ishr0, own_ishl0, own_ssx, own_01, own_add, own_ad1, own_sub0, own_s1, own_s0, own_c0, own_c1, own_c16, own_osz]
 first | omega | (rw [own_cl (by omega)]; omega)
theorem own_tp0_4 (x : Int32) : SBG.digits (x).toInt.natAbs + (if x < 0 then 1 else 0) ≤ ((((0 : Int32) + ((1 : Int32) >>> ((0 : Int32) &&& 31))) + (SBG.strSizeOf x))).toNatClampNeg := by
 have hz := osz_le x
 simp only [own_ishr0, own_ishl0, own_ssx, own_01, own_add, own_ad1, own_sub0, own_s1, own_s0, own_c0, own_c1, own_c16, own_osz]
 first | omega | (rw [own_cl (by omega)]; omega)
theorem own_tp0_5 (x : Int32) : ¬ ((0 : Int32) < (((((0 : Int32) + ((1 : Int32) >>> ((0 : Int32) &&& 31))) + (SBG.strSizeOf x)) + (1 : Int32)) - ((16 : Int32) >>> ((0 : Int32) &&& 31)))) := by
 have hz := osz_le x
 simp only [own_ishr0, own_ishl0, own_ssx, own_01, own_add, own_ad1, own_sub0, own_s1, own_s0, own_c0, own_c1, own_c16, own_osz]
 exact own_g1 (by omega)
theorem own_tp0_6 (x : Int32) : (((0 : Int32) + ((1 : Int32) >>> ((0 : Int32) &&& 31))) + (SBG.strSizeOf x)) < (16 : Int32) := by
 have hz := osz_le x
 simp only [own_ishr0, own_ishl0, own_ssx, own_01, own_add, own_ad1, own_sub0, own_s1, own_s0, own_c0, own_c1, own_c16, own_osz]
 exact own_g2 (by omega)
theorem own_tp0_7 (x : Int32) : ¬ ((0 : Int32) < ((((((0 : Int32) + ((1 : Int32) >>> ((0 : Int32) &&& 31))) + (SBG.strSizeOf x)) + (1 : Int32)) + ((1 : Int32) >>> ((0 : Int32) &&& 31))) - ((16 : Int32) >>> ((0 : Int32) &&& 31)))) := by
 have hz := osz_le x
 simp only [own_ishr0, own_ishl0, own_ssx, own_01, own_add, own_ad1, own_sub0, own_s1, own_s0, own_c0, own_c1, own_c16, own_osz]
 exact own_g1 (by omega)
theorem own_tp0_8 (x : Int32) : ¬ ((((((0 : Int32) + ((1 : Int32) >>> ((0 : Int32) &&& 31))) + (SBG.strSizeOf x)) + (1 : Int32)) <<< ((0 : Int32) &&& 31)) < (0 : Int32)) := by
 have hz := osz_le x
 simp only [own_ishr0, own_ishl0, own_ssx, own_01, own_add, own_ad1, own_sub0, own_s1, own_s0, own_c0, own_c1, own_c16, own_osz]
 exact own_n0 (by omega)
theorem own_tp0_9 (x : Int32) : ((((((0 : Int32) + ((1 : Int32) >>> ((0 : Int32) &&& 31))) + (SBG.strSizeOf x)) + (1 : Int32)) <<< ((0 : Int32) &&& 31))).toNatClampNeg + ((1 : Int32)).toNatClampNeg ≤ ((16 : Int32)).toNatClampNeg := by
 have hz := osz_le x
 simp only [own_ishr0, own_ishl0, own_ssx, own_01, own_add, own_ad1, own_sub0, own_s1, own_s0, own_c0, own_c1, own_c16, own_osz]
 first | omega | (rw [own_cl (by omega)]; omega)
theorem own_tp0_10 (x : Int32) : ¬ ((0 : Int32) < (((((((0 : Int32) + ((1 : Int32) >>> ((0 : Int32) &&& 31))) + (SBG.strSizeOf x)) + (1 : Int32)) + ((1 : Int32) >>> ((0 : Int32) &&& 31))) + (SBG.strSizeOf (1 : Int32))) - ((16 : Int32) >>> ((0 : Int32) &&& 31)))) := by
 have hz := osz_le x
 simp only [own_ishr0, own_ishl0, own_ssx, own_01, own_add, own_ad1, own_sub0, own_s1, own_s0, own_c0, own_c1, own_c16, own_osz]
 exact own_g1 (by omega)
theorem own_tp0_11 (x : Int32) : ¬ (((((((0 : Int32) + ((1 : Int32) >>> ((0 : Int32) &&& 31))) + (SBG.strSizeOf x)) + (1 : Int32)) + ((1 : Int32) >>> ((0 : Int32) &&& 31))) + (SBG.strSizeOf (1 : Int32))) < (0 : Int32)) := by
 have hz := osz_le x
 simp only [own_ishr0, own_ishl0, own_ssx, own_01, own_add, own_ad1, own_sub0, own_s1, own_s0, own_c0, own_c1, own_c16, own_osz]
 exact own_n0 (by omega)
theorem own_tp0_12 (x : Int32) : (((((((0 : Int32) + ((1 : Int32) >>> ((0 : Int32) &&& 31))) + (SBG.strSizeOf x)) + (1 : Int32)) + ((1 : Int32) >>> ((0 : Int32) &&& 31))) + (SBG.strSizeOf (1 : Int32)))).toNatClampNeg ≤ ((16 : Int32)).toNatClampNeg := by
 have hz := osz_le x
 simp only [own_ishr0, own_ishl0, own_ssx, own_01, own_add, own_ad1, own_sub0, own_s1, own_s0, own_c0, own_c1, own_c16, own_osz]
 first | omega | (rw [own_cl (by omega)]; omega)
theorem own_tp0_13 (x : Int32) : SBG.digits ((1 : Int32)).toInt.natAbs + (if (1 : Int32) < 0 then 1 else 0) ≤ (((((((0 : Int32) + ((1 : Int32) >>> ((0 : Int32) &&& 31))) + (SBG.strSizeOf x)) + (1 : Int32)) + ((1 : Int32) >>> ((0 : Int32) &&& 31))) + (SBG.strSizeOf (1 : Int32)))).toNatClampNeg := by
 have hz := osz_le x
 simp only [own_ishr0, own_ishl0, own_ssx, own_01, own_add, own_ad1, own_sub0, own_s1, own_s0, own_c0, own_c1, own_c16, own_osz]
 first | omega | (rw [own_cl (by omega)]; omega)
theorem own_tp0_14 (x : Int32) : ¬ (((((((0 : Int32) + ((1 : Int32) >>> ((0 : Int32) &&& 31))) + (SBG.strSizeOf x)) + (1 : Int32)) + ((1 : Int32) >>> ((0 : Int32) &&& 31))) + (SBG.strSizeOf (1 : Int32))) = (16 : Int32)) := by
 have hz := osz_le x
 simp only [own_ishr0, own_ishl0, own_ssx, own_01, own_add, own_ad1, own_sub0, own_s1, own_s0, own_c0, own_c1, own_c16, own_osz]
 exact own_g3 (by omega)
theorem own_tp0_15 (x : Int32) : ¬ ((((((((0 : Int32) + ((1 : Int32) >>> ((0 : Int32) &&& 31))) + (SBG.strSizeOf x)) + (1 : Int32)) + ((1 : Int32) >>> ((0 : Int32) &&& 31))) + (SBG.strSizeOf (1 : Int32))) - (0 : Int32)) < (0 : Int32)) := by
 have hz := osz_le x
 simp only [own_ishr0, own_ishl0, own_ssx, own_01, own_add, own_ad1, own_sub0, own_s1, own_s0, own_c0, own_c1, own_c16, own_osz]
 exact own_n0 (by omega)
theorem own_tp0_16 (x : Int32) : ¬ ((16 : Int32) < (((((((0 : Int32) + ((1 : Int32) >>> ((0 : Int32) &&& 31))) + (SBG.strSizeOf x)) + (1 : Int32)) + ((1 : Int32) >>> ((0 : Int32) &&& 31))) + (SBG.strSizeOf (1 : Int32))) - (0 : Int32))) := by
 have hz := osz_le x
 simp only [own_ishr0, own_ishl0, own_ssx, own_01, own_add, own_ad1, own_sub0, own_s1, own_s0, own_c0, own_c1, own_c16, own_osz]
 exact own_g4 (by omega)
theorem own_tp0_17 (x : Int32) : (((((((0 : Int32) + ((1 : Int32) >>> ((0 : Int32) &&& 31))) + (SBG.strSizeOf x)) + (1 : Int32)) + ((1 : Int32) >>> ((0 : Int32) &&& 31))) + (SBG.strSizeOf (1 : Int32))) - (0 : Int32)) < ((16 : Int32) - (0 : Int32)) := by
 have hz := osz_le x
 simp only [own_ishr0, own_ishl0, own_ssx, own_01, own_add, own_ad1, own_sub0, own_s1, own_s0, own_c0, own_c1, own_c16, own_osz]
 exact own_g2 (by omega)
theorem own_tp0_18 (x : Int32) : ((0 : Int32)).toNatClampNeg + ((((((((0 : Int32) + ((1 : Int32) >>> ((0 : Int32) &&& 31))) + (SBG.strSizeOf x)) + (1 : Int32)) + ((1 : Int32) >>> ((0 : Int32) &&& 31))) + (SBG.strSizeOf (1 : Int32))) - (0 : Int32))).toNatClampNeg ≤ ((16 : Int32)).toNatClampNeg := by
 have hz := osz_le x
 simp only [own_ishr0, own_ishl0, own_ssx, own_01, own_add, own_ad1, own_sub0, own_s1, own_s0, own_c0, own_c1, own_c16, own_osz]
 first | omega | (rw [own_cl (by omega)]; omega)
theorem own_tp0_19 (x : Int32) : ((0 : Int32)).toNatClampNeg + ((((((((0 : Int32) + ((1 : Int32) >>> ((0 : Int32) &&& 31))) + (SBG.strSizeOf x)) + (1 : Int32)) + ((1 : Int32) >>> ((0 : Int32) &&& 31))) + (SBG.strSizeOf (1 : Int32))) - (0 : Int32))).toNatClampNeg ≤ ((((((((0 : Int32) + ((1 : Int32) >>> ((0 : Int32) &&& 31))) + (SBG.strSizeOf x)) + (1 : Int32)) + ((1 : Int32) >>> ((0 : Int32) &&& 31))) + (SBG.strSizeOf (1 : Int32))) - (0 : Int32))).toNatClampNeg := by
 have hz := osz_le x
 simp only [own_ishr0, own_ishl0, own_ssx, own_01, own_add, own_ad1, own_sub0, own_s1, own_s0, own_c0, own_c1, own_c16, own_osz]
 first | omega | (rw [own_cl (by omega)]; omega)
theorem own_tz0 (x : Int32) : (((((((0 : Int32) + ((1 : Int32) >>> ((0 : Int32) &&& 31))) + (SBG.strSizeOf x)) + (1 : Int32)) + ((1 : Int32) >>> ((0 : Int32) &&& 31))) + (SBG.strSizeOf (1 : Int32))) - (0 : Int32)) = Int32.ofNat (osz x + 4) := by
 simp only [own_ishr0, own_ishl0, own_ssx, own_01, own_add, own_ad1, own_sub0, own_s1, own_s0, own_c0, own_c1, own_c16, own_osz]
 congr 1; omega
theorem own_tc0 (x lt : Int32) (hlt : lt.toInt8.toInt32 = lt) (i : Nat) (hi : i < (Int32.ofNat (osz x + 4)).toNatClampNeg) : (fun i => if ((0 : Int32)).toNatClampNeg ≤ i ∧ i < ((0 : Int32)).toNatClampNeg + ((((((((0 : Int32) + ((1 : Int32) >>> ((0 : Int32) &&& 31))) + (SBG.strSizeOf x)) + (1 : Int32)) + ((1 : Int32) >>> ((0 : Int32) &&& 31))) + (SBG.strSizeOf (1 : Int32))) - (0 : Int32))).toNatClampNeg then (SBG.ogc (decide ((1 : Int32) < 0)) ((1 : Int32)).toInt.natAbs (SBG.digits ((1 : Int32)).toInt.natAbs) (((((((0 : Int32) + ((1 : Int32) >>> ((0 : Int32) &&& 31))) + (SBG.strSizeOf x)) + (1 : Int32)) + ((1 : Int32) >>> ((0 : Int32) &&& 31))) + (SBG.strSizeOf (1 : Int32)))).toNatClampNeg (fun i => if ((((((0 : Int32) + ((1 : Int32) >>> ((0 : Int32) &&& 31))) + (SBG.strSizeOf x)) + (1 : Int32)) <<< ((0 : Int32) &&& 31))).toNatClampNeg ≤ i ∧ i < ((((((0 : Int32) + ((1 : Int32) >>> ((0 : Int32) &&& 31))) + (SBG.strSizeOf x)) + (1 : Int32)) <<< ((0 : Int32) &&& 31))).toNatClampNeg + ((1 : Int32)).toNatClampNeg then (fun i => ([76] : List Int32).getD i 0) (((0 : Int32)).toNatClampNeg + (i - ((((((0 : Int32) + ((1 : Int32) >>> ((0 : Int32) &&& 31))) + (SBG.strSizeOf x)) + (1 : Int32)) <<< ((0 : Int32) &&& 31))).toNatClampNeg)) else (fun i => if i = ((((0 : Int32) + ((1 : Int32) >>> ((0 : Int32) &&& 31))) + (SBG.strSizeOf x))).toNatClampNeg then (lt.toInt8.toInt32).toInt8.toInt32 else (SBG.ogc (decide (x < 0)) (x).toInt.natAbs (SBG.digits (x).toInt.natAbs) ((((0 : Int32) + ((1 : Int32) >>> ((0 : Int32) &&& 31))) + (SBG.strSizeOf x))).toNatClampNeg (fun i => if (((0 : Int32) <<< ((0 : Int32) &&& 31))).toNatClampNeg ≤ i ∧ i < (((0 : Int32) <<< ((0 : Int32) &&& 31))).toNatClampNeg + ((1 : Int32)).toNatClampNeg then (fun i => ([80] : List Int32).getD i 0) (((0 : Int32)).toNatClampNeg + (i - (((0 : Int32) <<< ((0 : Int32) &&& 31))).toNatClampNeg)) else (fun _ => (0 : Int32)) i)) i) i)) (((0 : Int32)).toNatClampNeg + (i - ((0 : Int32)).toNatClampNeg)) else (fun _ => (0 : Int32)) i) i = otx x lt 49 i := by
 have hz := osz_le x
 rw [own_cl (by omega)] at hi
 simp only [own_ishr0, own_ishl0, own_ssx, own_01, own_add, own_ad1, own_sub0, own_s1, own_s0, own_c0, own_c1, own_c16, own_osz]
 rw [own_cl (by omega), own_cl (by omega), own_cl (by omega), if_pos ⟨Nat.zero_le _, by omega⟩, hlt, hlt]
 simp only [Nat.zero_add, Nat.sub_zero]
 have hsg : osg x = if x < 0 then 1 else 0 := rfl
 have hos : osz x = SBG.digits x.toInt.natAbs + osg x := rfl
 have hdp := SBG.digits_pos x.toInt.natAbs
 have e1 : SBG.digits (1 : Int32).toInt.natAbs = 1 := by decide
 have e2 : decide ((1 : Int32) < 0) = false := by decide
 rw [e1, e2]
 unfold SBG.ogc otx
 dsimp only
 by_cases q3 : i = 3 + osz x
 · subst q3
   rw [if_pos (by omega), if_neg (by omega), if_neg (by omega), if_neg (by omega), if_neg (by omega), show 1 + osz x + 1 + 1 + 1 - 1 - (3 + osz x) = 0 from by omega]; decide
 rw [if_neg (by omega), if_neg (fun q => by simp at q)]
 by_cases q2 : i = 2 + osz x
 · subst q2
   rw [if_pos (by omega), if_neg (by omega), if_neg (by omega), if_neg (by omega), if_pos rfl, show 2 + osz x - (1 + osz x + 1) = 0 from by omega]; rfl
 rw [if_neg (by omega)]
 by_cases q1 : i = 1 + osz x
 · subst q1
   rw [if_pos rfl, if_neg (by omega), if_neg (by omega), if_pos rfl]
 rw [if_neg q1]
 by_cases q0 : i = 0
 · subst q0
   rw [if_pos rfl, if_neg (by omega), if_neg (fun q => by have := q.2; by_cases hx : x < 0 <;> simp [hx] at hsg q <;> omega), if_pos (by omega)]; rfl
 rw [if_neg q0, if_pos (show i < 1 + osz x by omega)]
 unfold otc
 by_cases hx : x < 0
 · simp only [hx, if_true] at hsg
   by_cases q5 : i = 1
   · subst q5
     rw [if_neg (by omega), if_pos ⟨by simp [hx], by omega⟩, if_pos ⟨hx, rfl⟩]
   · rw [if_pos (by omega), if_neg (fun q => by omega), show 1 + osz x - 1 - i = osz x - 1 - (i - 1) from by omega]
 · simp only [hx, if_false] at hsg
   rw [if_pos (by omega), if_neg (fun q => hx q.1), show 1 + osz x - 1 - i = osz x - 1 - (i - 1) from by omega]
theorem own_ts0 (l : Launch) (Z : State) (a0 : Array Value) (hw : ∀ d ∈ tables_1, d.before a0 Z = true) (a : Addr) (wS : Int32) (x : Int32) (d1 : Addr) (d2 : Addr) (kd1 : ClassId) (ud1 : Nat → Int32) (kd2 : ClassId) (ud2 : Nat → Int32) (un : Addr) (lt : Int32) (ls : Int32) (h0 : Heap) (n0 : Nat) (Z0 : n0 ≤ h0.size) (G0 : Sta Z h0 "java/lang/String" "COMPACT_STRINGS" "Z" (.int wS)) (G1 : ¬ (wS = (0 : Int32))) (G2 : Fld Z h0 a "com/example/tranchebook/tranchebook/Cycle" "count" "I" (.int x)) (G3 : Sta Z h0 "java/lang/Integer" "DigitOnes" "[B" (.ref d1)) (G4 : Sta Z h0 "java/lang/Integer" "DigitTens" "[B" (.ref d2)) (G5 : BA Z h0 d1 kd1 .byte (100 : Int32) ud1) (G6 : BA Z h0 d2 kd2 .byte (100 : Int32) ud2) (G7 : ud1 = (fun r => Int32.ofNat (48 + r % 10))) (G8 : ud2 = (fun r => Int32.ofNat (48 + r / 10))) (G9 : (Jvm.Cond.laysStatic "java/lang/Integer" "DigitOnes" "[B").before a0 Z = true) (G10 : (Jvm.Cond.laysStatic "java/lang/Integer" "DigitTens" "[B").before a0 Z = true) (G11 : Fld Z h0 a "com/example/tranchebook/tranchebook/Cycle" "unit" "Lcom/example/tranchebook/tranchebook/Cycle$Unit;" (.ref un)) (G12 : Fld Z h0 un "com/example/tranchebook/tranchebook/Cycle$Unit" "letter" "C" (.int lt)) (G13 : nar .char lt = lt) (G14 : Exa Z h0 un "com/example/tranchebook/tranchebook/Cycle$Unit") (G15 : ¬ ((255 : Int32) < lt)) (G16 : Fld Z h0 a "com/example/tranchebook/tranchebook/Cycle" "longStub" "Z" (.int ls)) (G17 : ls = (0 : Int32)) (hlt : (lt).toInt8.toInt32 = lt) :
   OMetH EL l Z mN40 prog_12_method_2_code 1 (some (.object "java/lang/String")) [] ({ frames := 6, cells := 8, slots := 56, locals := 106 } : Room) h0 #[(.ref a)] (OQt Z x lt 49 h0 n0) := by
 refine own_impH (r3_1 l Z a0 hw a wS x d1 d2 kd1 ud1 kd2 ud2 un lt ls h0 n0 Z0 G0 G1 G2 (own_tp0_1 x) G3 G4 G5 G6 (own_tp0_2 x) (own_tp0_3 x) (own_tp0_4 x) G7 G8 G9 G10 G11 G12 G13 G14 (own_tp0_5 x) G15 (own_tp0_6 x) (own_tp0_7 x) (own_tp0_8 x) (own_tp0_9 x) G16 G17 (own_tp0_10 x) (own_tp0_11 x) (own_tp0_12 x) (own_tp0_13 x) (own_tp0_14 x) (own_tp0_15 x) (own_tp0_16 x) (own_tp0_17 x) (own_tp0_18 x) (own_tp0_19 x)) fun v h L q => ?_
 obtain ⟨N, _, _, sa, sd, _, k, e, _, _, g1, g2, K, _, E, _, _, _, F, C, _, B⟩ := q
 exact ⟨N, sa, sd, k, e, g1, g2, K, E, F, C, (own_bz (own_tz0 x) B).congr fun i hi => own_tc0 x lt hlt i hi⟩
theorem own_tp1_1 (x : Int32) : ¬ ((0 : Int32) < ((((0 : Int32) + ((1 : Int32) >>> ((0 : Int32) &&& 31))) + (SBG.strSizeOf x)) - ((16 : Int32) >>> ((0 : Int32) &&& 31)))) := by
 have hz := osz_le x
 simp only [own_ishr0, own_ishl0, own_ssx, own_01, own_add, own_ad1, own_sub0, own_s1, own_s0, own_c0, own_c1, own_c16, own_osz]
 exact own_g1 (by omega)
theorem own_tp1_2 (x : Int32) : ¬ ((((0 : Int32) + ((1 : Int32) >>> ((0 : Int32) &&& 31))) + (SBG.strSizeOf x)) < (0 : Int32)) := by
 have hz := osz_le x
 simp only [own_ishr0, own_ishl0, own_ssx, own_01, own_add, own_ad1, own_sub0, own_s1, own_s0, own_c0, own_c1, own_c16, own_osz]
 exact own_n0 (by omega)
theorem own_tp1_3 (x : Int32) : ((((0 : Int32) + ((1 : Int32) >>> ((0 : Int32) &&& 31))) + (SBG.strSizeOf x))).toNatClampNeg ≤ ((16 : Int32)).toNatClampNeg := by
 have hz := osz_le x
 simp only [own_ishr0, own_ishl0, own_ssx, own_01, own_add, own_ad1, own_sub0, own_s1, own_s0, own_c0, own_c1, own_c16, own_osz]
 first | omega | (rw [own_cl (by omega)]; omega)
theorem own_tp1_4 (x : Int32) : SBG.digits (x).toInt.natAbs + (if x < 0 then 1 else 0) ≤ ((((0 : Int32) + ((1 : Int32) >>> ((0 : Int32) &&& 31))) + (SBG.strSizeOf x))).toNatClampNeg := by
 have hz := osz_le x
 simp only [own_ishr0, own_ishl0, own_ssx, own_01, own_add, own_ad1, own_sub0, own_s1, own_s0, own_c0, own_c1, own_c16, own_osz]
 first | omega | (rw [own_cl (by omega)]; omega)
theorem own_tp1_5 (x : Int32) : ¬ ((0 : Int32) < (((((0 : Int32) + ((1 : Int32) >>> ((0 : Int32) &&& 31))) + (SBG.strSizeOf x)) + (1 : Int32)) - ((16 : Int32) >>> ((0 : Int32) &&& 31)))) := by
 have hz := osz_le x
 simp only [own_ishr0, own_ishl0, own_ssx, own_01, own_add, own_ad1, own_sub0, own_s1, own_s0, own_c0, own_c1, own_c16, own_osz]
 exact own_g1 (by omega)
theorem own_tp1_6 (x : Int32) : (((0 : Int32) + ((1 : Int32) >>> ((0 : Int32) &&& 31))) + (SBG.strSizeOf x)) < (16 : Int32) := by
 have hz := osz_le x
 simp only [own_ishr0, own_ishl0, own_ssx, own_01, own_add, own_ad1, own_sub0, own_s1, own_s0, own_c0, own_c1, own_c16, own_osz]
 exact own_g2 (by omega)
theorem own_tp1_7 (x : Int32) : ¬ ((0 : Int32) < ((((((0 : Int32) + ((1 : Int32) >>> ((0 : Int32) &&& 31))) + (SBG.strSizeOf x)) + (1 : Int32)) + ((1 : Int32) >>> ((0 : Int32) &&& 31))) - ((16 : Int32) >>> ((0 : Int32) &&& 31)))) := by
 have hz := osz_le x
 simp only [own_ishr0, own_ishl0, own_ssx, own_01, own_add, own_ad1, own_sub0, own_s1, own_s0, own_c0, own_c1, own_c16, own_osz]
 exact own_g1 (by omega)
theorem own_tp1_8 (x : Int32) : ¬ ((((((0 : Int32) + ((1 : Int32) >>> ((0 : Int32) &&& 31))) + (SBG.strSizeOf x)) + (1 : Int32)) <<< ((0 : Int32) &&& 31)) < (0 : Int32)) := by
 have hz := osz_le x
 simp only [own_ishr0, own_ishl0, own_ssx, own_01, own_add, own_ad1, own_sub0, own_s1, own_s0, own_c0, own_c1, own_c16, own_osz]
 exact own_n0 (by omega)
theorem own_tp1_9 (x : Int32) : ((((((0 : Int32) + ((1 : Int32) >>> ((0 : Int32) &&& 31))) + (SBG.strSizeOf x)) + (1 : Int32)) <<< ((0 : Int32) &&& 31))).toNatClampNeg + ((1 : Int32)).toNatClampNeg ≤ ((16 : Int32)).toNatClampNeg := by
 have hz := osz_le x
 simp only [own_ishr0, own_ishl0, own_ssx, own_01, own_add, own_ad1, own_sub0, own_s1, own_s0, own_c0, own_c1, own_c16, own_osz]
 first | omega | (rw [own_cl (by omega)]; omega)
theorem own_tp1_10 (x : Int32) : ¬ ((0 : Int32) < (((((((0 : Int32) + ((1 : Int32) >>> ((0 : Int32) &&& 31))) + (SBG.strSizeOf x)) + (1 : Int32)) + ((1 : Int32) >>> ((0 : Int32) &&& 31))) + (SBG.strSizeOf (0 : Int32))) - ((16 : Int32) >>> ((0 : Int32) &&& 31)))) := by
 have hz := osz_le x
 simp only [own_ishr0, own_ishl0, own_ssx, own_01, own_add, own_ad1, own_sub0, own_s1, own_s0, own_c0, own_c1, own_c16, own_osz]
 exact own_g1 (by omega)
theorem own_tp1_11 (x : Int32) : ¬ (((((((0 : Int32) + ((1 : Int32) >>> ((0 : Int32) &&& 31))) + (SBG.strSizeOf x)) + (1 : Int32)) + ((1 : Int32) >>> ((0 : Int32) &&& 31))) + (SBG.strSizeOf (0 : Int32))) < (0 : Int32)) := by
 have hz := osz_le x
 simp only [own_ishr0, own_ishl0, own_ssx, own_01, own_add, own_ad1, own_sub0, own_s1, own_s0, own_c0, own_c1, own_c16, own_osz]
 exact own_n0 (by omega)
theorem own_tp1_12 (x : Int32) : (((((((0 : Int32) + ((1 : Int32) >>> ((0 : Int32) &&& 31))) + (SBG.strSizeOf x)) + (1 : Int32)) + ((1 : Int32) >>> ((0 : Int32) &&& 31))) + (SBG.strSizeOf (0 : Int32)))).toNatClampNeg ≤ ((16 : Int32)).toNatClampNeg := by
 have hz := osz_le x
 simp only [own_ishr0, own_ishl0, own_ssx, own_01, own_add, own_ad1, own_sub0, own_s1, own_s0, own_c0, own_c1, own_c16, own_osz]
 first | omega | (rw [own_cl (by omega)]; omega)
theorem own_tp1_13 (x : Int32) : SBG.digits ((0 : Int32)).toInt.natAbs + (if (0 : Int32) < 0 then 1 else 0) ≤ (((((((0 : Int32) + ((1 : Int32) >>> ((0 : Int32) &&& 31))) + (SBG.strSizeOf x)) + (1 : Int32)) + ((1 : Int32) >>> ((0 : Int32) &&& 31))) + (SBG.strSizeOf (0 : Int32)))).toNatClampNeg := by
 have hz := osz_le x
 simp only [own_ishr0, own_ishl0, own_ssx, own_01, own_add, own_ad1, own_sub0, own_s1, own_s0, own_c0, own_c1, own_c16, own_osz]
 first | omega | (rw [own_cl (by omega)]; omega)
theorem own_tp1_14 (x : Int32) : ¬ (((((((0 : Int32) + ((1 : Int32) >>> ((0 : Int32) &&& 31))) + (SBG.strSizeOf x)) + (1 : Int32)) + ((1 : Int32) >>> ((0 : Int32) &&& 31))) + (SBG.strSizeOf (0 : Int32))) = (16 : Int32)) := by
 have hz := osz_le x
 simp only [own_ishr0, own_ishl0, own_ssx, own_01, own_add, own_ad1, own_sub0, own_s1, own_s0, own_c0, own_c1, own_c16, own_osz]
 exact own_g3 (by omega)
theorem own_tp1_15 (x : Int32) : ¬ ((((((((0 : Int32) + ((1 : Int32) >>> ((0 : Int32) &&& 31))) + (SBG.strSizeOf x)) + (1 : Int32)) + ((1 : Int32) >>> ((0 : Int32) &&& 31))) + (SBG.strSizeOf (0 : Int32))) - (0 : Int32)) < (0 : Int32)) := by
 have hz := osz_le x
 simp only [own_ishr0, own_ishl0, own_ssx, own_01, own_add, own_ad1, own_sub0, own_s1, own_s0, own_c0, own_c1, own_c16, own_osz]
 exact own_n0 (by omega)
theorem own_tp1_16 (x : Int32) : ¬ ((16 : Int32) < (((((((0 : Int32) + ((1 : Int32) >>> ((0 : Int32) &&& 31))) + (SBG.strSizeOf x)) + (1 : Int32)) + ((1 : Int32) >>> ((0 : Int32) &&& 31))) + (SBG.strSizeOf (0 : Int32))) - (0 : Int32))) := by
 have hz := osz_le x
 simp only [own_ishr0, own_ishl0, own_ssx, own_01, own_add, own_ad1, own_sub0, own_s1, own_s0, own_c0, own_c1, own_c16, own_osz]
 exact own_g4 (by omega)
theorem own_tp1_17 (x : Int32) : (((((((0 : Int32) + ((1 : Int32) >>> ((0 : Int32) &&& 31))) + (SBG.strSizeOf x)) + (1 : Int32)) + ((1 : Int32) >>> ((0 : Int32) &&& 31))) + (SBG.strSizeOf (0 : Int32))) - (0 : Int32)) < ((16 : Int32) - (0 : Int32)) := by
 have hz := osz_le x
 simp only [own_ishr0, own_ishl0, own_ssx, own_01, own_add, own_ad1, own_sub0, own_s1, own_s0, own_c0, own_c1, own_c16, own_osz]
 exact own_g2 (by omega)
theorem own_tp1_18 (x : Int32) : ((0 : Int32)).toNatClampNeg + ((((((((0 : Int32) + ((1 : Int32) >>> ((0 : Int32) &&& 31))) + (SBG.strSizeOf x)) + (1 : Int32)) + ((1 : Int32) >>> ((0 : Int32) &&& 31))) + (SBG.strSizeOf (0 : Int32))) - (0 : Int32))).toNatClampNeg ≤ ((16 : Int32)).toNatClampNeg := by
 have hz := osz_le x
 simp only [own_ishr0, own_ishl0, own_ssx, own_01, own_add, own_ad1, own_sub0, own_s1, own_s0, own_c0, own_c1, own_c16, own_osz]
 first | omega | (rw [own_cl (by omega)]; omega)
theorem own_tp1_19 (x : Int32) : ((0 : Int32)).toNatClampNeg + ((((((((0 : Int32) + ((1 : Int32) >>> ((0 : Int32) &&& 31))) + (SBG.strSizeOf x)) + (1 : Int32)) + ((1 : Int32) >>> ((0 : Int32) &&& 31))) + (SBG.strSizeOf (0 : Int32))) - (0 : Int32))).toNatClampNeg ≤ ((((((((0 : Int32) + ((1 : Int32) >>> ((0 : Int32) &&& 31))) + (SBG.strSizeOf x)) + (1 : Int32)) + ((1 : Int32) >>> ((0 : Int32) &&& 31))) + (SBG.strSizeOf (0 : Int32))) - (0 : Int32))).toNatClampNeg := by
 have hz := osz_le x
 simp only [own_ishr0, own_ishl0, own_ssx, own_01, own_add, own_ad1, own_sub0, own_s1, own_s0, own_c0, own_c1, own_c16, own_osz]
 first | omega | (rw [own_cl (by omega)]; omega)
theorem own_tz1 (x : Int32) : (((((((0 : Int32) + ((1 : Int32) >>> ((0 : Int32) &&& 31))) + (SBG.strSizeOf x)) + (1 : Int32)) + ((1 : Int32) >>> ((0 : Int32) &&& 31))) + (SBG.strSizeOf (0 : Int32))) - (0 : Int32)) = Int32.ofNat (osz x + 4) := by
 simp only [own_ishr0, own_ishl0, own_ssx, own_01, own_add, own_ad1, own_sub0, own_s1, own_s0, own_c0, own_c1, own_c16, own_osz]
 congr 1; omega
theorem own_tc1 (x lt : Int32) (hlt : lt.toInt8.toInt32 = lt) (i : Nat) (hi : i < (Int32.ofNat (osz x + 4)).toNatClampNeg) : (fun i => if ((0 : Int32)).toNatClampNeg ≤ i ∧ i < ((0 : Int32)).toNatClampNeg + ((((((((0 : Int32) + ((1 : Int32) >>> ((0 : Int32) &&& 31))) + (SBG.strSizeOf x)) + (1 : Int32)) + ((1 : Int32) >>> ((0 : Int32) &&& 31))) + (SBG.strSizeOf (0 : Int32))) - (0 : Int32))).toNatClampNeg then (SBG.ogc (decide ((0 : Int32) < 0)) ((0 : Int32)).toInt.natAbs (SBG.digits ((0 : Int32)).toInt.natAbs) (((((((0 : Int32) + ((1 : Int32) >>> ((0 : Int32) &&& 31))) + (SBG.strSizeOf x)) + (1 : Int32)) + ((1 : Int32) >>> ((0 : Int32) &&& 31))) + (SBG.strSizeOf (0 : Int32)))).toNatClampNeg (fun i => if ((((((0 : Int32) + ((1 : Int32) >>> ((0 : Int32) &&& 31))) + (SBG.strSizeOf x)) + (1 : Int32)) <<< ((0 : Int32) &&& 31))).toNatClampNeg ≤ i ∧ i < ((((((0 : Int32) + ((1 : Int32) >>> ((0 : Int32) &&& 31))) + (SBG.strSizeOf x)) + (1 : Int32)) <<< ((0 : Int32) &&& 31))).toNatClampNeg + ((1 : Int32)).toNatClampNeg then (fun i => ([76] : List Int32).getD i 0) (((0 : Int32)).toNatClampNeg + (i - ((((((0 : Int32) + ((1 : Int32) >>> ((0 : Int32) &&& 31))) + (SBG.strSizeOf x)) + (1 : Int32)) <<< ((0 : Int32) &&& 31))).toNatClampNeg)) else (fun i => if i = ((((0 : Int32) + ((1 : Int32) >>> ((0 : Int32) &&& 31))) + (SBG.strSizeOf x))).toNatClampNeg then (lt.toInt8.toInt32).toInt8.toInt32 else (SBG.ogc (decide (x < 0)) (x).toInt.natAbs (SBG.digits (x).toInt.natAbs) ((((0 : Int32) + ((1 : Int32) >>> ((0 : Int32) &&& 31))) + (SBG.strSizeOf x))).toNatClampNeg (fun i => if (((0 : Int32) <<< ((0 : Int32) &&& 31))).toNatClampNeg ≤ i ∧ i < (((0 : Int32) <<< ((0 : Int32) &&& 31))).toNatClampNeg + ((1 : Int32)).toNatClampNeg then (fun i => ([80] : List Int32).getD i 0) (((0 : Int32)).toNatClampNeg + (i - (((0 : Int32) <<< ((0 : Int32) &&& 31))).toNatClampNeg)) else (fun _ => (0 : Int32)) i)) i) i)) (((0 : Int32)).toNatClampNeg + (i - ((0 : Int32)).toNatClampNeg)) else (fun _ => (0 : Int32)) i) i = otx x lt 48 i := by
 have hz := osz_le x
 rw [own_cl (by omega)] at hi
 simp only [own_ishr0, own_ishl0, own_ssx, own_01, own_add, own_ad1, own_sub0, own_s1, own_s0, own_c0, own_c1, own_c16, own_osz]
 rw [own_cl (by omega), own_cl (by omega), own_cl (by omega), if_pos ⟨Nat.zero_le _, by omega⟩, hlt, hlt]
 simp only [Nat.zero_add, Nat.sub_zero]
 have hsg : osg x = if x < 0 then 1 else 0 := rfl
 have hos : osz x = SBG.digits x.toInt.natAbs + osg x := rfl
 have hdp := SBG.digits_pos x.toInt.natAbs
 have e1 : SBG.digits (0 : Int32).toInt.natAbs = 1 := by decide
 have e2 : decide ((0 : Int32) < 0) = false := by decide
 rw [e1, e2]
 unfold SBG.ogc otx
 dsimp only
 by_cases q3 : i = 3 + osz x
 · subst q3
   rw [if_pos (by omega), if_neg (by omega), if_neg (by omega), if_neg (by omega), if_neg (by omega), show 1 + osz x + 1 + 1 + 1 - 1 - (3 + osz x) = 0 from by omega]; decide
 rw [if_neg (by omega), if_neg (fun q => by simp at q)]
 by_cases q2 : i = 2 + osz x
 · subst q2
   rw [if_pos (by omega), if_neg (by omega), if_neg (by omega), if_neg (by omega), if_pos rfl, show 2 + osz x - (1 + osz x + 1) = 0 from by omega]; rfl
 rw [if_neg (by omega)]
 by_cases q1 : i = 1 + osz x
 · subst q1
   rw [if_pos rfl, if_neg (by omega), if_neg (by omega), if_pos rfl]
 rw [if_neg q1]
 by_cases q0 : i = 0
 · subst q0
   rw [if_pos rfl, if_neg (by omega), if_neg (fun q => by have := q.2; by_cases hx : x < 0 <;> simp [hx] at hsg q <;> omega), if_pos (by omega)]; rfl
 rw [if_neg q0, if_pos (show i < 1 + osz x by omega)]
 unfold otc
 by_cases hx : x < 0
 · simp only [hx, if_true] at hsg
   by_cases q5 : i = 1
   · subst q5
     rw [if_neg (by omega), if_pos ⟨by simp [hx], by omega⟩, if_pos ⟨hx, rfl⟩]
   · rw [if_pos (by omega), if_neg (fun q => by omega), show 1 + osz x - 1 - i = osz x - 1 - (i - 1) from by omega]
 · simp only [hx, if_false] at hsg
   rw [if_pos (by omega), if_neg (fun q => hx q.1), show 1 + osz x - 1 - i = osz x - 1 - (i - 1) from by omega]
theorem own_ts1 (l : Launch) (Z : State) (a0 : Array Value) (hw : ∀ d ∈ tables_1, d.before a0 Z = true) (a : Addr) (wS : Int32) (x : Int32) (d1 : Addr) (d2 : Addr) (kd1 : ClassId) (ud1 : Nat → Int32) (kd2 : ClassId) (ud2 : Nat → Int32) (un : Addr) (lt : Int32) (ls : Int32) (h0 : Heap) (n0 : Nat) (Z0 : n0 ≤ h0.size) (G0 : Sta Z h0 "java/lang/String" "COMPACT_STRINGS" "Z" (.int wS)) (G1 : ¬ (wS = (0 : Int32))) (G2 : Fld Z h0 a "com/example/tranchebook/tranchebook/Cycle" "count" "I" (.int x)) (G3 : Sta Z h0 "java/lang/Integer" "DigitOnes" "[B" (.ref d1)) (G4 : Sta Z h0 "java/lang/Integer" "DigitTens" "[B" (.ref d2)) (G5 : BA Z h0 d1 kd1 .byte (100 : Int32) ud1) (G6 : BA Z h0 d2 kd2 .byte (100 : Int32) ud2) (G7 : ud1 = (fun r => Int32.ofNat (48 + r % 10))) (G8 : ud2 = (fun r => Int32.ofNat (48 + r / 10))) (G9 : (Jvm.Cond.laysStatic "java/lang/Integer" "DigitOnes" "[B").before a0 Z = true) (G10 : (Jvm.Cond.laysStatic "java/lang/Integer" "DigitTens" "[B").before a0 Z = true) (G11 : Fld Z h0 a "com/example/tranchebook/tranchebook/Cycle" "unit" "Lcom/example/tranchebook/tranchebook/Cycle$Unit;" (.ref un)) (G12 : Fld Z h0 un "com/example/tranchebook/tranchebook/Cycle$Unit" "letter" "C" (.int lt)) (G13 : nar .char lt = lt) (G14 : Exa Z h0 un "com/example/tranchebook/tranchebook/Cycle$Unit") (G15 : ¬ ((255 : Int32) < lt)) (G16 : Fld Z h0 a "com/example/tranchebook/tranchebook/Cycle" "longStub" "Z" (.int ls)) (G17 : ¬ (ls = (0 : Int32))) (hlt : (lt).toInt8.toInt32 = lt) :
   OMetH EL l Z mN40 prog_12_method_2_code 1 (some (.object "java/lang/String")) [] ({ frames := 6, cells := 8, slots := 56, locals := 106 } : Room) h0 #[(.ref a)] (OQt Z x lt 48 h0 n0) := by
 refine own_impH (r3_2 l Z a0 hw a wS x d1 d2 kd1 ud1 kd2 ud2 un lt ls h0 n0 Z0 G0 G1 G2 (own_tp1_1 x) G3 G4 G5 G6 (own_tp1_2 x) (own_tp1_3 x) (own_tp1_4 x) G7 G8 G9 G10 G11 G12 G13 G14 (own_tp1_5 x) G15 (own_tp1_6 x) (own_tp1_7 x) (own_tp1_8 x) (own_tp1_9 x) G16 G17 (own_tp1_10 x) (own_tp1_11 x) (own_tp1_12 x) (own_tp1_13 x) (own_tp1_14 x) (own_tp1_15 x) (own_tp1_16 x) (own_tp1_17 x) (own_tp1_18 x) (own_tp1_19 x)) fun v h L q => ?_
 obtain ⟨N, _, _, sa, sd, k, _, e, _, _, g1, g2, K, _, E, _, _, _, F, C, _, B⟩ := q
 exact ⟨N, sa, sd, k, e, g1, g2, K, E, F, C, (own_bz (own_tz1 x) B).congr fun i hi => own_tc1 x lt hlt i hi⟩
theorem own_q1 (x : Int32) : ((Int32.ofNat (osz x + 4)) >>> ((0 : Int32) &&& 31)) = ((Int32.ofNat (osz x)) + (4 : Int32)) := by rw [own_ishr0]; exact (own_add (osz x) 4).symm
theorem own_q2 (x : Int32) : (0 : Int32) < (Int32.ofNat (osz x + 4)) := (own_lt (a := 0) (by decide) (by have := osz_le x; omega)).mpr (by omega)
theorem own_q3 (x lt d : Int32) : (oc8 ((otx x lt d) ((0 : Int32)).toNatClampNeg)) = (80 : Int32) := by show oc8 (otx x lt d 0) = 80; unfold otx; rw [if_pos rfl]; decide
theorem own_qs (x : Int32) {c : Nat} (hc : c ≤ 3) : ((Int32.ofNat (osz x + 4)) >>> ((0 : Int32) &&& 31)) - Int32.ofNat c = Int32.ofNat (osz x + 4 - c) := by rw [own_ishr0]; exact own_sub (by omega) (by have := osz_le x; omega)
theorem own_q4 (x : Int32) {c : Nat} (hc : c ≤ 3) : ¬ ((((Int32.ofNat (osz x + 4)) >>> ((0 : Int32) &&& 31)) - Int32.ofNat c) < (0 : Int32)) := by rw [own_qs x hc]; exact own_n0 (by have := osz_le x; omega)
theorem own_q5 (x : Int32) {c : Nat} (hc : c ≤ 3) (h1 : 1 ≤ c) : (((Int32.ofNat (osz x + 4)) >>> ((0 : Int32) &&& 31)) - Int32.ofNat c) < (Int32.ofNat (osz x + 4)) := by have := osz_le x; rw [own_qs x hc]; exact (own_lt (by omega) (by omega)).mpr (by omega)
theorem own_q6 (x lt d : Int32) : otx x lt d ((((Int32.ofNat (osz x + 4)) >>> ((0 : Int32) &&& 31)) - (3 : Int32))).toNatClampNeg = lt := by
 have h := osz_le x
 show otx x lt d (((Int32.ofNat (osz x + 4)) >>> ((0 : Int32) &&& 31)) - Int32.ofNat 3).toNatClampNeg = lt
 rw [own_qs x (by decide), own_cl (by omega)]
 unfold otx; rw [if_neg (by omega), if_neg (by omega), if_pos (by omega)]
theorem own_q7 (x lt d : Int32) : oc8 (otx x lt d ((((Int32.ofNat (osz x + 4)) >>> ((0 : Int32) &&& 31)) - (2 : Int32))).toNatClampNeg) = (76 : Int32) := by
 have h := osz_le x
 show oc8 (otx x lt d (((Int32.ofNat (osz x + 4)) >>> ((0 : Int32) &&& 31)) - Int32.ofNat 2).toNatClampNeg) = 76
 rw [own_qs x (by decide), own_cl (by omega)]
 unfold otx; rw [if_neg (by omega), if_neg (by omega), if_neg (by omega), if_pos (by omega)]; decide
theorem own_q8 (x lt d : Int32) : otx x lt d ((((Int32.ofNat (osz x + 4)) >>> ((0 : Int32) &&& 31)) - (1 : Int32))).toNatClampNeg = d := by
 have h := osz_le x
 show otx x lt d (((Int32.ofNat (osz x + 4)) >>> ((0 : Int32) &&& 31)) - Int32.ofNat 1).toNatClampNeg = d
 rw [own_qs x (by decide), own_cl (by omega)]
 unfold otx; rw [if_neg (by omega), if_neg (by omega), if_neg (by omega), if_neg (by omega)]
theorem own_q9 (x lt d : Int32) : ∀ j, j < osz x → (otx x lt d) (1 + j) = otc x j := fun j hj => by
 unfold otx; rw [if_neg (by omega), if_pos (by omega), show 1 + j - 1 = j from by omega]

abbrev la37 (p1409 : Int32) (p1410 : Int32) (p1411 : Int32) : Array Slot := #[vI p1409, vI p1410, vI p1411, vU, vU, vU, vU, vU, vU, vU, vU]
abbrev la38 (p1409 : Int32) (p1410 : Int32) (p1411 : Int32) (b1412 : Addr) : Array Slot := #[vI p1409, vI p1410, vI p1411, vR b1412, vU, vU, vU, vU, vU, vU, vU]
abbrev la39 (p1409 : Int32) (p1410 : Int32) (p1411 : Int32) (b1412 : Addr) (b1451 : Addr) : Array Slot := #[vI p1409, vI p1410, vI p1411, vR b1412, vR b1451, vU, vU, vU, vU, vU, vU]
abbrev la40 (p1409 : Int32) (p1410 : Int32) (p1411 : Int32) (b1412 : Addr) (b1451 : Addr) : Array Slot := #[vI p1409, vI p1410, vI p1411, vR b1412, vR b1451, vI ((p1410 &&& (2147483647 : Int32)) % (6 : Int32)), vU, vU, vU, vU, vU]
abbrev la41 (p1409 : Int32) (p1410 : Int32) (p1411 : Int32) (b1412 : Addr) (b1451 : Addr) : Array Slot := #[vI p1409, vI p1410, vI p1411, vR b1412, vR b1451, vI ((p1410 &&& (2147483647 : Int32)) % (6 : Int32)), vI (0 : Int32), vU, vU, vU, vU]
theorem d1_0 : decode prog_12_method_1_code 0 = .ok (.aload_n 0, 1) := by decide +kernel
theorem d1_1 : decode prog_12_method_1_code 1 = .ok (.invokespecial 1, 3) := by decide +kernel
theorem d1_4 : decode prog_12_method_1_code 4 = .ok (.aload_n 0, 1) := by decide +kernel
theorem d1_5 : decode prog_12_method_1_code 5 = .ok (.iload_n 1, 1) := by decide +kernel
theorem d1_6 : decode prog_12_method_1_code 6 = .ok (.putfield 7, 3) := by decide +kernel
theorem d1_9 : decode prog_12_method_1_code 9 = .ok (.aload_n 0, 1) := by decide +kernel
theorem d1_10 : decode prog_12_method_1_code 10 = .ok (.aload_n 2, 1) := by decide +kernel
theorem d1_11 : decode prog_12_method_1_code 11 = .ok (.putfield 13, 3) := by decide +kernel
theorem d1_14 : decode prog_12_method_1_code 14 = .ok (.aload_n 0, 1) := by decide +kernel
theorem d1_15 : decode prog_12_method_1_code 15 = .ok (.iload_n 3, 1) := by decide +kernel
theorem d1_16 : decode prog_12_method_1_code 16 = .ok (.putfield 17, 3) := by decide +kernel
theorem d1_19 : decode prog_12_method_1_code 19 = .ok (.return_, 1) := by decide +kernel
theorem ef_1_vvvv (m : MethodId) (x0 : Addr) (x1 : Int32) (x2 : Addr) (x3 : Int32) : entryFrame m #[(.ref x0), (.int x1), (.ref x2), (.int x3)] 4 = mkF m 0 #[.val (.ref x0), .val (.int x1), .val (.ref x2), .val (.int x3)] [] := by first | (simp [entryFrame, mkF, argsToLocals, Value.category]; done) | rfl
def Qr1_1 (Z : State) (a1471 : Addr) (p1472 : Int32) (a1473 : Addr) (p1474 : Int32) (w1476 : Int32) (w1482 : Int32) (h0 : Heap) (n0 : Nat) (v : Option Value) (h : Heap) (L : List Loc) : Prop := Fr n0 L ∧ v = none ∧ KSx h0 h [(a1471, Jvm.RoadKit.slotOf Z "com/example/tranchebook/tranchebook/Cycle" "count" "I"), (a1471, Jvm.RoadKit.slotOf Z "com/example/tranchebook/tranchebook/Cycle" "unit" "Lcom/example/tranchebook/tranchebook/Cycle$Unit;"), (a1471, Jvm.RoadKit.slotOf Z "com/example/tranchebook/tranchebook/Cycle" "longStub" "Z")] [] ∧ Fld Z h a1471 "com/example/tranchebook/tranchebook/Cycle" "count" "I" (.int p1472) ∧ Fld Z h a1471 "com/example/tranchebook/tranchebook/Cycle" "unit" "Lcom/example/tranchebook/tranchebook/Cycle$Unit;" (.ref a1473) ∧ Fld Z h a1471 "com/example/tranchebook/tranchebook/Cycle" "longStub" "Z" (.int p1474)
theorem r1_1 (l : Launch) (Z : State) (a0 : Array Value) (hw : ∀ d ∈ tables_1, d.before a0 Z = true) (a1471 : Addr) (p1472 : Int32) (a1473 : Addr) (p1474 : Int32) (w1476 : Int32) (w1482 : Int32) (h0 : Heap) (n0 : Nat) (Z0 : n0 ≤ h0.size) (H0 : Exa Z h0 a1471 "com/example/tranchebook/tranchebook/Cycle") (H1 : Fld Z h0 a1471 "com/example/tranchebook/tranchebook/Cycle" "count" "I" (.int w1476)) (H2 : n0 ≤ a1471) (H3 : Fld Z h0 a1471 "com/example/tranchebook/tranchebook/Cycle" "unit" "Lcom/example/tranchebook/tranchebook/Cycle$Unit;" .null) (H4 : Fld Z h0 a1471 "com/example/tranchebook/tranchebook/Cycle" "longStub" "Z" (.int w1482)) (H5 : narrow .boolean (.int p1474) = .int p1474) (H6 : fits .boolean (.int p1474) = true) :
   OMet l Z mN41 prog_12_method_1_code 4 none [] ({ frames := 1, cells := 0, slots := 0, locals := 12 } : Room) h0 #[(.ref a1471), (.int p1472), (.ref a1473), (.int p1474)] (Qr1_1 Z a1471 p1472 a1473 p1474 w1476 w1482 h0 n0) := by
 refine MetFree.of_bodySF (plainFor_of_name pn_com_example_tranchebook_tranchebook_Cycle) hisR ?_
 intro p e s m args below meth c s₁ Bd hml0 hP hK
 obtain ⟨rfl, hZ, hh⟩ := hP
 have hx := Bd.exec
 have hby := Bd.bytes
 have hml : c.maxLocals = 4 := hml0
 have hown : s.vm.findClass "com/example/tranchebook/tranchebook/Cycle" = some m.cls := findClass_of_methodNamed Bd.named
 have hnm := (name_of_methodNamed Bd.named Bd.method).1
 have X0 : Stand p l e ({ frames := 1, cells := 0, slots := 0, locals := 12 } : Room) s m #[(.ref a1471), (.int p1472), (.ref a1473), (.int p1474)] below meth c s₁ [] 0 0 := Stand.of_body Bd
 have e0 : s₁.heap = h0 := by rw [← hh, Bd.state]; rfl
 have N0 := Fr.nil n0
 have pre0 : ∀ t, Steps p.tables e below (s₁.setTop (mkF m 0 #[vR a1471, vI p1472, vR a1473, vI p1474] [])) t → Steps p.tables e below (s₁.setTop (entryFrame m #[(.ref a1471), (.int p1472), (.ref a1473), (.int p1474)] 4)) t := fun t k => castTop (ef_1_vvvv m a1471 p1472 a1473 p1474) k
 obtain ⟨T1475, X1475, e1475, st1475⟩ := initO X0 hx hZ hown (tw hw 24 rfl) (tw hw 25 rfl) (tw hw 26 rfl) e0 (g := (mkF m 1 #[vR a1471, vI p1472, vR a1473, vI p1474] [(.ref a1471)])) rfl (by rw [hml]; rfl) rfl (hb hby d1_1) (by decide) (W := 0) (own_w _) (by decide)
 obtain ⟨T1477, h1477, X1477, e1477, W1477, st1477⟩ := putF X1475 hx hZ hown (host := "") (Or.inl (tw hw 27 rfl)) Via.refl e1475 H1 H0 (Or.inr ⟨(tw hw 28 rfl), rfl, hnm⟩) (tw hw 19 rfl) (ty := .int) (by decide) rfl rfl (g := (mkF m 6 #[vR a1471, vI p1472, vR a1473, vI p1474] [(.int p1472), (.ref a1471)])) rfl rfl (hb hby d1_6)
 have Fw1477 := Fld.same W1477 H1
 have KC1477 := KSx.wr (KSx.refl h0 [(a1471, Jvm.RoadKit.slotOf Z "com/example/tranchebook/tranchebook/Cycle" "count" "I"), (a1471, Jvm.RoadKit.slotOf Z "com/example/tranchebook/tranchebook/Cycle" "unit" "Lcom/example/tranchebook/tranchebook/Cycle$Unit;"), (a1471, Jvm.RoadKit.slotOf Z "com/example/tranchebook/tranchebook/Cycle" "longStub" "Z")] []) W1477 (Or.inl (List.mem_of_getElem? (i := 0) rfl))
 have N1477 := Fr.snoc X1477 N0 H2
 have f1478 := (H0.wr W1477)
 have f1479 := (H3.other W1477 (Or.inr (slot_ne (Or.inr (tw hw 30 rfl)) (Or.inr (tw hw 28 rfl)) (by decide) (t := (.object "com/example/tranchebook/tranchebook/Cycle$Unit")) (t' := .int) (by decide) (by decide))))
 obtain ⟨T1480, h1480, X1480, e1480, W1480, st1480⟩ := putF X1477 hx hZ hown (host := "") (Or.inl (tw hw 29 rfl)) Via.refl e1477 f1479 f1478 (Or.inr ⟨(tw hw 30 rfl), rfl, hnm⟩) (tw hw 19 rfl) (ty := (.object "com/example/tranchebook/tranchebook/Cycle$Unit")) (by decide) rfl rfl (g := (mkF m 11 #[vR a1471, vI p1472, vR a1473, vI p1474] [(.ref a1473), (.ref a1471)])) rfl rfl (hb hby d1_11)
 have Fw1480 := Fld.same W1480 f1479
 have KC1480 := KSx.wr KC1477 W1480 (Or.inl (List.mem_of_getElem? (i := 1) rfl))
 have N1480 := Fr.snoc X1480 N1477 H2
 have f1481 := (f1478.wr W1480)
 have f1483 := ((H4.other W1477 (Or.inr (slot_ne (Or.inr (tw hw 32 rfl)) (Or.inr (tw hw 28 rfl)) (by decide) (t := .boolean) (t' := .int) (by decide) (by decide)))).other W1480 (Or.inr (slot_ne (Or.inr (tw hw 32 rfl)) (Or.inr (tw hw 30 rfl)) (by decide) (t := .boolean) (t' := (.object "com/example/tranchebook/tranchebook/Cycle$Unit")) (by decide) (by decide))))
 obtain ⟨T1484, h1484, X1484, e1484, W1484, st1484⟩ := putF X1480 hx hZ hown (host := "") (Or.inl (tw hw 31 rfl)) Via.refl e1480 f1483 f1481 (Or.inr ⟨(tw hw 32 rfl), rfl, hnm⟩) (tw hw 19 rfl) (ty := .boolean) (by decide) H5 H6 (g := (mkF m 16 #[vR a1471, vI p1472, vR a1473, vI p1474] [(.int p1474), (.ref a1471)])) rfl rfl (hb hby d1_16)
 have Fw1484 := Fld.same W1484 f1483
 have KC1484 := KSx.wr KC1480 W1484 (Or.inl (List.mem_of_getElem? (i := 2) rfl))
 have N1484 := Fr.snoc X1484 N1480 H2
 have f1485 := ((Fw1477.other W1480 (Or.inr (slot_ne (Or.inr (tw hw 28 rfl)) (Or.inr (tw hw 30 rfl)) (by decide) (t := .int) (t' := (.object "com/example/tranchebook/tranchebook/Cycle$Unit")) (by decide) (by decide)))).other W1484 (Or.inr (slot_ne (Or.inr (tw hw 28 rfl)) (Or.inr (tw hw 32 rfl)) (by decide) (t := .int) (t' := .boolean) (by decide) (by decide))))
 have f1486 := (Fw1480.other W1484 (Or.inr (slot_ne (Or.inr (tw hw 30 rfl)) (Or.inr (tw hw 32 rfl)) (by decide) (t := (.object "com/example/tranchebook/tranchebook/Cycle$Unit")) (t' := .boolean) (by decide) (by decide))))
 obtain ⟨fs, hr, hrun, hended, hW, hsame⟩ := X1484.leave (v := none) (fun _ => rfl)
 refine ⟨_, _, pre0 _ ?_, hrun, hended, _, _, rfl, ?_, ⟨_, rfl⟩, hW, hsame.mono (by decide) (by decide)⟩
 · show SG p e below s₁ (mkF m 0 #[vR a1471, vI p1472, vR a1473, vI p1474] []) _
   refine XS.aloadN X0.here hx rfl (hb hby d1_0) rfl rfl ?_
   show SG p e below s₁ (mkF m 1 #[vR a1471, vI p1472, vR a1473, vI p1474] [(.ref a1471)]) _
   refine st1475 _ ?_
   show SG p e below T1475 (mkF m 4 #[vR a1471, vI p1472, vR a1473, vI p1474] []) _
   refine XS.aloadN X1475.here hx rfl (hb hby d1_4) rfl rfl ?_
   show SG p e below T1475 (mkF m 5 #[vR a1471, vI p1472, vR a1473, vI p1474] [(.ref a1471)]) _
   refine XS.iloadN X1475.here hx rfl (hb hby d1_5) rfl ?_
   show SG p e below T1475 (mkF m 6 #[vR a1471, vI p1472, vR a1473, vI p1474] [(.int p1472), (.ref a1471)]) _
   refine st1477 _ ?_
   show SG p e below T1477 (mkF m 9 #[vR a1471, vI p1472, vR a1473, vI p1474] []) _
   refine XS.aloadN X1477.here hx rfl (hb hby d1_9) rfl rfl ?_
   show SG p e below T1477 (mkF m 10 #[vR a1471, vI p1472, vR a1473, vI p1474] [(.ref a1471)]) _
   refine XS.aloadN X1477.here hx rfl (hb hby d1_10) rfl rfl ?_
   show SG p e below T1477 (mkF m 11 #[vR a1471, vI p1472, vR a1473, vI p1474] [(.ref a1473), (.ref a1471)]) _
   refine st1480 _ ?_
   show SG p e below T1480 (mkF m 14 #[vR a1471, vI p1472, vR a1473, vI p1474] []) _
   refine XS.aloadN X1480.here hx rfl (hb hby d1_14) rfl rfl ?_
   show SG p e below T1480 (mkF m 15 #[vR a1471, vI p1472, vR a1473, vI p1474] [(.ref a1471)]) _
   refine XS.iloadN X1480.here hx rfl (hb hby d1_15) rfl ?_
   show SG p e below T1480 (mkF m 16 #[vR a1471, vI p1472, vR a1473, vI p1474] [(.int p1474), (.ref a1471)]) _
   refine st1484 _ ?_
   show SG p e below T1484 (mkF m 19 #[vR a1471, vI p1472, vR a1473, vI p1474] []) _
   exact X1484.returnOut hx Bd.returns (hb hby d1_19) hr
 · show Qr1_1 Z a1471 p1472 a1473 p1474 w1476 w1482 h0 n0 _ T1484.heap _
   rw [e1484]
   exact ⟨N1484, rfl, KC1484, f1485, f1486, Fw1484⟩
theorem pd_31 : parseMethodDescriptor "(ILcom/example/tranchebook/tranchebook/Cycle$Unit;Z)V" = some ⟨[.int, (.object "com/example/tranchebook/tranchebook/Cycle$Unit"), .boolean], none⟩ := by decide +kernel
abbrev la42 (p1409 : Int32) (p1410 : Int32) (p1411 : Int32) (b1412 : Addr) (b1451 : Addr) (b1466 : Addr) : Array Slot := #[vI p1409, vI p1410, vI p1411, vR b1412, vR b1451, vI ((p1410 &&& (2147483647 : Int32)) % (6 : Int32)), vI (0 : Int32), vR b1466, vU, vU, vU]
abbrev la43 (p1409 : Int32) (p1410 : Int32) (p1411 : Int32) (b1412 : Addr) (b1451 : Addr) (b1466 : Addr) (b1490_0 : Addr) : Array Slot := #[vI p1409, vI p1410, vI p1411, vR b1412, vR b1451, vI ((p1410 &&& (2147483647 : Int32)) % (6 : Int32)), vI (0 : Int32), vR b1466, vR b1490_0, vU, vU]
abbrev la44 (p1409 : Int32) (p1410 : Int32) (p1411 : Int32) (b1412 : Addr) (b1451 : Addr) (b1466 : Addr) (b1490_0 : Addr) : Array Slot := #[vI p1409, vI p1410, vI p1411, vR b1412, vR b1451, vI ((p1410 &&& (2147483647 : Int32)) % (6 : Int32)), vI (0 : Int32), vR b1466, vR b1490_0, vI (Int32.ofNat (osz p1409)), vU]
theorem r8_2 (l : Launch) (Z : State) (a0 : Array Value) (hw : ∀ d ∈ tables_1, d.before a0 Z = true) (a1523 : Addr) (w1524 : Addr) (k1526 : ClassId) (u1527 : Nat → Int32) (p1528 : Int32) (w1536 : Int32) (w1537 : Int32) (h0 : Heap) (n0 : Nat) (Z0 : n0 ≤ h0.size) (H0 : Fld Z h0 a1523 "java/lang/String" "value" "[B" (.ref w1524)) (H1 : BA Z h0 w1524 k1526 .byte p1528 u1527) (H2 : Sta Z h0 "java/lang/String" "COMPACT_STRINGS" "Z" (.int w1536)) (H3 : ¬ (w1536 = (0 : Int32))) (H4 : Fld Z h0 a1523 "java/lang/String" "coder" "B" (.int w1537)) (H5 : nar .byte w1537 = w1537) (H6 : Exa Z h0 a1523 "java/lang/String") :
   OMet l Z mN14 jdk_42_method_54_code 1 (some .int) [] ({ frames := 1, cells := 0, slots := 0, locals := 13 } : Room) h0 #[(.ref a1523)] (OQp (some (.int (p1528 >>> (w1537 &&& 31)))) h0 n0) := by
 refine MetFree.of_bodySF (plainFor_of_name pn_java_lang_String) hisR ?_
 intro p e s m args below meth c s₁ Bd hml0 hP hK
 obtain ⟨rfl, hZ, hh⟩ := hP
 have hx := Bd.exec
 have hby := Bd.bytes
 have hml : c.maxLocals = 1 := hml0
 have hown : s.vm.findClass "java/lang/String" = some m.cls := findClass_of_methodNamed Bd.named
 have hnm := (name_of_methodNamed Bd.named Bd.method).1
 have X0 : Stand p l e ({ frames := 1, cells := 0, slots := 0, locals := 13 } : Room) s m #[(.ref a1523)] below meth c s₁ [] 0 0 := Stand.of_body Bd
 have e0 : s₁.heap = h0 := by rw [← hh, Bd.state]; rfl
 have N0 := Fr.nil n0
 have pre0 : ∀ t, Steps p.tables e below (s₁.setTop (mkF m 0 #[vR a1523] [])) t → Steps p.tables e below (s₁.setTop (entryFrame m #[(.ref a1523)] 1)) t := fun t k => castTop (ef_8_v m a1523) k
 obtain ⟨T1525, X1525, e1525, st1525⟩ := getF X0 hx hZ hown (host := "") (Or.inl (tw hw 79 rfl)) Via.refl e0 H0 (g := (mkF m 1 #[vR a1523] [(.ref a1523)])) rfl rfl (hb hby d8_1)
 have vc1529 := H1
 obtain ⟨cl1529, Ar1529, q1529, S1529, N1529, Hh1529, G1529⟩ := vc1529
 obtain ⟨cq1535, kq1535, q1535a, q1535b, q1535c⟩ := isOf hZ e1525 H6
 obtain ⟨_, _, ⟨T1535, L1535, k1535, n1535⟩, -, X1535, ⟨Lc1535, hQ1535, l1535, y1535, z1535⟩, st1535⟩ := X1525.virtualBack hx (y := mN13) (z := mN13) hown (mvT hZ (tw hw 80 rfl)) (mvT hZ (tw hw 81 rfl)) (notFace_of_selects (args := #[]) (mvT hZ (tw hw 83 rfl))) (mvT hZ (tw hw 83 rfl)) (mvT hZ (tw hw 82 rfl)) (by decide) (backOf (W := 1) (r9_1 l Z a0 hw a1523 w1536 w1537 h0 n0 Z0 H2 H3 H4 H5) hZ (tw hw 84 rfl) (tw hw 52 rfl) (by decide) (by decide)) q1535a q1535c (g := (mkF m 6 #[vR a1523] [(.ref a1523), (.int p1528)])) rfl (by rw [hml]; rfl) (Steps.refl _) (argsL := []) (rest := [(.int p1528)]) (lenOf pd_10 rfl) rfl (own_w _) (hb hby d8_6) (fun _ _ => ⟨rfl, e1525, (by decide : 0 + 0 ≤ _), (by decide : 0 + 0 ≤ _)⟩)
 dsimp only [Pt.U, Pt.locs, Pt.cells, Pt.slots] at X1535 l1535 y1535 z1535 st1535 hQ1535
 replace X1535 := own_mvX X1535 (a := 0) (b := 0) y1535 z1535
 obtain ⟨rfl, N1535q, e1535⟩ := hQ1535
 have N1535 := own_mvN l1535 N0 N1535q
 obtain ⟨fs, hr, hrun, hended, hW, hsame⟩ := X1535.leave (v := some (.int (p1528 >>> (w1537 &&& 31)))) (fun h => by rw [Bd.returns] at h; cases h)
 refine ⟨_, _, pre0 _ ?_, hrun, hended, _, _, rfl, ?_, ⟨_, rfl⟩, hW, hsame.mono (by decide) (by decide)⟩
 · show SG p e below s₁ (mkF m 0 #[vR a1523] []) _
   refine XS.aloadN X0.here hx rfl (hb hby d8_0) rfl rfl ?_
   show SG p e below s₁ (mkF m 1 #[vR a1523] [(.ref a1523)]) _
   refine st1525 _ ?_
   show SG p e below T1525 (mkF m 4 #[vR a1523] [(.ref w1524)]) _
   refine X1525.arraylength hx (by rw [e1525]; exact Ar1529.1) (State.isArrayOf_alike hZ.alike Ar1529.2.1) (g := (mkF m 4 #[vR a1523] [(.ref w1524)])) rfl rfl (hb hby d8_4) _ ?_
   rw [len_of S1529 N1529]
   show SG p e below T1525 (mkF m 5 #[vR a1523] [(.int p1528)]) _
   refine XS.aloadN X1525.here hx rfl (hb hby d8_5) rfl rfl ?_
   show SG p e below T1525 (mkF m 6 #[vR a1523] [(.ref a1523), (.int p1528)]) _
   refine st1535.trans ?_
   show SG p e below T1535 (mkF m 9 #[vR a1523] [(.int w1537), (.int p1528)]) _
   refine XS.ishr X1535.here hx rfl (hb hby d8_9) rfl ?_
   show SG p e below T1535 (mkF m 10 #[vR a1523] [(.int (p1528 >>> (w1537 &&& 31)))]) _
   exact retI X1535 hx Bd.returns (hb hby d8_10) hr
 · show OQp (some (.int (p1528 >>> (w1537 &&& 31)))) h0 n0 _ T1535.heap _
   rw [e1535]
   exact ⟨rfl, N1535, rfl⟩
abbrev la45 (p1409 : Int32) (p1410 : Int32) (p1411 : Int32) (b1412 : Addr) (b1451 : Addr) (b1466 : Addr) (b1490_0 : Addr) : Array Slot := #[vI p1409, vI p1410, vI p1411, vR b1412, vR b1451, vI ((p1410 &&& (2147483647 : Int32)) % (6 : Int32)), vI (0 : Int32), vR b1466, vR b1490_0, vI (Int32.ofNat (osz p1409)), vI ((Int32.ofNat (osz p1409 + 4)) >>> ((0 : Int32) &&& 31))]
theorem pd_32 : parseMethodDescriptor "(Ljava/lang/String;II)Z" = some ⟨[(.object "java/lang/String"), .int, .int], some .boolean⟩ := by decide +kernel
theorem ef_0_vvv (m : MethodId) (x0 : Int32) (x1 : Int32) (x2 : Int32) : entryFrame m #[(.int x0), (.int x1), (.int x2)] maxLocals = mkF m 0 #[.val (.int x0), .val (.int x1), .val (.int x2), .unset, .unset, .unset, .unset, .unset, .unset, .unset, .unset] [] := by first | (simp [entryFrame, mkF, argsToLocals, Value.category, maxLocals]; done) | rfl
theorem r0_1 (l : Launch) (Z : State) (a0 : Array Value) (hw : ∀ d ∈ tables_1, d.before a0 Z = true) (p1409 : Int32) (p1410 : Int32) (p1411 : Int32) (w1413 : Addr) (w1421 : Addr) (w1427 : Addr) (w1433 : Addr) (w1439 : Addr) (w1445 : Addr) (a1470 : Addr) (w1491 : Int32) (w1493 : Addr) (w1495 : Addr) (k1497 : ClassId) (u1498 : Nat → Int32) (k1505 : ClassId) (u1506 : Nat → Int32) (w1513 : Int32) (x1541 : Value) (h0 : Heap) (n0 : Nat) (Z0 : n0 ≤ h0.size) (H0 : Sta Z h0 "com/example/tranchebook/tranchebook/Cycle$Unit" "DAYS" "Lcom/example/tranchebook/tranchebook/Cycle$Unit;" (.ref w1413)) (H1 : Exa Z h0 w1413 "com/example/tranchebook/tranchebook/Cycle$Unit") (H2 : Sta Z h0 "com/example/tranchebook/tranchebook/Cycle$Unit" "WEEKS" "Lcom/example/tranchebook/tranchebook/Cycle$Unit;" (.ref w1421)) (H3 : Exa Z h0 w1421 "com/example/tranchebook/tranchebook/Cycle$Unit") (H4 : Sta Z h0 "com/example/tranchebook/tranchebook/Cycle$Unit" "MONTHS" "Lcom/example/tranchebook/tranchebook/Cycle$Unit;" (.ref w1427)) (H5 : Exa Z h0 w1427 "com/example/tranchebook/tranchebook/Cycle$Unit") (H6 : Sta Z h0 "com/example/tranchebook/tranchebook/Cycle$Unit" "QUARTERS" "Lcom/example/tranchebook/tranchebook/Cycle$Unit;" (.ref w1433)) (H7 : Exa Z h0 w1433 "com/example/tranchebook/tranchebook/Cycle$Unit") (H8 : Sta Z h0 "com/example/tranchebook/tranchebook/Cycle$Unit" "HALF_YEARS" "Lcom/example/tranchebook/tranchebook/Cycle$Unit;" (.ref w1439)) (H9 : Exa Z h0 w1439 "com/example/tranchebook/tranchebook/Cycle$Unit") (H10 : Sta Z h0 "com/example/tranchebook/tranchebook/Cycle$Unit" "YEARS" "Lcom/example/tranchebook/tranchebook/Cycle$Unit;" (.ref w1445)) (H11 : Exa Z h0 w1445 "com/example/tranchebook/tranchebook/Cycle$Unit") (H12 : (p1411 &&& (1 : Int32)) = (0 : Int32)) (H13 : ¬ (((p1410 &&& (2147483647 : Int32)) % (6 : Int32)) < (0 : Int32))) (H14 : ((p1410 &&& (2147483647 : Int32)) % (6 : Int32)) < (6 : Int32)) (H15 : ([(.ref w1413), (.ref w1421), (.ref w1427), (.ref w1433), (.ref w1439), (.ref w1445)] : List Value).getD (((p1410 &&& (2147483647 : Int32)) % (6 : Int32))).toNatClampNeg .null = (.ref a1470)) (H16 : Sta Z h0 "java/lang/String" "COMPACT_STRINGS" "Z" (.int w1491)) (H17 : ¬ (w1491 = (0 : Int32))) (H18 : Sta Z h0 "java/lang/Integer" "DigitOnes" "[B" (.ref w1493)) (H19 : Sta Z h0 "java/lang/Integer" "DigitTens" "[B" (.ref w1495)) (H20 : BA Z h0 w1493 k1497 .byte (100 : Int32) u1498) (H21 : BA Z h0 w1495 k1505 .byte (100 : Int32) u1506) (H22 : u1498 = (fun r => Int32.ofNat (48 + r % 10))) (H23 : u1506 = (fun r => Int32.ofNat (48 + r / 10))) (H24 : (Jvm.Cond.laysStatic "java/lang/Integer" "DigitOnes" "[B").before a0 Z = true) (H25 : (Jvm.Cond.laysStatic "java/lang/Integer" "DigitTens" "[B").before a0 Z = true) (H26 : Fld Z h0 a1470 "com/example/tranchebook/tranchebook/Cycle$Unit" "letter" "C" (.int w1513)) (H27 : nar .char w1513 = w1513) (H28 : Exa Z h0 a1470 "com/example/tranchebook/tranchebook/Cycle$Unit") (H29 : ¬ ((255 : Int32) < w1513)) (H30 : (w1513).toInt8.toInt32 = w1513) (H31 : ((Int32.ofNat (osz p1409 + 4)) >>> ((0 : Int32) &&& 31)) = ((Int32.ofNat (osz p1409)) + (4 : Int32))) (H32 : Sta Z h0 "jdk/internal/util/Preconditions" "SIOOBE_FORMATTER" "Ljava/util/function/BiFunction;" x1541) (H33 : (x1541).isRef = true) (H34 : (0 : Int32) < (Int32.ofNat (osz p1409 + 4))) (H35 : (oc8 ((otx p1409 w1513 49) ((0 : Int32)).toNatClampNeg)) = (80 : Int32)) (H36 : ¬ ((((Int32.ofNat (osz p1409 + 4)) >>> ((0 : Int32) &&& 31)) - (3 : Int32)) < (0 : Int32))) (H37 : (((Int32.ofNat (osz p1409 + 4)) >>> ((0 : Int32) &&& 31)) - (3 : Int32)) < (Int32.ofNat (osz p1409 + 4))) (H38 : (oc8 ((otx p1409 w1513 49) ((((Int32.ofNat (osz p1409 + 4)) >>> ((0 : Int32) &&& 31)) - (3 : Int32))).toNatClampNeg)) = ((fun i => if i = ((5 : Int32)).toNatClampNeg then (89 : Int32) else (fun i => if i = ((4 : Int32)).toNatClampNeg then (72 : Int32) else (fun i => if i = ((3 : Int32)).toNatClampNeg then (81 : Int32) else (fun i => if i = ((2 : Int32)).toNatClampNeg then (77 : Int32) else (fun i => if i = ((1 : Int32)).toNatClampNeg then (87 : Int32) else (fun i => if i = ((0 : Int32)).toNatClampNeg then (68 : Int32) else (fun _ => (0 : Int32)) i) i) i) i) i) i) (((p1410 &&& (2147483647 : Int32)) % (6 : Int32))).toNatClampNeg)) (H39 : ¬ ((((Int32.ofNat (osz p1409 + 4)) >>> ((0 : Int32) &&& 31)) - (2 : Int32)) < (0 : Int32))) (H40 : (((Int32.ofNat (osz p1409 + 4)) >>> ((0 : Int32) &&& 31)) - (2 : Int32)) < (Int32.ofNat (osz p1409 + 4))) (H41 : (oc8 ((otx p1409 w1513 49) ((((Int32.ofNat (osz p1409 + 4)) >>> ((0 : Int32) &&& 31)) - (2 : Int32))).toNatClampNeg)) = (76 : Int32)) (H42 : ¬ ((((Int32.ofNat (osz p1409 + 4)) >>> ((0 : Int32) &&& 31)) - (1 : Int32)) < (0 : Int32))) (H43 : (((Int32.ofNat (osz p1409 + 4)) >>> ((0 : Int32) &&& 31)) - (1 : Int32)) < (Int32.ofNat (osz p1409 + 4))) (H44 : (oc8 ((otx p1409 w1513 49) ((((Int32.ofNat (osz p1409 + 4)) >>> ((0 : Int32) &&& 31)) - (1 : Int32))).toNatClampNeg)) = (49 : Int32)) (H45 : (Int32.ofNat (osz p1409 + 4)) = Int32.ofNat (osz p1409 + 4)) (H46 : ∀ j, j < osz p1409 → ((otx p1409 w1513 49)) (1 + j) = otc p1409 j) :
   OMetH EL l Z x code maxLocals ret tables_1 room_1 h0 #[(.int p1409), (.int p1410), (.int p1411)] (OQl (some (.int (1 : Int32))) n0) := by
 refine MetFree.of_bodySF (plainFor_of_name pn_com_example_tranchebook_tranchebook_CycleToStringPinLaw) hisR ?_
 intro p e s m args below meth c s₁ Bd hml0 hP hK
 obtain ⟨rfl, hZ, hh, hCH⟩ := hP
 have hx := Bd.exec
 have hby := Bd.bytes
 have hml : c.maxLocals = 11 := hml0
 have hown : s.vm.findClass "com/example/tranchebook/tranchebook/CycleToStringPinLaw" = some m.cls := findClass_of_methodNamed Bd.named
 have hnm := (name_of_methodNamed Bd.named Bd.method).1
 have X0 : Stand p l e room_1 s m #[(.int p1409), (.int p1410), (.int p1411)] below meth c s₁ [] 0 0 := Stand.of_body Bd
 have e0 : s₁.heap = h0 := by rw [← hh, Bd.state]; rfl
 have N0 := Fr.nil n0
 have R0 : CHr Z EL s.vm h0 s.vm h0 := CHr.refl hCH
 have pre0 : ∀ t, Steps p.tables e below (s₁.setTop (mkF m 0 #[vI p1409, vI p1410, vI p1411, .unset, .unset, .unset, .unset, .unset, .unset, .unset, .unset] [])) t → Steps p.tables e below (s₁.setTop (entryFrame m #[(.int p1409), (.int p1410), (.int p1411)] maxLocals)) t := fun t k => castTop (ef_0_vvv m p1409 p1410 p1411) k
 obtain ⟨T1412, h1412, k1412, X1412, e1412, E1412, A1412, O1412, st1412⟩ := newR X0 hx hZ hown (tw hw 0 rfl) (tw hw 1 rfl) e0 (g := (mkF m 2 (la37 p1409 p1410 p1411) [(.int (6 : Int32))])) rfl (hb hby at_2) rfl (by decide) (cap := 6) (by decide) (by decide) (by decide) (by decide)
 obtain ⟨b1412, g1412⟩ : ∃ z, z = h0.size := ⟨_, rfl⟩
 rw [← g1412] at A1412 st1412
 have KC1412 := KSx.ext (KSx.refl h0 [] []) E1412
 have R1412 := CHr.trans R0 (CHr.ext E1412 R0.1)
 have V1412 : Arv Z h1412 b1412 k1412 (.object "com/example/tranchebook/tranchebook/Cycle$Unit") (6 : Int32) [.null, .null, .null, .null, .null, .null] .null := (Arv.new A1412 (by decide)).pad (pad_rep [] .null 6)
 have f1414 := (H0.ext E1412)
 obtain ⟨T1415, X1415, e1415, st1415⟩ := getS2 X1412 hx hZ hown (host := "") (Or.inl (tw hw 2 rfl)) Via.refl e1412 f1414 (g := (mkF m 7 (la37 p1409 p1410 p1411) [(.int (0 : Int32)), (.ref b1412), (.ref b1412)])) rfl (hb hby at_7)
 have vc1416 := V1412
 obtain ⟨cl1416, Ar1416, q1416, S1416, N1416, Hh1416, G1416⟩ := vc1416
 have hin1416 : ¬ ((0 : Int32) < 0 ∨ cl1416.slots.size ≤ ((0 : Int32)).toNatClampNeg) := inb_of S1416 ⟨(by decide), (by decide)⟩
 have g1417 : n0 ≤ b1412 := Nat.le_trans Z0 (Nat.le_of_eq g1412.symm)
 have f1418 := (H1.ext E1412)
 obtain ⟨T1419, h1419, X1419, e1419, W1419, st1419⟩ := stR X1415 hx hZ e1415 Ar1416 (j := (0 : Int32)) hin1416 rfl (Sto.ofV Ar1416 q1416 O1412 (Ins.self f1418)) (g := (mkF m 10 (la37 p1409 p1410 p1411) [(.ref w1413), (.int (0 : Int32)), (.ref b1412), (.ref b1412)])) rfl rfl (hb hby at_10)
 have V1419 : Arv Z h1419 b1412 k1412 (.object "com/example/tranchebook/tranchebook/Cycle$Unit") (6 : Int32) [(.ref w1413), .null, .null, .null, .null, .null] .null := Arv.set Ar1416 q1416 S1416 N1416 Hh1416 G1416 rfl W1419 0 rfl (Nat.le_of_ble_eq_true rfl)
 have z1420 : h0.size ≤ b1412 := Nat.le_trans (KSx.refl h0 [] []).1 (Nat.le_of_eq g1412.symm)
 have KC1419 := KSx.wrA KC1412 W1419 (Or.inr z1420)
 have R1419 := CHr.trans R1412 (CHr.wr W1419 (Safe.arv hZ.alike V1412 (by decide)) R1412.1)
 have N1419 := Fr.snoc X1419 N0 g1417
 have f1422 := ((H2.ext E1412).wr W1419)
 obtain ⟨T1423, X1423, e1423, st1423⟩ := getS2 X1419 hx hZ hown (host := "") (Or.inl (tw hw 6 rfl)) Via.refl e1419 f1422 (g := (mkF m 13 (la37 p1409 p1410 p1411) [(.int (1 : Int32)), (.ref b1412), (.ref b1412)])) rfl (hb hby at_13)
 have vc1424 := V1419
 obtain ⟨cl1424, Ar1424, q1424, S1424, N1424, Hh1424, G1424⟩ := vc1424
 have hin1424 : ¬ ((1 : Int32) < 0 ∨ cl1424.slots.size ≤ ((1 : Int32)).toNatClampNeg) := inb_of S1424 ⟨(by decide), (by decide)⟩
 have f1425 := ((H3.ext E1412).wr W1419)
 obtain ⟨T1426, h1426, X1426, e1426, W1426, st1426⟩ := stR X1423 hx hZ e1423 Ar1424 (j := (1 : Int32)) hin1424 rfl (Sto.ofV Ar1424 q1424 O1412 (Ins.self f1425)) (g := (mkF m 16 (la37 p1409 p1410 p1411) [(.ref w1421), (.int (1 : Int32)), (.ref b1412), (.ref b1412)])) rfl rfl (hb hby at_16)
 have V1426 : Arv Z h1426 b1412 k1412 (.object "com/example/tranchebook/tranchebook/Cycle$Unit") (6 : Int32) [(.ref w1413), (.ref w1421), .null, .null, .null, .null] .null := Arv.set Ar1424 q1424 S1424 N1424 Hh1424 G1424 rfl W1426 1 rfl (Nat.le_of_ble_eq_true rfl)
 have KC1426 := KSx.wrA KC1419 W1426 (Or.inr z1420)
 have R1426 := CHr.trans R1419 (CHr.wr W1426 (Safe.arv hZ.alike V1419 (by decide)) R1419.1)
 have N1426 := Fr.snoc X1426 N1419 g1417
 have f1428 := (((H4.ext E1412).wr W1419).wr W1426)
 obtain ⟨T1429, X1429, e1429, st1429⟩ := getS2 X1426 hx hZ hown (host := "") (Or.inl (tw hw 8 rfl)) Via.refl e1426 f1428 (g := (mkF m 19 (la37 p1409 p1410 p1411) [(.int (2 : Int32)), (.ref b1412), (.ref b1412)])) rfl (hb hby at_19)
 have vc1430 := V1426
 obtain ⟨cl1430, Ar1430, q1430, S1430, N1430, Hh1430, G1430⟩ := vc1430
 have hin1430 : ¬ ((2 : Int32) < 0 ∨ cl1430.slots.size ≤ ((2 : Int32)).toNatClampNeg) := inb_of S1430 ⟨(by decide), (by decide)⟩
 have f1431 := (((H5.ext E1412).wr W1419).wr W1426)
 obtain ⟨T1432, h1432, X1432, e1432, W1432, st1432⟩ := stR X1429 hx hZ e1429 Ar1430 (j := (2 : Int32)) hin1430 rfl (Sto.ofV Ar1430 q1430 O1412 (Ins.self f1431)) (g := (mkF m 22 (la37 p1409 p1410 p1411) [(.ref w1427), (.int (2 : Int32)), (.ref b1412), (.ref b1412)])) rfl rfl (hb hby at_22)
 have V1432 : Arv Z h1432 b1412 k1412 (.object "com/example/tranchebook/tranchebook/Cycle$Unit") (6 : Int32) [(.ref w1413), (.ref w1421), (.ref w1427), .null, .null, .null] .null := Arv.set Ar1430 q1430 S1430 N1430 Hh1430 G1430 rfl W1432 2 rfl (Nat.le_of_ble_eq_true rfl)
 have KC1432 := KSx.wrA KC1426 W1432 (Or.inr z1420)
 have R1432 := CHr.trans R1426 (CHr.wr W1432 (Safe.arv hZ.alike V1426 (by decide)) R1426.1)
 have N1432 := Fr.snoc X1432 N1426 g1417
 have f1434 := ((((H6.ext E1412).wr W1419).wr W1426).wr W1432)
 obtain ⟨T1435, X1435, e1435, st1435⟩ := getS2 X1432 hx hZ hown (host := "") (Or.inl (tw hw 10 rfl)) Via.refl e1432 f1434 (g := (mkF m 25 (la37 p1409 p1410 p1411) [(.int (3 : Int32)), (.ref b1412), (.ref b1412)])) rfl (hb hby at_25)
 have vc1436 := V1432
 obtain ⟨cl1436, Ar1436, q1436, S1436, N1436, Hh1436, G1436⟩ := vc1436
 have hin1436 : ¬ ((3 : Int32) < 0 ∨ cl1436.slots.size ≤ ((3 : Int32)).toNatClampNeg) := inb_of S1436 ⟨(by decide), (by decide)⟩
 have f1437 := ((((H7.ext E1412).wr W1419).wr W1426).wr W1432)
 obtain ⟨T1438, h1438, X1438, e1438, W1438, st1438⟩ := stR X1435 hx hZ e1435 Ar1436 (j := (3 : Int32)) hin1436 rfl (Sto.ofV Ar1436 q1436 O1412 (Ins.self f1437)) (g := (mkF m 28 (la37 p1409 p1410 p1411) [(.ref w1433), (.int (3 : Int32)), (.ref b1412), (.ref b1412)])) rfl rfl (hb hby at_28)
 have V1438 : Arv Z h1438 b1412 k1412 (.object "com/example/tranchebook/tranchebook/Cycle$Unit") (6 : Int32) [(.ref w1413), (.ref w1421), (.ref w1427), (.ref w1433), .null, .null] .null := Arv.set Ar1436 q1436 S1436 N1436 Hh1436 G1436 rfl W1438 3 rfl (Nat.le_of_ble_eq_true rfl)
 have KC1438 := KSx.wrA KC1432 W1438 (Or.inr z1420)
 have R1438 := CHr.trans R1432 (CHr.wr W1438 (Safe.arv hZ.alike V1432 (by decide)) R1432.1)
 have N1438 := Fr.snoc X1438 N1432 g1417
 have f1440 := (((((H8.ext E1412).wr W1419).wr W1426).wr W1432).wr W1438)
 obtain ⟨T1441, X1441, e1441, st1441⟩ := getS2 X1438 hx hZ hown (host := "") (Or.inl (tw hw 12 rfl)) Via.refl e1438 f1440 (g := (mkF m 31 (la37 p1409 p1410 p1411) [(.int (4 : Int32)), (.ref b1412), (.ref b1412)])) rfl (hb hby at_31)
 have vc1442 := V1438
 obtain ⟨cl1442, Ar1442, q1442, S1442, N1442, Hh1442, G1442⟩ := vc1442
 have hin1442 : ¬ ((4 : Int32) < 0 ∨ cl1442.slots.size ≤ ((4 : Int32)).toNatClampNeg) := inb_of S1442 ⟨(by decide), (by decide)⟩
 have f1443 := (((((H9.ext E1412).wr W1419).wr W1426).wr W1432).wr W1438)
 obtain ⟨T1444, h1444, X1444, e1444, W1444, st1444⟩ := stR X1441 hx hZ e1441 Ar1442 (j := (4 : Int32)) hin1442 rfl (Sto.ofV Ar1442 q1442 O1412 (Ins.self f1443)) (g := (mkF m 34 (la37 p1409 p1410 p1411) [(.ref w1439), (.int (4 : Int32)), (.ref b1412), (.ref b1412)])) rfl rfl (hb hby at_34)
 have V1444 : Arv Z h1444 b1412 k1412 (.object "com/example/tranchebook/tranchebook/Cycle$Unit") (6 : Int32) [(.ref w1413), (.ref w1421), (.ref w1427), (.ref w1433), (.ref w1439), .null] .null := Arv.set Ar1442 q1442 S1442 N1442 Hh1442 G1442 rfl W1444 4 rfl (Nat.le_of_ble_eq_true rfl)
 have KC1444 := KSx.wrA KC1438 W1444 (Or.inr z1420)
 have R1444 := CHr.trans R1438 (CHr.wr W1444 (Safe.arv hZ.alike V1438 (by decide)) R1438.1)
 have N1444 := Fr.snoc X1444 N1438 g1417
 have f1446 := ((((((H10.ext E1412).wr W1419).wr W1426).wr W1432).wr W1438).wr W1444)
 obtain ⟨T1447, X1447, e1447, st1447⟩ := getS2 X1444 hx hZ hown (host := "") (Or.inl (tw hw 14 rfl)) Via.refl e1444 f1446 (g := (mkF m 37 (la37 p1409 p1410 p1411) [(.int (5 : Int32)), (.ref b1412), (.ref b1412)])) rfl (hb hby at_37)
 have vc1448 := V1444
 obtain ⟨cl1448, Ar1448, q1448, S1448, N1448, Hh1448, G1448⟩ := vc1448
 have hin1448 : ¬ ((5 : Int32) < 0 ∨ cl1448.slots.size ≤ ((5 : Int32)).toNatClampNeg) := inb_of S1448 ⟨(by decide), (by decide)⟩
 have f1449 := ((((((H11.ext E1412).wr W1419).wr W1426).wr W1432).wr W1438).wr W1444)
 obtain ⟨T1450, h1450, X1450, e1450, W1450, st1450⟩ := stR X1447 hx hZ e1447 Ar1448 (j := (5 : Int32)) hin1448 rfl (Sto.ofV Ar1448 q1448 O1412 (Ins.self f1449)) (g := (mkF m 40 (la37 p1409 p1410 p1411) [(.ref w1445), (.int (5 : Int32)), (.ref b1412), (.ref b1412)])) rfl rfl (hb hby at_40)
 have V1450 : Arv Z h1450 b1412 k1412 (.object "com/example/tranchebook/tranchebook/Cycle$Unit") (6 : Int32) [(.ref w1413), (.ref w1421), (.ref w1427), (.ref w1433), (.ref w1439), (.ref w1445)] .null := Arv.set Ar1448 q1448 S1448 N1448 Hh1448 G1448 rfl W1450 5 rfl (Nat.le_of_ble_eq_true rfl)
 have KC1450 := KSx.wrA KC1444 W1450 (Or.inr z1420)
 have R1450 := CHr.trans R1444 (CHr.wr W1450 (Safe.arv hZ.alike V1444 (by decide)) R1444.1)
 have N1450 := Fr.snoc X1450 N1444 g1417
 obtain ⟨T1451, h1451, k1451, X1451, e1451, E1451, A1451, st1451⟩ := newP X1450 hx hZ (tw hw 16 rfl) e1450 (g := (mkF m 44 (la38 p1409 p1410 p1411 b1412) [(.int (6 : Int32))])) rfl (hb hby at_44) rfl (by decide) (cap := 6) (by decide) (by decide) (by decide) (by decide)
 obtain ⟨b1451, g1451⟩ : ∃ z, z = h1450.size := ⟨_, rfl⟩
 rw [← g1451] at A1451 st1451
 have KC1451 := KSx.ext KC1450 E1451
 have R1451 := CHr.trans R1450 (CHr.ext E1451 R1450.1)
 have B1451 : BA Z h1451 b1451 k1451 .char (6 : Int32) (fun _ => (0 : Int32)) := BA.new A1451 (by decide) rfl rfl
 have vc1452 := B1451
 obtain ⟨cl1452, Ar1452, q1452, S1452, N1452, Hh1452, G1452⟩ := vc1452
 have hin1452 : ¬ ((0 : Int32) < 0 ∨ cl1452.slots.size ≤ ((0 : Int32)).toNatClampNeg) := inb_of S1452 ⟨(by decide), (by decide)⟩
 have Z1412 : n0 ≤ h1412.size := Nat.le_trans Z0 E1412.1
 have Z1419 : n0 ≤ h1419.size := Nat.le_trans Z1412 (Nat.le_of_eq W1419.size.symm)
 have Z1426 : n0 ≤ h1426.size := Nat.le_trans Z1419 (Nat.le_of_eq W1426.size.symm)
 have Z1432 : n0 ≤ h1432.size := Nat.le_trans Z1426 (Nat.le_of_eq W1432.size.symm)
 have Z1438 : n0 ≤ h1438.size := Nat.le_trans Z1432 (Nat.le_of_eq W1438.size.symm)
 have Z1444 : n0 ≤ h1444.size := Nat.le_trans Z1438 (Nat.le_of_eq W1444.size.symm)
 have Z1450 : n0 ≤ h1450.size := Nat.le_trans Z1444 (Nat.le_of_eq W1450.size.symm)
 have g1453 : n0 ≤ b1451 := Nat.le_trans Z1450 (Nat.le_of_eq g1451.symm)
 obtain ⟨T1454, h1454, X1454, e1454, W1454, st1454⟩ := stC X1451 hx hZ e1451 Ar1452 (j := (0 : Int32)) hin1452 (g := (mkF m 50 (la38 p1409 p1410 p1411 b1412) [(.int (68 : Int32)), (.int (0 : Int32)), (.ref b1451), (.ref b1451)])) rfl rfl (hb hby at_50)
 have B1454 : BA Z h1454 b1451 k1451 .char (6 : Int32) (fun i => if i = ((0 : Int32)).toNatClampNeg then (68 : Int32) else (fun _ => (0 : Int32)) i) := BA.set B1451 W1454 (by decide)
 have z1455 : h0.size ≤ b1451 := Nat.le_trans KC1450.1 (Nat.le_of_eq g1451.symm)
 have KC1454 := KSx.wrA KC1451 W1454 (Or.inr z1455)
 have R1454 := CHr.trans R1451 (CHr.wr W1454 (own_safeB hZ.alike B1451 (by decide)) R1451.1)
 have N1454 := Fr.snoc X1454 N1450 g1453
 have vc1456 := B1454
 obtain ⟨cl1456, Ar1456, q1456, S1456, N1456, Hh1456, G1456⟩ := vc1456
 have hin1456 : ¬ ((1 : Int32) < 0 ∨ cl1456.slots.size ≤ ((1 : Int32)).toNatClampNeg) := inb_of S1456 ⟨(by decide), (by decide)⟩
 obtain ⟨T1457, h1457, X1457, e1457, W1457, st1457⟩ := stC X1454 hx hZ e1454 Ar1456 (j := (1 : Int32)) hin1456 (g := (mkF m 55 (la38 p1409 p1410 p1411 b1412) [(.int (87 : Int32)), (.int (1 : Int32)), (.ref b1451), (.ref b1451)])) rfl rfl (hb hby at_55)
 have B1457 : BA Z h1457 b1451 k1451 .char (6 : Int32) (fun i => if i = ((1 : Int32)).toNatClampNeg then (87 : Int32) else (fun i => if i = ((0 : Int32)).toNatClampNeg then (68 : Int32) else (fun _ => (0 : Int32)) i) i) := BA.set B1454 W1457 (by decide)
 have KC1457 := KSx.wrA KC1454 W1457 (Or.inr z1455)
 have R1457 := CHr.trans R1454 (CHr.wr W1457 (own_safeB hZ.alike B1454 (by decide)) R1454.1)
 have N1457 := Fr.snoc X1457 N1454 g1453
 have vc1458 := B1457
 obtain ⟨cl1458, Ar1458, q1458, S1458, N1458, Hh1458, G1458⟩ := vc1458
 have hin1458 : ¬ ((2 : Int32) < 0 ∨ cl1458.slots.size ≤ ((2 : Int32)).toNatClampNeg) := inb_of S1458 ⟨(by decide), (by decide)⟩
 obtain ⟨T1459, h1459, X1459, e1459, W1459, st1459⟩ := stC X1457 hx hZ e1457 Ar1458 (j := (2 : Int32)) hin1458 (g := (mkF m 60 (la38 p1409 p1410 p1411 b1412) [(.int (77 : Int32)), (.int (2 : Int32)), (.ref b1451), (.ref b1451)])) rfl rfl (hb hby at_60)
 have B1459 : BA Z h1459 b1451 k1451 .char (6 : Int32) (fun i => if i = ((2 : Int32)).toNatClampNeg then (77 : Int32) else (fun i => if i = ((1 : Int32)).toNatClampNeg then (87 : Int32) else (fun i => if i = ((0 : Int32)).toNatClampNeg then (68 : Int32) else (fun _ => (0 : Int32)) i) i) i) := BA.set B1457 W1459 (by decide)
 have KC1459 := KSx.wrA KC1457 W1459 (Or.inr z1455)
 have R1459 := CHr.trans R1457 (CHr.wr W1459 (own_safeB hZ.alike B1457 (by decide)) R1457.1)
 have N1459 := Fr.snoc X1459 N1457 g1453
 have vc1460 := B1459
 obtain ⟨cl1460, Ar1460, q1460, S1460, N1460, Hh1460, G1460⟩ := vc1460
 have hin1460 : ¬ ((3 : Int32) < 0 ∨ cl1460.slots.size ≤ ((3 : Int32)).toNatClampNeg) := inb_of S1460 ⟨(by decide), (by decide)⟩
 obtain ⟨T1461, h1461, X1461, e1461, W1461, st1461⟩ := stC X1459 hx hZ e1459 Ar1460 (j := (3 : Int32)) hin1460 (g := (mkF m 65 (la38 p1409 p1410 p1411 b1412) [(.int (81 : Int32)), (.int (3 : Int32)), (.ref b1451), (.ref b1451)])) rfl rfl (hb hby at_65)
 have B1461 : BA Z h1461 b1451 k1451 .char (6 : Int32) (fun i => if i = ((3 : Int32)).toNatClampNeg then (81 : Int32) else (fun i => if i = ((2 : Int32)).toNatClampNeg then (77 : Int32) else (fun i => if i = ((1 : Int32)).toNatClampNeg then (87 : Int32) else (fun i => if i = ((0 : Int32)).toNatClampNeg then (68 : Int32) else (fun _ => (0 : Int32)) i) i) i) i) := BA.set B1459 W1461 (by decide)
 have KC1461 := KSx.wrA KC1459 W1461 (Or.inr z1455)
 have R1461 := CHr.trans R1459 (CHr.wr W1461 (own_safeB hZ.alike B1459 (by decide)) R1459.1)
 have N1461 := Fr.snoc X1461 N1459 g1453
 have vc1462 := B1461
 obtain ⟨cl1462, Ar1462, q1462, S1462, N1462, Hh1462, G1462⟩ := vc1462
 have hin1462 : ¬ ((4 : Int32) < 0 ∨ cl1462.slots.size ≤ ((4 : Int32)).toNatClampNeg) := inb_of S1462 ⟨(by decide), (by decide)⟩
 obtain ⟨T1463, h1463, X1463, e1463, W1463, st1463⟩ := stC X1461 hx hZ e1461 Ar1462 (j := (4 : Int32)) hin1462 (g := (mkF m 70 (la38 p1409 p1410 p1411 b1412) [(.int (72 : Int32)), (.int (4 : Int32)), (.ref b1451), (.ref b1451)])) rfl rfl (hb hby at_70)
 have B1463 : BA Z h1463 b1451 k1451 .char (6 : Int32) (fun i => if i = ((4 : Int32)).toNatClampNeg then (72 : Int32) else (fun i => if i = ((3 : Int32)).toNatClampNeg then (81 : Int32) else (fun i => if i = ((2 : Int32)).toNatClampNeg then (77 : Int32) else (fun i => if i = ((1 : Int32)).toNatClampNeg then (87 : Int32) else (fun i => if i = ((0 : Int32)).toNatClampNeg then (68 : Int32) else (fun _ => (0 : Int32)) i) i) i) i) i) := BA.set B1461 W1463 (by decide)
 have KC1463 := KSx.wrA KC1461 W1463 (Or.inr z1455)
 have R1463 := CHr.trans R1461 (CHr.wr W1463 (own_safeB hZ.alike B1461 (by decide)) R1461.1)
 have N1463 := Fr.snoc X1463 N1461 g1453
 have vc1464 := B1463
 obtain ⟨cl1464, Ar1464, q1464, S1464, N1464, Hh1464, G1464⟩ := vc1464
 have hin1464 : ¬ ((5 : Int32) < 0 ∨ cl1464.slots.size ≤ ((5 : Int32)).toNatClampNeg) := inb_of S1464 ⟨(by decide), (by decide)⟩
 obtain ⟨T1465, h1465, X1465, e1465, W1465, st1465⟩ := stC X1463 hx hZ e1463 Ar1464 (j := (5 : Int32)) hin1464 (g := (mkF m 75 (la38 p1409 p1410 p1411 b1412) [(.int (89 : Int32)), (.int (5 : Int32)), (.ref b1451), (.ref b1451)])) rfl rfl (hb hby at_75)
 have B1465 : BA Z h1465 b1451 k1451 .char (6 : Int32) (fun i => if i = ((5 : Int32)).toNatClampNeg then (89 : Int32) else (fun i => if i = ((4 : Int32)).toNatClampNeg then (72 : Int32) else (fun i => if i = ((3 : Int32)).toNatClampNeg then (81 : Int32) else (fun i => if i = ((2 : Int32)).toNatClampNeg then (77 : Int32) else (fun i => if i = ((1 : Int32)).toNatClampNeg then (87 : Int32) else (fun i => if i = ((0 : Int32)).toNatClampNeg then (68 : Int32) else (fun _ => (0 : Int32)) i) i) i) i) i) i) := BA.set B1463 W1465 (by decide)
 have KC1465 := KSx.wrA KC1463 W1465 (Or.inr z1455)
 have R1465 := CHr.trans R1463 (CHr.wr W1465 (own_safeB hZ.alike B1463 (by decide)) R1463.1)
 have N1465 := Fr.snoc X1465 N1463 g1453
 obtain ⟨T1466, h1466, X1466, e1466, E1466, A1466, D1466, -, st1466⟩ := newO X1465 hx hZ hown (tw hw 18 rfl) (tw hw 19 rfl) (tw hw 20 rfl) e1465 (g := (mkF m 100 (la41 p1409 p1410 p1411 b1412 b1451) [])) rfl (hb hby at_100) (by decide) (by decide)
 obtain ⟨b1466, g1466⟩ : ∃ z, z = h1465.size := ⟨_, rfl⟩
 rw [← g1466] at A1466 D1466 st1466
 have KC1466 := KSx.ext KC1465 E1466
 have R1466 := CHr.trans R1465 (CHr.ext E1466 R1465.1)
 have ne1467 : b1412 ≠ b1451 := (Nat.ne_of_lt (Nat.lt_of_lt_of_le (V1450).lt (Nat.le_of_eq g1451.symm)))
 have f1468 := ((((((((V1450.ext E1451).other W1454 ne1467).other W1457 ne1467).other W1459 ne1467).other W1461 ne1467).other W1463 ne1467).other W1465 ne1467).ext E1466)
 have vc1469 := f1468
 obtain ⟨cl1469, Ar1469, q1469, S1469, N1469, Hh1469, G1469⟩ := vc1469
 have hin1469 : ¬ (((p1410 &&& (2147483647 : Int32)) % (6 : Int32)) < 0 ∨ cl1469.slots.size ≤ (((p1410 &&& (2147483647 : Int32)) % (6 : Int32))).toNatClampNeg) := inb_of S1469 ⟨H13, H14⟩
 have hat1469 : cl1469.slots[(((p1410 &&& (2147483647 : Int32)) % (6 : Int32))).toNatClampNeg]? = some (.ref a1470) := Has.at Hh1469 hin1469 H15
 have Z1451 : n0 ≤ h1451.size := Nat.le_trans Z1450 E1451.1
 have Z1454 : n0 ≤ h1454.size := Nat.le_trans Z1451 (Nat.le_of_eq W1454.size.symm)
 have Z1457 : n0 ≤ h1457.size := Nat.le_trans Z1454 (Nat.le_of_eq W1457.size.symm)
 have Z1459 : n0 ≤ h1459.size := Nat.le_trans Z1457 (Nat.le_of_eq W1459.size.symm)
 have Z1461 : n0 ≤ h1461.size := Nat.le_trans Z1459 (Nat.le_of_eq W1461.size.symm)
 have Z1463 : n0 ≤ h1463.size := Nat.le_trans Z1461 (Nat.le_of_eq W1463.size.symm)
 have Z1465 : n0 ≤ h1465.size := Nat.le_trans Z1463 (Nat.le_of_eq W1465.size.symm)
 have g1488 : n0 ≤ b1466 := Nat.le_trans Z1465 (Nat.le_of_eq g1466.symm)
 have Z1466 : n0 ≤ h1466.size := Nat.le_trans Z1465 E1466.1
 obtain ⟨_, _, ⟨T1487, L1487, k1487, n1487⟩, -, X1487, ⟨Lc1487, hQ1487, l1487, y1487, z1487⟩, st1487⟩ := X1466.specialBack hx (y := mN41) rfl hown (mvT hZ (tw hw 21 rfl)) (mvT hZ (tw hw 22 rfl)) (mvT hZ (tw hw 23 rfl)) (by decide) (backOf (W := 1) (r1_1 l Z a0 hw b1466 p1409 a1470 (0 : Int32) (0 : Int32) (0 : Int32) h1466 n0 Z1466 A1466 (D1466 (Or.inr (tw hw 28 rfl)) (ty := .int) (by decide)) g1488 (D1466 (Or.inr (tw hw 30 rfl)) (ty := (.object "com/example/tranchebook/tranchebook/Cycle$Unit")) (by decide)) (D1466 (Or.inr (tw hw 32 rfl)) (ty := .boolean) (by decide)) (by first | decide | rfl) (by first | decide | rfl)) hZ (tw hw 23 rfl) (tw hw 20 rfl) (by decide) (by decide)) (g := (mkF m 111 (la41 p1409 p1410 p1411 b1412 b1451) [(.int (0 : Int32)), (.ref a1470), (.int p1409), (.ref b1466), (.ref b1466)])) rfl (by rw [hml]; rfl) (Steps.refl _) (a := b1466) (argsL := [(.int p1409), (.ref a1470), (.int (0 : Int32))]) (rest := [(.ref b1466)]) (lenOf pd_31 rfl) rfl (own_w _) (hb hby at_111) (fun _ _ => ⟨rfl, e1466, (by decide : 3 + 0 ≤ _), (by decide : 15 + 0 ≤ _)⟩)
 dsimp only [Pt.U, Pt.locs, Pt.cells, Pt.slots] at X1487 l1487 y1487 z1487 st1487 hQ1487
 replace X1487 := own_mvX X1487 (a := 3) (b := 15) y1487 z1487
 obtain ⟨N1487q, rfl, K1487, o1487_0, o1487_1, o1487_2⟩ := hQ1487
 have N1487 := own_mvN l1487 N1465 N1487q
 have z1489 : h0.size ≤ b1466 := Nat.le_trans KC1465.1 (Nat.le_of_eq g1466.symm)
 have KC1487 := KSx.trans KC1466 K1487 (ksS (Or.inr z1489) (ksS (Or.inr z1489) (ksS (Or.inr z1489) ks0))) all0
 have R1487 := CHr.trans R1466 (CHr.ks K1487 (ksS (Safe.exa hZ.alike A1466 (by decide) (by decide)) (ksS (Safe.exa hZ.alike A1466 (by decide) (by decide)) (ksS (Safe.exa hZ.alike A1466 (by decide) (by decide)) ks0))) all0 R1466.1)
 have f1492 := ((((((((((((((((H16.ext E1412).wr W1419).wr W1426).wr W1432).wr W1438).wr W1444).wr W1450).ext E1451).wr W1454).wr W1457).wr W1459).wr W1461).wr W1463).wr W1465).ext E1466).ks K1487)
 have f1494 := ((((((((((((((((H18.ext E1412).wr W1419).wr W1426).wr W1432).wr W1438).wr W1444).wr W1450).ext E1451).wr W1454).wr W1457).wr W1459).wr W1461).wr W1463).wr W1465).ext E1466).ks K1487)
 have f1496 := ((((((((((((((((H19.ext E1412).wr W1419).wr W1426).wr W1432).wr W1438).wr W1444).wr W1450).ext E1451).wr W1454).wr W1457).wr W1459).wr W1461).wr W1463).wr W1465).ext E1466).ks K1487)
 have ne1499 : w1493 ≠ b1412 := (Nat.ne_of_lt (Nat.lt_of_lt_of_le (H20).lt (Nat.le_of_eq g1412.symm)))
 have f1500 := (((((((H20.ext E1412).other W1419 ne1499).other W1426 ne1499).other W1432 ne1499).other W1438 ne1499).other W1444 ne1499).other W1450 ne1499)
 have ne1501 : w1493 ≠ b1451 := (Nat.ne_of_lt (Nat.lt_of_lt_of_le (f1500).lt (Nat.le_of_eq g1451.symm)))
 have f1502 := (((((((f1500.ext E1451).other W1454 ne1501).other W1457 ne1501).other W1459 ne1501).other W1461 ne1501).other W1463 ne1501).other W1465 ne1501)
 have ne1503 : w1493 ≠ b1466 := (Nat.ne_of_lt (Nat.lt_of_lt_of_le (f1502).lt (Nat.le_of_eq g1466.symm)))
 have f1504 := ((((((((((((((((H20.ext E1412).other W1419 ne1499).other W1426 ne1499).other W1432 ne1499).other W1438 ne1499).other W1444 ne1499).other W1450 ne1499).ext E1451).other W1454 ne1501).other W1457 ne1501).other W1459 ne1501).other W1461 ne1501).other W1463 ne1501).other W1465 ne1501).ext E1466).ks K1487 (ksS ne1503 (ksS ne1503 (ksS ne1503 ks0))) all0)
 have ne1507 : w1495 ≠ b1412 := (Nat.ne_of_lt (Nat.lt_of_lt_of_le (H21).lt (Nat.le_of_eq g1412.symm)))
 have f1508 := (((((((H21.ext E1412).other W1419 ne1507).other W1426 ne1507).other W1432 ne1507).other W1438 ne1507).other W1444 ne1507).other W1450 ne1507)
 have ne1509 : w1495 ≠ b1451 := (Nat.ne_of_lt (Nat.lt_of_lt_of_le (f1508).lt (Nat.le_of_eq g1451.symm)))
 have f1510 := (((((((f1508.ext E1451).other W1454 ne1509).other W1457 ne1509).other W1459 ne1509).other W1461 ne1509).other W1463 ne1509).other W1465 ne1509)
 have ne1511 : w1495 ≠ b1466 := (Nat.ne_of_lt (Nat.lt_of_lt_of_le (f1510).lt (Nat.le_of_eq g1466.symm)))
 have f1512 := ((((((((((((((((H21.ext E1412).other W1419 ne1507).other W1426 ne1507).other W1432 ne1507).other W1438 ne1507).other W1444 ne1507).other W1450 ne1507).ext E1451).other W1454 ne1509).other W1457 ne1509).other W1459 ne1509).other W1461 ne1509).other W1463 ne1509).other W1465 ne1509).ext E1466).ks K1487 (ksS ne1511 (ksS ne1511 (ksS ne1511 ks0))) all0)
 have ne1514 : a1470 ≠ b1412 := (Nat.ne_of_lt (Nat.lt_of_lt_of_le (H26).lt (Nat.le_of_eq g1412.symm)))
 have f1515 := (((((((H26.ext E1412).other W1419 (Or.inl ne1514)).other W1426 (Or.inl ne1514)).other W1432 (Or.inl ne1514)).other W1438 (Or.inl ne1514)).other W1444 (Or.inl ne1514)).other W1450 (Or.inl ne1514))
 have ne1516 : a1470 ≠ b1451 := (Nat.ne_of_lt (Nat.lt_of_lt_of_le (f1515).lt (Nat.le_of_eq g1451.symm)))
 have f1517 := (((((((f1515.ext E1451).other W1454 (Or.inl ne1516)).other W1457 (Or.inl ne1516)).other W1459 (Or.inl ne1516)).other W1461 (Or.inl ne1516)).other W1463 (Or.inl ne1516)).other W1465 (Or.inl ne1516))
 have ne1518 : a1470 ≠ b1466 := (Nat.ne_of_lt (Nat.lt_of_lt_of_le (f1517).lt (Nat.le_of_eq g1466.symm)))
 have f1519 := ((((((((((((((((H26.ext E1412).other W1419 (Or.inl ne1514)).other W1426 (Or.inl ne1514)).other W1432 (Or.inl ne1514)).other W1438 (Or.inl ne1514)).other W1444 (Or.inl ne1514)).other W1450 (Or.inl ne1514)).ext E1451).other W1454 (Or.inl ne1516)).other W1457 (Or.inl ne1516)).other W1459 (Or.inl ne1516)).other W1461 (Or.inl ne1516)).other W1463 (Or.inl ne1516)).other W1465 (Or.inl ne1516)).ext E1466).ks K1487 (ksS (Or.inl ne1518) (ksS (Or.inl ne1518) (ksS (Or.inl ne1518) ks0))) all0)
 have f1520 := ((((((((((((((((H28.ext E1412).wr W1419).wr W1426).wr W1432).wr W1438).wr W1444).wr W1450).ext E1451).wr W1454).wr W1457).wr W1459).wr W1461).wr W1463).wr W1465).ext E1466).ks K1487)
 have Z1487 : n0 ≤ T1487.heap.size := Nat.le_trans Z1466 K1487.1
 have f1521 := (A1466.ks K1487)
 obtain ⟨cq1490, kq1490, q1490a, q1490b, q1490c⟩ := isOf hZ rfl f1521
 obtain ⟨_, _, ⟨T1490, L1490, k1490, n1490⟩, -, X1490, hs1490, hg1490, ⟨Lc1490, hQ1490, l1490, y1490, z1490, ch1490⟩, st1490⟩ := X1487.virtualBackS hx (y := mN40) (z := mN40) hown (mvT hZ (tw hw 33 rfl)) (mvT hZ (tw hw 34 rfl)) (notFace_of_selects (args := #[]) (mvT hZ (tw hw 36 rfl))) (mvT hZ (tw hw 36 rfl)) (mvT hZ (tw hw 35 rfl)) (by decide) (backOfSH (s := s) (vm0 := s.vm) (W := 0) (own_ts0 l Z a0 hw b1466 w1491 p1409 w1493 w1495 k1497 u1498 k1505 u1506 a1470 w1513 (0 : Int32) T1487.heap n0 Z1487 f1492 H17 o1487_0 f1494 f1496 f1504 f1512 H22 H23 H24 H25 o1487_1 f1519 H27 f1520 H29 o1487_2 rfl H30) hZ (tw hw 37 rfl) (tw hw 20 rfl) (by decide) (by decide) (el_ok hw) R1487.1) q1490a q1490c (g := (mkF m 118 (la42 p1409 p1410 p1411 b1412 b1451 b1466) [(.ref b1466)])) rfl (by rw [hml]; rfl) (Steps.refl _) (argsL := []) (rest := []) (lenOf pd_30 rfl) rfl (own_w _) (hb hby at_118) (fun _ _ => ⟨rfl, rfl, (by decide : 3 + 8 ≤ _), (by decide : 15 + 56 ≤ _)⟩)
 dsimp only [Pt.U, Pt.locs, Pt.cells, Pt.slots] at X1490 l1490 y1490 z1490 st1490 hQ1490 hs1490 hg1490
 replace X1490 := own_mvX X1490 (a := 11) (b := 71) y1490 z1490
 obtain ⟨N1490q, b1490_0, b1490_1, k1490_0, rfl, ge_b1490_0, ge_b1490_1, K1490, o1490_0, o1490_1, o1490_2, o1490_3⟩ := hQ1490
 have N1490 := own_mvN l1490 N1487 N1490q
 have KC1490 := KSx.trans KC1487 K1490 ks0 all0
 have R1490 := CHr.trans R1487 ch1490
 have hS1490 : s.Since T1490.vm T1490.heap.size := hs1490
 have hZ1490 : Z.Warmed39 (s.setVm T1490.vm).vm := State.Warmed39.trans (t := s) hZ hs1490.1
 have ho1490 : (s.setVm T1490.vm).vm.findClass "com/example/tranchebook/tranchebook/CycleToStringPinLaw" = some m.cls := by rw [show (s.setVm T1490.vm).vm = T1490.vm from rfl, hs1490.1.alike.findClass]; exact hown
 replace X1490 : Stand p l e room_1 (s.setVm T1490.vm) m #[(.int p1409), (.int p1410), (.int p1411)] below meth c T1490 _ _ _ := X1490
 have Z1490 : n0 ≤ T1490.heap.size := Nat.le_trans Z1487 K1490.1
 obtain ⟨_, _, ⟨T1522, L1522, k1522, n1522⟩, -, X1522, ⟨Lc1522, hQ1522, l1522, y1522, z1522⟩, st1522⟩ := Jvm.LawKit.callS X1490 hx (y := mN8) ho1490 (mvT hZ1490 (tw hw 200 rfl)) (mvT hZ1490 (tw hw 201 rfl)) (mvT hZ1490 (tw hw 202 rfl)) (mvT hZ1490 (tw hw 203 rfl)) (by decide) (backOf (W := 0) (own_ml l Z a0 hw p1409 T1490.heap n0 Z1490) hZ1490 (tw hw 203 rfl) (tw hw 202 rfl) (by decide) (by decide)) (g := (mkF m 124 (la43 p1409 p1410 p1411 b1412 b1451 b1466 b1490_0) [(.int p1409)])) rfl (by rw [hml]; rfl) (argsL := [(.int p1409)]) (rest := []) (lenOf pd_17 rfl) rfl (own_w _) (hb hby at_124) (fun _ _ => ⟨rfl, rfl, (by decide : 11 + 0 ≤ _), (by decide : 71 + 0 ≤ _)⟩)
 dsimp only [Pt.U, Pt.locs, Pt.cells, Pt.slots] at X1522 l1522 y1522 z1522 st1522 hQ1522
 replace X1522 := own_mvX X1522 (a := 11) (b := 71) y1522 z1522
 obtain ⟨rfl, N1522q, e1522⟩ := hQ1522
 have N1522 := own_mvN l1522 N1490 N1522q
 have f1539 := (f1492.ks K1490)
 obtain ⟨cq1538, kq1538, q1538a, q1538b, q1538c⟩ := isOf hZ1490 e1522 o1490_0
 obtain ⟨_, _, ⟨T1538, L1538, k1538, n1538⟩, -, X1538, ⟨Lc1538, hQ1538, l1538, y1538, z1538⟩, st1538⟩ := X1522.virtualBack hx (y := mN14) (z := mN14) ho1490 (mvT hZ1490 (tw hw 219 rfl)) (mvT hZ1490 (tw hw 75 rfl)) (notFace_of_selects (args := #[]) (mvT hZ1490 (tw hw 77 rfl))) (mvT hZ1490 (tw hw 77 rfl)) (mvT hZ1490 (tw hw 76 rfl)) (by decide) (backOf (W := 0) (r8_2 l Z a0 hw b1490_0 b1490_1 k1490_0 (otx p1409 w1513 49) (Int32.ofNat (osz p1409 + 4)) w1491 (0 : Int32) T1490.heap n0 Z1490 o1490_1 o1490_3 f1539 H17 o1490_2 (by first | decide | rfl) o1490_0) hZ1490 (tw hw 78 rfl) (tw hw 52 rfl) (by decide) (by decide)) q1538a q1538c (g := (mkF m 131 (la44 p1409 p1410 p1411 b1412 b1451 b1466 b1490_0) [(.ref b1490_0)])) rfl (by rw [hml]; rfl) (Steps.refl _) (argsL := []) (rest := []) (lenOf pd_11 rfl) rfl (own_w _) (hb hby at_131) (fun _ _ => ⟨rfl, e1522, (by decide : 11 + 0 ≤ _), (by decide : 71 + 0 ≤ _)⟩)
 dsimp only [Pt.U, Pt.locs, Pt.cells, Pt.slots] at X1538 l1538 y1538 z1538 st1538 hQ1538
 replace X1538 := own_mvX X1538 (a := 11) (b := 71) y1538 z1538
 obtain ⟨rfl, N1538q, e1538⟩ := hQ1538
 have N1538 := own_mvN l1538 N1522 N1538q
 have f1542 := (((((((((((((((((H32.ext E1412).wr W1419).wr W1426).wr W1432).wr W1438).wr W1444).wr W1450).ext E1451).wr W1454).wr W1457).wr W1459).wr W1461).wr W1463).wr W1465).ext E1466).ks K1487).ks K1490)
 obtain ⟨cq1540, kq1540, q1540a, q1540b, q1540c⟩ := isOf hZ1490 e1538 o1490_0
 obtain ⟨_, _, ⟨T1540, L1540, k1540, n1540⟩, -, X1540, ⟨Lc1540, hQ1540, l1540, y1540, z1540⟩, st1540⟩ := X1538.virtualBack hx (y := mN6) (z := mN6) ho1490 (mvT hZ1490 (tw hw 220 rfl)) (mvT hZ1490 (tw hw 221 rfl)) (notFace_of_selects (args := #[]) (mvT hZ1490 (tw hw 223 rfl))) (mvT hZ1490 (tw hw 223 rfl)) (mvT hZ1490 (tw hw 222 rfl)) (by decide) (backOf (W := 0) (own_ch l Z a0 hw b1490_0 w1491 (0 : Int32) b1490_1 k1490_0 (Int32.ofNat (osz p1409 + 4)) (otx p1409 w1513 49) x1541 (0 : Int32) T1490.heap n0 Z1490 f1539 H17 o1490_2 rfl o1490_0 o1490_1 o1490_3 f1542 H33 (by first | decide | rfl) H34) hZ1490 (tw hw 224 rfl) (tw hw 52 rfl) (by decide) (by decide)) q1540a q1540c (g := (mkF m 150 (la45 p1409 p1410 p1411 b1412 b1451 b1466 b1490_0) [(.int (0 : Int32)), (.ref b1490_0)])) rfl (by rw [hml]; rfl) (Steps.refl _) (argsL := [(.int (0 : Int32))]) (rest := []) (lenOf pd_6 rfl) rfl (own_w _) (hb hby at_150) (fun _ _ => ⟨rfl, e1538, (by decide : 11 + 0 ≤ _), (by decide : 71 + 0 ≤ _)⟩)
 dsimp only [Pt.U, Pt.locs, Pt.cells, Pt.slots] at X1540 l1540 y1540 z1540 st1540 hQ1540
 replace X1540 := own_mvX X1540 (a := 11) (b := 71) y1540 z1540
 obtain ⟨rfl, N1540q, e1540⟩ := hQ1540
 have N1540 := own_mvN l1540 N1538 N1540q
 obtain ⟨cq1543, kq1543, q1543a, q1543b, q1543c⟩ := isOf hZ1490 e1540 o1490_0
 obtain ⟨_, _, ⟨T1543, L1543, k1543, n1543⟩, -, X1543, ⟨Lc1543, hQ1543, l1543, y1543, z1543⟩, st1543⟩ := X1540.virtualBack hx (y := mN6) (z := mN6) ho1490 (mvT hZ1490 (tw hw 220 rfl)) (mvT hZ1490 (tw hw 221 rfl)) (notFace_of_selects (args := #[]) (mvT hZ1490 (tw hw 223 rfl))) (mvT hZ1490 (tw hw 223 rfl)) (mvT hZ1490 (tw hw 222 rfl)) (by decide) (backOf (W := 0) (own_ch l Z a0 hw b1490_0 w1491 (0 : Int32) b1490_1 k1490_0 (Int32.ofNat (osz p1409 + 4)) (otx p1409 w1513 49) x1541 (((Int32.ofNat (osz p1409 + 4)) >>> ((0 : Int32) &&& 31)) - (3 : Int32)) T1490.heap n0 Z1490 f1539 H17 o1490_2 rfl o1490_0 o1490_1 o1490_3 f1542 H33 H36 H37) hZ1490 (tw hw 224 rfl) (tw hw 52 rfl) (by decide) (by decide)) q1543a q1543c (g := (mkF m 166 (la45 p1409 p1410 p1411 b1412 b1451 b1466 b1490_0) [(.int (((Int32.ofNat (osz p1409 + 4)) >>> ((0 : Int32) &&& 31)) - (3 : Int32))), (.ref b1490_0)])) rfl (by rw [hml]; rfl) (Steps.refl _) (argsL := [(.int (((Int32.ofNat (osz p1409 + 4)) >>> ((0 : Int32) &&& 31)) - (3 : Int32)))]) (rest := []) (lenOf pd_6 rfl) rfl (own_w _) (hb hby at_166) (fun _ _ => ⟨rfl, e1540, (by decide : 11 + 0 ≤ _), (by decide : 71 + 0 ≤ _)⟩)
 dsimp only [Pt.U, Pt.locs, Pt.cells, Pt.slots] at X1543 l1543 y1543 z1543 st1543 hQ1543
 replace X1543 := own_mvX X1543 (a := 11) (b := 71) y1543 z1543
 obtain ⟨rfl, N1543q, e1543⟩ := hQ1543
 have N1543 := own_mvN l1543 N1540 N1543q
 have ne1544 : b1451 ≠ b1466 := (Nat.ne_of_lt (Nat.lt_of_lt_of_le (B1465).lt (Nat.le_of_eq g1466.symm)))
 have f1545 := (((B1465.ext E1466).ks K1487 (ksS ne1544 (ksS ne1544 (ksS ne1544 ks0))) all0).ks K1490 ks0 all0)
 have vc1546 := f1545
 obtain ⟨cl1546, Ar1546, q1546, S1546, N1546, Hh1546, G1546⟩ := vc1546
 have hin1546 : ¬ (((p1410 &&& (2147483647 : Int32)) % (6 : Int32)) < 0 ∨ cl1546.slots.size ≤ (((p1410 &&& (2147483647 : Int32)) % (6 : Int32))).toNatClampNeg) := inb_of S1546 ⟨H13, H14⟩
 have hat1546 : cl1546.slots[(((p1410 &&& (2147483647 : Int32)) % (6 : Int32))).toNatClampNeg]? = some (.int ((fun i => if i = ((5 : Int32)).toNatClampNeg then (89 : Int32) else (fun i => if i = ((4 : Int32)).toNatClampNeg then (72 : Int32) else (fun i => if i = ((3 : Int32)).toNatClampNeg then (81 : Int32) else (fun i => if i = ((2 : Int32)).toNatClampNeg then (77 : Int32) else (fun i => if i = ((1 : Int32)).toNatClampNeg then (87 : Int32) else (fun i => if i = ((0 : Int32)).toNatClampNeg then (68 : Int32) else (fun _ => (0 : Int32)) i) i) i) i) i) i) (((p1410 &&& (2147483647 : Int32)) % (6 : Int32))).toNatClampNeg)) := Hh1546 _ (Nat.lt_of_not_le fun y => hin1546 (Or.inr y))
 obtain ⟨cq1547, kq1547, q1547a, q1547b, q1547c⟩ := isOf hZ1490 e1543 o1490_0
 obtain ⟨_, _, ⟨T1547, L1547, k1547, n1547⟩, -, X1547, ⟨Lc1547, hQ1547, l1547, y1547, z1547⟩, st1547⟩ := X1543.virtualBack hx (y := mN6) (z := mN6) ho1490 (mvT hZ1490 (tw hw 220 rfl)) (mvT hZ1490 (tw hw 221 rfl)) (notFace_of_selects (args := #[]) (mvT hZ1490 (tw hw 223 rfl))) (mvT hZ1490 (tw hw 223 rfl)) (mvT hZ1490 (tw hw 222 rfl)) (by decide) (backOf (W := 0) (own_ch l Z a0 hw b1490_0 w1491 (0 : Int32) b1490_1 k1490_0 (Int32.ofNat (osz p1409 + 4)) (otx p1409 w1513 49) x1541 (((Int32.ofNat (osz p1409 + 4)) >>> ((0 : Int32) &&& 31)) - (2 : Int32)) T1490.heap n0 Z1490 f1539 H17 o1490_2 rfl o1490_0 o1490_1 o1490_3 f1542 H33 H39 H40) hZ1490 (tw hw 224 rfl) (tw hw 52 rfl) (by decide) (by decide)) q1547a q1547c (g := (mkF m 185 (la45 p1409 p1410 p1411 b1412 b1451 b1466 b1490_0) [(.int (((Int32.ofNat (osz p1409 + 4)) >>> ((0 : Int32) &&& 31)) - (2 : Int32))), (.ref b1490_0)])) rfl (by rw [hml]; rfl) (Steps.refl _) (argsL := [(.int (((Int32.ofNat (osz p1409 + 4)) >>> ((0 : Int32) &&& 31)) - (2 : Int32)))]) (rest := []) (lenOf pd_6 rfl) rfl (own_w _) (hb hby at_185) (fun _ _ => ⟨rfl, e1543, (by decide : 11 + 0 ≤ _), (by decide : 71 + 0 ≤ _)⟩)
 dsimp only [Pt.U, Pt.locs, Pt.cells, Pt.slots] at X1547 l1547 y1547 z1547 st1547 hQ1547
 replace X1547 := own_mvX X1547 (a := 11) (b := 71) y1547 z1547
 obtain ⟨rfl, N1547q, e1547⟩ := hQ1547
 have N1547 := own_mvN l1547 N1543 N1547q
 obtain ⟨cq1548, kq1548, q1548a, q1548b, q1548c⟩ := isOf hZ1490 e1547 o1490_0
 obtain ⟨_, _, ⟨T1548, L1548, k1548, n1548⟩, -, X1548, ⟨Lc1548, hQ1548, l1548, y1548, z1548⟩, st1548⟩ := X1547.virtualBack hx (y := mN6) (z := mN6) ho1490 (mvT hZ1490 (tw hw 220 rfl)) (mvT hZ1490 (tw hw 221 rfl)) (notFace_of_selects (args := #[]) (mvT hZ1490 (tw hw 223 rfl))) (mvT hZ1490 (tw hw 223 rfl)) (mvT hZ1490 (tw hw 222 rfl)) (by decide) (backOf (W := 0) (own_ch l Z a0 hw b1490_0 w1491 (0 : Int32) b1490_1 k1490_0 (Int32.ofNat (osz p1409 + 4)) (otx p1409 w1513 49) x1541 (((Int32.ofNat (osz p1409 + 4)) >>> ((0 : Int32) &&& 31)) - (1 : Int32)) T1490.heap n0 Z1490 f1539 H17 o1490_2 rfl o1490_0 o1490_1 o1490_3 f1542 H33 H42 H43) hZ1490 (tw hw 224 rfl) (tw hw 52 rfl) (by decide) (by decide)) q1548a q1548c (g := (mkF m 201 (la45 p1409 p1410 p1411 b1412 b1451 b1466 b1490_0) [(.int (((Int32.ofNat (osz p1409 + 4)) >>> ((0 : Int32) &&& 31)) - (1 : Int32))), (.ref b1490_0)])) rfl (by rw [hml]; rfl) (Steps.refl _) (argsL := [(.int (((Int32.ofNat (osz p1409 + 4)) >>> ((0 : Int32) &&& 31)) - (1 : Int32)))]) (rest := []) (lenOf pd_6 rfl) rfl (own_w _) (hb hby at_201) (fun _ _ => ⟨rfl, e1547, (by decide : 11 + 0 ≤ _), (by decide : 71 + 0 ≤ _)⟩)
 dsimp only [Pt.U, Pt.locs, Pt.cells, Pt.slots] at X1548 l1548 y1548 z1548 st1548 hQ1548
 replace X1548 := own_mvX X1548 (a := 11) (b := 71) y1548 z1548
 obtain ⟨rfl, N1548q, e1548⟩ := hQ1548
 have N1548 := own_mvN l1548 N1547 N1548q
 obtain ⟨_, _, ⟨T1549, L1549, k1549, n1549⟩, -, X1549, ⟨Lc1549, hQ1549, l1549, y1549, z1549⟩, st1549⟩ := Jvm.LawKit.callS X1548 hx (y := mN9) ho1490 (mvT hZ1490 (tw hw 241 rfl)) (mvT hZ1490 (tw hw 242 rfl)) (mvT hZ1490 (tw hw 202 rfl)) (mvT hZ1490 (tw hw 243 rfl)) (by decide) (backOf (W := 0) (own_mid l Z a0 hw b1490_0 w1491 (0 : Int32) b1490_1 k1490_0 (Int32.ofNat (osz p1409 + 4)) (otx p1409 w1513 49) x1541 0 p1409 T1490.heap n0 Z1490 f1539 H17 o1490_2 rfl o1490_0 o1490_1 o1490_3 f1542 H33 (by decide) H45 H46) hZ1490 (tw hw 243 rfl) (tw hw 202 rfl) (by decide) (by decide)) (g := (mkF m 225 (la45 p1409 p1410 p1411 b1412 b1451 b1466 b1490_0) [(.int p1409), (.int (0 : Int32)), (.ref b1490_0)])) rfl (by rw [hml]; rfl) (argsL := [(.ref b1490_0), (.int (0 : Int32)), (.int p1409)]) (rest := []) (lenOf pd_32 rfl) rfl (own_w _) (hb hby at_225) (fun _ _ => ⟨rfl, e1548, (by decide : 11 + 1 ≤ _), (by decide : 71 + 10 ≤ _)⟩)
 dsimp only [Pt.U, Pt.locs, Pt.cells, Pt.slots] at X1549 l1549 y1549 z1549 st1549 hQ1549
 replace X1549 := own_mvX X1549 (a := 12) (b := 81) y1549 z1549
 obtain ⟨N1549q, rfl, K1549⟩ := hQ1549
 have N1549 := own_mvN l1549 N1548 N1549q
 have KC1549 := KSx.trans KC1490 K1549 ks0 all0
 have R1549 := CHr.trans R1490 (CHr.ks K1549 ks0 all0 R1490.1)
 have f1551 := (f1539.ks K1549)
 have f1552 := (o1490_2.ks K1549 ks0 all0)
 have f1553 := (o1490_0.ks K1549)
 have f1554 := (o1490_1.ks K1549 ks0 all0)
 have f1555 := (o1490_3.ks K1549 ks0 all0)
 have f1556 := (f1542.ks K1549)
 have Z1549 : n0 ≤ T1549.heap.size := Nat.le_trans Z1490 K1549.1
 obtain ⟨_, _, ⟨T1550, L1550, k1550, n1550⟩, -, X1550, ⟨Lc1550, hQ1550, l1550, y1550, z1550⟩, st1550⟩ := Jvm.LawKit.callS X1549 hx (y := mN9) ho1490 (mvT hZ1490 (tw hw 241 rfl)) (mvT hZ1490 (tw hw 242 rfl)) (mvT hZ1490 (tw hw 202 rfl)) (mvT hZ1490 (tw hw 243 rfl)) (by decide) (backOf (W := 0) (own_mid l Z a0 hw b1490_0 w1491 (0 : Int32) b1490_1 k1490_0 (Int32.ofNat (osz p1409 + 4)) (otx p1409 w1513 49) x1541 1 p1409 T1549.heap n0 Z1549 f1551 H17 f1552 rfl f1553 f1554 f1555 f1556 H33 (by decide) H45 H46) hZ1490 (tw hw 243 rfl) (tw hw 202 rfl) (by decide) (by decide)) (g := (mkF m 235 (la45 p1409 p1410 p1411 b1412 b1451 b1466 b1490_0) [(.int p1409), (.int (1 : Int32)), (.ref b1490_0)])) rfl (by rw [hml]; rfl) (argsL := [(.ref b1490_0), (.int (1 : Int32)), (.int p1409)]) (rest := []) (lenOf pd_32 rfl) rfl (own_w _) (hb hby at_235) (fun _ _ => ⟨rfl, rfl, (by decide : 12 + 1 ≤ _), (by decide : 81 + 10 ≤ _)⟩)
 dsimp only [Pt.U, Pt.locs, Pt.cells, Pt.slots] at X1550 l1550 y1550 z1550 st1550 hQ1550
 replace X1550 := own_mvX X1550 (a := 13) (b := 91) y1550 z1550
 obtain ⟨N1550q, rfl, K1550⟩ := hQ1550
 have N1550 := own_mvN l1550 N1549 N1550q
 have KC1550 := KSx.trans KC1549 K1550 ks0 all0
 have R1550 := CHr.trans R1549 (CHr.ks K1550 ks0 all0 R1549.1)
 have f1558 := (f1551.ks K1550)
 have f1559 := (f1552.ks K1550 ks0 all0)
 have f1560 := (f1553.ks K1550)
 have f1561 := (f1554.ks K1550 ks0 all0)
 have f1562 := (f1555.ks K1550 ks0 all0)
 have f1563 := (f1556.ks K1550)
 have Z1550 : n0 ≤ T1550.heap.size := Nat.le_trans Z1549 K1550.1
 obtain ⟨_, _, ⟨T1557, L1557, k1557, n1557⟩, -, X1557, ⟨Lc1557, hQ1557, l1557, y1557, z1557⟩, st1557⟩ := Jvm.LawKit.callS X1550 hx (y := mN9) ho1490 (mvT hZ1490 (tw hw 241 rfl)) (mvT hZ1490 (tw hw 242 rfl)) (mvT hZ1490 (tw hw 202 rfl)) (mvT hZ1490 (tw hw 243 rfl)) (by decide) (backOf (W := 0) (own_mid l Z a0 hw b1490_0 w1491 (0 : Int32) b1490_1 k1490_0 (Int32.ofNat (osz p1409 + 4)) (otx p1409 w1513 49) x1541 2 p1409 T1550.heap n0 Z1550 f1558 H17 f1559 rfl f1560 f1561 f1562 f1563 H33 (by decide) H45 H46) hZ1490 (tw hw 243 rfl) (tw hw 202 rfl) (by decide) (by decide)) (g := (mkF m 245 (la45 p1409 p1410 p1411 b1412 b1451 b1466 b1490_0) [(.int p1409), (.int (2 : Int32)), (.ref b1490_0)])) rfl (by rw [hml]; rfl) (argsL := [(.ref b1490_0), (.int (2 : Int32)), (.int p1409)]) (rest := []) (lenOf pd_32 rfl) rfl (own_w _) (hb hby at_245) (fun _ _ => ⟨rfl, rfl, (by decide : 13 + 1 ≤ _), (by decide : 91 + 10 ≤ _)⟩)
 dsimp only [Pt.U, Pt.locs, Pt.cells, Pt.slots] at X1557 l1557 y1557 z1557 st1557 hQ1557
 replace X1557 := own_mvX X1557 (a := 14) (b := 101) y1557 z1557
 obtain ⟨N1557q, rfl, K1557⟩ := hQ1557
 have N1557 := own_mvN l1557 N1550 N1557q
 have KC1557 := KSx.trans KC1550 K1557 ks0 all0
 have R1557 := CHr.trans R1550 (CHr.ks K1557 ks0 all0 R1550.1)
 have f1565 := (f1558.ks K1557)
 have f1566 := (f1559.ks K1557 ks0 all0)
 have f1567 := (f1560.ks K1557)
 have f1568 := (f1561.ks K1557 ks0 all0)
 have f1569 := (f1562.ks K1557 ks0 all0)
 have f1570 := (f1563.ks K1557)
 have Z1557 : n0 ≤ T1557.heap.size := Nat.le_trans Z1550 K1557.1
 obtain ⟨_, _, ⟨T1564, L1564, k1564, n1564⟩, -, X1564, ⟨Lc1564, hQ1564, l1564, y1564, z1564⟩, st1564⟩ := Jvm.LawKit.callS X1557 hx (y := mN9) ho1490 (mvT hZ1490 (tw hw 241 rfl)) (mvT hZ1490 (tw hw 242 rfl)) (mvT hZ1490 (tw hw 202 rfl)) (mvT hZ1490 (tw hw 243 rfl)) (by decide) (backOf (W := 0) (own_mid l Z a0 hw b1490_0 w1491 (0 : Int32) b1490_1 k1490_0 (Int32.ofNat (osz p1409 + 4)) (otx p1409 w1513 49) x1541 3 p1409 T1557.heap n0 Z1557 f1565 H17 f1566 rfl f1567 f1568 f1569 f1570 H33 (by decide) H45 H46) hZ1490 (tw hw 243 rfl) (tw hw 202 rfl) (by decide) (by decide)) (g := (mkF m 255 (la45 p1409 p1410 p1411 b1412 b1451 b1466 b1490_0) [(.int p1409), (.int (3 : Int32)), (.ref b1490_0)])) rfl (by rw [hml]; rfl) (argsL := [(.ref b1490_0), (.int (3 : Int32)), (.int p1409)]) (rest := []) (lenOf pd_32 rfl) rfl (own_w _) (hb hby at_255) (fun _ _ => ⟨rfl, rfl, (by decide : 14 + 1 ≤ _), (by decide : 101 + 10 ≤ _)⟩)
 dsimp only [Pt.U, Pt.locs, Pt.cells, Pt.slots] at X1564 l1564 y1564 z1564 st1564 hQ1564
 replace X1564 := own_mvX X1564 (a := 15) (b := 111) y1564 z1564
 obtain ⟨N1564q, rfl, K1564⟩ := hQ1564
 have N1564 := own_mvN l1564 N1557 N1564q
 have KC1564 := KSx.trans KC1557 K1564 ks0 all0
 have R1564 := CHr.trans R1557 (CHr.ks K1564 ks0 all0 R1557.1)
 have f1572 := (f1565.ks K1564)
 have f1573 := (f1566.ks K1564 ks0 all0)
 have f1574 := (f1567.ks K1564)
 have f1575 := (f1568.ks K1564 ks0 all0)
 have f1576 := (f1569.ks K1564 ks0 all0)
 have f1577 := (f1570.ks K1564)
 have Z1564 : n0 ≤ T1564.heap.size := Nat.le_trans Z1557 K1564.1
 obtain ⟨_, _, ⟨T1571, L1571, k1571, n1571⟩, -, X1571, ⟨Lc1571, hQ1571, l1571, y1571, z1571⟩, st1571⟩ := Jvm.LawKit.callS X1564 hx (y := mN9) ho1490 (mvT hZ1490 (tw hw 241 rfl)) (mvT hZ1490 (tw hw 242 rfl)) (mvT hZ1490 (tw hw 202 rfl)) (mvT hZ1490 (tw hw 243 rfl)) (by decide) (backOf (W := 0) (own_mid l Z a0 hw b1490_0 w1491 (0 : Int32) b1490_1 k1490_0 (Int32.ofNat (osz p1409 + 4)) (otx p1409 w1513 49) x1541 4 p1409 T1564.heap n0 Z1564 f1572 H17 f1573 rfl f1574 f1575 f1576 f1577 H33 (by decide) H45 H46) hZ1490 (tw hw 243 rfl) (tw hw 202 rfl) (by decide) (by decide)) (g := (mkF m 265 (la45 p1409 p1410 p1411 b1412 b1451 b1466 b1490_0) [(.int p1409), (.int (4 : Int32)), (.ref b1490_0)])) rfl (by rw [hml]; rfl) (argsL := [(.ref b1490_0), (.int (4 : Int32)), (.int p1409)]) (rest := []) (lenOf pd_32 rfl) rfl (own_w _) (hb hby at_265) (fun _ _ => ⟨rfl, rfl, (by decide : 15 + 1 ≤ _), (by decide : 111 + 10 ≤ _)⟩)
 dsimp only [Pt.U, Pt.locs, Pt.cells, Pt.slots] at X1571 l1571 y1571 z1571 st1571 hQ1571
 replace X1571 := own_mvX X1571 (a := 16) (b := 121) y1571 z1571
 obtain ⟨N1571q, rfl, K1571⟩ := hQ1571
 have N1571 := own_mvN l1571 N1564 N1571q
 have KC1571 := KSx.trans KC1564 K1571 ks0 all0
 have R1571 := CHr.trans R1564 (CHr.ks K1571 ks0 all0 R1564.1)
 have f1579 := (f1572.ks K1571)
 have f1580 := (f1573.ks K1571 ks0 all0)
 have f1581 := (f1574.ks K1571)
 have f1582 := (f1575.ks K1571 ks0 all0)
 have f1583 := (f1576.ks K1571 ks0 all0)
 have f1584 := (f1577.ks K1571)
 have Z1571 : n0 ≤ T1571.heap.size := Nat.le_trans Z1564 K1571.1
 obtain ⟨_, _, ⟨T1578, L1578, k1578, n1578⟩, -, X1578, ⟨Lc1578, hQ1578, l1578, y1578, z1578⟩, st1578⟩ := Jvm.LawKit.callS X1571 hx (y := mN9) ho1490 (mvT hZ1490 (tw hw 241 rfl)) (mvT hZ1490 (tw hw 242 rfl)) (mvT hZ1490 (tw hw 202 rfl)) (mvT hZ1490 (tw hw 243 rfl)) (by decide) (backOf (W := 0) (own_mid l Z a0 hw b1490_0 w1491 (0 : Int32) b1490_1 k1490_0 (Int32.ofNat (osz p1409 + 4)) (otx p1409 w1513 49) x1541 5 p1409 T1571.heap n0 Z1571 f1579 H17 f1580 rfl f1581 f1582 f1583 f1584 H33 (by decide) H45 H46) hZ1490 (tw hw 243 rfl) (tw hw 202 rfl) (by decide) (by decide)) (g := (mkF m 275 (la45 p1409 p1410 p1411 b1412 b1451 b1466 b1490_0) [(.int p1409), (.int (5 : Int32)), (.ref b1490_0)])) rfl (by rw [hml]; rfl) (argsL := [(.ref b1490_0), (.int (5 : Int32)), (.int p1409)]) (rest := []) (lenOf pd_32 rfl) rfl (own_w _) (hb hby at_275) (fun _ _ => ⟨rfl, rfl, (by decide : 16 + 1 ≤ _), (by decide : 121 + 10 ≤ _)⟩)
 dsimp only [Pt.U, Pt.locs, Pt.cells, Pt.slots] at X1578 l1578 y1578 z1578 st1578 hQ1578
 replace X1578 := own_mvX X1578 (a := 17) (b := 131) y1578 z1578
 obtain ⟨N1578q, rfl, K1578⟩ := hQ1578
 have N1578 := own_mvN l1578 N1571 N1578q
 have KC1578 := KSx.trans KC1571 K1578 ks0 all0
 have R1578 := CHr.trans R1571 (CHr.ks K1578 ks0 all0 R1571.1)
 have f1586 := (f1579.ks K1578)
 have f1587 := (f1580.ks K1578 ks0 all0)
 have f1588 := (f1581.ks K1578)
 have f1589 := (f1582.ks K1578 ks0 all0)
 have f1590 := (f1583.ks K1578 ks0 all0)
 have f1591 := (f1584.ks K1578)
 have Z1578 : n0 ≤ T1578.heap.size := Nat.le_trans Z1571 K1578.1
 obtain ⟨_, _, ⟨T1585, L1585, k1585, n1585⟩, -, X1585, ⟨Lc1585, hQ1585, l1585, y1585, z1585⟩, st1585⟩ := Jvm.LawKit.callS X1578 hx (y := mN9) ho1490 (mvT hZ1490 (tw hw 241 rfl)) (mvT hZ1490 (tw hw 242 rfl)) (mvT hZ1490 (tw hw 202 rfl)) (mvT hZ1490 (tw hw 243 rfl)) (by decide) (backOf (W := 0) (own_mid l Z a0 hw b1490_0 w1491 (0 : Int32) b1490_1 k1490_0 (Int32.ofNat (osz p1409 + 4)) (otx p1409 w1513 49) x1541 6 p1409 T1578.heap n0 Z1578 f1586 H17 f1587 rfl f1588 f1589 f1590 f1591 H33 (by decide) H45 H46) hZ1490 (tw hw 243 rfl) (tw hw 202 rfl) (by decide) (by decide)) (g := (mkF m 286 (la45 p1409 p1410 p1411 b1412 b1451 b1466 b1490_0) [(.int p1409), (.int (6 : Int32)), (.ref b1490_0)])) rfl (by rw [hml]; rfl) (argsL := [(.ref b1490_0), (.int (6 : Int32)), (.int p1409)]) (rest := []) (lenOf pd_32 rfl) rfl (own_w _) (hb hby at_286) (fun _ _ => ⟨rfl, rfl, (by decide : 17 + 1 ≤ _), (by decide : 131 + 10 ≤ _)⟩)
 dsimp only [Pt.U, Pt.locs, Pt.cells, Pt.slots] at X1585 l1585 y1585 z1585 st1585 hQ1585
 replace X1585 := own_mvX X1585 (a := 18) (b := 141) y1585 z1585
 obtain ⟨N1585q, rfl, K1585⟩ := hQ1585
 have N1585 := own_mvN l1585 N1578 N1585q
 have KC1585 := KSx.trans KC1578 K1585 ks0 all0
 have R1585 := CHr.trans R1578 (CHr.ks K1585 ks0 all0 R1578.1)
 have f1593 := (f1586.ks K1585)
 have f1594 := (f1587.ks K1585 ks0 all0)
 have f1595 := (f1588.ks K1585)
 have f1596 := (f1589.ks K1585 ks0 all0)
 have f1597 := (f1590.ks K1585 ks0 all0)
 have f1598 := (f1591.ks K1585)
 have Z1585 : n0 ≤ T1585.heap.size := Nat.le_trans Z1578 K1585.1
 obtain ⟨_, _, ⟨T1592, L1592, k1592, n1592⟩, -, X1592, ⟨Lc1592, hQ1592, l1592, y1592, z1592⟩, st1592⟩ := Jvm.LawKit.callS X1585 hx (y := mN9) ho1490 (mvT hZ1490 (tw hw 241 rfl)) (mvT hZ1490 (tw hw 242 rfl)) (mvT hZ1490 (tw hw 202 rfl)) (mvT hZ1490 (tw hw 243 rfl)) (by decide) (backOf (W := 0) (own_mid l Z a0 hw b1490_0 w1491 (0 : Int32) b1490_1 k1490_0 (Int32.ofNat (osz p1409 + 4)) (otx p1409 w1513 49) x1541 7 p1409 T1585.heap n0 Z1585 f1593 H17 f1594 rfl f1595 f1596 f1597 f1598 H33 (by decide) H45 H46) hZ1490 (tw hw 243 rfl) (tw hw 202 rfl) (by decide) (by decide)) (g := (mkF m 297 (la45 p1409 p1410 p1411 b1412 b1451 b1466 b1490_0) [(.int p1409), (.int (7 : Int32)), (.ref b1490_0)])) rfl (by rw [hml]; rfl) (argsL := [(.ref b1490_0), (.int (7 : Int32)), (.int p1409)]) (rest := []) (lenOf pd_32 rfl) rfl (own_w _) (hb hby at_297) (fun _ _ => ⟨rfl, rfl, (by decide : 18 + 1 ≤ _), (by decide : 141 + 10 ≤ _)⟩)
 dsimp only [Pt.U, Pt.locs, Pt.cells, Pt.slots] at X1592 l1592 y1592 z1592 st1592 hQ1592
 replace X1592 := own_mvX X1592 (a := 19) (b := 151) y1592 z1592
 obtain ⟨N1592q, rfl, K1592⟩ := hQ1592
 have N1592 := own_mvN l1592 N1585 N1592q
 have KC1592 := KSx.trans KC1585 K1592 ks0 all0
 have R1592 := CHr.trans R1585 (CHr.ks K1592 ks0 all0 R1585.1)
 have f1600 := (f1593.ks K1592)
 have f1601 := (f1594.ks K1592 ks0 all0)
 have f1602 := (f1595.ks K1592)
 have f1603 := (f1596.ks K1592 ks0 all0)
 have f1604 := (f1597.ks K1592 ks0 all0)
 have f1605 := (f1598.ks K1592)
 have Z1592 : n0 ≤ T1592.heap.size := Nat.le_trans Z1585 K1592.1
 obtain ⟨_, _, ⟨T1599, L1599, k1599, n1599⟩, -, X1599, ⟨Lc1599, hQ1599, l1599, y1599, z1599⟩, st1599⟩ := Jvm.LawKit.callS X1592 hx (y := mN9) ho1490 (mvT hZ1490 (tw hw 241 rfl)) (mvT hZ1490 (tw hw 242 rfl)) (mvT hZ1490 (tw hw 202 rfl)) (mvT hZ1490 (tw hw 243 rfl)) (by decide) (backOf (W := 0) (own_mid l Z a0 hw b1490_0 w1491 (0 : Int32) b1490_1 k1490_0 (Int32.ofNat (osz p1409 + 4)) (otx p1409 w1513 49) x1541 8 p1409 T1592.heap n0 Z1592 f1600 H17 f1601 rfl f1602 f1603 f1604 f1605 H33 (by decide) H45 H46) hZ1490 (tw hw 243 rfl) (tw hw 202 rfl) (by decide) (by decide)) (g := (mkF m 308 (la45 p1409 p1410 p1411 b1412 b1451 b1466 b1490_0) [(.int p1409), (.int (8 : Int32)), (.ref b1490_0)])) rfl (by rw [hml]; rfl) (argsL := [(.ref b1490_0), (.int (8 : Int32)), (.int p1409)]) (rest := []) (lenOf pd_32 rfl) rfl (own_w _) (hb hby at_308) (fun _ _ => ⟨rfl, rfl, (by decide : 19 + 1 ≤ _), (by decide : 151 + 10 ≤ _)⟩)
 dsimp only [Pt.U, Pt.locs, Pt.cells, Pt.slots] at X1599 l1599 y1599 z1599 st1599 hQ1599
 replace X1599 := own_mvX X1599 (a := 20) (b := 161) y1599 z1599
 obtain ⟨N1599q, rfl, K1599⟩ := hQ1599
 have N1599 := own_mvN l1599 N1592 N1599q
 have KC1599 := KSx.trans KC1592 K1599 ks0 all0
 have R1599 := CHr.trans R1592 (CHr.ks K1599 ks0 all0 R1592.1)
 have f1607 := (f1600.ks K1599)
 have f1608 := (f1601.ks K1599 ks0 all0)
 have f1609 := (f1602.ks K1599)
 have f1610 := (f1603.ks K1599 ks0 all0)
 have f1611 := (f1604.ks K1599 ks0 all0)
 have f1612 := (f1605.ks K1599)
 have Z1599 : n0 ≤ T1599.heap.size := Nat.le_trans Z1592 K1599.1
 obtain ⟨_, _, ⟨T1606, L1606, k1606, n1606⟩, -, X1606, ⟨Lc1606, hQ1606, l1606, y1606, z1606⟩, st1606⟩ := Jvm.LawKit.callS X1599 hx (y := mN9) ho1490 (mvT hZ1490 (tw hw 241 rfl)) (mvT hZ1490 (tw hw 242 rfl)) (mvT hZ1490 (tw hw 202 rfl)) (mvT hZ1490 (tw hw 243 rfl)) (by decide) (backOf (W := 0) (own_mid l Z a0 hw b1490_0 w1491 (0 : Int32) b1490_1 k1490_0 (Int32.ofNat (osz p1409 + 4)) (otx p1409 w1513 49) x1541 9 p1409 T1599.heap n0 Z1599 f1607 H17 f1608 rfl f1609 f1610 f1611 f1612 H33 (by decide) H45 H46) hZ1490 (tw hw 243 rfl) (tw hw 202 rfl) (by decide) (by decide)) (g := (mkF m 319 (la45 p1409 p1410 p1411 b1412 b1451 b1466 b1490_0) [(.int p1409), (.int (9 : Int32)), (.ref b1490_0)])) rfl (by rw [hml]; rfl) (argsL := [(.ref b1490_0), (.int (9 : Int32)), (.int p1409)]) (rest := []) (lenOf pd_32 rfl) rfl (own_w _) (hb hby at_319) (fun _ _ => ⟨rfl, rfl, (by decide : 20 + 1 ≤ _), (by decide : 161 + 10 ≤ _)⟩)
 dsimp only [Pt.U, Pt.locs, Pt.cells, Pt.slots] at X1606 l1606 y1606 z1606 st1606 hQ1606
 replace X1606 := own_mvX X1606 (a := 21) (b := 171) y1606 z1606
 obtain ⟨N1606q, rfl, K1606⟩ := hQ1606
 have N1606 := own_mvN l1606 N1599 N1606q
 have KC1606 := KSx.trans KC1599 K1606 ks0 all0
 have R1606 := CHr.trans R1599 (CHr.ks K1606 ks0 all0 R1599.1)
 have f1614 := (f1607.ks K1606)
 have f1615 := (f1608.ks K1606 ks0 all0)
 have f1616 := (f1609.ks K1606)
 have f1617 := (f1610.ks K1606 ks0 all0)
 have f1618 := (f1611.ks K1606 ks0 all0)
 have f1619 := (f1612.ks K1606)
 have Z1606 : n0 ≤ T1606.heap.size := Nat.le_trans Z1599 K1606.1
 obtain ⟨_, _, ⟨T1613, L1613, k1613, n1613⟩, -, X1613, ⟨Lc1613, hQ1613, l1613, y1613, z1613⟩, st1613⟩ := Jvm.LawKit.callS X1606 hx (y := mN9) ho1490 (mvT hZ1490 (tw hw 241 rfl)) (mvT hZ1490 (tw hw 242 rfl)) (mvT hZ1490 (tw hw 202 rfl)) (mvT hZ1490 (tw hw 243 rfl)) (by decide) (backOf (W := 0) (own_mid l Z a0 hw b1490_0 w1491 (0 : Int32) b1490_1 k1490_0 (Int32.ofNat (osz p1409 + 4)) (otx p1409 w1513 49) x1541 10 p1409 T1606.heap n0 Z1606 f1614 H17 f1615 rfl f1616 f1617 f1618 f1619 H33 (by decide) H45 H46) hZ1490 (tw hw 243 rfl) (tw hw 202 rfl) (by decide) (by decide)) (g := (mkF m 330 (la45 p1409 p1410 p1411 b1412 b1451 b1466 b1490_0) [(.int p1409), (.int (10 : Int32)), (.ref b1490_0)])) rfl (by rw [hml]; rfl) (argsL := [(.ref b1490_0), (.int (10 : Int32)), (.int p1409)]) (rest := []) (lenOf pd_32 rfl) rfl (own_w _) (hb hby at_330) (fun _ _ => ⟨rfl, rfl, (by decide : 21 + 1 ≤ _), (by decide : 171 + 10 ≤ _)⟩)
 dsimp only [Pt.U, Pt.locs, Pt.cells, Pt.slots] at X1613 l1613 y1613 z1613 st1613 hQ1613
 replace X1613 := own_mvX X1613 (a := 22) (b := 181) y1613 z1613
 obtain ⟨N1613q, rfl, K1613⟩ := hQ1613
 have N1613 := own_mvN l1613 N1606 N1613q
 have KC1613 := KSx.trans KC1606 K1613 ks0 all0
 have R1613 := CHr.trans R1606 (CHr.ks K1613 ks0 all0 R1606.1)
 obtain ⟨fs, hr, hrun, hended, hR1, hR2, hR3, hR4⟩ := X1613.leaveW (s := s) hS1490 ((Nat.le_trans (Nat.le_refl _) (Nat.le_trans (Nat.le_trans (Nat.le_trans (Nat.le_trans (Nat.le_trans (Nat.le_trans (Nat.le_trans (Nat.le_trans (Nat.le_trans (Nat.le_trans K1549.1 K1550.1) K1557.1) K1564.1) K1571.1) K1578.1) K1585.1) K1592.1) K1599.1) K1606.1) K1613.1))) (v := some (.int (1 : Int32))) (fun h => by rw [Bd.returns] at h; cases h)
 refine ⟨_, _, pre0 _ ?_, hrun, hended, _, _, rfl, ?_, ?_, hR1, hR2, hR3, hR4.mono (by decide) (by decide)⟩
 · show SG p e below s₁ (mkF m 0 (la37 p1409 p1410 p1411) []) _
   refine XS.bipush X0.here hx rfl (hb hby at_0) ?_
   show SG p e below s₁ (mkF m 2 (la37 p1409 p1410 p1411) [(.int (6 : Int32))]) _
   refine st1412 _ ?_
   show SG p e below T1412 (mkF m 5 (la37 p1409 p1410 p1411) [(.ref b1412)]) _
   refine XS.dup X1412.here hx rfl (hb hby at_5) rfl rfl ?_
   show SG p e below T1412 (mkF m 6 (la37 p1409 p1410 p1411) [(.ref b1412), (.ref b1412)]) _
   refine XS.iconst X1412.here hx rfl (hb hby at_6) ?_
   show SG p e below T1412 (mkF m 7 (la37 p1409 p1410 p1411) [(.int (0 : Int32)), (.ref b1412), (.ref b1412)]) _
   refine st1415 _ ?_
   show SG p e below T1415 (mkF m 10 (la37 p1409 p1410 p1411) [(.ref w1413), (.int (0 : Int32)), (.ref b1412), (.ref b1412)]) _
   refine st1419 _ ?_
   show SG p e below T1419 (mkF m 11 (la37 p1409 p1410 p1411) [(.ref b1412)]) _
   refine XS.dup X1419.here hx rfl (hb hby at_11) rfl rfl ?_
   show SG p e below T1419 (mkF m 12 (la37 p1409 p1410 p1411) [(.ref b1412), (.ref b1412)]) _
   refine XS.iconst X1419.here hx rfl (hb hby at_12) ?_
   show SG p e below T1419 (mkF m 13 (la37 p1409 p1410 p1411) [(.int (1 : Int32)), (.ref b1412), (.ref b1412)]) _
   refine st1423 _ ?_
   show SG p e below T1423 (mkF m 16 (la37 p1409 p1410 p1411) [(.ref w1421), (.int (1 : Int32)), (.ref b1412), (.ref b1412)]) _
   refine st1426 _ ?_
   show SG p e below T1426 (mkF m 17 (la37 p1409 p1410 p1411) [(.ref b1412)]) _
   refine XS.dup X1426.here hx rfl (hb hby at_17) rfl rfl ?_
   show SG p e below T1426 (mkF m 18 (la37 p1409 p1410 p1411) [(.ref b1412), (.ref b1412)]) _
   refine XS.iconst X1426.here hx rfl (hb hby at_18) ?_
   show SG p e below T1426 (mkF m 19 (la37 p1409 p1410 p1411) [(.int (2 : Int32)), (.ref b1412), (.ref b1412)]) _
   refine st1429 _ ?_
   show SG p e below T1429 (mkF m 22 (la37 p1409 p1410 p1411) [(.ref w1427), (.int (2 : Int32)), (.ref b1412), (.ref b1412)]) _
   refine st1432 _ ?_
   show SG p e below T1432 (mkF m 23 (la37 p1409 p1410 p1411) [(.ref b1412)]) _
   refine XS.dup X1432.here hx rfl (hb hby at_23) rfl rfl ?_
   show SG p e below T1432 (mkF m 24 (la37 p1409 p1410 p1411) [(.ref b1412), (.ref b1412)]) _
   refine XS.iconst X1432.here hx rfl (hb hby at_24) ?_
   show SG p e below T1432 (mkF m 25 (la37 p1409 p1410 p1411) [(.int (3 : Int32)), (.ref b1412), (.ref b1412)]) _
   refine st1435 _ ?_
   show SG p e below T1435 (mkF m 28 (la37 p1409 p1410 p1411) [(.ref w1433), (.int (3 : Int32)), (.ref b1412), (.ref b1412)]) _
   refine st1438 _ ?_
   show SG p e below T1438 (mkF m 29 (la37 p1409 p1410 p1411) [(.ref b1412)]) _
   refine XS.dup X1438.here hx rfl (hb hby at_29) rfl rfl ?_
   show SG p e below T1438 (mkF m 30 (la37 p1409 p1410 p1411) [(.ref b1412), (.ref b1412)]) _
   refine XS.iconst X1438.here hx rfl (hb hby at_30) ?_
   show SG p e below T1438 (mkF m 31 (la37 p1409 p1410 p1411) [(.int (4 : Int32)), (.ref b1412), (.ref b1412)]) _
   refine st1441 _ ?_
   show SG p e below T1441 (mkF m 34 (la37 p1409 p1410 p1411) [(.ref w1439), (.int (4 : Int32)), (.ref b1412), (.ref b1412)]) _
   refine st1444 _ ?_
   show SG p e below T1444 (mkF m 35 (la37 p1409 p1410 p1411) [(.ref b1412)]) _
   refine XS.dup X1444.here hx rfl (hb hby at_35) rfl rfl ?_
   show SG p e below T1444 (mkF m 36 (la37 p1409 p1410 p1411) [(.ref b1412), (.ref b1412)]) _
   refine XS.iconst X1444.here hx rfl (hb hby at_36) ?_
   show SG p e below T1444 (mkF m 37 (la37 p1409 p1410 p1411) [(.int (5 : Int32)), (.ref b1412), (.ref b1412)]) _
   refine st1447 _ ?_
   show SG p e below T1447 (mkF m 40 (la37 p1409 p1410 p1411) [(.ref w1445), (.int (5 : Int32)), (.ref b1412), (.ref b1412)]) _
   refine st1450 _ ?_
   show SG p e below T1450 (mkF m 41 (la37 p1409 p1410 p1411) [(.ref b1412)]) _
   refine XS.astoreN X1450.here hx rfl (hb hby at_41) rfl rfl (l' := #[vI p1409, vI p1410, vI p1411, vR b1412, vU, vU, vU, vU, vU, vU, vU]) rfl ?_
   show SG p e below T1450 (mkF m 42 (la38 p1409 p1410 p1411 b1412) []) _
   refine XS.bipush X1450.here hx rfl (hb hby at_42) ?_
   show SG p e below T1450 (mkF m 44 (la38 p1409 p1410 p1411 b1412) [(.int (6 : Int32))]) _
   refine st1451 _ ?_
   show SG p e below T1451 (mkF m 46 (la38 p1409 p1410 p1411 b1412) [(.ref b1451)]) _
   refine XS.dup X1451.here hx rfl (hb hby at_46) rfl rfl ?_
   show SG p e below T1451 (mkF m 47 (la38 p1409 p1410 p1411 b1412) [(.ref b1451), (.ref b1451)]) _
   refine XS.iconst X1451.here hx rfl (hb hby at_47) ?_
   show SG p e below T1451 (mkF m 48 (la38 p1409 p1410 p1411 b1412) [(.int (0 : Int32)), (.ref b1451), (.ref b1451)]) _
   refine XS.bipush X1451.here hx rfl (hb hby at_48) ?_
   show SG p e below T1451 (mkF m 50 (la38 p1409 p1410 p1411 b1412) [(.int (68 : Int32)), (.int (0 : Int32)), (.ref b1451), (.ref b1451)]) _
   refine st1454 _ ?_
   show SG p e below T1454 (mkF m 51 (la38 p1409 p1410 p1411 b1412) [(.ref b1451)]) _
   refine XS.dup X1454.here hx rfl (hb hby at_51) rfl rfl ?_
   show SG p e below T1454 (mkF m 52 (la38 p1409 p1410 p1411 b1412) [(.ref b1451), (.ref b1451)]) _
   refine XS.iconst X1454.here hx rfl (hb hby at_52) ?_
   show SG p e below T1454 (mkF m 53 (la38 p1409 p1410 p1411 b1412) [(.int (1 : Int32)), (.ref b1451), (.ref b1451)]) _
   refine XS.bipush X1454.here hx rfl (hb hby at_53) ?_
   show SG p e below T1454 (mkF m 55 (la38 p1409 p1410 p1411 b1412) [(.int (87 : Int32)), (.int (1 : Int32)), (.ref b1451), (.ref b1451)]) _
   refine st1457 _ ?_
   show SG p e below T1457 (mkF m 56 (la38 p1409 p1410 p1411 b1412) [(.ref b1451)]) _
   refine XS.dup X1457.here hx rfl (hb hby at_56) rfl rfl ?_
   show SG p e below T1457 (mkF m 57 (la38 p1409 p1410 p1411 b1412) [(.ref b1451), (.ref b1451)]) _
   refine XS.iconst X1457.here hx rfl (hb hby at_57) ?_
   show SG p e below T1457 (mkF m 58 (la38 p1409 p1410 p1411 b1412) [(.int (2 : Int32)), (.ref b1451), (.ref b1451)]) _
   refine XS.bipush X1457.here hx rfl (hb hby at_58) ?_
   show SG p e below T1457 (mkF m 60 (la38 p1409 p1410 p1411 b1412) [(.int (77 : Int32)), (.int (2 : Int32)), (.ref b1451), (.ref b1451)]) _
   refine st1459 _ ?_
   show SG p e below T1459 (mkF m 61 (la38 p1409 p1410 p1411 b1412) [(.ref b1451)]) _
   refine XS.dup X1459.here hx rfl (hb hby at_61) rfl rfl ?_
   show SG p e below T1459 (mkF m 62 (la38 p1409 p1410 p1411 b1412) [(.ref b1451), (.ref b1451)]) _
   refine XS.iconst X1459.here hx rfl (hb hby at_62) ?_
   show SG p e below T1459 (mkF m 63 (la38 p1409 p1410 p1411 b1412) [(.int (3 : Int32)), (.ref b1451), (.ref b1451)]) _
   refine XS.bipush X1459.here hx rfl (hb hby at_63) ?_
   show SG p e below T1459 (mkF m 65 (la38 p1409 p1410 p1411 b1412) [(.int (81 : Int32)), (.int (3 : Int32)), (.ref b1451), (.ref b1451)]) _
   refine st1461 _ ?_
   show SG p e below T1461 (mkF m 66 (la38 p1409 p1410 p1411 b1412) [(.ref b1451)]) _
   refine XS.dup X1461.here hx rfl (hb hby at_66) rfl rfl ?_
   show SG p e below T1461 (mkF m 67 (la38 p1409 p1410 p1411 b1412) [(.ref b1451), (.ref b1451)]) _
   refine XS.iconst X1461.here hx rfl (hb hby at_67) ?_
   show SG p e below T1461 (mkF m 68 (la38 p1409 p1410 p1411 b1412) [(.int (4 : Int32)), (.ref b1451), (.ref b1451)]) _
   refine XS.bipush X1461.here hx rfl (hb hby at_68) ?_
   show SG p e below T1461 (mkF m 70 (la38 p1409 p1410 p1411 b1412) [(.int (72 : Int32)), (.int (4 : Int32)), (.ref b1451), (.ref b1451)]) _
   refine st1463 _ ?_
   show SG p e below T1463 (mkF m 71 (la38 p1409 p1410 p1411 b1412) [(.ref b1451)]) _
   refine XS.dup X1463.here hx rfl (hb hby at_71) rfl rfl ?_
   show SG p e below T1463 (mkF m 72 (la38 p1409 p1410 p1411 b1412) [(.ref b1451), (.ref b1451)]) _
   refine XS.iconst X1463.here hx rfl (hb hby at_72) ?_
   show SG p e below T1463 (mkF m 73 (la38 p1409 p1410 p1411 b1412) [(.int (5 : Int32)), (.ref b1451), (.ref b1451)]) _
   refine XS.bipush X1463.here hx rfl (hb hby at_73) ?_
   show SG p e below T1463 (mkF m 75 (la38 p1409 p1410 p1411 b1412) [(.int (89 : Int32)), (.int (5 : Int32)), (.ref b1451), (.ref b1451)]) _
   refine st1465 _ ?_
   show SG p e below T1465 (mkF m 76 (la38 p1409 p1410 p1411 b1412) [(.ref b1451)]) _
   refine XS.astore X1465.here hx rfl (hb hby at_76) rfl rfl (l' := #[vI p1409, vI p1410, vI p1411, vR b1412, vR b1451, vU, vU, vU, vU, vU, vU]) rfl ?_
   show SG p e below T1465 (mkF m 78 (la39 p1409 p1410 p1411 b1412 b1451) []) _
   refine XS.iloadN X1465.here hx rfl (hb hby at_78) rfl ?_
   show SG p e below T1465 (mkF m 79 (la39 p1409 p1410 p1411 b1412 b1451) [(.int p1410)]) _
   refine X1465.ldcInt hx hown (mvT hZ (tw hw 17 rfl)) (g := (mkF m 79 (la39 p1409 p1410 p1411 b1412 b1451) [(.int p1410)])) rfl (hb hby at_79) _ ?_
   show SG p e below T1465 (mkF m 81 (la39 p1409 p1410 p1411 b1412 b1451) [(.int (2147483647 : Int32)), (.int p1410)]) _
   refine XS.iand X1465.here hx rfl (hb hby at_81) rfl ?_
   show SG p e below T1465 (mkF m 82 (la39 p1409 p1410 p1411 b1412 b1451) [(.int (p1410 &&& (2147483647 : Int32)))]) _
   refine XS.bipush X1465.here hx rfl (hb hby at_82) ?_
   show SG p e below T1465 (mkF m 84 (la39 p1409 p1410 p1411 b1412 b1451) [(.int (6 : Int32)), (.int (p1410 &&& (2147483647 : Int32)))]) _
   refine iremM X1465 hx rfl (hb hby at_84) rfl (by decide) ?_
   show SG p e below T1465 (mkF m 85 (la39 p1409 p1410 p1411 b1412 b1451) [(.int ((p1410 &&& (2147483647 : Int32)) % (6 : Int32)))]) _
   refine XS.istore X1465.here hx rfl (hb hby at_85) rfl (l' := #[vI p1409, vI p1410, vI p1411, vR b1412, vR b1451, vI ((p1410 &&& (2147483647 : Int32)) % (6 : Int32)), vU, vU, vU, vU, vU]) rfl ?_
   show SG p e below T1465 (mkF m 87 (la40 p1409 p1410 p1411 b1412 b1451) []) _
   refine XS.iloadN X1465.here hx rfl (hb hby at_87) rfl ?_
   show SG p e below T1465 (mkF m 88 (la40 p1409 p1410 p1411 b1412 b1451) [(.int p1411)]) _
   refine XS.iconst X1465.here hx rfl (hb hby at_88) ?_
   show SG p e below T1465 (mkF m 89 (la40 p1409 p1410 p1411 b1412 b1451) [(.int (1 : Int32)), (.int p1411)]) _
   refine XS.iand X1465.here hx rfl (hb hby at_89) rfl ?_
   show SG p e below T1465 (mkF m 90 (la40 p1409 p1410 p1411 b1412 b1451) [(.int (p1411 &&& (1 : Int32)))]) _
   refine XS.ifYes X1465.here hx rfl (pc0 := 90) (pc' := 97) rfl (hb hby at_90) rfl ((if0 _ _).trans (teq H12).1) (by decide) (by decide) ?_
   show SG p e below T1465 (mkF m 97 (la40 p1409 p1410 p1411 b1412 b1451) []) _
   refine XS.iconst X1465.here hx rfl (hb hby at_97) ?_
   show SG p e below T1465 (mkF m 98 (la40 p1409 p1410 p1411 b1412 b1451) [(.int (0 : Int32))]) _
   refine XS.istore X1465.here hx rfl (hb hby at_98) rfl (l' := #[vI p1409, vI p1410, vI p1411, vR b1412, vR b1451, vI ((p1410 &&& (2147483647 : Int32)) % (6 : Int32)), vI (0 : Int32), vU, vU, vU, vU]) rfl ?_
   show SG p e below T1465 (mkF m 100 (la41 p1409 p1410 p1411 b1412 b1451) []) _
   refine st1466 _ ?_
   show SG p e below T1466 (mkF m 103 (la41 p1409 p1410 p1411 b1412 b1451) [(.ref b1466)]) _
   refine XS.dup X1466.here hx rfl (hb hby at_103) rfl rfl ?_
   show SG p e below T1466 (mkF m 104 (la41 p1409 p1410 p1411 b1412 b1451) [(.ref b1466), (.ref b1466)]) _
   refine XS.iloadN X1466.here hx rfl (hb hby at_104) rfl ?_
   show SG p e below T1466 (mkF m 105 (la41 p1409 p1410 p1411 b1412 b1451) [(.int p1409), (.ref b1466), (.ref b1466)]) _
   refine XS.aloadN X1466.here hx rfl (hb hby at_105) rfl rfl ?_
   show SG p e below T1466 (mkF m 106 (la41 p1409 p1410 p1411 b1412 b1451) [(.ref b1412), (.int p1409), (.ref b1466), (.ref b1466)]) _
   refine XS.iload X1466.here hx rfl (hb hby at_106) rfl ?_
   show SG p e below T1466 (mkF m 108 (la41 p1409 p1410 p1411 b1412 b1451) [(.int ((p1410 &&& (2147483647 : Int32)) % (6 : Int32))), (.ref b1412), (.int p1409), (.ref b1466), (.ref b1466)]) _
   refine X1466.aaload hx (j := ((p1410 &&& (2147483647 : Int32)) % (6 : Int32))) (v := (.ref a1470)) (by rw [e1466]; exact Ar1469.1) (State.isArrayOf_alike hZ.alike Ar1469.2.1) rfl Ar1469.2.2 hin1469 hat1469 (g := (mkF m 108 (la41 p1409 p1410 p1411 b1412 b1451) [(.int ((p1410 &&& (2147483647 : Int32)) % (6 : Int32))), (.ref b1412), (.int p1409), (.ref b1466), (.ref b1466)])) rfl rfl (hb hby at_108) _ ?_
   show SG p e below T1466 (mkF m 109 (la41 p1409 p1410 p1411 b1412 b1451) [(.ref a1470), (.int p1409), (.ref b1466), (.ref b1466)]) _
   refine XS.iload X1466.here hx rfl (hb hby at_109) rfl ?_
   show SG p e below T1466 (mkF m 111 (la41 p1409 p1410 p1411 b1412 b1451) [(.int (0 : Int32)), (.ref a1470), (.int p1409), (.ref b1466), (.ref b1466)]) _
   refine st1487.trans ?_
   show SG p e below T1487 (mkF m 114 (la41 p1409 p1410 p1411 b1412 b1451) [(.ref b1466)]) _
   refine XS.astore X1487.here hx rfl (hb hby at_114) rfl rfl (l' := #[vI p1409, vI p1410, vI p1411, vR b1412, vR b1451, vI ((p1410 &&& (2147483647 : Int32)) % (6 : Int32)), vI (0 : Int32), vR b1466, vU, vU, vU]) rfl ?_
   show SG p e below T1487 (mkF m 116 (la42 p1409 p1410 p1411 b1412 b1451 b1466) []) _
   refine XS.aload X1487.here hx rfl (hb hby at_116) rfl rfl ?_
   show SG p e below T1487 (mkF m 118 (la42 p1409 p1410 p1411 b1412 b1451 b1466) [(.ref b1466)]) _
   refine st1490.trans ?_
   show SG p e below T1490 (mkF m 121 (la42 p1409 p1410 p1411 b1412 b1451 b1466) [(.ref b1490_0)]) _
   refine XS.astore X1490.here hx rfl (hb hby at_121) rfl rfl (l' := #[vI p1409, vI p1410, vI p1411, vR b1412, vR b1451, vI ((p1410 &&& (2147483647 : Int32)) % (6 : Int32)), vI (0 : Int32), vR b1466, vR b1490_0, vU, vU]) rfl ?_
   show SG p e below T1490 (mkF m 123 (la43 p1409 p1410 p1411 b1412 b1451 b1466 b1490_0) []) _
   refine XS.iloadN X1490.here hx rfl (hb hby at_123) rfl ?_
   show SG p e below T1490 (mkF m 124 (la43 p1409 p1410 p1411 b1412 b1451 b1466 b1490_0) [(.int p1409)]) _
   refine st1522 _ ?_
   show SG p e below T1522 (mkF m 127 (la43 p1409 p1410 p1411 b1412 b1451 b1466 b1490_0) [(.int (Int32.ofNat (osz p1409)))]) _
   refine XS.istore X1522.here hx rfl (hb hby at_127) rfl (l' := #[vI p1409, vI p1410, vI p1411, vR b1412, vR b1451, vI ((p1410 &&& (2147483647 : Int32)) % (6 : Int32)), vI (0 : Int32), vR b1466, vR b1490_0, vI (Int32.ofNat (osz p1409)), vU]) rfl ?_
   show SG p e below T1522 (mkF m 129 (la44 p1409 p1410 p1411 b1412 b1451 b1466 b1490_0) []) _
   refine XS.aload X1522.here hx rfl (hb hby at_129) rfl rfl ?_
   show SG p e below T1522 (mkF m 131 (la44 p1409 p1410 p1411 b1412 b1451 b1466 b1490_0) [(.ref b1490_0)]) _
   refine st1538.trans ?_
   show SG p e below T1538 (mkF m 134 (la44 p1409 p1410 p1411 b1412 b1451 b1466 b1490_0) [(.int ((Int32.ofNat (osz p1409 + 4)) >>> ((0 : Int32) &&& 31)))]) _
   refine XS.istore X1538.here hx rfl (hb hby at_134) rfl (l' := #[vI p1409, vI p1410, vI p1411, vR b1412, vR b1451, vI ((p1410 &&& (2147483647 : Int32)) % (6 : Int32)), vI (0 : Int32), vR b1466, vR b1490_0, vI (Int32.ofNat (osz p1409)), vI ((Int32.ofNat (osz p1409 + 4)) >>> ((0 : Int32) &&& 31))]) rfl ?_
   show SG p e below T1538 (mkF m 136 (la45 p1409 p1410 p1411 b1412 b1451 b1466 b1490_0) []) _
   refine XS.iload X1538.here hx rfl (hb hby at_136) rfl ?_
   show SG p e below T1538 (mkF m 138 (la45 p1409 p1410 p1411 b1412 b1451 b1466 b1490_0) [(.int ((Int32.ofNat (osz p1409 + 4)) >>> ((0 : Int32) &&& 31)))]) _
   refine XS.iload X1538.here hx rfl (hb hby at_138) rfl ?_
   show SG p e below T1538 (mkF m 140 (la45 p1409 p1410 p1411 b1412 b1451 b1466 b1490_0) [(.int (Int32.ofNat (osz p1409))), (.int ((Int32.ofNat (osz p1409 + 4)) >>> ((0 : Int32) &&& 31)))]) _
   refine XS.iconst X1538.here hx rfl (hb hby at_140) ?_
   show SG p e below T1538 (mkF m 141 (la45 p1409 p1410 p1411 b1412 b1451 b1466 b1490_0) [(.int (4 : Int32)), (.int (Int32.ofNat (osz p1409))), (.int ((Int32.ofNat (osz p1409 + 4)) >>> ((0 : Int32) &&& 31)))]) _
   refine XS.iadd X1538.here hx rfl (hb hby at_141) rfl ?_
   show SG p e below T1538 (mkF m 142 (la45 p1409 p1410 p1411 b1412 b1451 b1466 b1490_0) [(.int ((Int32.ofNat (osz p1409)) + (4 : Int32))), (.int ((Int32.ofNat (osz p1409 + 4)) >>> ((0 : Int32) &&& 31)))]) _
   refine XS.icmpYes X1538.here hx rfl (pc0 := 142) (pc' := 147) rfl (hb hby at_142) rfl (teq H31).1 (by decide) (by decide) ?_
   show SG p e below T1538 (mkF m 147 (la45 p1409 p1410 p1411 b1412 b1451 b1466 b1490_0) []) _
   refine XS.aload X1538.here hx rfl (hb hby at_147) rfl rfl ?_
   show SG p e below T1538 (mkF m 149 (la45 p1409 p1410 p1411 b1412 b1451 b1466 b1490_0) [(.ref b1490_0)]) _
   refine XS.iconst X1538.here hx rfl (hb hby at_149) ?_
   show SG p e below T1538 (mkF m 150 (la45 p1409 p1410 p1411 b1412 b1451 b1466 b1490_0) [(.int (0 : Int32)), (.ref b1490_0)]) _
   refine st1540.trans ?_
   show SG p e below T1540 (mkF m 153 (la45 p1409 p1410 p1411 b1412 b1451 b1466 b1490_0) [(.int (oc8 ((otx p1409 w1513 49) ((0 : Int32)).toNatClampNeg)))]) _
   refine XS.bipush X1540.here hx rfl (hb hby at_153) ?_
   show SG p e below T1540 (mkF m 155 (la45 p1409 p1410 p1411 b1412 b1451 b1466 b1490_0) [(.int (80 : Int32)), (.int (oc8 ((otx p1409 w1513 49) ((0 : Int32)).toNatClampNeg)))]) _
   refine XS.icmpYes X1540.here hx rfl (pc0 := 155) (pc' := 160) rfl (hb hby at_155) rfl (teq H35).1 (by decide) (by decide) ?_
   show SG p e below T1540 (mkF m 160 (la45 p1409 p1410 p1411 b1412 b1451 b1466 b1490_0) []) _
   refine XS.aload X1540.here hx rfl (hb hby at_160) rfl rfl ?_
   show SG p e below T1540 (mkF m 162 (la45 p1409 p1410 p1411 b1412 b1451 b1466 b1490_0) [(.ref b1490_0)]) _
   refine XS.iload X1540.here hx rfl (hb hby at_162) rfl ?_
   show SG p e below T1540 (mkF m 164 (la45 p1409 p1410 p1411 b1412 b1451 b1466 b1490_0) [(.int ((Int32.ofNat (osz p1409 + 4)) >>> ((0 : Int32) &&& 31))), (.ref b1490_0)]) _
   refine XS.iconst X1540.here hx rfl (hb hby at_164) ?_
   show SG p e below T1540 (mkF m 165 (la45 p1409 p1410 p1411 b1412 b1451 b1466 b1490_0) [(.int (3 : Int32)), (.int ((Int32.ofNat (osz p1409 + 4)) >>> ((0 : Int32) &&& 31))), (.ref b1490_0)]) _
   refine XS.isub X1540.here hx rfl (hb hby at_165) rfl ?_
   show SG p e below T1540 (mkF m 166 (la45 p1409 p1410 p1411 b1412 b1451 b1466 b1490_0) [(.int (((Int32.ofNat (osz p1409 + 4)) >>> ((0 : Int32) &&& 31)) - (3 : Int32))), (.ref b1490_0)]) _
   refine st1543.trans ?_
   show SG p e below T1543 (mkF m 169 (la45 p1409 p1410 p1411 b1412 b1451 b1466 b1490_0) [(.int (oc8 ((otx p1409 w1513 49) ((((Int32.ofNat (osz p1409 + 4)) >>> ((0 : Int32) &&& 31)) - (3 : Int32))).toNatClampNeg)))]) _
   refine XS.aload X1543.here hx rfl (hb hby at_169) rfl rfl ?_
   show SG p e below T1543 (mkF m 171 (la45 p1409 p1410 p1411 b1412 b1451 b1466 b1490_0) [(.ref b1451), (.int (oc8 ((otx p1409 w1513 49) ((((Int32.ofNat (osz p1409 + 4)) >>> ((0 : Int32) &&& 31)) - (3 : Int32))).toNatClampNeg)))]) _
   refine XS.iload X1543.here hx rfl (hb hby at_171) rfl ?_
   show SG p e below T1543 (mkF m 173 (la45 p1409 p1410 p1411 b1412 b1451 b1466 b1490_0) [(.int ((p1410 &&& (2147483647 : Int32)) % (6 : Int32))), (.ref b1451), (.int (oc8 ((otx p1409 w1513 49) ((((Int32.ofNat (osz p1409 + 4)) >>> ((0 : Int32) &&& 31)) - (3 : Int32))).toNatClampNeg)))]) _
   refine X1543.caload hx (j := ((p1410 &&& (2147483647 : Int32)) % (6 : Int32))) (v := (.int ((fun i => if i = ((5 : Int32)).toNatClampNeg then (89 : Int32) else (fun i => if i = ((4 : Int32)).toNatClampNeg then (72 : Int32) else (fun i => if i = ((3 : Int32)).toNatClampNeg then (81 : Int32) else (fun i => if i = ((2 : Int32)).toNatClampNeg then (77 : Int32) else (fun i => if i = ((1 : Int32)).toNatClampNeg then (87 : Int32) else (fun i => if i = ((0 : Int32)).toNatClampNeg then (68 : Int32) else (fun _ => (0 : Int32)) i) i) i) i) i) i) (((p1410 &&& (2147483647 : Int32)) % (6 : Int32))).toNatClampNeg))) (by rw [e1543]; exact Ar1546.1) (State.isArrayOf_alike hZ1490.alike Ar1546.2.1) Ar1546.2.2 hin1546 hat1546 (g := (mkF m 173 (la45 p1409 p1410 p1411 b1412 b1451 b1466 b1490_0) [(.int ((p1410 &&& (2147483647 : Int32)) % (6 : Int32))), (.ref b1451), (.int (oc8 ((otx p1409 w1513 49) ((((Int32.ofNat (osz p1409 + 4)) >>> ((0 : Int32) &&& 31)) - (3 : Int32))).toNatClampNeg)))])) rfl rfl (hb hby at_173) _ ?_
   show SG p e below T1543 (mkF m 174 (la45 p1409 p1410 p1411 b1412 b1451 b1466 b1490_0) [(.int ((fun i => if i = ((5 : Int32)).toNatClampNeg then (89 : Int32) else (fun i => if i = ((4 : Int32)).toNatClampNeg then (72 : Int32) else (fun i => if i = ((3 : Int32)).toNatClampNeg then (81 : Int32) else (fun i => if i = ((2 : Int32)).toNatClampNeg then (77 : Int32) else (fun i => if i = ((1 : Int32)).toNatClampNeg then (87 : Int32) else (fun i => if i = ((0 : Int32)).toNatClampNeg then (68 : Int32) else (fun _ => (0 : Int32)) i) i) i) i) i) i) (((p1410 &&& (2147483647 : Int32)) % (6 : Int32))).toNatClampNeg)), (.int (oc8 ((otx p1409 w1513 49) ((((Int32.ofNat (osz p1409 + 4)) >>> ((0 : Int32) &&& 31)) - (3 : Int32))).toNatClampNeg)))]) _
   refine XS.icmpYes X1543.here hx rfl (pc0 := 174) (pc' := 179) rfl (hb hby at_174) rfl (teq H38).1 (by decide) (by decide) ?_
   show SG p e below T1543 (mkF m 179 (la45 p1409 p1410 p1411 b1412 b1451 b1466 b1490_0) []) _
   refine XS.aload X1543.here hx rfl (hb hby at_179) rfl rfl ?_
   show SG p e below T1543 (mkF m 181 (la45 p1409 p1410 p1411 b1412 b1451 b1466 b1490_0) [(.ref b1490_0)]) _
   refine XS.iload X1543.here hx rfl (hb hby at_181) rfl ?_
   show SG p e below T1543 (mkF m 183 (la45 p1409 p1410 p1411 b1412 b1451 b1466 b1490_0) [(.int ((Int32.ofNat (osz p1409 + 4)) >>> ((0 : Int32) &&& 31))), (.ref b1490_0)]) _
   refine XS.iconst X1543.here hx rfl (hb hby at_183) ?_
   show SG p e below T1543 (mkF m 184 (la45 p1409 p1410 p1411 b1412 b1451 b1466 b1490_0) [(.int (2 : Int32)), (.int ((Int32.ofNat (osz p1409 + 4)) >>> ((0 : Int32) &&& 31))), (.ref b1490_0)]) _
   refine XS.isub X1543.here hx rfl (hb hby at_184) rfl ?_
   show SG p e below T1543 (mkF m 185 (la45 p1409 p1410 p1411 b1412 b1451 b1466 b1490_0) [(.int (((Int32.ofNat (osz p1409 + 4)) >>> ((0 : Int32) &&& 31)) - (2 : Int32))), (.ref b1490_0)]) _
   refine st1547.trans ?_
   show SG p e below T1547 (mkF m 188 (la45 p1409 p1410 p1411 b1412 b1451 b1466 b1490_0) [(.int (oc8 ((otx p1409 w1513 49) ((((Int32.ofNat (osz p1409 + 4)) >>> ((0 : Int32) &&& 31)) - (2 : Int32))).toNatClampNeg)))]) _
   refine XS.bipush X1547.here hx rfl (hb hby at_188) ?_
   show SG p e below T1547 (mkF m 190 (la45 p1409 p1410 p1411 b1412 b1451 b1466 b1490_0) [(.int (76 : Int32)), (.int (oc8 ((otx p1409 w1513 49) ((((Int32.ofNat (osz p1409 + 4)) >>> ((0 : Int32) &&& 31)) - (2 : Int32))).toNatClampNeg)))]) _
   refine XS.icmpYes X1547.here hx rfl (pc0 := 190) (pc' := 195) rfl (hb hby at_190) rfl (teq H41).1 (by decide) (by decide) ?_
   show SG p e below T1547 (mkF m 195 (la45 p1409 p1410 p1411 b1412 b1451 b1466 b1490_0) []) _
   refine XS.aload X1547.here hx rfl (hb hby at_195) rfl rfl ?_
   show SG p e below T1547 (mkF m 197 (la45 p1409 p1410 p1411 b1412 b1451 b1466 b1490_0) [(.ref b1490_0)]) _
   refine XS.iload X1547.here hx rfl (hb hby at_197) rfl ?_
   show SG p e below T1547 (mkF m 199 (la45 p1409 p1410 p1411 b1412 b1451 b1466 b1490_0) [(.int ((Int32.ofNat (osz p1409 + 4)) >>> ((0 : Int32) &&& 31))), (.ref b1490_0)]) _
   refine XS.iconst X1547.here hx rfl (hb hby at_199) ?_
   show SG p e below T1547 (mkF m 200 (la45 p1409 p1410 p1411 b1412 b1451 b1466 b1490_0) [(.int (1 : Int32)), (.int ((Int32.ofNat (osz p1409 + 4)) >>> ((0 : Int32) &&& 31))), (.ref b1490_0)]) _
   refine XS.isub X1547.here hx rfl (hb hby at_200) rfl ?_
   show SG p e below T1547 (mkF m 201 (la45 p1409 p1410 p1411 b1412 b1451 b1466 b1490_0) [(.int (((Int32.ofNat (osz p1409 + 4)) >>> ((0 : Int32) &&& 31)) - (1 : Int32))), (.ref b1490_0)]) _
   refine st1548.trans ?_
   show SG p e below T1548 (mkF m 204 (la45 p1409 p1410 p1411 b1412 b1451 b1466 b1490_0) [(.int (oc8 ((otx p1409 w1513 49) ((((Int32.ofNat (osz p1409 + 4)) >>> ((0 : Int32) &&& 31)) - (1 : Int32))).toNatClampNeg)))]) _
   refine XS.iload X1548.here hx rfl (hb hby at_204) rfl ?_
   show SG p e below T1548 (mkF m 206 (la45 p1409 p1410 p1411 b1412 b1451 b1466 b1490_0) [(.int (0 : Int32)), (.int (oc8 ((otx p1409 w1513 49) ((((Int32.ofNat (osz p1409 + 4)) >>> ((0 : Int32) &&& 31)) - (1 : Int32))).toNatClampNeg)))]) _
   refine XS.ifYes X1548.here hx rfl (pc0 := 206) (pc' := 214) rfl (hb hby at_206) rfl ((if0 _ _).trans (teq (rfl : (0 : Int32) = (0 : Int32))).1) (by decide) (by decide) ?_
   show SG p e below T1548 (mkF m 214 (la45 p1409 p1410 p1411 b1412 b1451 b1466 b1490_0) [(.int (oc8 ((otx p1409 w1513 49) ((((Int32.ofNat (osz p1409 + 4)) >>> ((0 : Int32) &&& 31)) - (1 : Int32))).toNatClampNeg)))]) _
   refine XS.bipush X1548.here hx rfl (hb hby at_214) ?_
   show SG p e below T1548 (mkF m 216 (la45 p1409 p1410 p1411 b1412 b1451 b1466 b1490_0) [(.int (49 : Int32)), (.int (oc8 ((otx p1409 w1513 49) ((((Int32.ofNat (osz p1409 + 4)) >>> ((0 : Int32) &&& 31)) - (1 : Int32))).toNatClampNeg)))]) _
   refine XS.icmpYes X1548.here hx rfl (pc0 := 216) (pc' := 221) rfl (hb hby at_216) rfl (teq H44).1 (by decide) (by decide) ?_
   show SG p e below T1548 (mkF m 221 (la45 p1409 p1410 p1411 b1412 b1451 b1466 b1490_0) []) _
   refine XS.aload X1548.here hx rfl (hb hby at_221) rfl rfl ?_
   show SG p e below T1548 (mkF m 223 (la45 p1409 p1410 p1411 b1412 b1451 b1466 b1490_0) [(.ref b1490_0)]) _
   refine XS.iconst X1548.here hx rfl (hb hby at_223) ?_
   show SG p e below T1548 (mkF m 224 (la45 p1409 p1410 p1411 b1412 b1451 b1466 b1490_0) [(.int (0 : Int32)), (.ref b1490_0)]) _
   refine XS.iloadN X1548.here hx rfl (hb hby at_224) rfl ?_
   show SG p e below T1548 (mkF m 225 (la45 p1409 p1410 p1411 b1412 b1451 b1466 b1490_0) [(.int p1409), (.int (0 : Int32)), (.ref b1490_0)]) _
   refine st1549 _ ?_
   show SG p e below T1549 (mkF m 228 (la45 p1409 p1410 p1411 b1412 b1451 b1466 b1490_0) [(.int (1 : Int32))]) _
   refine XS.ifNo X1549.here hx rfl (hb hby at_228) rfl ((if0 _ _).trans (feq (by decide : ¬ ((1 : Int32) = (0 : Int32)))).1) ?_
   show SG p e below T1549 (mkF m 231 (la45 p1409 p1410 p1411 b1412 b1451 b1466 b1490_0) []) _
   refine XS.aload X1549.here hx rfl (hb hby at_231) rfl rfl ?_
   show SG p e below T1549 (mkF m 233 (la45 p1409 p1410 p1411 b1412 b1451 b1466 b1490_0) [(.ref b1490_0)]) _
   refine XS.iconst X1549.here hx rfl (hb hby at_233) ?_
   show SG p e below T1549 (mkF m 234 (la45 p1409 p1410 p1411 b1412 b1451 b1466 b1490_0) [(.int (1 : Int32)), (.ref b1490_0)]) _
   refine XS.iloadN X1549.here hx rfl (hb hby at_234) rfl ?_
   show SG p e below T1549 (mkF m 235 (la45 p1409 p1410 p1411 b1412 b1451 b1466 b1490_0) [(.int p1409), (.int (1 : Int32)), (.ref b1490_0)]) _
   refine st1550 _ ?_
   show SG p e below T1550 (mkF m 238 (la45 p1409 p1410 p1411 b1412 b1451 b1466 b1490_0) [(.int (1 : Int32))]) _
   refine XS.ifNo X1550.here hx rfl (hb hby at_238) rfl ((if0 _ _).trans (feq (by decide : ¬ ((1 : Int32) = (0 : Int32)))).1) ?_
   show SG p e below T1550 (mkF m 241 (la45 p1409 p1410 p1411 b1412 b1451 b1466 b1490_0) []) _
   refine XS.aload X1550.here hx rfl (hb hby at_241) rfl rfl ?_
   show SG p e below T1550 (mkF m 243 (la45 p1409 p1410 p1411 b1412 b1451 b1466 b1490_0) [(.ref b1490_0)]) _
   refine XS.iconst X1550.here hx rfl (hb hby at_243) ?_
   show SG p e below T1550 (mkF m 244 (la45 p1409 p1410 p1411 b1412 b1451 b1466 b1490_0) [(.int (2 : Int32)), (.ref b1490_0)]) _
   refine XS.iloadN X1550.here hx rfl (hb hby at_244) rfl ?_
   show SG p e below T1550 (mkF m 245 (la45 p1409 p1410 p1411 b1412 b1451 b1466 b1490_0) [(.int p1409), (.int (2 : Int32)), (.ref b1490_0)]) _
   refine st1557 _ ?_
   show SG p e below T1557 (mkF m 248 (la45 p1409 p1410 p1411 b1412 b1451 b1466 b1490_0) [(.int (1 : Int32))]) _
   refine XS.ifNo X1557.here hx rfl (hb hby at_248) rfl ((if0 _ _).trans (feq (by decide : ¬ ((1 : Int32) = (0 : Int32)))).1) ?_
   show SG p e below T1557 (mkF m 251 (la45 p1409 p1410 p1411 b1412 b1451 b1466 b1490_0) []) _
   refine XS.aload X1557.here hx rfl (hb hby at_251) rfl rfl ?_
   show SG p e below T1557 (mkF m 253 (la45 p1409 p1410 p1411 b1412 b1451 b1466 b1490_0) [(.ref b1490_0)]) _
   refine XS.iconst X1557.here hx rfl (hb hby at_253) ?_
   show SG p e below T1557 (mkF m 254 (la45 p1409 p1410 p1411 b1412 b1451 b1466 b1490_0) [(.int (3 : Int32)), (.ref b1490_0)]) _
   refine XS.iloadN X1557.here hx rfl (hb hby at_254) rfl ?_
   show SG p e below T1557 (mkF m 255 (la45 p1409 p1410 p1411 b1412 b1451 b1466 b1490_0) [(.int p1409), (.int (3 : Int32)), (.ref b1490_0)]) _
   refine st1564 _ ?_
   show SG p e below T1564 (mkF m 258 (la45 p1409 p1410 p1411 b1412 b1451 b1466 b1490_0) [(.int (1 : Int32))]) _
   refine XS.ifNo X1564.here hx rfl (hb hby at_258) rfl ((if0 _ _).trans (feq (by decide : ¬ ((1 : Int32) = (0 : Int32)))).1) ?_
   show SG p e below T1564 (mkF m 261 (la45 p1409 p1410 p1411 b1412 b1451 b1466 b1490_0) []) _
   refine XS.aload X1564.here hx rfl (hb hby at_261) rfl rfl ?_
   show SG p e below T1564 (mkF m 263 (la45 p1409 p1410 p1411 b1412 b1451 b1466 b1490_0) [(.ref b1490_0)]) _
   refine XS.iconst X1564.here hx rfl (hb hby at_263) ?_
   show SG p e below T1564 (mkF m 264 (la45 p1409 p1410 p1411 b1412 b1451 b1466 b1490_0) [(.int (4 : Int32)), (.ref b1490_0)]) _
   refine XS.iloadN X1564.here hx rfl (hb hby at_264) rfl ?_
   show SG p e below T1564 (mkF m 265 (la45 p1409 p1410 p1411 b1412 b1451 b1466 b1490_0) [(.int p1409), (.int (4 : Int32)), (.ref b1490_0)]) _
   refine st1571 _ ?_
   show SG p e below T1571 (mkF m 268 (la45 p1409 p1410 p1411 b1412 b1451 b1466 b1490_0) [(.int (1 : Int32))]) _
   refine XS.ifNo X1571.here hx rfl (hb hby at_268) rfl ((if0 _ _).trans (feq (by decide : ¬ ((1 : Int32) = (0 : Int32)))).1) ?_
   show SG p e below T1571 (mkF m 271 (la45 p1409 p1410 p1411 b1412 b1451 b1466 b1490_0) []) _
   refine XS.aload X1571.here hx rfl (hb hby at_271) rfl rfl ?_
   show SG p e below T1571 (mkF m 273 (la45 p1409 p1410 p1411 b1412 b1451 b1466 b1490_0) [(.ref b1490_0)]) _
   refine XS.iconst X1571.here hx rfl (hb hby at_273) ?_
   show SG p e below T1571 (mkF m 274 (la45 p1409 p1410 p1411 b1412 b1451 b1466 b1490_0) [(.int (5 : Int32)), (.ref b1490_0)]) _
   refine XS.iloadN X1571.here hx rfl (hb hby at_274) rfl ?_
   show SG p e below T1571 (mkF m 275 (la45 p1409 p1410 p1411 b1412 b1451 b1466 b1490_0) [(.int p1409), (.int (5 : Int32)), (.ref b1490_0)]) _
   refine st1578 _ ?_
   show SG p e below T1578 (mkF m 278 (la45 p1409 p1410 p1411 b1412 b1451 b1466 b1490_0) [(.int (1 : Int32))]) _
   refine XS.ifNo X1578.here hx rfl (hb hby at_278) rfl ((if0 _ _).trans (feq (by decide : ¬ ((1 : Int32) = (0 : Int32)))).1) ?_
   show SG p e below T1578 (mkF m 281 (la45 p1409 p1410 p1411 b1412 b1451 b1466 b1490_0) []) _
   refine XS.aload X1578.here hx rfl (hb hby at_281) rfl rfl ?_
   show SG p e below T1578 (mkF m 283 (la45 p1409 p1410 p1411 b1412 b1451 b1466 b1490_0) [(.ref b1490_0)]) _
   refine XS.bipush X1578.here hx rfl (hb hby at_283) ?_
   show SG p e below T1578 (mkF m 285 (la45 p1409 p1410 p1411 b1412 b1451 b1466 b1490_0) [(.int (6 : Int32)), (.ref b1490_0)]) _
   refine XS.iloadN X1578.here hx rfl (hb hby at_285) rfl ?_
   show SG p e below T1578 (mkF m 286 (la45 p1409 p1410 p1411 b1412 b1451 b1466 b1490_0) [(.int p1409), (.int (6 : Int32)), (.ref b1490_0)]) _
   refine st1585 _ ?_
   show SG p e below T1585 (mkF m 289 (la45 p1409 p1410 p1411 b1412 b1451 b1466 b1490_0) [(.int (1 : Int32))]) _
   refine XS.ifNo X1585.here hx rfl (hb hby at_289) rfl ((if0 _ _).trans (feq (by decide : ¬ ((1 : Int32) = (0 : Int32)))).1) ?_
   show SG p e below T1585 (mkF m 292 (la45 p1409 p1410 p1411 b1412 b1451 b1466 b1490_0) []) _
   refine XS.aload X1585.here hx rfl (hb hby at_292) rfl rfl ?_
   show SG p e below T1585 (mkF m 294 (la45 p1409 p1410 p1411 b1412 b1451 b1466 b1490_0) [(.ref b1490_0)]) _
   refine XS.bipush X1585.here hx rfl (hb hby at_294) ?_
   show SG p e below T1585 (mkF m 296 (la45 p1409 p1410 p1411 b1412 b1451 b1466 b1490_0) [(.int (7 : Int32)), (.ref b1490_0)]) _
   refine XS.iloadN X1585.here hx rfl (hb hby at_296) rfl ?_
   show SG p e below T1585 (mkF m 297 (la45 p1409 p1410 p1411 b1412 b1451 b1466 b1490_0) [(.int p1409), (.int (7 : Int32)), (.ref b1490_0)]) _
   refine st1592 _ ?_
   show SG p e below T1592 (mkF m 300 (la45 p1409 p1410 p1411 b1412 b1451 b1466 b1490_0) [(.int (1 : Int32))]) _
   refine XS.ifNo X1592.here hx rfl (hb hby at_300) rfl ((if0 _ _).trans (feq (by decide : ¬ ((1 : Int32) = (0 : Int32)))).1) ?_
   show SG p e below T1592 (mkF m 303 (la45 p1409 p1410 p1411 b1412 b1451 b1466 b1490_0) []) _
   refine XS.aload X1592.here hx rfl (hb hby at_303) rfl rfl ?_
   show SG p e below T1592 (mkF m 305 (la45 p1409 p1410 p1411 b1412 b1451 b1466 b1490_0) [(.ref b1490_0)]) _
   refine XS.bipush X1592.here hx rfl (hb hby at_305) ?_
   show SG p e below T1592 (mkF m 307 (la45 p1409 p1410 p1411 b1412 b1451 b1466 b1490_0) [(.int (8 : Int32)), (.ref b1490_0)]) _
   refine XS.iloadN X1592.here hx rfl (hb hby at_307) rfl ?_
   show SG p e below T1592 (mkF m 308 (la45 p1409 p1410 p1411 b1412 b1451 b1466 b1490_0) [(.int p1409), (.int (8 : Int32)), (.ref b1490_0)]) _
   refine st1599 _ ?_
   show SG p e below T1599 (mkF m 311 (la45 p1409 p1410 p1411 b1412 b1451 b1466 b1490_0) [(.int (1 : Int32))]) _
   refine XS.ifNo X1599.here hx rfl (hb hby at_311) rfl ((if0 _ _).trans (feq (by decide : ¬ ((1 : Int32) = (0 : Int32)))).1) ?_
   show SG p e below T1599 (mkF m 314 (la45 p1409 p1410 p1411 b1412 b1451 b1466 b1490_0) []) _
   refine XS.aload X1599.here hx rfl (hb hby at_314) rfl rfl ?_
   show SG p e below T1599 (mkF m 316 (la45 p1409 p1410 p1411 b1412 b1451 b1466 b1490_0) [(.ref b1490_0)]) _
   refine XS.bipush X1599.here hx rfl (hb hby at_316) ?_
   show SG p e below T1599 (mkF m 318 (la45 p1409 p1410 p1411 b1412 b1451 b1466 b1490_0) [(.int (9 : Int32)), (.ref b1490_0)]) _
   refine XS.iloadN X1599.here hx rfl (hb hby at_318) rfl ?_
   show SG p e below T1599 (mkF m 319 (la45 p1409 p1410 p1411 b1412 b1451 b1466 b1490_0) [(.int p1409), (.int (9 : Int32)), (.ref b1490_0)]) _
   refine st1606 _ ?_
   show SG p e below T1606 (mkF m 322 (la45 p1409 p1410 p1411 b1412 b1451 b1466 b1490_0) [(.int (1 : Int32))]) _
   refine XS.ifNo X1606.here hx rfl (hb hby at_322) rfl ((if0 _ _).trans (feq (by decide : ¬ ((1 : Int32) = (0 : Int32)))).1) ?_
   show SG p e below T1606 (mkF m 325 (la45 p1409 p1410 p1411 b1412 b1451 b1466 b1490_0) []) _
   refine XS.aload X1606.here hx rfl (hb hby at_325) rfl rfl ?_
   show SG p e below T1606 (mkF m 327 (la45 p1409 p1410 p1411 b1412 b1451 b1466 b1490_0) [(.ref b1490_0)]) _
   refine XS.bipush X1606.here hx rfl (hb hby at_327) ?_
   show SG p e below T1606 (mkF m 329 (la45 p1409 p1410 p1411 b1412 b1451 b1466 b1490_0) [(.int (10 : Int32)), (.ref b1490_0)]) _
   refine XS.iloadN X1606.here hx rfl (hb hby at_329) rfl ?_
   show SG p e below T1606 (mkF m 330 (la45 p1409 p1410 p1411 b1412 b1451 b1466 b1490_0) [(.int p1409), (.int (10 : Int32)), (.ref b1490_0)]) _
   refine st1613 _ ?_
   show SG p e below T1613 (mkF m 333 (la45 p1409 p1410 p1411 b1412 b1451 b1466 b1490_0) [(.int (1 : Int32))]) _
   refine XS.ifNo X1613.here hx rfl (hb hby at_333) rfl ((if0 _ _).trans (feq (by decide : ¬ ((1 : Int32) = (0 : Int32)))).1) ?_
   show SG p e below T1613 (mkF m 336 (la45 p1409 p1410 p1411 b1412 b1451 b1466 b1490_0) []) _
   refine XS.iconst X1613.here hx rfl (hb hby at_336) ?_
   show SG p e below T1613 (mkF m 337 (la45 p1409 p1410 p1411 b1412 b1451 b1466 b1490_0) [(.int (1 : Int32))]) _
   refine XS.goto X1613.here hx rfl (pc0 := 337) (pc' := 341) rfl (hb hby at_337) (by decide) (by decide) ?_
   show SG p e below T1613 (mkF m 341 (la45 p1409 p1410 p1411 b1412 b1451 b1466 b1490_0) [(.int (1 : Int32))]) _
   exact retN X1613 hx (t := .boolean) Bd.returns (by simp) (hb hby at_341) hr
 · show OQl (some (.int (1 : Int32))) n0 _ T1613.heap _
   exact ⟨rfl, N1613⟩
 · rw [hh]
   show CHr Z EL s.vm h0 T1613.vm T1613.heap
   exact CHr.trans R1613 (CHv.at X1613 hZ1490 (el_ok hw) R1613.1)
abbrev la46 (p1620 : Int32) (p1621 : Int32) (p1622 : Int32) : Array Slot := #[vI p1620, vI p1621, vI p1622, vU, vU, vU, vU, vU, vU, vU, vU]
abbrev la47 (p1620 : Int32) (p1621 : Int32) (p1622 : Int32) (b1623 : Addr) : Array Slot := #[vI p1620, vI p1621, vI p1622, vR b1623, vU, vU, vU, vU, vU, vU, vU]
abbrev la48 (p1620 : Int32) (p1621 : Int32) (p1622 : Int32) (b1623 : Addr) (b1662 : Addr) : Array Slot := #[vI p1620, vI p1621, vI p1622, vR b1623, vR b1662, vU, vU, vU, vU, vU, vU]
abbrev la49 (p1620 : Int32) (p1621 : Int32) (p1622 : Int32) (b1623 : Addr) (b1662 : Addr) : Array Slot := #[vI p1620, vI p1621, vI p1622, vR b1623, vR b1662, vI ((p1621 &&& (2147483647 : Int32)) % (6 : Int32)), vU, vU, vU, vU, vU]
abbrev la50 (p1620 : Int32) (p1621 : Int32) (p1622 : Int32) (b1623 : Addr) (b1662 : Addr) : Array Slot := #[vI p1620, vI p1621, vI p1622, vR b1623, vR b1662, vI ((p1621 &&& (2147483647 : Int32)) % (6 : Int32)), vI (1 : Int32), vU, vU, vU, vU]
abbrev la51 (p1620 : Int32) (p1621 : Int32) (p1622 : Int32) (b1623 : Addr) (b1662 : Addr) (b1677 : Addr) : Array Slot := #[vI p1620, vI p1621, vI p1622, vR b1623, vR b1662, vI ((p1621 &&& (2147483647 : Int32)) % (6 : Int32)), vI (1 : Int32), vR b1677, vU, vU, vU]
abbrev la52 (p1620 : Int32) (p1621 : Int32) (p1622 : Int32) (b1623 : Addr) (b1662 : Addr) (b1677 : Addr) (b1701_0 : Addr) : Array Slot := #[vI p1620, vI p1621, vI p1622, vR b1623, vR b1662, vI ((p1621 &&& (2147483647 : Int32)) % (6 : Int32)), vI (1 : Int32), vR b1677, vR b1701_0, vU, vU]
abbrev la53 (p1620 : Int32) (p1621 : Int32) (p1622 : Int32) (b1623 : Addr) (b1662 : Addr) (b1677 : Addr) (b1701_0 : Addr) : Array Slot := #[vI p1620, vI p1621, vI p1622, vR b1623, vR b1662, vI ((p1621 &&& (2147483647 : Int32)) % (6 : Int32)), vI (1 : Int32), vR b1677, vR b1701_0, vI (Int32.ofNat (osz p1620)), vU]
abbrev la54 (p1620 : Int32) (p1621 : Int32) (p1622 : Int32) (b1623 : Addr) (b1662 : Addr) (b1677 : Addr) (b1701_0 : Addr) : Array Slot := #[vI p1620, vI p1621, vI p1622, vR b1623, vR b1662, vI ((p1621 &&& (2147483647 : Int32)) % (6 : Int32)), vI (1 : Int32), vR b1677, vR b1701_0, vI (Int32.ofNat (osz p1620)), vI ((Int32.ofNat (osz p1620 + 4)) >>> ((0 : Int32) &&& 31))]
theorem r0_2 (l : Launch) (Z : State) (a0 : Array Value) (hw : ∀ d ∈ tables_1, d.before a0 Z = true) (p1620 : Int32) (p1621 : Int32) (p1622 : Int32) (w1624 : Addr) (w1632 : Addr) (w1638 : Addr) (w1644 : Addr) (w1650 : Addr) (w1656 : Addr) (a1681 : Addr) (w1702 : Int32) (w1704 : Addr) (w1706 : Addr) (k1708 : ClassId) (u1709 : Nat → Int32) (k1716 : ClassId) (u1717 : Nat → Int32) (w1724 : Int32) (x1752 : Value) (h0 : Heap) (n0 : Nat) (Z0 : n0 ≤ h0.size) (H0 : Sta Z h0 "com/example/tranchebook/tranchebook/Cycle$Unit" "DAYS" "Lcom/example/tranchebook/tranchebook/Cycle$Unit;" (.ref w1624)) (H1 : Exa Z h0 w1624 "com/example/tranchebook/tranchebook/Cycle$Unit") (H2 : Sta Z h0 "com/example/tranchebook/tranchebook/Cycle$Unit" "WEEKS" "Lcom/example/tranchebook/tranchebook/Cycle$Unit;" (.ref w1632)) (H3 : Exa Z h0 w1632 "com/example/tranchebook/tranchebook/Cycle$Unit") (H4 : Sta Z h0 "com/example/tranchebook/tranchebook/Cycle$Unit" "MONTHS" "Lcom/example/tranchebook/tranchebook/Cycle$Unit;" (.ref w1638)) (H5 : Exa Z h0 w1638 "com/example/tranchebook/tranchebook/Cycle$Unit") (H6 : Sta Z h0 "com/example/tranchebook/tranchebook/Cycle$Unit" "QUARTERS" "Lcom/example/tranchebook/tranchebook/Cycle$Unit;" (.ref w1644)) (H7 : Exa Z h0 w1644 "com/example/tranchebook/tranchebook/Cycle$Unit") (H8 : Sta Z h0 "com/example/tranchebook/tranchebook/Cycle$Unit" "HALF_YEARS" "Lcom/example/tranchebook/tranchebook/Cycle$Unit;" (.ref w1650)) (H9 : Exa Z h0 w1650 "com/example/tranchebook/tranchebook/Cycle$Unit") (H10 : Sta Z h0 "com/example/tranchebook/tranchebook/Cycle$Unit" "YEARS" "Lcom/example/tranchebook/tranchebook/Cycle$Unit;" (.ref w1656)) (H11 : Exa Z h0 w1656 "com/example/tranchebook/tranchebook/Cycle$Unit") (H12 : ¬ ((p1622 &&& (1 : Int32)) = (0 : Int32))) (H13 : ¬ (((p1621 &&& (2147483647 : Int32)) % (6 : Int32)) < (0 : Int32))) (H14 : ((p1621 &&& (2147483647 : Int32)) % (6 : Int32)) < (6 : Int32)) (H15 : ([(.ref w1624), (.ref w1632), (.ref w1638), (.ref w1644), (.ref w1650), (.ref w1656)] : List Value).getD (((p1621 &&& (2147483647 : Int32)) % (6 : Int32))).toNatClampNeg .null = (.ref a1681)) (H16 : Sta Z h0 "java/lang/String" "COMPACT_STRINGS" "Z" (.int w1702)) (H17 : ¬ (w1702 = (0 : Int32))) (H18 : Sta Z h0 "java/lang/Integer" "DigitOnes" "[B" (.ref w1704)) (H19 : Sta Z h0 "java/lang/Integer" "DigitTens" "[B" (.ref w1706)) (H20 : BA Z h0 w1704 k1708 .byte (100 : Int32) u1709) (H21 : BA Z h0 w1706 k1716 .byte (100 : Int32) u1717) (H22 : u1709 = (fun r => Int32.ofNat (48 + r % 10))) (H23 : u1717 = (fun r => Int32.ofNat (48 + r / 10))) (H24 : (Jvm.Cond.laysStatic "java/lang/Integer" "DigitOnes" "[B").before a0 Z = true) (H25 : (Jvm.Cond.laysStatic "java/lang/Integer" "DigitTens" "[B").before a0 Z = true) (H26 : Fld Z h0 a1681 "com/example/tranchebook/tranchebook/Cycle$Unit" "letter" "C" (.int w1724)) (H27 : nar .char w1724 = w1724) (H28 : Exa Z h0 a1681 "com/example/tranchebook/tranchebook/Cycle$Unit") (H29 : ¬ ((255 : Int32) < w1724)) (H30 : (w1724).toInt8.toInt32 = w1724) (H31 : ((Int32.ofNat (osz p1620 + 4)) >>> ((0 : Int32) &&& 31)) = ((Int32.ofNat (osz p1620)) + (4 : Int32))) (H32 : Sta Z h0 "jdk/internal/util/Preconditions" "SIOOBE_FORMATTER" "Ljava/util/function/BiFunction;" x1752) (H33 : (x1752).isRef = true) (H34 : (0 : Int32) < (Int32.ofNat (osz p1620 + 4))) (H35 : (oc8 ((otx p1620 w1724 48) ((0 : Int32)).toNatClampNeg)) = (80 : Int32)) (H36 : ¬ ((((Int32.ofNat (osz p1620 + 4)) >>> ((0 : Int32) &&& 31)) - (3 : Int32)) < (0 : Int32))) (H37 : (((Int32.ofNat (osz p1620 + 4)) >>> ((0 : Int32) &&& 31)) - (3 : Int32)) < (Int32.ofNat (osz p1620 + 4))) (H38 : (oc8 ((otx p1620 w1724 48) ((((Int32.ofNat (osz p1620 + 4)) >>> ((0 : Int32) &&& 31)) - (3 : Int32))).toNatClampNeg)) = ((fun i => if i = ((5 : Int32)).toNatClampNeg then (89 : Int32) else (fun i => if i = ((4 : Int32)).toNatClampNeg then (72 : Int32) else (fun i => if i = ((3 : Int32)).toNatClampNeg then (81 : Int32) else (fun i => if i = ((2 : Int32)).toNatClampNeg then (77 : Int32) else (fun i => if i = ((1 : Int32)).toNatClampNeg then (87 : Int32) else (fun i => if i = ((0 : Int32)).toNatClampNeg then (68 : Int32) else (fun _ => (0 : Int32)) i) i) i) i) i) i) (((p1621 &&& (2147483647 : Int32)) % (6 : Int32))).toNatClampNeg)) (H39 : ¬ ((((Int32.ofNat (osz p1620 + 4)) >>> ((0 : Int32) &&& 31)) - (2 : Int32)) < (0 : Int32))) (H40 : (((Int32.ofNat (osz p1620 + 4)) >>> ((0 : Int32) &&& 31)) - (2 : Int32)) < (Int32.ofNat (osz p1620 + 4))) (H41 : (oc8 ((otx p1620 w1724 48) ((((Int32.ofNat (osz p1620 + 4)) >>> ((0 : Int32) &&& 31)) - (2 : Int32))).toNatClampNeg)) = (76 : Int32)) (H42 : ¬ ((((Int32.ofNat (osz p1620 + 4)) >>> ((0 : Int32) &&& 31)) - (1 : Int32)) < (0 : Int32))) (H43 : (((Int32.ofNat (osz p1620 + 4)) >>> ((0 : Int32) &&& 31)) - (1 : Int32)) < (Int32.ofNat (osz p1620 + 4))) (H44 : (oc8 ((otx p1620 w1724 48) ((((Int32.ofNat (osz p1620 + 4)) >>> ((0 : Int32) &&& 31)) - (1 : Int32))).toNatClampNeg)) = (48 : Int32)) (H45 : (Int32.ofNat (osz p1620 + 4)) = Int32.ofNat (osz p1620 + 4)) (H46 : ∀ j, j < osz p1620 → ((otx p1620 w1724 48)) (1 + j) = otc p1620 j) :
   OMetH EL l Z x code maxLocals ret tables_1 room_1 h0 #[(.int p1620), (.int p1621), (.int p1622)] (OQl (some (.int (1 : Int32))) n0) := by
 refine MetFree.of_bodySF (plainFor_of_name pn_com_example_tranchebook_tranchebook_CycleToStringPinLaw) hisR ?_
 intro p e s m args below meth c s₁ Bd hml0 hP hK
 obtain ⟨rfl, hZ, hh, hCH⟩ := hP
 have hx := Bd.exec
 have hby := Bd.bytes
 have hml : c.maxLocals = 11 := hml0
 have hown : s.vm.findClass "com/example/tranchebook/tranchebook/CycleToStringPinLaw" = some m.cls := findClass_of_methodNamed Bd.named
 have hnm := (name_of_methodNamed Bd.named Bd.method).1
 have X0 : Stand p l e room_1 s m #[(.int p1620), (.int p1621), (.int p1622)] below meth c s₁ [] 0 0 := Stand.of_body Bd
 have e0 : s₁.heap = h0 := by rw [← hh, Bd.state]; rfl
 have N0 := Fr.nil n0
 have R0 : CHr Z EL s.vm h0 s.vm h0 := CHr.refl hCH
 have pre0 : ∀ t, Steps p.tables e below (s₁.setTop (mkF m 0 #[vI p1620, vI p1621, vI p1622, .unset, .unset, .unset, .unset, .unset, .unset, .unset, .unset] [])) t → Steps p.tables e below (s₁.setTop (entryFrame m #[(.int p1620), (.int p1621), (.int p1622)] maxLocals)) t := fun t k => castTop (ef_0_vvv m p1620 p1621 p1622) k
 obtain ⟨T1623, h1623, k1623, X1623, e1623, E1623, A1623, O1623, st1623⟩ := newR X0 hx hZ hown (tw hw 0 rfl) (tw hw 1 rfl) e0 (g := (mkF m 2 (la46 p1620 p1621 p1622) [(.int (6 : Int32))])) rfl (hb hby at_2) rfl (by decide) (cap := 6) (by decide) (by decide) (by decide) (by decide)
 obtain ⟨b1623, g1623⟩ : ∃ z, z = h0.size := ⟨_, rfl⟩
 rw [← g1623] at A1623 st1623
 have KC1623 := KSx.ext (KSx.refl h0 [] []) E1623
 have R1623 := CHr.trans R0 (CHr.ext E1623 R0.1)
 have V1623 : Arv Z h1623 b1623 k1623 (.object "com/example/tranchebook/tranchebook/Cycle$Unit") (6 : Int32) [.null, .null, .null, .null, .null, .null] .null := (Arv.new A1623 (by decide)).pad (pad_rep [] .null 6)
 have f1625 := (H0.ext E1623)
 obtain ⟨T1626, X1626, e1626, st1626⟩ := getS2 X1623 hx hZ hown (host := "") (Or.inl (tw hw 2 rfl)) Via.refl e1623 f1625 (g := (mkF m 7 (la46 p1620 p1621 p1622) [(.int (0 : Int32)), (.ref b1623), (.ref b1623)])) rfl (hb hby at_7)
 have vc1627 := V1623
 obtain ⟨cl1627, Ar1627, q1627, S1627, N1627, Hh1627, G1627⟩ := vc1627
 have hin1627 : ¬ ((0 : Int32) < 0 ∨ cl1627.slots.size ≤ ((0 : Int32)).toNatClampNeg) := inb_of S1627 ⟨(by decide), (by decide)⟩
 have g1628 : n0 ≤ b1623 := Nat.le_trans Z0 (Nat.le_of_eq g1623.symm)
 have f1629 := (H1.ext E1623)
 obtain ⟨T1630, h1630, X1630, e1630, W1630, st1630⟩ := stR X1626 hx hZ e1626 Ar1627 (j := (0 : Int32)) hin1627 rfl (Sto.ofV Ar1627 q1627 O1623 (Ins.self f1629)) (g := (mkF m 10 (la46 p1620 p1621 p1622) [(.ref w1624), (.int (0 : Int32)), (.ref b1623), (.ref b1623)])) rfl rfl (hb hby at_10)
 have V1630 : Arv Z h1630 b1623 k1623 (.object "com/example/tranchebook/tranchebook/Cycle$Unit") (6 : Int32) [(.ref w1624), .null, .null, .null, .null, .null] .null := Arv.set Ar1627 q1627 S1627 N1627 Hh1627 G1627 rfl W1630 0 rfl (Nat.le_of_ble_eq_true rfl)
 have z1631 : h0.size ≤ b1623 := Nat.le_trans (KSx.refl h0 [] []).1 (Nat.le_of_eq g1623.symm)
 have KC1630 := KSx.wrA KC1623 W1630 (Or.inr z1631)
 have R1630 := CHr.trans R1623 (CHr.wr W1630 (Safe.arv hZ.alike V1623 (by decide)) R1623.1)
 have N1630 := Fr.snoc X1630 N0 g1628
 have f1633 := ((H2.ext E1623).wr W1630)
 obtain ⟨T1634, X1634, e1634, st1634⟩ := getS2 X1630 hx hZ hown (host := "") (Or.inl (tw hw 6 rfl)) Via.refl e1630 f1633 (g := (mkF m 13 (la46 p1620 p1621 p1622) [(.int (1 : Int32)), (.ref b1623), (.ref b1623)])) rfl (hb hby at_13)
 have vc1635 := V1630
 obtain ⟨cl1635, Ar1635, q1635, S1635, N1635, Hh1635, G1635⟩ := vc1635
 have hin1635 : ¬ ((1 : Int32) < 0 ∨ cl1635.slots.size ≤ ((1 : Int32)).toNatClampNeg) := inb_of S1635 ⟨(by decide), (by decide)⟩
 have f1636 := ((H3.ext E1623).wr W1630)
 obtain ⟨T1637, h1637, X1637, e1637, W1637, st1637⟩ := stR X1634 hx hZ e1634 Ar1635 (j := (1 : Int32)) hin1635 rfl (Sto.ofV Ar1635 q1635 O1623 (Ins.self f1636)) (g := (mkF m 16 (la46 p1620 p1621 p1622) [(.ref w1632), (.int (1 : Int32)), (.ref b1623), (.ref b1623)])) rfl rfl (hb hby at_16)
 have V1637 : Arv Z h1637 b1623 k1623 (.object "com/example/tranchebook/tranchebook/Cycle$Unit") (6 : Int32) [(.ref w1624), (.ref w1632), .null, .null, .null, .null] .null := Arv.set Ar1635 q1635 S1635 N1635 Hh1635 G1635 rfl W1637 1 rfl (Nat.le_of_ble_eq_true rfl)
 have KC1637 := KSx.wrA KC1630 W1637 (Or.inr z1631)
 have R1637 := CHr.trans R1630 (CHr.wr W1637 (Safe.arv hZ.alike V1630 (by decide)) R1630.1)
 have N1637 := Fr.snoc X1637 N1630 g1628
 have f1639 := (((H4.ext E1623).wr W1630).wr W1637)
 obtain ⟨T1640, X1640, e1640, st1640⟩ := getS2 X1637 hx hZ hown (host := "") (Or.inl (tw hw 8 rfl)) Via.refl e1637 f1639 (g := (mkF m 19 (la46 p1620 p1621 p1622) [(.int (2 : Int32)), (.ref b1623), (.ref b1623)])) rfl (hb hby at_19)
 have vc1641 := V1637
 obtain ⟨cl1641, Ar1641, q1641, S1641, N1641, Hh1641, G1641⟩ := vc1641
 have hin1641 : ¬ ((2 : Int32) < 0 ∨ cl1641.slots.size ≤ ((2 : Int32)).toNatClampNeg) := inb_of S1641 ⟨(by decide), (by decide)⟩
 have f1642 := (((H5.ext E1623).wr W1630).wr W1637)
 obtain ⟨T1643, h1643, X1643, e1643, W1643, st1643⟩ := stR X1640 hx hZ e1640 Ar1641 (j := (2 : Int32)) hin1641 rfl (Sto.ofV Ar1641 q1641 O1623 (Ins.self f1642)) (g := (mkF m 22 (la46 p1620 p1621 p1622) [(.ref w1638), (.int (2 : Int32)), (.ref b1623), (.ref b1623)])) rfl rfl (hb hby at_22)
 have V1643 : Arv Z h1643 b1623 k1623 (.object "com/example/tranchebook/tranchebook/Cycle$Unit") (6 : Int32) [(.ref w1624), (.ref w1632), (.ref w1638), .null, .null, .null] .null := Arv.set Ar1641 q1641 S1641 N1641 Hh1641 G1641 rfl W1643 2 rfl (Nat.le_of_ble_eq_true rfl)
 have KC1643 := KSx.wrA KC1637 W1643 (Or.inr z1631)
 have R1643 := CHr.trans R1637 (CHr.wr W1643 (Safe.arv hZ.alike V1637 (by decide)) R1637.1)
 have N1643 := Fr.snoc X1643 N1637 g1628
 have f1645 := ((((H6.ext E1623).wr W1630).wr W1637).wr W1643)
 obtain ⟨T1646, X1646, e1646, st1646⟩ := getS2 X1643 hx hZ hown (host := "") (Or.inl (tw hw 10 rfl)) Via.refl e1643 f1645 (g := (mkF m 25 (la46 p1620 p1621 p1622) [(.int (3 : Int32)), (.ref b1623), (.ref b1623)])) rfl (hb hby at_25)
 have vc1647 := V1643
 obtain ⟨cl1647, Ar1647, q1647, S1647, N1647, Hh1647, G1647⟩ := vc1647
 have hin1647 : ¬ ((3 : Int32) < 0 ∨ cl1647.slots.size ≤ ((3 : Int32)).toNatClampNeg) := inb_of S1647 ⟨(by decide), (by decide)⟩
 have f1648 := ((((H7.ext E1623).wr W1630).wr W1637).wr W1643)
 obtain ⟨T1649, h1649, X1649, e1649, W1649, st1649⟩ := stR X1646 hx hZ e1646 Ar1647 (j := (3 : Int32)) hin1647 rfl (Sto.ofV Ar1647 q1647 O1623 (Ins.self f1648)) (g := (mkF m 28 (la46 p1620 p1621 p1622) [(.ref w1644), (.int (3 : Int32)), (.ref b1623), (.ref b1623)])) rfl rfl (hb hby at_28)
 have V1649 : Arv Z h1649 b1623 k1623 (.object "com/example/tranchebook/tranchebook/Cycle$Unit") (6 : Int32) [(.ref w1624), (.ref w1632), (.ref w1638), (.ref w1644), .null, .null] .null := Arv.set Ar1647 q1647 S1647 N1647 Hh1647 G1647 rfl W1649 3 rfl (Nat.le_of_ble_eq_true rfl)
 have KC1649 := KSx.wrA KC1643 W1649 (Or.inr z1631)
 have R1649 := CHr.trans R1643 (CHr.wr W1649 (Safe.arv hZ.alike V1643 (by decide)) R1643.1)
 have N1649 := Fr.snoc X1649 N1643 g1628
 have f1651 := (((((H8.ext E1623).wr W1630).wr W1637).wr W1643).wr W1649)
 obtain ⟨T1652, X1652, e1652, st1652⟩ := getS2 X1649 hx hZ hown (host := "") (Or.inl (tw hw 12 rfl)) Via.refl e1649 f1651 (g := (mkF m 31 (la46 p1620 p1621 p1622) [(.int (4 : Int32)), (.ref b1623), (.ref b1623)])) rfl (hb hby at_31)
 have vc1653 := V1649
 obtain ⟨cl1653, Ar1653, q1653, S1653, N1653, Hh1653, G1653⟩ := vc1653
 have hin1653 : ¬ ((4 : Int32) < 0 ∨ cl1653.slots.size ≤ ((4 : Int32)).toNatClampNeg) := inb_of S1653 ⟨(by decide), (by decide)⟩
 have f1654 := (((((H9.ext E1623).wr W1630).wr W1637).wr W1643).wr W1649)
 obtain ⟨T1655, h1655, X1655, e1655, W1655, st1655⟩ := stR X1652 hx hZ e1652 Ar1653 (j := (4 : Int32)) hin1653 rfl (Sto.ofV Ar1653 q1653 O1623 (Ins.self f1654)) (g := (mkF m 34 (la46 p1620 p1621 p1622) [(.ref w1650), (.int (4 : Int32)), (.ref b1623), (.ref b1623)])) rfl rfl (hb hby at_34)
 have V1655 : Arv Z h1655 b1623 k1623 (.object "com/example/tranchebook/tranchebook/Cycle$Unit") (6 : Int32) [(.ref w1624), (.ref w1632), (.ref w1638), (.ref w1644), (.ref w1650), .null] .null := Arv.set Ar1653 q1653 S1653 N1653 Hh1653 G1653 rfl W1655 4 rfl (Nat.le_of_ble_eq_true rfl)
 have KC1655 := KSx.wrA KC1649 W1655 (Or.inr z1631)
 have R1655 := CHr.trans R1649 (CHr.wr W1655 (Safe.arv hZ.alike V1649 (by decide)) R1649.1)
 have N1655 := Fr.snoc X1655 N1649 g1628
 have f1657 := ((((((H10.ext E1623).wr W1630).wr W1637).wr W1643).wr W1649).wr W1655)
 obtain ⟨T1658, X1658, e1658, st1658⟩ := getS2 X1655 hx hZ hown (host := "") (Or.inl (tw hw 14 rfl)) Via.refl e1655 f1657 (g := (mkF m 37 (la46 p1620 p1621 p1622) [(.int (5 : Int32)), (.ref b1623), (.ref b1623)])) rfl (hb hby at_37)
 have vc1659 := V1655
 obtain ⟨cl1659, Ar1659, q1659, S1659, N1659, Hh1659, G1659⟩ := vc1659
 have hin1659 : ¬ ((5 : Int32) < 0 ∨ cl1659.slots.size ≤ ((5 : Int32)).toNatClampNeg) := inb_of S1659 ⟨(by decide), (by decide)⟩
 have f1660 := ((((((H11.ext E1623).wr W1630).wr W1637).wr W1643).wr W1649).wr W1655)
 obtain ⟨T1661, h1661, X1661, e1661, W1661, st1661⟩ := stR X1658 hx hZ e1658 Ar1659 (j := (5 : Int32)) hin1659 rfl (Sto.ofV Ar1659 q1659 O1623 (Ins.self f1660)) (g := (mkF m 40 (la46 p1620 p1621 p1622) [(.ref w1656), (.int (5 : Int32)), (.ref b1623), (.ref b1623)])) rfl rfl (hb hby at_40)
 have V1661 : Arv Z h1661 b1623 k1623 (.object "com/example/tranchebook/tranchebook/Cycle$Unit") (6 : Int32) [(.ref w1624), (.ref w1632), (.ref w1638), (.ref w1644), (.ref w1650), (.ref w1656)] .null := Arv.set Ar1659 q1659 S1659 N1659 Hh1659 G1659 rfl W1661 5 rfl (Nat.le_of_ble_eq_true rfl)
 have KC1661 := KSx.wrA KC1655 W1661 (Or.inr z1631)
 have R1661 := CHr.trans R1655 (CHr.wr W1661 (Safe.arv hZ.alike V1655 (by decide)) R1655.1)
 have N1661 := Fr.snoc X1661 N1655 g1628
 obtain ⟨T1662, h1662, k1662, X1662, e1662, E1662, A1662, st1662⟩ := newP X1661 hx hZ (tw hw 16 rfl) e1661 (g := (mkF m 44 (la47 p1620 p1621 p1622 b1623) [(.int (6 : Int32))])) rfl (hb hby at_44) rfl (by decide) (cap := 6) (by decide) (by decide) (by decide) (by decide)
 obtain ⟨b1662, g1662⟩ : ∃ z, z = h1661.size := ⟨_, rfl⟩
 rw [← g1662] at A1662 st1662
 have KC1662 := KSx.ext KC1661 E1662
 have R1662 := CHr.trans R1661 (CHr.ext E1662 R1661.1)
 have B1662 : BA Z h1662 b1662 k1662 .char (6 : Int32) (fun _ => (0 : Int32)) := BA.new A1662 (by decide) rfl rfl
 have vc1663 := B1662
 obtain ⟨cl1663, Ar1663, q1663, S1663, N1663, Hh1663, G1663⟩ := vc1663
 have hin1663 : ¬ ((0 : Int32) < 0 ∨ cl1663.slots.size ≤ ((0 : Int32)).toNatClampNeg) := inb_of S1663 ⟨(by decide), (by decide)⟩
 have Z1623 : n0 ≤ h1623.size := Nat.le_trans Z0 E1623.1
 have Z1630 : n0 ≤ h1630.size := Nat.le_trans Z1623 (Nat.le_of_eq W1630.size.symm)
 have Z1637 : n0 ≤ h1637.size := Nat.le_trans Z1630 (Nat.le_of_eq W1637.size.symm)
 have Z1643 : n0 ≤ h1643.size := Nat.le_trans Z1637 (Nat.le_of_eq W1643.size.symm)
 have Z1649 : n0 ≤ h1649.size := Nat.le_trans Z1643 (Nat.le_of_eq W1649.size.symm)
 have Z1655 : n0 ≤ h1655.size := Nat.le_trans Z1649 (Nat.le_of_eq W1655.size.symm)
 have Z1661 : n0 ≤ h1661.size := Nat.le_trans Z1655 (Nat.le_of_eq W1661.size.symm)
 have g1664 : n0 ≤ b1662 := Nat.le_trans Z1661 (Nat.le_of_eq g1662.symm)
 obtain ⟨T1665, h1665, X1665, e1665, W1665, st1665⟩ := stC X1662 hx hZ e1662 Ar1663 (j := (0 : Int32)) hin1663 (g := (mkF m 50 (la47 p1620 p1621 p1622 b1623) [(.int (68 : Int32)), (.int (0 : Int32)), (.ref b1662), (.ref b1662)])) rfl rfl (hb hby at_50)
 have B1665 : BA Z h1665 b1662 k1662 .char (6 : Int32) (fun i => if i = ((0 : Int32)).toNatClampNeg then (68 : Int32) else (fun _ => (0 : Int32)) i) := BA.set B1662 W1665 (by decide)
 have z1666 : h0.size ≤ b1662 := Nat.le_trans KC1661.1 (Nat.le_of_eq g1662.symm)
 have KC1665 := KSx.wrA KC1662 W1665 (Or.inr z1666)
 have R1665 := CHr.trans R1662 (CHr.wr W1665 (own_safeB hZ.alike B1662 (by decide)) R1662.1)
 have N1665 := Fr.snoc X1665 N1661 g1664
 have vc1667 := B1665
 obtain ⟨cl1667, Ar1667, q1667, S1667, N1667, Hh1667, G1667⟩ := vc1667
 have hin1667 : ¬ ((1 : Int32) < 0 ∨ cl1667.slots.size ≤ ((1 : Int32)).toNatClampNeg) := inb_of S1667 ⟨(by decide), (by decide)⟩
 obtain ⟨T1668, h1668, X1668, e1668, W1668, st1668⟩ := stC X1665 hx hZ e1665 Ar1667 (j := (1 : Int32)) hin1667 (g := (mkF m 55 (la47 p1620 p1621 p1622 b1623) [(.int (87 : Int32)), (.int (1 : Int32)), (.ref b1662), (.ref b1662)])) rfl rfl (hb hby at_55)
 have B1668 : BA Z h1668 b1662 k1662 .char (6 : Int32) (fun i => if i = ((1 : Int32)).toNatClampNeg then (87 : Int32) else (fun i => if i = ((0 : Int32)).toNatClampNeg then (68 : Int32) else (fun _ => (0 : Int32)) i) i) := BA.set B1665 W1668 (by decide)
 have KC1668 := KSx.wrA KC1665 W1668 (Or.inr z1666)
 have R1668 := CHr.trans R1665 (CHr.wr W1668 (own_safeB hZ.alike B1665 (by decide)) R1665.1)
 have N1668 := Fr.snoc X1668 N1665 g1664
 have vc1669 := B1668
 obtain ⟨cl1669, Ar1669, q1669, S1669, N1669, Hh1669, G1669⟩ := vc1669
 have hin1669 : ¬ ((2 : Int32) < 0 ∨ cl1669.slots.size ≤ ((2 : Int32)).toNatClampNeg) := inb_of S1669 ⟨(by decide), (by decide)⟩
 obtain ⟨T1670, h1670, X1670, e1670, W1670, st1670⟩ := stC X1668 hx hZ e1668 Ar1669 (j := (2 : Int32)) hin1669 (g := (mkF m 60 (la47 p1620 p1621 p1622 b1623) [(.int (77 : Int32)), (.int (2 : Int32)), (.ref b1662), (.ref b1662)])) rfl rfl (hb hby at_60)
 have B1670 : BA Z h1670 b1662 k1662 .char (6 : Int32) (fun i => if i = ((2 : Int32)).toNatClampNeg then (77 : Int32) else (fun i => if i = ((1 : Int32)).toNatClampNeg then (87 : Int32) else (fun i => if i = ((0 : Int32)).toNatClampNeg then (68 : Int32) else (fun _ => (0 : Int32)) i) i) i) := BA.set B1668 W1670 (by decide)
 have KC1670 := KSx.wrA KC1668 W1670 (Or.inr z1666)
 have R1670 := CHr.trans R1668 (CHr.wr W1670 (own_safeB hZ.alike B1668 (by decide)) R1668.1)
 have N1670 := Fr.snoc X1670 N1668 g1664
 have vc1671 := B1670
 obtain ⟨cl1671, Ar1671, q1671, S1671, N1671, Hh1671, G1671⟩ := vc1671
 have hin1671 : ¬ ((3 : Int32) < 0 ∨ cl1671.slots.size ≤ ((3 : Int32)).toNatClampNeg) := inb_of S1671 ⟨(by decide), (by decide)⟩
 obtain ⟨T1672, h1672, X1672, e1672, W1672, st1672⟩ := stC X1670 hx hZ e1670 Ar1671 (j := (3 : Int32)) hin1671 (g := (mkF m 65 (la47 p1620 p1621 p1622 b1623) [(.int (81 : Int32)), (.int (3 : Int32)), (.ref b1662), (.ref b1662)])) rfl rfl (hb hby at_65)
 have B1672 : BA Z h1672 b1662 k1662 .char (6 : Int32) (fun i => if i = ((3 : Int32)).toNatClampNeg then (81 : Int32) else (fun i => if i = ((2 : Int32)).toNatClampNeg then (77 : Int32) else (fun i => if i = ((1 : Int32)).toNatClampNeg then (87 : Int32) else (fun i => if i = ((0 : Int32)).toNatClampNeg then (68 : Int32) else (fun _ => (0 : Int32)) i) i) i) i) := BA.set B1670 W1672 (by decide)
 have KC1672 := KSx.wrA KC1670 W1672 (Or.inr z1666)
 have R1672 := CHr.trans R1670 (CHr.wr W1672 (own_safeB hZ.alike B1670 (by decide)) R1670.1)
 have N1672 := Fr.snoc X1672 N1670 g1664
 have vc1673 := B1672
 obtain ⟨cl1673, Ar1673, q1673, S1673, N1673, Hh1673, G1673⟩ := vc1673
 have hin1673 : ¬ ((4 : Int32) < 0 ∨ cl1673.slots.size ≤ ((4 : Int32)).toNatClampNeg) := inb_of S1673 ⟨(by decide), (by decide)⟩
 obtain ⟨T1674, h1674, X1674, e1674, W1674, st1674⟩ := stC X1672 hx hZ e1672 Ar1673 (j := (4 : Int32)) hin1673 (g := (mkF m 70 (la47 p1620 p1621 p1622 b1623) [(.int (72 : Int32)), (.int (4 : Int32)), (.ref b1662), (.ref b1662)])) rfl rfl (hb hby at_70)
 have B1674 : BA Z h1674 b1662 k1662 .char (6 : Int32) (fun i => if i = ((4 : Int32)).toNatClampNeg then (72 : Int32) else (fun i => if i = ((3 : Int32)).toNatClampNeg then (81 : Int32) else (fun i => if i = ((2 : Int32)).toNatClampNeg then (77 : Int32) else (fun i => if i = ((1 : Int32)).toNatClampNeg then (87 : Int32) else (fun i => if i = ((0 : Int32)).toNatClampNeg then (68 : Int32) else (fun _ => (0 : Int32)) i) i) i) i) i) := BA.set B1672 W1674 (by decide)
 have KC1674 := KSx.wrA KC1672 W1674 (Or.inr z1666)
 have R1674 := CHr.trans R1672 (CHr.wr W1674 (own_safeB hZ.alike B1672 (by decide)) R1672.1)
 have N1674 := Fr.snoc X1674 N1672 g1664
 have vc1675 := B1674
 obtain ⟨cl1675, Ar1675, q1675, S1675, N1675, Hh1675, G1675⟩ := vc1675
 have hin1675 : ¬ ((5 : Int32) < 0 ∨ cl1675.slots.size ≤ ((5 : Int32)).toNatClampNeg) := inb_of S1675 ⟨(by decide), (by decide)⟩
 obtain ⟨T1676, h1676, X1676, e1676, W1676, st1676⟩ := stC X1674 hx hZ e1674 Ar1675 (j := (5 : Int32)) hin1675 (g := (mkF m 75 (la47 p1620 p1621 p1622 b1623) [(.int (89 : Int32)), (.int (5 : Int32)), (.ref b1662), (.ref b1662)])) rfl rfl (hb hby at_75)
 have B1676 : BA Z h1676 b1662 k1662 .char (6 : Int32) (fun i => if i = ((5 : Int32)).toNatClampNeg then (89 : Int32) else (fun i => if i = ((4 : Int32)).toNatClampNeg then (72 : Int32) else (fun i => if i = ((3 : Int32)).toNatClampNeg then (81 : Int32) else (fun i => if i = ((2 : Int32)).toNatClampNeg then (77 : Int32) else (fun i => if i = ((1 : Int32)).toNatClampNeg then (87 : Int32) else (fun i => if i = ((0 : Int32)).toNatClampNeg then (68 : Int32) else (fun _ => (0 : Int32)) i) i) i) i) i) i) := BA.set B1674 W1676 (by decide)
 have KC1676 := KSx.wrA KC1674 W1676 (Or.inr z1666)
 have R1676 := CHr.trans R1674 (CHr.wr W1676 (own_safeB hZ.alike B1674 (by decide)) R1674.1)
 have N1676 := Fr.snoc X1676 N1674 g1664
 obtain ⟨T1677, h1677, X1677, e1677, E1677, A1677, D1677, -, st1677⟩ := newO X1676 hx hZ hown (tw hw 18 rfl) (tw hw 19 rfl) (tw hw 20 rfl) e1676 (g := (mkF m 100 (la50 p1620 p1621 p1622 b1623 b1662) [])) rfl (hb hby at_100) (by decide) (by decide)
 obtain ⟨b1677, g1677⟩ : ∃ z, z = h1676.size := ⟨_, rfl⟩
 rw [← g1677] at A1677 D1677 st1677
 have KC1677 := KSx.ext KC1676 E1677
 have R1677 := CHr.trans R1676 (CHr.ext E1677 R1676.1)
 have ne1678 : b1623 ≠ b1662 := (Nat.ne_of_lt (Nat.lt_of_lt_of_le (V1661).lt (Nat.le_of_eq g1662.symm)))
 have f1679 := ((((((((V1661.ext E1662).other W1665 ne1678).other W1668 ne1678).other W1670 ne1678).other W1672 ne1678).other W1674 ne1678).other W1676 ne1678).ext E1677)
 have vc1680 := f1679
 obtain ⟨cl1680, Ar1680, q1680, S1680, N1680, Hh1680, G1680⟩ := vc1680
 have hin1680 : ¬ (((p1621 &&& (2147483647 : Int32)) % (6 : Int32)) < 0 ∨ cl1680.slots.size ≤ (((p1621 &&& (2147483647 : Int32)) % (6 : Int32))).toNatClampNeg) := inb_of S1680 ⟨H13, H14⟩
 have hat1680 : cl1680.slots[(((p1621 &&& (2147483647 : Int32)) % (6 : Int32))).toNatClampNeg]? = some (.ref a1681) := Has.at Hh1680 hin1680 H15
 have Z1662 : n0 ≤ h1662.size := Nat.le_trans Z1661 E1662.1
 have Z1665 : n0 ≤ h1665.size := Nat.le_trans Z1662 (Nat.le_of_eq W1665.size.symm)
 have Z1668 : n0 ≤ h1668.size := Nat.le_trans Z1665 (Nat.le_of_eq W1668.size.symm)
 have Z1670 : n0 ≤ h1670.size := Nat.le_trans Z1668 (Nat.le_of_eq W1670.size.symm)
 have Z1672 : n0 ≤ h1672.size := Nat.le_trans Z1670 (Nat.le_of_eq W1672.size.symm)
 have Z1674 : n0 ≤ h1674.size := Nat.le_trans Z1672 (Nat.le_of_eq W1674.size.symm)
 have Z1676 : n0 ≤ h1676.size := Nat.le_trans Z1674 (Nat.le_of_eq W1676.size.symm)
 have g1699 : n0 ≤ b1677 := Nat.le_trans Z1676 (Nat.le_of_eq g1677.symm)
 have Z1677 : n0 ≤ h1677.size := Nat.le_trans Z1676 E1677.1
 obtain ⟨_, _, ⟨T1698, L1698, k1698, n1698⟩, -, X1698, ⟨Lc1698, hQ1698, l1698, y1698, z1698⟩, st1698⟩ := X1677.specialBack hx (y := mN41) rfl hown (mvT hZ (tw hw 21 rfl)) (mvT hZ (tw hw 22 rfl)) (mvT hZ (tw hw 23 rfl)) (by decide) (backOf (W := 1) (r1_1 l Z a0 hw b1677 p1620 a1681 (1 : Int32) (0 : Int32) (0 : Int32) h1677 n0 Z1677 A1677 (D1677 (Or.inr (tw hw 28 rfl)) (ty := .int) (by decide)) g1699 (D1677 (Or.inr (tw hw 30 rfl)) (ty := (.object "com/example/tranchebook/tranchebook/Cycle$Unit")) (by decide)) (D1677 (Or.inr (tw hw 32 rfl)) (ty := .boolean) (by decide)) (by first | decide | rfl) (by first | decide | rfl)) hZ (tw hw 23 rfl) (tw hw 20 rfl) (by decide) (by decide)) (g := (mkF m 111 (la50 p1620 p1621 p1622 b1623 b1662) [(.int (1 : Int32)), (.ref a1681), (.int p1620), (.ref b1677), (.ref b1677)])) rfl (by rw [hml]; rfl) (Steps.refl _) (a := b1677) (argsL := [(.int p1620), (.ref a1681), (.int (1 : Int32))]) (rest := [(.ref b1677)]) (lenOf pd_31 rfl) rfl (own_w _) (hb hby at_111) (fun _ _ => ⟨rfl, e1677, (by decide : 3 + 0 ≤ _), (by decide : 15 + 0 ≤ _)⟩)
 dsimp only [Pt.U, Pt.locs, Pt.cells, Pt.slots] at X1698 l1698 y1698 z1698 st1698 hQ1698
 replace X1698 := own_mvX X1698 (a := 3) (b := 15) y1698 z1698
 obtain ⟨N1698q, rfl, K1698, o1698_0, o1698_1, o1698_2⟩ := hQ1698
 have N1698 := own_mvN l1698 N1676 N1698q
 have z1700 : h0.size ≤ b1677 := Nat.le_trans KC1676.1 (Nat.le_of_eq g1677.symm)
 have KC1698 := KSx.trans KC1677 K1698 (ksS (Or.inr z1700) (ksS (Or.inr z1700) (ksS (Or.inr z1700) ks0))) all0
 have R1698 := CHr.trans R1677 (CHr.ks K1698 (ksS (Safe.exa hZ.alike A1677 (by decide) (by decide)) (ksS (Safe.exa hZ.alike A1677 (by decide) (by decide)) (ksS (Safe.exa hZ.alike A1677 (by decide) (by decide)) ks0))) all0 R1677.1)
 have f1703 := ((((((((((((((((H16.ext E1623).wr W1630).wr W1637).wr W1643).wr W1649).wr W1655).wr W1661).ext E1662).wr W1665).wr W1668).wr W1670).wr W1672).wr W1674).wr W1676).ext E1677).ks K1698)
 have f1705 := ((((((((((((((((H18.ext E1623).wr W1630).wr W1637).wr W1643).wr W1649).wr W1655).wr W1661).ext E1662).wr W1665).wr W1668).wr W1670).wr W1672).wr W1674).wr W1676).ext E1677).ks K1698)
 have f1707 := ((((((((((((((((H19.ext E1623).wr W1630).wr W1637).wr W1643).wr W1649).wr W1655).wr W1661).ext E1662).wr W1665).wr W1668).wr W1670).wr W1672).wr W1674).wr W1676).ext E1677).ks K1698)
 have ne1710 : w1704 ≠ b1623 := (Nat.ne_of_lt (Nat.lt_of_lt_of_le (H20).lt (Nat.le_of_eq g1623.symm)))
 have f1711 := (((((((H20.ext E1623).other W1630 ne1710).other W1637 ne1710).other W1643 ne1710).other W1649 ne1710).other W1655 ne1710).other W1661 ne1710)
 have ne1712 : w1704 ≠ b1662 := (Nat.ne_of_lt (Nat.lt_of_lt_of_le (f1711).lt (Nat.le_of_eq g1662.symm)))
 have f1713 := (((((((f1711.ext E1662).other W1665 ne1712).other W1668 ne1712).other W1670 ne1712).other W1672 ne1712).other W1674 ne1712).other W1676 ne1712)
 have ne1714 : w1704 ≠ b1677 := (Nat.ne_of_lt (Nat.lt_of_lt_of_le (f1713).lt (Nat.le_of_eq g1677.symm)))
 have f1715 := ((((((((((((((((H20.ext E1623).other W1630 ne1710).other W1637 ne1710).other W1643 ne1710).other W1649 ne1710).other W1655 ne1710).other W1661 ne1710).ext E1662).other W1665 ne1712).other W1668 ne1712).other W1670 ne1712).other W1672 ne1712).other W1674 ne1712).other W1676 ne1712).ext E1677).ks K1698 (ksS ne1714 (ksS ne1714 (ksS ne1714 ks0))) all0)
 have ne1718 : w1706 ≠ b1623 := (Nat.ne_of_lt (Nat.lt_of_lt_of_le (H21).lt (Nat.le_of_eq g1623.symm)))
 have f1719 := (((((((H21.ext E1623).other W1630 ne1718).other W1637 ne1718).other W1643 ne1718).other W1649 ne1718).other W1655 ne1718).other W1661 ne1718)
 have ne1720 : w1706 ≠ b1662 := (Nat.ne_of_lt (Nat.lt_of_lt_of_le (f1719).lt (Nat.le_of_eq g1662.symm)))
 have f1721 := (((((((f1719.ext E1662).other W1665 ne1720).other W1668 ne1720).other W1670 ne1720).other W1672 ne1720).other W1674 ne1720).other W1676 ne1720)
 have ne1722 : w1706 ≠ b1677 := (Nat.ne_of_lt (Nat.lt_of_lt_of_le (f1721).lt (Nat.le_of_eq g1677.symm)))
 have f1723 := ((((((((((((((((H21.ext E1623).other W1630 ne1718).other W1637 ne1718).other W1643 ne1718).other W1649 ne1718).other W1655 ne1718).other W1661 ne1718).ext E1662).other W1665 ne1720).other W1668 ne1720).other W1670 ne1720).other W1672 ne1720).other W1674 ne1720).other W1676 ne1720).ext E1677).ks K1698 (ksS ne1722 (ksS ne1722 (ksS ne1722 ks0))) all0)
 have ne1725 : a1681 ≠ b1623 := (Nat.ne_of_lt (Nat.lt_of_lt_of_le (H26).lt (Nat.le_of_eq g1623.symm)))
 have f1726 := (((((((H26.ext E1623).other W1630 (Or.inl ne1725)).other W1637 (Or.inl ne1725)).other W1643 (Or.inl ne1725)).other W1649 (Or.inl ne1725)).other W1655 (Or.inl ne1725)).other W1661 (Or.inl ne1725))
 have ne1727 : a1681 ≠ b1662 := (Nat.ne_of_lt (Nat.lt_of_lt_of_le (f1726).lt (Nat.le_of_eq g1662.symm)))
 have f1728 := (((((((f1726.ext E1662).other W1665 (Or.inl ne1727)).other W1668 (Or.inl ne1727)).other W1670 (Or.inl ne1727)).other W1672 (Or.inl ne1727)).other W1674 (Or.inl ne1727)).other W1676 (Or.inl ne1727))
 have ne1729 : a1681 ≠ b1677 := (Nat.ne_of_lt (Nat.lt_of_lt_of_le (f1728).lt (Nat.le_of_eq g1677.symm)))
 have f1730 := ((((((((((((((((H26.ext E1623).other W1630 (Or.inl ne1725)).other W1637 (Or.inl ne1725)).other W1643 (Or.inl ne1725)).other W1649 (Or.inl ne1725)).other W1655 (Or.inl ne1725)).other W1661 (Or.inl ne1725)).ext E1662).other W1665 (Or.inl ne1727)).other W1668 (Or.inl ne1727)).other W1670 (Or.inl ne1727)).other W1672 (Or.inl ne1727)).other W1674 (Or.inl ne1727)).other W1676 (Or.inl ne1727)).ext E1677).ks K1698 (ksS (Or.inl ne1729) (ksS (Or.inl ne1729) (ksS (Or.inl ne1729) ks0))) all0)
 have f1731 := ((((((((((((((((H28.ext E1623).wr W1630).wr W1637).wr W1643).wr W1649).wr W1655).wr W1661).ext E1662).wr W1665).wr W1668).wr W1670).wr W1672).wr W1674).wr W1676).ext E1677).ks K1698)
 have Z1698 : n0 ≤ T1698.heap.size := Nat.le_trans Z1677 K1698.1
 have f1732 := (A1677.ks K1698)
 obtain ⟨cq1701, kq1701, q1701a, q1701b, q1701c⟩ := isOf hZ rfl f1732
 obtain ⟨_, _, ⟨T1701, L1701, k1701, n1701⟩, -, X1701, hs1701, hg1701, ⟨Lc1701, hQ1701, l1701, y1701, z1701, ch1701⟩, st1701⟩ := X1698.virtualBackS hx (y := mN40) (z := mN40) hown (mvT hZ (tw hw 33 rfl)) (mvT hZ (tw hw 34 rfl)) (notFace_of_selects (args := #[]) (mvT hZ (tw hw 36 rfl))) (mvT hZ (tw hw 36 rfl)) (mvT hZ (tw hw 35 rfl)) (by decide) (backOfSH (s := s) (vm0 := s.vm) (W := 0) (own_ts1 l Z a0 hw b1677 w1702 p1620 w1704 w1706 k1708 u1709 k1716 u1717 a1681 w1724 (1 : Int32) T1698.heap n0 Z1698 f1703 H17 o1698_0 f1705 f1707 f1715 f1723 H22 H23 H24 H25 o1698_1 f1730 H27 f1731 H29 o1698_2 (by first | decide | rfl) H30) hZ (tw hw 37 rfl) (tw hw 20 rfl) (by decide) (by decide) (el_ok hw) R1698.1) q1701a q1701c (g := (mkF m 118 (la51 p1620 p1621 p1622 b1623 b1662 b1677) [(.ref b1677)])) rfl (by rw [hml]; rfl) (Steps.refl _) (argsL := []) (rest := []) (lenOf pd_30 rfl) rfl (own_w _) (hb hby at_118) (fun _ _ => ⟨rfl, rfl, (by decide : 3 + 8 ≤ _), (by decide : 15 + 56 ≤ _)⟩)
 dsimp only [Pt.U, Pt.locs, Pt.cells, Pt.slots] at X1701 l1701 y1701 z1701 st1701 hQ1701 hs1701 hg1701
 replace X1701 := own_mvX X1701 (a := 11) (b := 71) y1701 z1701
 obtain ⟨N1701q, b1701_0, b1701_1, k1701_0, rfl, ge_b1701_0, ge_b1701_1, K1701, o1701_0, o1701_1, o1701_2, o1701_3⟩ := hQ1701
 have N1701 := own_mvN l1701 N1698 N1701q
 have KC1701 := KSx.trans KC1698 K1701 ks0 all0
 have R1701 := CHr.trans R1698 ch1701
 have hS1701 : s.Since T1701.vm T1701.heap.size := hs1701
 have hZ1701 : Z.Warmed39 (s.setVm T1701.vm).vm := State.Warmed39.trans (t := s) hZ hs1701.1
 have ho1701 : (s.setVm T1701.vm).vm.findClass "com/example/tranchebook/tranchebook/CycleToStringPinLaw" = some m.cls := by rw [show (s.setVm T1701.vm).vm = T1701.vm from rfl, hs1701.1.alike.findClass]; exact hown
 replace X1701 : Stand p l e room_1 (s.setVm T1701.vm) m #[(.int p1620), (.int p1621), (.int p1622)] below meth c T1701 _ _ _ := X1701
 have Z1701 : n0 ≤ T1701.heap.size := Nat.le_trans Z1698 K1701.1
 obtain ⟨_, _, ⟨T1733, L1733, k1733, n1733⟩, -, X1733, ⟨Lc1733, hQ1733, l1733, y1733, z1733⟩, st1733⟩ := Jvm.LawKit.callS X1701 hx (y := mN8) ho1701 (mvT hZ1701 (tw hw 200 rfl)) (mvT hZ1701 (tw hw 201 rfl)) (mvT hZ1701 (tw hw 202 rfl)) (mvT hZ1701 (tw hw 203 rfl)) (by decide) (backOf (W := 0) (own_ml l Z a0 hw p1620 T1701.heap n0 Z1701) hZ1701 (tw hw 203 rfl) (tw hw 202 rfl) (by decide) (by decide)) (g := (mkF m 124 (la52 p1620 p1621 p1622 b1623 b1662 b1677 b1701_0) [(.int p1620)])) rfl (by rw [hml]; rfl) (argsL := [(.int p1620)]) (rest := []) (lenOf pd_17 rfl) rfl (own_w _) (hb hby at_124) (fun _ _ => ⟨rfl, rfl, (by decide : 11 + 0 ≤ _), (by decide : 71 + 0 ≤ _)⟩)
 dsimp only [Pt.U, Pt.locs, Pt.cells, Pt.slots] at X1733 l1733 y1733 z1733 st1733 hQ1733
 replace X1733 := own_mvX X1733 (a := 11) (b := 71) y1733 z1733
 obtain ⟨rfl, N1733q, e1733⟩ := hQ1733
 have N1733 := own_mvN l1733 N1701 N1733q
 have f1750 := (f1703.ks K1701)
 obtain ⟨cq1749, kq1749, q1749a, q1749b, q1749c⟩ := isOf hZ1701 e1733 o1701_0
 obtain ⟨_, _, ⟨T1749, L1749, k1749, n1749⟩, -, X1749, ⟨Lc1749, hQ1749, l1749, y1749, z1749⟩, st1749⟩ := X1733.virtualBack hx (y := mN14) (z := mN14) ho1701 (mvT hZ1701 (tw hw 219 rfl)) (mvT hZ1701 (tw hw 75 rfl)) (notFace_of_selects (args := #[]) (mvT hZ1701 (tw hw 77 rfl))) (mvT hZ1701 (tw hw 77 rfl)) (mvT hZ1701 (tw hw 76 rfl)) (by decide) (backOf (W := 0) (r8_2 l Z a0 hw b1701_0 b1701_1 k1701_0 (otx p1620 w1724 48) (Int32.ofNat (osz p1620 + 4)) w1702 (0 : Int32) T1701.heap n0 Z1701 o1701_1 o1701_3 f1750 H17 o1701_2 (by first | decide | rfl) o1701_0) hZ1701 (tw hw 78 rfl) (tw hw 52 rfl) (by decide) (by decide)) q1749a q1749c (g := (mkF m 131 (la53 p1620 p1621 p1622 b1623 b1662 b1677 b1701_0) [(.ref b1701_0)])) rfl (by rw [hml]; rfl) (Steps.refl _) (argsL := []) (rest := []) (lenOf pd_11 rfl) rfl (own_w _) (hb hby at_131) (fun _ _ => ⟨rfl, e1733, (by decide : 11 + 0 ≤ _), (by decide : 71 + 0 ≤ _)⟩)
 dsimp only [Pt.U, Pt.locs, Pt.cells, Pt.slots] at X1749 l1749 y1749 z1749 st1749 hQ1749
 replace X1749 := own_mvX X1749 (a := 11) (b := 71) y1749 z1749
 obtain ⟨rfl, N1749q, e1749⟩ := hQ1749
 have N1749 := own_mvN l1749 N1733 N1749q
 have f1753 := (((((((((((((((((H32.ext E1623).wr W1630).wr W1637).wr W1643).wr W1649).wr W1655).wr W1661).ext E1662).wr W1665).wr W1668).wr W1670).wr W1672).wr W1674).wr W1676).ext E1677).ks K1698).ks K1701)
 obtain ⟨cq1751, kq1751, q1751a, q1751b, q1751c⟩ := isOf hZ1701 e1749 o1701_0
 obtain ⟨_, _, ⟨T1751, L1751, k1751, n1751⟩, -, X1751, ⟨Lc1751, hQ1751, l1751, y1751, z1751⟩, st1751⟩ := X1749.virtualBack hx (y := mN6) (z := mN6) ho1701 (mvT hZ1701 (tw hw 220 rfl)) (mvT hZ1701 (tw hw 221 rfl)) (notFace_of_selects (args := #[]) (mvT hZ1701 (tw hw 223 rfl))) (mvT hZ1701 (tw hw 223 rfl)) (mvT hZ1701 (tw hw 222 rfl)) (by decide) (backOf (W := 0) (own_ch l Z a0 hw b1701_0 w1702 (0 : Int32) b1701_1 k1701_0 (Int32.ofNat (osz p1620 + 4)) (otx p1620 w1724 48) x1752 (0 : Int32) T1701.heap n0 Z1701 f1750 H17 o1701_2 rfl o1701_0 o1701_1 o1701_3 f1753 H33 (by first | decide | rfl) H34) hZ1701 (tw hw 224 rfl) (tw hw 52 rfl) (by decide) (by decide)) q1751a q1751c (g := (mkF m 150 (la54 p1620 p1621 p1622 b1623 b1662 b1677 b1701_0) [(.int (0 : Int32)), (.ref b1701_0)])) rfl (by rw [hml]; rfl) (Steps.refl _) (argsL := [(.int (0 : Int32))]) (rest := []) (lenOf pd_6 rfl) rfl (own_w _) (hb hby at_150) (fun _ _ => ⟨rfl, e1749, (by decide : 11 + 0 ≤ _), (by decide : 71 + 0 ≤ _)⟩)
 dsimp only [Pt.U, Pt.locs, Pt.cells, Pt.slots] at X1751 l1751 y1751 z1751 st1751 hQ1751
 replace X1751 := own_mvX X1751 (a := 11) (b := 71) y1751 z1751
 obtain ⟨rfl, N1751q, e1751⟩ := hQ1751
 have N1751 := own_mvN l1751 N1749 N1751q
 obtain ⟨cq1754, kq1754, q1754a, q1754b, q1754c⟩ := isOf hZ1701 e1751 o1701_0
 obtain ⟨_, _, ⟨T1754, L1754, k1754, n1754⟩, -, X1754, ⟨Lc1754, hQ1754, l1754, y1754, z1754⟩, st1754⟩ := X1751.virtualBack hx (y := mN6) (z := mN6) ho1701 (mvT hZ1701 (tw hw 220 rfl)) (mvT hZ1701 (tw hw 221 rfl)) (notFace_of_selects (args := #[]) (mvT hZ1701 (tw hw 223 rfl))) (mvT hZ1701 (tw hw 223 rfl)) (mvT hZ1701 (tw hw 222 rfl)) (by decide) (backOf (W := 0) (own_ch l Z a0 hw b1701_0 w1702 (0 : Int32) b1701_1 k1701_0 (Int32.ofNat (osz p1620 + 4)) (otx p1620 w1724 48) x1752 (((Int32.ofNat (osz p1620 + 4)) >>> ((0 : Int32) &&& 31)) - (3 : Int32)) T1701.heap n0 Z1701 f1750 H17 o1701_2 rfl o1701_0 o1701_1 o1701_3 f1753 H33 H36 H37) hZ1701 (tw hw 224 rfl) (tw hw 52 rfl) (by decide) (by decide)) q1754a q1754c (g := (mkF m 166 (la54 p1620 p1621 p1622 b1623 b1662 b1677 b1701_0) [(.int (((Int32.ofNat (osz p1620 + 4)) >>> ((0 : Int32) &&& 31)) - (3 : Int32))), (.ref b1701_0)])) rfl (by rw [hml]; rfl) (Steps.refl _) (argsL := [(.int (((Int32.ofNat (osz p1620 + 4)) >>> ((0 : Int32) &&& 31)) - (3 : Int32)))]) (rest := []) (lenOf pd_6 rfl) rfl (own_w _) (hb hby at_166) (fun _ _ => ⟨rfl, e1751, (by decide : 11 + 0 ≤ _), (by decide : 71 + 0 ≤ _)⟩)
 dsimp only [Pt.U, Pt.locs, Pt.cells, Pt.slots] at X1754 l1754 y1754 z1754 st1754 hQ1754
 replace X1754 := own_mvX X1754 (a := 11) (b := 71) y1754 z1754
 obtain ⟨rfl, N1754q, e1754⟩ := hQ1754
 have N1754 := own_mvN l1754 N1751 N1754q
 have ne1755 : b1662 ≠ b1677 := (Nat.ne_of_lt (Nat.lt_of_lt_of_le (B1676).lt (Nat.le_of_eq g1677.symm)))
 have f1756 := (((B1676.ext E1677).ks K1698 (ksS ne1755 (ksS ne1755 (ksS ne1755 ks0))) all0).ks K1701 ks0 all0)
 have vc1757 := f1756
 obtain ⟨cl1757, Ar1757, q1757, S1757, N1757, Hh1757, G1757⟩ := vc1757
 have hin1757 : ¬ (((p1621 &&& (2147483647 : Int32)) % (6 : Int32)) < 0 ∨ cl1757.slots.size ≤ (((p1621 &&& (2147483647 : Int32)) % (6 : Int32))).toNatClampNeg) := inb_of S1757 ⟨H13, H14⟩
 have hat1757 : cl1757.slots[(((p1621 &&& (2147483647 : Int32)) % (6 : Int32))).toNatClampNeg]? = some (.int ((fun i => if i = ((5 : Int32)).toNatClampNeg then (89 : Int32) else (fun i => if i = ((4 : Int32)).toNatClampNeg then (72 : Int32) else (fun i => if i = ((3 : Int32)).toNatClampNeg then (81 : Int32) else (fun i => if i = ((2 : Int32)).toNatClampNeg then (77 : Int32) else (fun i => if i = ((1 : Int32)).toNatClampNeg then (87 : Int32) else (fun i => if i = ((0 : Int32)).toNatClampNeg then (68 : Int32) else (fun _ => (0 : Int32)) i) i) i) i) i) i) (((p1621 &&& (2147483647 : Int32)) % (6 : Int32))).toNatClampNeg)) := Hh1757 _ (Nat.lt_of_not_le fun y => hin1757 (Or.inr y))
 obtain ⟨cq1758, kq1758, q1758a, q1758b, q1758c⟩ := isOf hZ1701 e1754 o1701_0
 obtain ⟨_, _, ⟨T1758, L1758, k1758, n1758⟩, -, X1758, ⟨Lc1758, hQ1758, l1758, y1758, z1758⟩, st1758⟩ := X1754.virtualBack hx (y := mN6) (z := mN6) ho1701 (mvT hZ1701 (tw hw 220 rfl)) (mvT hZ1701 (tw hw 221 rfl)) (notFace_of_selects (args := #[]) (mvT hZ1701 (tw hw 223 rfl))) (mvT hZ1701 (tw hw 223 rfl)) (mvT hZ1701 (tw hw 222 rfl)) (by decide) (backOf (W := 0) (own_ch l Z a0 hw b1701_0 w1702 (0 : Int32) b1701_1 k1701_0 (Int32.ofNat (osz p1620 + 4)) (otx p1620 w1724 48) x1752 (((Int32.ofNat (osz p1620 + 4)) >>> ((0 : Int32) &&& 31)) - (2 : Int32)) T1701.heap n0 Z1701 f1750 H17 o1701_2 rfl o1701_0 o1701_1 o1701_3 f1753 H33 H39 H40) hZ1701 (tw hw 224 rfl) (tw hw 52 rfl) (by decide) (by decide)) q1758a q1758c (g := (mkF m 185 (la54 p1620 p1621 p1622 b1623 b1662 b1677 b1701_0) [(.int (((Int32.ofNat (osz p1620 + 4)) >>> ((0 : Int32) &&& 31)) - (2 : Int32))), (.ref b1701_0)])) rfl (by rw [hml]; rfl) (Steps.refl _) (argsL := [(.int (((Int32.ofNat (osz p1620 + 4)) >>> ((0 : Int32) &&& 31)) - (2 : Int32)))]) (rest := []) (lenOf pd_6 rfl) rfl (own_w _) (hb hby at_185) (fun _ _ => ⟨rfl, e1754, (by decide : 11 + 0 ≤ _), (by decide : 71 + 0 ≤ _)⟩)
 dsimp only [Pt.U, Pt.locs, Pt.cells, Pt.slots] at X1758 l1758 y1758 z1758 st1758 hQ1758
 replace X1758 := own_mvX X1758 (a := 11) (b := 71) y1758 z1758
 obtain ⟨rfl, N1758q, e1758⟩ := hQ1758
 have N1758 := own_mvN l1758 N1754 N1758q
 obtain ⟨cq1759, kq1759, q1759a, q1759b, q1759c⟩ := isOf hZ1701 e1758 o1701_0
 obtain ⟨_, _, ⟨T1759, L1759, k1759, n1759⟩, -, X1759, ⟨Lc1759, hQ1759, l1759, y1759, z1759⟩, st1759⟩ := X1758.virtualBack hx (y := mN6) (z := mN6) ho1701 (mvT hZ1701 (tw hw 220 rfl)) (mvT hZ1701 (tw hw 221 rfl)) (notFace_of_selects (args := #[]) (mvT hZ1701 (tw hw 223 rfl))) (mvT hZ1701 (tw hw 223 rfl)) (mvT hZ1701 (tw hw 222 rfl)) (by decide) (backOf (W := 0) (own_ch l Z a0 hw b1701_0 w1702 (0 : Int32) b1701_1 k1701_0 (Int32.ofNat (osz p1620 + 4)) (otx p1620 w1724 48) x1752 (((Int32.ofNat (osz p1620 + 4)) >>> ((0 : Int32) &&& 31)) - (1 : Int32)) T1701.heap n0 Z1701 f1750 H17 o1701_2 rfl o1701_0 o1701_1 o1701_3 f1753 H33 H42 H43) hZ1701 (tw hw 224 rfl) (tw hw 52 rfl) (by decide) (by decide)) q1759a q1759c (g := (mkF m 201 (la54 p1620 p1621 p1622 b1623 b1662 b1677 b1701_0) [(.int (((Int32.ofNat (osz p1620 + 4)) >>> ((0 : Int32) &&& 31)) - (1 : Int32))), (.ref b1701_0)])) rfl (by rw [hml]; rfl) (Steps.refl _) (argsL := [(.int (((Int32.ofNat (osz p1620 + 4)) >>> ((0 : Int32) &&& 31)) - (1 : Int32)))]) (rest := []) (lenOf pd_6 rfl) rfl (own_w _) (hb hby at_201) (fun _ _ => ⟨rfl, e1758, (by decide : 11 + 0 ≤ _), (by decide : 71 + 0 ≤ _)⟩)
 dsimp only [Pt.U, Pt.locs, Pt.cells, Pt.slots] at X1759 l1759 y1759 z1759 st1759 hQ1759
 replace X1759 := own_mvX X1759 (a := 11) (b := 71) y1759 z1759
 obtain ⟨rfl, N1759q, e1759⟩ := hQ1759
 have N1759 := own_mvN l1759 N1758 N1759q
 obtain ⟨_, _, ⟨T1760, L1760, k1760, n1760⟩, -, X1760, ⟨Lc1760, hQ1760, l1760, y1760, z1760⟩, st1760⟩ := Jvm.LawKit.callS X1759 hx (y := mN9) ho1701 (mvT hZ1701 (tw hw 241 rfl)) (mvT hZ1701 (tw hw 242 rfl)) (mvT hZ1701 (tw hw 202 rfl)) (mvT hZ1701 (tw hw 243 rfl)) (by decide) (backOf (W := 0) (own_mid l Z a0 hw b1701_0 w1702 (0 : Int32) b1701_1 k1701_0 (Int32.ofNat (osz p1620 + 4)) (otx p1620 w1724 48) x1752 0 p1620 T1701.heap n0 Z1701 f1750 H17 o1701_2 rfl o1701_0 o1701_1 o1701_3 f1753 H33 (by decide) H45 H46) hZ1701 (tw hw 243 rfl) (tw hw 202 rfl) (by decide) (by decide)) (g := (mkF m 225 (la54 p1620 p1621 p1622 b1623 b1662 b1677 b1701_0) [(.int p1620), (.int (0 : Int32)), (.ref b1701_0)])) rfl (by rw [hml]; rfl) (argsL := [(.ref b1701_0), (.int (0 : Int32)), (.int p1620)]) (rest := []) (lenOf pd_32 rfl) rfl (own_w _) (hb hby at_225) (fun _ _ => ⟨rfl, e1759, (by decide : 11 + 1 ≤ _), (by decide : 71 + 10 ≤ _)⟩)
 dsimp only [Pt.U, Pt.locs, Pt.cells, Pt.slots] at X1760 l1760 y1760 z1760 st1760 hQ1760
 replace X1760 := own_mvX X1760 (a := 12) (b := 81) y1760 z1760
 obtain ⟨N1760q, rfl, K1760⟩ := hQ1760
 have N1760 := own_mvN l1760 N1759 N1760q
 have KC1760 := KSx.trans KC1701 K1760 ks0 all0
 have R1760 := CHr.trans R1701 (CHr.ks K1760 ks0 all0 R1701.1)
 have f1762 := (f1750.ks K1760)
 have f1763 := (o1701_2.ks K1760 ks0 all0)
 have f1764 := (o1701_0.ks K1760)
 have f1765 := (o1701_1.ks K1760 ks0 all0)
 have f1766 := (o1701_3.ks K1760 ks0 all0)
 have f1767 := (f1753.ks K1760)
 have Z1760 : n0 ≤ T1760.heap.size := Nat.le_trans Z1701 K1760.1
 obtain ⟨_, _, ⟨T1761, L1761, k1761, n1761⟩, -, X1761, ⟨Lc1761, hQ1761, l1761, y1761, z1761⟩, st1761⟩ := Jvm.LawKit.callS X1760 hx (y := mN9) ho1701 (mvT hZ1701 (tw hw 241 rfl)) (mvT hZ1701 (tw hw 242 rfl)) (mvT hZ1701 (tw hw 202 rfl)) (mvT hZ1701 (tw hw 243 rfl)) (by decide) (backOf (W := 0) (own_mid l Z a0 hw b1701_0 w1702 (0 : Int32) b1701_1 k1701_0 (Int32.ofNat (osz p1620 + 4)) (otx p1620 w1724 48) x1752 1 p1620 T1760.heap n0 Z1760 f1762 H17 f1763 rfl f1764 f1765 f1766 f1767 H33 (by decide) H45 H46) hZ1701 (tw hw 243 rfl) (tw hw 202 rfl) (by decide) (by decide)) (g := (mkF m 235 (la54 p1620 p1621 p1622 b1623 b1662 b1677 b1701_0) [(.int p1620), (.int (1 : Int32)), (.ref b1701_0)])) rfl (by rw [hml]; rfl) (argsL := [(.ref b1701_0), (.int (1 : Int32)), (.int p1620)]) (rest := []) (lenOf pd_32 rfl) rfl (own_w _) (hb hby at_235) (fun _ _ => ⟨rfl, rfl, (by decide : 12 + 1 ≤ _), (by decide : 81 + 10 ≤ _)⟩)
 dsimp only [Pt.U, Pt.locs, Pt.cells, Pt.slots] at X1761 l1761 y1761 z1761 st1761 hQ1761
 replace X1761 := own_mvX X1761 (a := 13) (b := 91) y1761 z1761
 obtain ⟨N1761q, rfl, K1761⟩ := hQ1761
 have N1761 := own_mvN l1761 N1760 N1761q
 have KC1761 := KSx.trans KC1760 K1761 ks0 all0
 have R1761 := CHr.trans R1760 (CHr.ks K1761 ks0 all0 R1760.1)
 have f1769 := (f1762.ks K1761)
 have f1770 := (f1763.ks K1761 ks0 all0)
 have f1771 := (f1764.ks K1761)
 have f1772 := (f1765.ks K1761 ks0 all0)
 have f1773 := (f1766.ks K1761 ks0 all0)
 have f1774 := (f1767.ks K1761)
 have Z1761 : n0 ≤ T1761.heap.size := Nat.le_trans Z1760 K1761.1
 obtain ⟨_, _, ⟨T1768, L1768, k1768, n1768⟩, -, X1768, ⟨Lc1768, hQ1768, l1768, y1768, z1768⟩, st1768⟩ := Jvm.LawKit.callS X1761 hx (y := mN9) ho1701 (mvT hZ1701 (tw hw 241 rfl)) (mvT hZ1701 (tw hw 242 rfl)) (mvT hZ1701 (tw hw 202 rfl)) (mvT hZ1701 (tw hw 243 rfl)) (by decide) (backOf (W := 0) (own_mid l Z a0 hw b1701_0 w1702 (0 : Int32) b1701_1 k1701_0 (Int32.ofNat (osz p1620 + 4)) (otx p1620 w1724 48) x1752 2 p1620 T1761.heap n0 Z1761 f1769 H17 f1770 rfl f1771 f1772 f1773 f1774 H33 (by decide) H45 H46) hZ1701 (tw hw 243 rfl) (tw hw 202 rfl) (by decide) (by decide)) (g := (mkF m 245 (la54 p1620 p1621 p1622 b1623 b1662 b1677 b1701_0) [(.int p1620), (.int (2 : Int32)), (.ref b1701_0)])) rfl (by rw [hml]; rfl) (argsL := [(.ref b1701_0), (.int (2 : Int32)), (.int p1620)]) (rest := []) (lenOf pd_32 rfl) rfl (own_w _) (hb hby at_245) (fun _ _ => ⟨rfl, rfl, (by decide : 13 + 1 ≤ _), (by decide : 91 + 10 ≤ _)⟩)
 dsimp only [Pt.U, Pt.locs, Pt.cells, Pt.slots] at X1768 l1768 y1768 z1768 st1768 hQ1768
 replace X1768 := own_mvX X1768 (a := 14) (b := 101) y1768 z1768
 obtain ⟨N1768q, rfl, K1768⟩ := hQ1768
 have N1768 := own_mvN l1768 N1761 N1768q
 have KC1768 := KSx.trans KC1761 K1768 ks0 all0
 have R1768 := CHr.trans R1761 (CHr.ks K1768 ks0 all0 R1761.1)
 have f1776 := (f1769.ks K1768)
 have f1777 := (f1770.ks K1768 ks0 all0)
 have f1778 := (f1771.ks K1768)
 have f1779 := (f1772.ks K1768 ks0 all0)
 have f1780 := (f1773.ks K1768 ks0 all0)
 have f1781 := (f1774.ks K1768)
 have Z1768 : n0 ≤ T1768.heap.size := Nat.le_trans Z1761 K1768.1
 obtain ⟨_, _, ⟨T1775, L1775, k1775, n1775⟩, -, X1775, ⟨Lc1775, hQ1775, l1775, y1775, z1775⟩, st1775⟩ := Jvm.LawKit.callS X1768 hx (y := mN9) ho1701 (mvT hZ1701 (tw hw 241 rfl)) (mvT hZ1701 (tw hw 242 rfl)) (mvT hZ1701 (tw hw 202 rfl)) (mvT hZ1701 (tw hw 243 rfl)) (by decide) (backOf (W := 0) (own_mid l Z a0 hw b1701_0 w1702 (0 : Int32) b1701_1 k1701_0 (Int32.ofNat (osz p1620 + 4)) (otx p1620 w1724 48) x1752 3 p1620 T1768.heap n0 Z1768 f1776 H17 f1777 rfl f1778 f1779 f1780 f1781 H33 (by decide) H45 H46) hZ1701 (tw hw 243 rfl) (tw hw 202 rfl) (by decide) (by decide)) (g := (mkF m 255 (la54 p1620 p1621 p1622 b1623 b1662 b1677 b1701_0) [(.int p1620), (.int (3 : Int32)), (.ref b1701_0)])) rfl (by rw [hml]; rfl) (argsL := [(.ref b1701_0), (.int (3 : Int32)), (.int p1620)]) (rest := []) (lenOf pd_32 rfl) rfl (own_w _) (hb hby at_255) (fun _ _ => ⟨rfl, rfl, (by decide : 14 + 1 ≤ _), (by decide : 101 + 10 ≤ _)⟩)
 dsimp only [Pt.U, Pt.locs, Pt.cells, Pt.slots] at X1775 l1775 y1775 z1775 st1775 hQ1775
 replace X1775 := own_mvX X1775 (a := 15) (b := 111) y1775 z1775
 obtain ⟨N1775q, rfl, K1775⟩ := hQ1775
 have N1775 := own_mvN l1775 N1768 N1775q
 have KC1775 := KSx.trans KC1768 K1775 ks0 all0
 have R1775 := CHr.trans R1768 (CHr.ks K1775 ks0 all0 R1768.1)
 have f1783 := (f1776.ks K1775)
 have f1784 := (f1777.ks K1775 ks0 all0)
 have f1785 := (f1778.ks K1775)
 have f1786 := (f1779.ks K1775 ks0 all0)
 have f1787 := (f1780.ks K1775 ks0 all0)
 have f1788 := (f1781.ks K1775)
 have Z1775 : n0 ≤ T1775.heap.size := Nat.le_trans Z1768 K1775.1
 obtain ⟨_, _, ⟨T1782, L1782, k1782, n1782⟩, -, X1782, ⟨Lc1782, hQ1782, l1782, y1782, z1782⟩, st1782⟩ := Jvm.LawKit.callS X1775 hx (y := mN9) ho1701 (mvT hZ1701 (tw hw 241 rfl)) (mvT hZ1701 (tw hw 242 rfl)) (mvT hZ1701 (tw hw 202 rfl)) (mvT hZ1701 (tw hw 243 rfl)) (by decide) (backOf (W := 0) (own_mid l Z a0 hw b1701_0 w1702 (0 : Int32) b1701_1 k1701_0 (Int32.ofNat (osz p1620 + 4)) (otx p1620 w1724 48) x1752 4 p1620 T1775.heap n0 Z1775 f1783 H17 f1784 rfl f1785 f1786 f1787 f1788 H33 (by decide) H45 H46) hZ1701 (tw hw 243 rfl) (tw hw 202 rfl) (by decide) (by decide)) (g := (mkF m 265 (la54 p1620 p1621 p1622 b1623 b1662 b1677 b1701_0) [(.int p1620), (.int (4 : Int32)), (.ref b1701_0)])) rfl (by rw [hml]; rfl) (argsL := [(.ref b1701_0), (.int (4 : Int32)), (.int p1620)]) (rest := []) (lenOf pd_32 rfl) rfl (own_w _) (hb hby at_265) (fun _ _ => ⟨rfl, rfl, (by decide : 15 + 1 ≤ _), (by decide : 111 + 10 ≤ _)⟩)
 dsimp only [Pt.U, Pt.locs, Pt.cells, Pt.slots] at X1782 l1782 y1782 z1782 st1782 hQ1782
 replace X1782 := own_mvX X1782 (a := 16) (b := 121) y1782 z1782
 obtain ⟨N1782q, rfl, K1782⟩ := hQ1782
 have N1782 := own_mvN l1782 N1775 N1782q
 have KC1782 := KSx.trans KC1775 K1782 ks0 all0
 have R1782 := CHr.trans R1775 (CHr.ks K1782 ks0 all0 R1775.1)
 have f1790 := (f1783.ks K1782)
 have f1791 := (f1784.ks K1782 ks0 all0)
 have f1792 := (f1785.ks K1782)
 have f1793 := (f1786.ks K1782 ks0 all0)
 have f1794 := (f1787.ks K1782 ks0 all0)
 have f1795 := (f1788.ks K1782)
 have Z1782 : n0 ≤ T1782.heap.size := Nat.le_trans Z1775 K1782.1
 obtain ⟨_, _, ⟨T1789, L1789, k1789, n1789⟩, -, X1789, ⟨Lc1789, hQ1789, l1789, y1789, z1789⟩, st1789⟩ := Jvm.LawKit.callS X1782 hx (y := mN9) ho1701 (mvT hZ1701 (tw hw 241 rfl)) (mvT hZ1701 (tw hw 242 rfl)) (mvT hZ1701 (tw hw 202 rfl)) (mvT hZ1701 (tw hw 243 rfl)) (by decide) (backOf (W := 0) (own_mid l Z a0 hw b1701_0 w1702 (0 : Int32) b1701_1 k1701_0 (Int32.ofNat (osz p1620 + 4)) (otx p1620 w1724 48) x1752 5 p1620 T1782.heap n0 Z1782 f1790 H17 f1791 rfl f1792 f1793 f1794 f1795 H33 (by decide) H45 H46) hZ1701 (tw hw 243 rfl) (tw hw 202 rfl) (by decide) (by decide)) (g := (mkF m 275 (la54 p1620 p1621 p1622 b1623 b1662 b1677 b1701_0) [(.int p1620), (.int (5 : Int32)), (.ref b1701_0)])) rfl (by rw [hml]; rfl) (argsL := [(.ref b1701_0), (.int (5 : Int32)), (.int p1620)]) (rest := []) (lenOf pd_32 rfl) rfl (own_w _) (hb hby at_275) (fun _ _ => ⟨rfl, rfl, (by decide : 16 + 1 ≤ _), (by decide : 121 + 10 ≤ _)⟩)
 dsimp only [Pt.U, Pt.locs, Pt.cells, Pt.slots] at X1789 l1789 y1789 z1789 st1789 hQ1789
 replace X1789 := own_mvX X1789 (a := 17) (b := 131) y1789 z1789
 obtain ⟨N1789q, rfl, K1789⟩ := hQ1789
 have N1789 := own_mvN l1789 N1782 N1789q
 have KC1789 := KSx.trans KC1782 K1789 ks0 all0
 have R1789 := CHr.trans R1782 (CHr.ks K1789 ks0 all0 R1782.1)
 have f1797 := (f1790.ks K1789)
 have f1798 := (f1791.ks K1789 ks0 all0)
 have f1799 := (f1792.ks K1789)
 have f1800 := (f1793.ks K1789 ks0 all0)
 have f1801 := (f1794.ks K1789 ks0 all0)
 have f1802 := (f1795.ks K1789)
 have Z1789 : n0 ≤ T1789.heap.size := Nat.le_trans Z1782 K1789.1
 obtain ⟨_, _, ⟨T1796, L1796, k1796, n1796⟩, -, X1796, ⟨Lc1796, hQ1796, l1796, y1796, z1796⟩, st1796⟩ := Jvm.LawKit.callS X1789 hx (y := mN9) ho1701 (mvT hZ1701 (tw hw 241 rfl)) (mvT hZ1701 (tw hw 242 rfl)) (mvT hZ1701 (tw hw 202 rfl)) (mvT hZ1701 (tw hw 243 rfl)) (by decide) (backOf (W := 0) (own_mid l Z a0 hw b1701_0 w1702 (0 : Int32) b1701_1 k1701_0 (Int32.ofNat (osz p1620 + 4)) (otx p1620 w1724 48) x1752 6 p1620 T1789.heap n0 Z1789 f1797 H17 f1798 rfl f1799 f1800 f1801 f1802 H33 (by decide) H45 H46) hZ1701 (tw hw 243 rfl) (tw hw 202 rfl) (by decide) (by decide)) (g := (mkF m 286 (la54 p1620 p1621 p1622 b1623 b1662 b1677 b1701_0) [(.int p1620), (.int (6 : Int32)), (.ref b1701_0)])) rfl (by rw [hml]; rfl) (argsL := [(.ref b1701_0), (.int (6 : Int32)), (.int p1620)]) (rest := []) (lenOf pd_32 rfl) rfl (own_w _) (hb hby at_286) (fun _ _ => ⟨rfl, rfl, (by decide : 17 + 1 ≤ _), (by decide : 131 + 10 ≤ _)⟩)
 dsimp only [Pt.U, Pt.locs, Pt.cells, Pt.slots] at X1796 l1796 y1796 z1796 st1796 hQ1796
 replace X1796 := own_mvX X1796 (a := 18) (b := 141) y1796 z1796
 obtain ⟨N1796q, rfl, K1796⟩ := hQ1796
 have N1796 := own_mvN l1796 N1789 N1796q
 have KC1796 := KSx.trans KC1789 K1796 ks0 all0
 have R1796 := CHr.trans R1789 (CHr.ks K1796 ks0 all0 R1789.1)
 have f1804 := (f1797.ks K1796)
 have f1805 := (f1798.ks K1796 ks0 all0)
 have f1806 := (f1799.ks K1796)
 have f1807 := (f1800.ks K1796 ks0 all0)
 have f1808 := (f1801.ks K1796 ks0 all0)
 have f1809 := (f1802.ks K1796)
 have Z1796 : n0 ≤ T1796.heap.size := Nat.le_trans Z1789 K1796.1
 obtain ⟨_, _, ⟨T1803, L1803, k1803, n1803⟩, -, X1803, ⟨Lc1803, hQ1803, l1803, y1803, z1803⟩, st1803⟩ := Jvm.LawKit.callS X1796 hx (y := mN9) ho1701 (mvT hZ1701 (tw hw 241 rfl)) (mvT hZ1701 (tw hw 242 rfl)) (mvT hZ1701 (tw hw 202 rfl)) (mvT hZ1701 (tw hw 243 rfl)) (by decide) (backOf (W := 0) (own_mid l Z a0 hw b1701_0 w1702 (0 : Int32) b1701_1 k1701_0 (Int32.ofNat (osz p1620 + 4)) (otx p1620 w1724 48) x1752 7 p1620 T1796.heap n0 Z1796 f1804 H17 f1805 rfl f1806 f1807 f1808 f1809 H33 (by decide) H45 H46) hZ1701 (tw hw 243 rfl) (tw hw 202 rfl) (by decide) (by decide)) (g := (mkF m 297 (la54 p1620 p1621 p1622 b1623 b1662 b1677 b1701_0) [(.int p1620), (.int (7 : Int32)), (.ref b1701_0)])) rfl (by rw [hml]; rfl) (argsL := [(.ref b1701_0), (.int (7 : Int32)), (.int p1620)]) (rest := []) (lenOf pd_32 rfl) rfl (own_w _) (hb hby at_297) (fun _ _ => ⟨rfl, rfl, (by decide : 18 + 1 ≤ _), (by decide : 141 + 10 ≤ _)⟩)
 dsimp only [Pt.U, Pt.locs, Pt.cells, Pt.slots] at X1803 l1803 y1803 z1803 st1803 hQ1803
 replace X1803 := own_mvX X1803 (a := 19) (b := 151) y1803 z1803
 obtain ⟨N1803q, rfl, K1803⟩ := hQ1803
 have N1803 := own_mvN l1803 N1796 N1803q
 have KC1803 := KSx.trans KC1796 K1803 ks0 all0
 have R1803 := CHr.trans R1796 (CHr.ks K1803 ks0 all0 R1796.1)
 have f1811 := (f1804.ks K1803)
 have f1812 := (f1805.ks K1803 ks0 all0)
 have f1813 := (f1806.ks K1803)
 have f1814 := (f1807.ks K1803 ks0 all0)
 have f1815 := (f1808.ks K1803 ks0 all0)
 have f1816 := (f1809.ks K1803)
 have Z1803 : n0 ≤ T1803.heap.size := Nat.le_trans Z1796 K1803.1
 obtain ⟨_, _, ⟨T1810, L1810, k1810, n1810⟩, -, X1810, ⟨Lc1810, hQ1810, l1810, y1810, z1810⟩, st1810⟩ := Jvm.LawKit.callS X1803 hx (y := mN9) ho1701 (mvT hZ1701 (tw hw 241 rfl)) (mvT hZ1701 (tw hw 242 rfl)) (mvT hZ1701 (tw hw 202 rfl)) (mvT hZ1701 (tw hw 243 rfl)) (by decide) (backOf (W := 0) (own_mid l Z a0 hw b1701_0 w1702 (0 : Int32) b1701_1 k1701_0 (Int32.ofNat (osz p1620 + 4)) (otx p1620 w1724 48) x1752 8 p1620 T1803.heap n0 Z1803 f1811 H17 f1812 rfl f1813 f1814 f1815 f1816 H33 (by decide) H45 H46) hZ1701 (tw hw 243 rfl) (tw hw 202 rfl) (by decide) (by decide)) (g := (mkF m 308 (la54 p1620 p1621 p1622 b1623 b1662 b1677 b1701_0) [(.int p1620), (.int (8 : Int32)), (.ref b1701_0)])) rfl (by rw [hml]; rfl) (argsL := [(.ref b1701_0), (.int (8 : Int32)), (.int p1620)]) (rest := []) (lenOf pd_32 rfl) rfl (own_w _) (hb hby at_308) (fun _ _ => ⟨rfl, rfl, (by decide : 19 + 1 ≤ _), (by decide : 151 + 10 ≤ _)⟩)
 dsimp only [Pt.U, Pt.locs, Pt.cells, Pt.slots] at X1810 l1810 y1810 z1810 st1810 hQ1810
 replace X1810 := own_mvX X1810 (a := 20) (b := 161) y1810 z1810
 obtain ⟨N1810q, rfl, K1810⟩ := hQ1810
 have N1810 := own_mvN l1810 N1803 N1810q
 have KC1810 := KSx.trans KC1803 K1810 ks0 all0
 have R1810 := CHr.trans R1803 (CHr.ks K1810 ks0 all0 R1803.1)
 have f1818 := (f1811.ks K1810)
 have f1819 := (f1812.ks K1810 ks0 all0)
 have f1820 := (f1813.ks K1810)
 have f1821 := (f1814.ks K1810 ks0 all0)
 have f1822 := (f1815.ks K1810 ks0 all0)
 have f1823 := (f1816.ks K1810)
 have Z1810 : n0 ≤ T1810.heap.size := Nat.le_trans Z1803 K1810.1
 obtain ⟨_, _, ⟨T1817, L1817, k1817, n1817⟩, -, X1817, ⟨Lc1817, hQ1817, l1817, y1817, z1817⟩, st1817⟩ := Jvm.LawKit.callS X1810 hx (y := mN9) ho1701 (mvT hZ1701 (tw hw 241 rfl)) (mvT hZ1701 (tw hw 242 rfl)) (mvT hZ1701 (tw hw 202 rfl)) (mvT hZ1701 (tw hw 243 rfl)) (by decide) (backOf (W := 0) (own_mid l Z a0 hw b1701_0 w1702 (0 : Int32) b1701_1 k1701_0 (Int32.ofNat (osz p1620 + 4)) (otx p1620 w1724 48) x1752 9 p1620 T1810.heap n0 Z1810 f1818 H17 f1819 rfl f1820 f1821 f1822 f1823 H33 (by decide) H45 H46) hZ1701 (tw hw 243 rfl) (tw hw 202 rfl) (by decide) (by decide)) (g := (mkF m 319 (la54 p1620 p1621 p1622 b1623 b1662 b1677 b1701_0) [(.int p1620), (.int (9 : Int32)), (.ref b1701_0)])) rfl (by rw [hml]; rfl) (argsL := [(.ref b1701_0), (.int (9 : Int32)), (.int p1620)]) (rest := []) (lenOf pd_32 rfl) rfl (own_w _) (hb hby at_319) (fun _ _ => ⟨rfl, rfl, (by decide : 20 + 1 ≤ _), (by decide : 161 + 10 ≤ _)⟩)
 dsimp only [Pt.U, Pt.locs, Pt.cells, Pt.slots] at X1817 l1817 y1817 z1817 st1817 hQ1817
 replace X1817 := own_mvX X1817 (a := 21) (b := 171) y1817 z1817
 obtain ⟨N1817q, rfl, K1817⟩ := hQ1817
 have N1817 := own_mvN l1817 N1810 N1817q
 have KC1817 := KSx.trans KC1810 K1817 ks0 all0
 have R1817 := CHr.trans R1810 (CHr.ks K1817 ks0 all0 R1810.1)
 have f1825 := (f1818.ks K1817)
 have f1826 := (f1819.ks K1817 ks0 all0)
 have f1827 := (f1820.ks K1817)
 have f1828 := (f1821.ks K1817 ks0 all0)
 have f1829 := (f1822.ks K1817 ks0 all0)
 have f1830 := (f1823.ks K1817)
 have Z1817 : n0 ≤ T1817.heap.size := Nat.le_trans Z1810 K1817.1
 obtain ⟨_, _, ⟨T1824, L1824, k1824, n1824⟩, -, X1824, ⟨Lc1824, hQ1824, l1824, y1824, z1824⟩, st1824⟩ := Jvm.LawKit.callS X1817 hx (y := mN9) ho1701 (mvT hZ1701 (tw hw 241 rfl)) (mvT hZ1701 (tw hw 242 rfl)) (mvT hZ1701 (tw hw 202 rfl)) (mvT hZ1701 (tw hw 243 rfl)) (by decide) (backOf (W := 0) (own_mid l Z a0 hw b1701_0 w1702 (0 : Int32) b1701_1 k1701_0 (Int32.ofNat (osz p1620 + 4)) (otx p1620 w1724 48) x1752 10 p1620 T1817.heap n0 Z1817 f1825 H17 f1826 rfl f1827 f1828 f1829 f1830 H33 (by decide) H45 H46) hZ1701 (tw hw 243 rfl) (tw hw 202 rfl) (by decide) (by decide)) (g := (mkF m 330 (la54 p1620 p1621 p1622 b1623 b1662 b1677 b1701_0) [(.int p1620), (.int (10 : Int32)), (.ref b1701_0)])) rfl (by rw [hml]; rfl) (argsL := [(.ref b1701_0), (.int (10 : Int32)), (.int p1620)]) (rest := []) (lenOf pd_32 rfl) rfl (own_w _) (hb hby at_330) (fun _ _ => ⟨rfl, rfl, (by decide : 21 + 1 ≤ _), (by decide : 171 + 10 ≤ _)⟩)
 dsimp only [Pt.U, Pt.locs, Pt.cells, Pt.slots] at X1824 l1824 y1824 z1824 st1824 hQ1824
 replace X1824 := own_mvX X1824 (a := 22) (b := 181) y1824 z1824
 obtain ⟨N1824q, rfl, K1824⟩ := hQ1824
 have N1824 := own_mvN l1824 N1817 N1824q
 have KC1824 := KSx.trans KC1817 K1824 ks0 all0
 have R1824 := CHr.trans R1817 (CHr.ks K1824 ks0 all0 R1817.1)
 obtain ⟨fs, hr, hrun, hended, hR1, hR2, hR3, hR4⟩ := X1824.leaveW (s := s) hS1701 ((Nat.le_trans (Nat.le_refl _) (Nat.le_trans (Nat.le_trans (Nat.le_trans (Nat.le_trans (Nat.le_trans (Nat.le_trans (Nat.le_trans (Nat.le_trans (Nat.le_trans (Nat.le_trans K1760.1 K1761.1) K1768.1) K1775.1) K1782.1) K1789.1) K1796.1) K1803.1) K1810.1) K1817.1) K1824.1))) (v := some (.int (1 : Int32))) (fun h => by rw [Bd.returns] at h; cases h)
 refine ⟨_, _, pre0 _ ?_, hrun, hended, _, _, rfl, ?_, ?_, hR1, hR2, hR3, hR4.mono (by decide) (by decide)⟩
 · show SG p e below s₁ (mkF m 0 (la46 p1620 p1621 p1622) []) _
   refine XS.bipush X0.here hx rfl (hb hby at_0) ?_
   show SG p e below s₁ (mkF m 2 (la46 p1620 p1621 p1622) [(.int (6 : Int32))]) _
   refine st1623 _ ?_
   show SG p e below T1623 (mkF m 5 (la46 p1620 p1621 p1622) [(.ref b1623)]) _
   refine XS.dup X1623.here hx rfl (hb hby at_5) rfl rfl ?_
   show SG p e below T1623 (mkF m 6 (la46 p1620 p1621 p1622) [(.ref b1623), (.ref b1623)]) _
   refine XS.iconst X1623.here hx rfl (hb hby at_6) ?_
   show SG p e below T1623 (mkF m 7 (la46 p1620 p1621 p1622) [(.int (0 : Int32)), (.ref b1623), (.ref b1623)]) _
   refine st1626 _ ?_
   show SG p e below T1626 (mkF m 10 (la46 p1620 p1621 p1622) [(.ref w1624), (.int (0 : Int32)), (.ref b1623), (.ref b1623)]) _
   refine st1630 _ ?_
   show SG p e below T1630 (mkF m 11 (la46 p1620 p1621 p1622) [(.ref b1623)]) _
   refine XS.dup X1630.here hx rfl (hb hby at_11) rfl rfl ?_
   show SG p e below T1630 (mkF m 12 (la46 p1620 p1621 p1622) [(.ref b1623), (.ref b1623)]) _
   refine XS.iconst X1630.here hx rfl (hb hby at_12) ?_
   show SG p e below T1630 (mkF m 13 (la46 p1620 p1621 p1622) [(.int (1 : Int32)), (.ref b1623), (.ref b1623)]) _
   refine st1634 _ ?_
   show SG p e below T1634 (mkF m 16 (la46 p1620 p1621 p1622) [(.ref w1632), (.int (1 : Int32)), (.ref b1623), (.ref b1623)]) _
   refine st1637 _ ?_
   show SG p e below T1637 (mkF m 17 (la46 p1620 p1621 p1622) [(.ref b1623)]) _
   refine XS.dup X1637.here hx rfl (hb hby at_17) rfl rfl ?_
   show SG p e below T1637 (mkF m 18 (la46 p1620 p1621 p1622) [(.ref b1623), (.ref b1623)]) _
   refine XS.iconst X1637.here hx rfl (hb hby at_18) ?_
   show SG p e below T1637 (mkF m 19 (la46 p1620 p1621 p1622) [(.int (2 : Int32)), (.ref b1623), (.ref b1623)]) _
   refine st1640 _ ?_
   show SG p e below T1640 (mkF m 22 (la46 p1620 p1621 p1622) [(.ref w1638), (.int (2 : Int32)), (.ref b1623), (.ref b1623)]) _
   refine st1643 _ ?_
   show SG p e below T1643 (mkF m 23 (la46 p1620 p1621 p1622) [(.ref b1623)]) _
   refine XS.dup X1643.here hx rfl (hb hby at_23) rfl rfl ?_
   show SG p e below T1643 (mkF m 24 (la46 p1620 p1621 p1622) [(.ref b1623), (.ref b1623)]) _
   refine XS.iconst X1643.here hx rfl (hb hby at_24) ?_
   show SG p e below T1643 (mkF m 25 (la46 p1620 p1621 p1622) [(.int (3 : Int32)), (.ref b1623), (.ref b1623)]) _
   refine st1646 _ ?_
   show SG p e below T1646 (mkF m 28 (la46 p1620 p1621 p1622) [(.ref w1644), (.int (3 : Int32)), (.ref b1623), (.ref b1623)]) _
   refine st1649 _ ?_
   show SG p e below T1649 (mkF m 29 (la46 p1620 p1621 p1622) [(.ref b1623)]) _
   refine XS.dup X1649.here hx rfl (hb hby at_29) rfl rfl ?_
   show SG p e below T1649 (mkF m 30 (la46 p1620 p1621 p1622) [(.ref b1623), (.ref b1623)]) _
   refine XS.iconst X1649.here hx rfl (hb hby at_30) ?_
   show SG p e below T1649 (mkF m 31 (la46 p1620 p1621 p1622) [(.int (4 : Int32)), (.ref b1623), (.ref b1623)]) _
   refine st1652 _ ?_
   show SG p e below T1652 (mkF m 34 (la46 p1620 p1621 p1622) [(.ref w1650), (.int (4 : Int32)), (.ref b1623), (.ref b1623)]) _
   refine st1655 _ ?_
   show SG p e below T1655 (mkF m 35 (la46 p1620 p1621 p1622) [(.ref b1623)]) _
   refine XS.dup X1655.here hx rfl (hb hby at_35) rfl rfl ?_
   show SG p e below T1655 (mkF m 36 (la46 p1620 p1621 p1622) [(.ref b1623), (.ref b1623)]) _
   refine XS.iconst X1655.here hx rfl (hb hby at_36) ?_
   show SG p e below T1655 (mkF m 37 (la46 p1620 p1621 p1622) [(.int (5 : Int32)), (.ref b1623), (.ref b1623)]) _
   refine st1658 _ ?_
   show SG p e below T1658 (mkF m 40 (la46 p1620 p1621 p1622) [(.ref w1656), (.int (5 : Int32)), (.ref b1623), (.ref b1623)]) _
   refine st1661 _ ?_
   show SG p e below T1661 (mkF m 41 (la46 p1620 p1621 p1622) [(.ref b1623)]) _
   refine XS.astoreN X1661.here hx rfl (hb hby at_41) rfl rfl (l' := #[vI p1620, vI p1621, vI p1622, vR b1623, vU, vU, vU, vU, vU, vU, vU]) rfl ?_
   show SG p e below T1661 (mkF m 42 (la47 p1620 p1621 p1622 b1623) []) _
   refine XS.bipush X1661.here hx rfl (hb hby at_42) ?_
   show SG p e below T1661 (mkF m 44 (la47 p1620 p1621 p1622 b1623) [(.int (6 : Int32))]) _
   refine st1662 _ ?_
   show SG p e below T1662 (mkF m 46 (la47 p1620 p1621 p1622 b1623) [(.ref b1662)]) _
   refine XS.dup X1662.here hx rfl (hb hby at_46) rfl rfl ?_
   show SG p e below T1662 (mkF m 47 (la47 p1620 p1621 p1622 b1623) [(.ref b1662), (.ref b1662)]) _
   refine XS.iconst X1662.here hx rfl (hb hby at_47) ?_
   show SG p e below T1662 (mkF m 48 (la47 p1620 p1621 p1622 b1623) [(.int (0 : Int32)), (.ref b1662), (.ref b1662)]) _
   refine XS.bipush X1662.here hx rfl (hb hby at_48) ?_
   show SG p e below T1662 (mkF m 50 (la47 p1620 p1621 p1622 b1623) [(.int (68 : Int32)), (.int (0 : Int32)), (.ref b1662), (.ref b1662)]) _
   refine st1665 _ ?_
   show SG p e below T1665 (mkF m 51 (la47 p1620 p1621 p1622 b1623) [(.ref b1662)]) _
   refine XS.dup X1665.here hx rfl (hb hby at_51) rfl rfl ?_
   show SG p e below T1665 (mkF m 52 (la47 p1620 p1621 p1622 b1623) [(.ref b1662), (.ref b1662)]) _
   refine XS.iconst X1665.here hx rfl (hb hby at_52) ?_
   show SG p e below T1665 (mkF m 53 (la47 p1620 p1621 p1622 b1623) [(.int (1 : Int32)), (.ref b1662), (.ref b1662)]) _
   refine XS.bipush X1665.here hx rfl (hb hby at_53) ?_
   show SG p e below T1665 (mkF m 55 (la47 p1620 p1621 p1622 b1623) [(.int (87 : Int32)), (.int (1 : Int32)), (.ref b1662), (.ref b1662)]) _
   refine st1668 _ ?_
   show SG p e below T1668 (mkF m 56 (la47 p1620 p1621 p1622 b1623) [(.ref b1662)]) _
   refine XS.dup X1668.here hx rfl (hb hby at_56) rfl rfl ?_
   show SG p e below T1668 (mkF m 57 (la47 p1620 p1621 p1622 b1623) [(.ref b1662), (.ref b1662)]) _
   refine XS.iconst X1668.here hx rfl (hb hby at_57) ?_
   show SG p e below T1668 (mkF m 58 (la47 p1620 p1621 p1622 b1623) [(.int (2 : Int32)), (.ref b1662), (.ref b1662)]) _
   refine XS.bipush X1668.here hx rfl (hb hby at_58) ?_
   show SG p e below T1668 (mkF m 60 (la47 p1620 p1621 p1622 b1623) [(.int (77 : Int32)), (.int (2 : Int32)), (.ref b1662), (.ref b1662)]) _
   refine st1670 _ ?_
   show SG p e below T1670 (mkF m 61 (la47 p1620 p1621 p1622 b1623) [(.ref b1662)]) _
   refine XS.dup X1670.here hx rfl (hb hby at_61) rfl rfl ?_
   show SG p e below T1670 (mkF m 62 (la47 p1620 p1621 p1622 b1623) [(.ref b1662), (.ref b1662)]) _
   refine XS.iconst X1670.here hx rfl (hb hby at_62) ?_
   show SG p e below T1670 (mkF m 63 (la47 p1620 p1621 p1622 b1623) [(.int (3 : Int32)), (.ref b1662), (.ref b1662)]) _
   refine XS.bipush X1670.here hx rfl (hb hby at_63) ?_
   show SG p e below T1670 (mkF m 65 (la47 p1620 p1621 p1622 b1623) [(.int (81 : Int32)), (.int (3 : Int32)), (.ref b1662), (.ref b1662)]) _
   refine st1672 _ ?_
   show SG p e below T1672 (mkF m 66 (la47 p1620 p1621 p1622 b1623) [(.ref b1662)]) _
   refine XS.dup X1672.here hx rfl (hb hby at_66) rfl rfl ?_
   show SG p e below T1672 (mkF m 67 (la47 p1620 p1621 p1622 b1623) [(.ref b1662), (.ref b1662)]) _
   refine XS.iconst X1672.here hx rfl (hb hby at_67) ?_
   show SG p e below T1672 (mkF m 68 (la47 p1620 p1621 p1622 b1623) [(.int (4 : Int32)), (.ref b1662), (.ref b1662)]) _
   refine XS.bipush X1672.here hx rfl (hb hby at_68) ?_
   show SG p e below T1672 (mkF m 70 (la47 p1620 p1621 p1622 b1623) [(.int (72 : Int32)), (.int (4 : Int32)), (.ref b1662), (.ref b1662)]) _
   refine st1674 _ ?_
   show SG p e below T1674 (mkF m 71 (la47 p1620 p1621 p1622 b1623) [(.ref b1662)]) _
   refine XS.dup X1674.here hx rfl (hb hby at_71) rfl rfl ?_
   show SG p e below T1674 (mkF m 72 (la47 p1620 p1621 p1622 b1623) [(.ref b1662), (.ref b1662)]) _
   refine XS.iconst X1674.here hx rfl (hb hby at_72) ?_
   show SG p e below T1674 (mkF m 73 (la47 p1620 p1621 p1622 b1623) [(.int (5 : Int32)), (.ref b1662), (.ref b1662)]) _
   refine XS.bipush X1674.here hx rfl (hb hby at_73) ?_
   show SG p e below T1674 (mkF m 75 (la47 p1620 p1621 p1622 b1623) [(.int (89 : Int32)), (.int (5 : Int32)), (.ref b1662), (.ref b1662)]) _
   refine st1676 _ ?_
   show SG p e below T1676 (mkF m 76 (la47 p1620 p1621 p1622 b1623) [(.ref b1662)]) _
   refine XS.astore X1676.here hx rfl (hb hby at_76) rfl rfl (l' := #[vI p1620, vI p1621, vI p1622, vR b1623, vR b1662, vU, vU, vU, vU, vU, vU]) rfl ?_
   show SG p e below T1676 (mkF m 78 (la48 p1620 p1621 p1622 b1623 b1662) []) _
   refine XS.iloadN X1676.here hx rfl (hb hby at_78) rfl ?_
   show SG p e below T1676 (mkF m 79 (la48 p1620 p1621 p1622 b1623 b1662) [(.int p1621)]) _
   refine X1676.ldcInt hx hown (mvT hZ (tw hw 17 rfl)) (g := (mkF m 79 (la48 p1620 p1621 p1622 b1623 b1662) [(.int p1621)])) rfl (hb hby at_79) _ ?_
   show SG p e below T1676 (mkF m 81 (la48 p1620 p1621 p1622 b1623 b1662) [(.int (2147483647 : Int32)), (.int p1621)]) _
   refine XS.iand X1676.here hx rfl (hb hby at_81) rfl ?_
   show SG p e below T1676 (mkF m 82 (la48 p1620 p1621 p1622 b1623 b1662) [(.int (p1621 &&& (2147483647 : Int32)))]) _
   refine XS.bipush X1676.here hx rfl (hb hby at_82) ?_
   show SG p e below T1676 (mkF m 84 (la48 p1620 p1621 p1622 b1623 b1662) [(.int (6 : Int32)), (.int (p1621 &&& (2147483647 : Int32)))]) _
   refine iremM X1676 hx rfl (hb hby at_84) rfl (by decide) ?_
   show SG p e below T1676 (mkF m 85 (la48 p1620 p1621 p1622 b1623 b1662) [(.int ((p1621 &&& (2147483647 : Int32)) % (6 : Int32)))]) _
   refine XS.istore X1676.here hx rfl (hb hby at_85) rfl (l' := #[vI p1620, vI p1621, vI p1622, vR b1623, vR b1662, vI ((p1621 &&& (2147483647 : Int32)) % (6 : Int32)), vU, vU, vU, vU, vU]) rfl ?_
   show SG p e below T1676 (mkF m 87 (la49 p1620 p1621 p1622 b1623 b1662) []) _
   refine XS.iloadN X1676.here hx rfl (hb hby at_87) rfl ?_
   show SG p e below T1676 (mkF m 88 (la49 p1620 p1621 p1622 b1623 b1662) [(.int p1622)]) _
   refine XS.iconst X1676.here hx rfl (hb hby at_88) ?_
   show SG p e below T1676 (mkF m 89 (la49 p1620 p1621 p1622 b1623 b1662) [(.int (1 : Int32)), (.int p1622)]) _
   refine XS.iand X1676.here hx rfl (hb hby at_89) rfl ?_
   show SG p e below T1676 (mkF m 90 (la49 p1620 p1621 p1622 b1623 b1662) [(.int (p1622 &&& (1 : Int32)))]) _
   refine XS.ifNo X1676.here hx rfl (hb hby at_90) rfl ((if0 _ _).trans (feq H12).1) ?_
   show SG p e below T1676 (mkF m 93 (la49 p1620 p1621 p1622 b1623 b1662) []) _
   refine XS.iconst X1676.here hx rfl (hb hby at_93) ?_
   show SG p e below T1676 (mkF m 94 (la49 p1620 p1621 p1622 b1623 b1662) [(.int (1 : Int32))]) _
   refine XS.goto X1676.here hx rfl (pc0 := 94) (pc' := 98) rfl (hb hby at_94) (by decide) (by decide) ?_
   show SG p e below T1676 (mkF m 98 (la49 p1620 p1621 p1622 b1623 b1662) [(.int (1 : Int32))]) _
   refine XS.istore X1676.here hx rfl (hb hby at_98) rfl (l' := #[vI p1620, vI p1621, vI p1622, vR b1623, vR b1662, vI ((p1621 &&& (2147483647 : Int32)) % (6 : Int32)), vI (1 : Int32), vU, vU, vU, vU]) rfl ?_
   show SG p e below T1676 (mkF m 100 (la50 p1620 p1621 p1622 b1623 b1662) []) _
   refine st1677 _ ?_
   show SG p e below T1677 (mkF m 103 (la50 p1620 p1621 p1622 b1623 b1662) [(.ref b1677)]) _
   refine XS.dup X1677.here hx rfl (hb hby at_103) rfl rfl ?_
   show SG p e below T1677 (mkF m 104 (la50 p1620 p1621 p1622 b1623 b1662) [(.ref b1677), (.ref b1677)]) _
   refine XS.iloadN X1677.here hx rfl (hb hby at_104) rfl ?_
   show SG p e below T1677 (mkF m 105 (la50 p1620 p1621 p1622 b1623 b1662) [(.int p1620), (.ref b1677), (.ref b1677)]) _
   refine XS.aloadN X1677.here hx rfl (hb hby at_105) rfl rfl ?_
   show SG p e below T1677 (mkF m 106 (la50 p1620 p1621 p1622 b1623 b1662) [(.ref b1623), (.int p1620), (.ref b1677), (.ref b1677)]) _
   refine XS.iload X1677.here hx rfl (hb hby at_106) rfl ?_
   show SG p e below T1677 (mkF m 108 (la50 p1620 p1621 p1622 b1623 b1662) [(.int ((p1621 &&& (2147483647 : Int32)) % (6 : Int32))), (.ref b1623), (.int p1620), (.ref b1677), (.ref b1677)]) _
   refine X1677.aaload hx (j := ((p1621 &&& (2147483647 : Int32)) % (6 : Int32))) (v := (.ref a1681)) (by rw [e1677]; exact Ar1680.1) (State.isArrayOf_alike hZ.alike Ar1680.2.1) rfl Ar1680.2.2 hin1680 hat1680 (g := (mkF m 108 (la50 p1620 p1621 p1622 b1623 b1662) [(.int ((p1621 &&& (2147483647 : Int32)) % (6 : Int32))), (.ref b1623), (.int p1620), (.ref b1677), (.ref b1677)])) rfl rfl (hb hby at_108) _ ?_
   show SG p e below T1677 (mkF m 109 (la50 p1620 p1621 p1622 b1623 b1662) [(.ref a1681), (.int p1620), (.ref b1677), (.ref b1677)]) _
   refine XS.iload X1677.here hx rfl (hb hby at_109) rfl ?_
   show SG p e below T1677 (mkF m 111 (la50 p1620 p1621 p1622 b1623 b1662) [(.int (1 : Int32)), (.ref a1681), (.int p1620), (.ref b1677), (.ref b1677)]) _
   refine st1698.trans ?_
   show SG p e below T1698 (mkF m 114 (la50 p1620 p1621 p1622 b1623 b1662) [(.ref b1677)]) _
   refine XS.astore X1698.here hx rfl (hb hby at_114) rfl rfl (l' := #[vI p1620, vI p1621, vI p1622, vR b1623, vR b1662, vI ((p1621 &&& (2147483647 : Int32)) % (6 : Int32)), vI (1 : Int32), vR b1677, vU, vU, vU]) rfl ?_
   show SG p e below T1698 (mkF m 116 (la51 p1620 p1621 p1622 b1623 b1662 b1677) []) _
   refine XS.aload X1698.here hx rfl (hb hby at_116) rfl rfl ?_
   show SG p e below T1698 (mkF m 118 (la51 p1620 p1621 p1622 b1623 b1662 b1677) [(.ref b1677)]) _
   refine st1701.trans ?_
   show SG p e below T1701 (mkF m 121 (la51 p1620 p1621 p1622 b1623 b1662 b1677) [(.ref b1701_0)]) _
   refine XS.astore X1701.here hx rfl (hb hby at_121) rfl rfl (l' := #[vI p1620, vI p1621, vI p1622, vR b1623, vR b1662, vI ((p1621 &&& (2147483647 : Int32)) % (6 : Int32)), vI (1 : Int32), vR b1677, vR b1701_0, vU, vU]) rfl ?_
   show SG p e below T1701 (mkF m 123 (la52 p1620 p1621 p1622 b1623 b1662 b1677 b1701_0) []) _
   refine XS.iloadN X1701.here hx rfl (hb hby at_123) rfl ?_
   show SG p e below T1701 (mkF m 124 (la52 p1620 p1621 p1622 b1623 b1662 b1677 b1701_0) [(.int p1620)]) _
   refine st1733 _ ?_
   show SG p e below T1733 (mkF m 127 (la52 p1620 p1621 p1622 b1623 b1662 b1677 b1701_0) [(.int (Int32.ofNat (osz p1620)))]) _
   refine XS.istore X1733.here hx rfl (hb hby at_127) rfl (l' := #[vI p1620, vI p1621, vI p1622, vR b1623, vR b1662, vI ((p1621 &&& (2147483647 : Int32)) % (6 : Int32)), vI (1 : Int32), vR b1677, vR b1701_0, vI (Int32.ofNat (osz p1620)), vU]) rfl ?_
   show SG p e below T1733 (mkF m 129 (la53 p1620 p1621 p1622 b1623 b1662 b1677 b1701_0) []) _
   refine XS.aload X1733.here hx rfl (hb hby at_129) rfl rfl ?_
   show SG p e below T1733 (mkF m 131 (la53 p1620 p1621 p1622 b1623 b1662 b1677 b1701_0) [(.ref b1701_0)]) _
   refine st1749.trans ?_
   show SG p e below T1749 (mkF m 134 (la53 p1620 p1621 p1622 b1623 b1662 b1677 b1701_0) [(.int ((Int32.ofNat (osz p1620 + 4)) >>> ((0 : Int32) &&& 31)))]) _
   refine XS.istore X1749.here hx rfl (hb hby at_134) rfl (l' := #[vI p1620, vI p1621, vI p1622, vR b1623, vR b1662, vI ((p1621 &&& (2147483647 : Int32)) % (6 : Int32)), vI (1 : Int32), vR b1677, vR b1701_0, vI (Int32.ofNat (osz p1620)), vI ((Int32.ofNat (osz p1620 + 4)) >>> ((0 : Int32) &&& 31))]) rfl ?_
   show SG p e below T1749 (mkF m 136 (la54 p1620 p1621 p1622 b1623 b1662 b1677 b1701_0) []) _
   refine XS.iload X1749.here hx rfl (hb hby at_136) rfl ?_
   show SG p e below T1749 (mkF m 138 (la54 p1620 p1621 p1622 b1623 b1662 b1677 b1701_0) [(.int ((Int32.ofNat (osz p1620 + 4)) >>> ((0 : Int32) &&& 31)))]) _
   refine XS.iload X1749.here hx rfl (hb hby at_138) rfl ?_
   show SG p e below T1749 (mkF m 140 (la54 p1620 p1621 p1622 b1623 b1662 b1677 b1701_0) [(.int (Int32.ofNat (osz p1620))), (.int ((Int32.ofNat (osz p1620 + 4)) >>> ((0 : Int32) &&& 31)))]) _
   refine XS.iconst X1749.here hx rfl (hb hby at_140) ?_
   show SG p e below T1749 (mkF m 141 (la54 p1620 p1621 p1622 b1623 b1662 b1677 b1701_0) [(.int (4 : Int32)), (.int (Int32.ofNat (osz p1620))), (.int ((Int32.ofNat (osz p1620 + 4)) >>> ((0 : Int32) &&& 31)))]) _
   refine XS.iadd X1749.here hx rfl (hb hby at_141) rfl ?_
   show SG p e below T1749 (mkF m 142 (la54 p1620 p1621 p1622 b1623 b1662 b1677 b1701_0) [(.int ((Int32.ofNat (osz p1620)) + (4 : Int32))), (.int ((Int32.ofNat (osz p1620 + 4)) >>> ((0 : Int32) &&& 31)))]) _
   refine XS.icmpYes X1749.here hx rfl (pc0 := 142) (pc' := 147) rfl (hb hby at_142) rfl (teq H31).1 (by decide) (by decide) ?_
   show SG p e below T1749 (mkF m 147 (la54 p1620 p1621 p1622 b1623 b1662 b1677 b1701_0) []) _
   refine XS.aload X1749.here hx rfl (hb hby at_147) rfl rfl ?_
   show SG p e below T1749 (mkF m 149 (la54 p1620 p1621 p1622 b1623 b1662 b1677 b1701_0) [(.ref b1701_0)]) _
   refine XS.iconst X1749.here hx rfl (hb hby at_149) ?_
   show SG p e below T1749 (mkF m 150 (la54 p1620 p1621 p1622 b1623 b1662 b1677 b1701_0) [(.int (0 : Int32)), (.ref b1701_0)]) _
   refine st1751.trans ?_
   show SG p e below T1751 (mkF m 153 (la54 p1620 p1621 p1622 b1623 b1662 b1677 b1701_0) [(.int (oc8 ((otx p1620 w1724 48) ((0 : Int32)).toNatClampNeg)))]) _
   refine XS.bipush X1751.here hx rfl (hb hby at_153) ?_
   show SG p e below T1751 (mkF m 155 (la54 p1620 p1621 p1622 b1623 b1662 b1677 b1701_0) [(.int (80 : Int32)), (.int (oc8 ((otx p1620 w1724 48) ((0 : Int32)).toNatClampNeg)))]) _
   refine XS.icmpYes X1751.here hx rfl (pc0 := 155) (pc' := 160) rfl (hb hby at_155) rfl (teq H35).1 (by decide) (by decide) ?_
   show SG p e below T1751 (mkF m 160 (la54 p1620 p1621 p1622 b1623 b1662 b1677 b1701_0) []) _
   refine XS.aload X1751.here hx rfl (hb hby at_160) rfl rfl ?_
   show SG p e below T1751 (mkF m 162 (la54 p1620 p1621 p1622 b1623 b1662 b1677 b1701_0) [(.ref b1701_0)]) _
   refine XS.iload X1751.here hx rfl (hb hby at_162) rfl ?_
   show SG p e below T1751 (mkF m 164 (la54 p1620 p1621 p1622 b1623 b1662 b1677 b1701_0) [(.int ((Int32.ofNat (osz p1620 + 4)) >>> ((0 : Int32) &&& 31))), (.ref b1701_0)]) _
   refine XS.iconst X1751.here hx rfl (hb hby at_164) ?_
   show SG p e below T1751 (mkF m 165 (la54 p1620 p1621 p1622 b1623 b1662 b1677 b1701_0) [(.int (3 : Int32)), (.int ((Int32.ofNat (osz p1620 + 4)) >>> ((0 : Int32) &&& 31))), (.ref b1701_0)]) _
   refine XS.isub X1751.here hx rfl (hb hby at_165) rfl ?_
   show SG p e below T1751 (mkF m 166 (la54 p1620 p1621 p1622 b1623 b1662 b1677 b1701_0) [(.int (((Int32.ofNat (osz p1620 + 4)) >>> ((0 : Int32) &&& 31)) - (3 : Int32))), (.ref b1701_0)]) _
   refine st1754.trans ?_
   show SG p e below T1754 (mkF m 169 (la54 p1620 p1621 p1622 b1623 b1662 b1677 b1701_0) [(.int (oc8 ((otx p1620 w1724 48) ((((Int32.ofNat (osz p1620 + 4)) >>> ((0 : Int32) &&& 31)) - (3 : Int32))).toNatClampNeg)))]) _
   refine XS.aload X1754.here hx rfl (hb hby at_169) rfl rfl ?_
   show SG p e below T1754 (mkF m 171 (la54 p1620 p1621 p1622 b1623 b1662 b1677 b1701_0) [(.ref b1662), (.int (oc8 ((otx p1620 w1724 48) ((((Int32.ofNat (osz p1620 + 4)) >>> ((0 : Int32) &&& 31)) - (3 : Int32))).toNatClampNeg)))]) _
   refine XS.iload X1754.here hx rfl (hb hby at_171) rfl ?_
   show SG p e below T1754 (mkF m 173 (la54 p1620 p1621 p1622 b1623 b1662 b1677 b1701_0) [(.int ((p1621 &&& (2147483647 : Int32)) % (6 : Int32))), (.ref b1662), (.int (oc8 ((otx p1620 w1724 48) ((((Int32.ofNat (osz p1620 + 4)) >>> ((0 : Int32) &&& 31)) - (3 : Int32))).toNatClampNeg)))]) _
   refine X1754.caload hx (j := ((p1621 &&& (2147483647 : Int32)) % (6 : Int32))) (v := (.int ((fun i => if i = ((5 : Int32)).toNatClampNeg then (89 : Int32) else (fun i => if i = ((4 : Int32)).toNatClampNeg then (72 : Int32) else (fun i => if i = ((3 : Int32)).toNatClampNeg then (81 : Int32) else (fun i => if i = ((2 : Int32)).toNatClampNeg then (77 : Int32) else (fun i => if i = ((1 : Int32)).toNatClampNeg then (87 : Int32) else (fun i => if i = ((0 : Int32)).toNatClampNeg then (68 : Int32) else (fun _ => (0 : Int32)) i) i) i) i) i) i) (((p1621 &&& (2147483647 : Int32)) % (6 : Int32))).toNatClampNeg))) (by rw [e1754]; exact Ar1757.1) (State.isArrayOf_alike hZ1701.alike Ar1757.2.1) Ar1757.2.2 hin1757 hat1757 (g := (mkF m 173 (la54 p1620 p1621 p1622 b1623 b1662 b1677 b1701_0) [(.int ((p1621 &&& (2147483647 : Int32)) % (6 : Int32))), (.ref b1662), (.int (oc8 ((otx p1620 w1724 48) ((((Int32.ofNat (osz p1620 + 4)) >>> ((0 : Int32) &&& 31)) - (3 : Int32))).toNatClampNeg)))])) rfl rfl (hb hby at_173) _ ?_
   show SG p e below T1754 (mkF m 174 (la54 p1620 p1621 p1622 b1623 b1662 b1677 b1701_0) [(.int ((fun i => if i = ((5 : Int32)).toNatClampNeg then (89 : Int32) else (fun i => if i = ((4 : Int32)).toNatClampNeg then (72 : Int32) else (fun i => if i = ((3 : Int32)).toNatClampNeg then (81 : Int32) else (fun i => if i = ((2 : Int32)).toNatClampNeg then (77 : Int32) else (fun i => if i = ((1 : Int32)).toNatClampNeg then (87 : Int32) else (fun i => if i = ((0 : Int32)).toNatClampNeg then (68 : Int32) else (fun _ => (0 : Int32)) i) i) i) i) i) i) (((p1621 &&& (2147483647 : Int32)) % (6 : Int32))).toNatClampNeg)), (.int (oc8 ((otx p1620 w1724 48) ((((Int32.ofNat (osz p1620 + 4)) >>> ((0 : Int32) &&& 31)) - (3 : Int32))).toNatClampNeg)))]) _
   refine XS.icmpYes X1754.here hx rfl (pc0 := 174) (pc' := 179) rfl (hb hby at_174) rfl (teq H38).1 (by decide) (by decide) ?_
   show SG p e below T1754 (mkF m 179 (la54 p1620 p1621 p1622 b1623 b1662 b1677 b1701_0) []) _
   refine XS.aload X1754.here hx rfl (hb hby at_179) rfl rfl ?_
   show SG p e below T1754 (mkF m 181 (la54 p1620 p1621 p1622 b1623 b1662 b1677 b1701_0) [(.ref b1701_0)]) _
   refine XS.iload X1754.here hx rfl (hb hby at_181) rfl ?_
   show SG p e below T1754 (mkF m 183 (la54 p1620 p1621 p1622 b1623 b1662 b1677 b1701_0) [(.int ((Int32.ofNat (osz p1620 + 4)) >>> ((0 : Int32) &&& 31))), (.ref b1701_0)]) _
   refine XS.iconst X1754.here hx rfl (hb hby at_183) ?_
   show SG p e below T1754 (mkF m 184 (la54 p1620 p1621 p1622 b1623 b1662 b1677 b1701_0) [(.int (2 : Int32)), (.int ((Int32.ofNat (osz p1620 + 4)) >>> ((0 : Int32) &&& 31))), (.ref b1701_0)]) _
   refine XS.isub X1754.here hx rfl (hb hby at_184) rfl ?_
   show SG p e below T1754 (mkF m 185 (la54 p1620 p1621 p1622 b1623 b1662 b1677 b1701_0) [(.int (((Int32.ofNat (osz p1620 + 4)) >>> ((0 : Int32) &&& 31)) - (2 : Int32))), (.ref b1701_0)]) _
   refine st1758.trans ?_
   show SG p e below T1758 (mkF m 188 (la54 p1620 p1621 p1622 b1623 b1662 b1677 b1701_0) [(.int (oc8 ((otx p1620 w1724 48) ((((Int32.ofNat (osz p1620 + 4)) >>> ((0 : Int32) &&& 31)) - (2 : Int32))).toNatClampNeg)))]) _
   refine XS.bipush X1758.here hx rfl (hb hby at_188) ?_
   show SG p e below T1758 (mkF m 190 (la54 p1620 p1621 p1622 b1623 b1662 b1677 b1701_0) [(.int (76 : Int32)), (.int (oc8 ((otx p1620 w1724 48) ((((Int32.ofNat (osz p1620 + 4)) >>> ((0 : Int32) &&& 31)) - (2 : Int32))).toNatClampNeg)))]) _
   refine XS.icmpYes X1758.here hx rfl (pc0 := 190) (pc' := 195) rfl (hb hby at_190) rfl (teq H41).1 (by decide) (by decide) ?_
   show SG p e below T1758 (mkF m 195 (la54 p1620 p1621 p1622 b1623 b1662 b1677 b1701_0) []) _
   refine XS.aload X1758.here hx rfl (hb hby at_195) rfl rfl ?_
   show SG p e below T1758 (mkF m 197 (la54 p1620 p1621 p1622 b1623 b1662 b1677 b1701_0) [(.ref b1701_0)]) _
   refine XS.iload X1758.here hx rfl (hb hby at_197) rfl ?_
   show SG p e below T1758 (mkF m 199 (la54 p1620 p1621 p1622 b1623 b1662 b1677 b1701_0) [(.int ((Int32.ofNat (osz p1620 + 4)) >>> ((0 : Int32) &&& 31))), (.ref b1701_0)]) _
   refine XS.iconst X1758.here hx rfl (hb hby at_199) ?_
   show SG p e below T1758 (mkF m 200 (la54 p1620 p1621 p1622 b1623 b1662 b1677 b1701_0) [(.int (1 : Int32)), (.int ((Int32.ofNat (osz p1620 + 4)) >>> ((0 : Int32) &&& 31))), (.ref b1701_0)]) _
   refine XS.isub X1758.here hx rfl (hb hby at_200) rfl ?_
   show SG p e below T1758 (mkF m 201 (la54 p1620 p1621 p1622 b1623 b1662 b1677 b1701_0) [(.int (((Int32.ofNat (osz p1620 + 4)) >>> ((0 : Int32) &&& 31)) - (1 : Int32))), (.ref b1701_0)]) _
   refine st1759.trans ?_
   show SG p e below T1759 (mkF m 204 (la54 p1620 p1621 p1622 b1623 b1662 b1677 b1701_0) [(.int (oc8 ((otx p1620 w1724 48) ((((Int32.ofNat (osz p1620 + 4)) >>> ((0 : Int32) &&& 31)) - (1 : Int32))).toNatClampNeg)))]) _
   refine XS.iload X1759.here hx rfl (hb hby at_204) rfl ?_
   show SG p e below T1759 (mkF m 206 (la54 p1620 p1621 p1622 b1623 b1662 b1677 b1701_0) [(.int (1 : Int32)), (.int (oc8 ((otx p1620 w1724 48) ((((Int32.ofNat (osz p1620 + 4)) >>> ((0 : Int32) &&& 31)) - (1 : Int32))).toNatClampNeg)))]) _
   refine XS.ifNo X1759.here hx rfl (hb hby at_206) rfl ((if0 _ _).trans (feq (by decide : ¬ ((1 : Int32) = (0 : Int32)))).1) ?_
   show SG p e below T1759 (mkF m 209 (la54 p1620 p1621 p1622 b1623 b1662 b1677 b1701_0) [(.int (oc8 ((otx p1620 w1724 48) ((((Int32.ofNat (osz p1620 + 4)) >>> ((0 : Int32) &&& 31)) - (1 : Int32))).toNatClampNeg)))]) _
   refine XS.bipush X1759.here hx rfl (hb hby at_209) ?_
   show SG p e below T1759 (mkF m 211 (la54 p1620 p1621 p1622 b1623 b1662 b1677 b1701_0) [(.int (48 : Int32)), (.int (oc8 ((otx p1620 w1724 48) ((((Int32.ofNat (osz p1620 + 4)) >>> ((0 : Int32) &&& 31)) - (1 : Int32))).toNatClampNeg)))]) _
   refine XS.goto X1759.here hx rfl (pc0 := 211) (pc' := 216) rfl (hb hby at_211) (by decide) (by decide) ?_
   show SG p e below T1759 (mkF m 216 (la54 p1620 p1621 p1622 b1623 b1662 b1677 b1701_0) [(.int (48 : Int32)), (.int (oc8 ((otx p1620 w1724 48) ((((Int32.ofNat (osz p1620 + 4)) >>> ((0 : Int32) &&& 31)) - (1 : Int32))).toNatClampNeg)))]) _
   refine XS.icmpYes X1759.here hx rfl (pc0 := 216) (pc' := 221) rfl (hb hby at_216) rfl (teq H44).1 (by decide) (by decide) ?_
   show SG p e below T1759 (mkF m 221 (la54 p1620 p1621 p1622 b1623 b1662 b1677 b1701_0) []) _
   refine XS.aload X1759.here hx rfl (hb hby at_221) rfl rfl ?_
   show SG p e below T1759 (mkF m 223 (la54 p1620 p1621 p1622 b1623 b1662 b1677 b1701_0) [(.ref b1701_0)]) _
   refine XS.iconst X1759.here hx rfl (hb hby at_223) ?_
   show SG p e below T1759 (mkF m 224 (la54 p1620 p1621 p1622 b1623 b1662 b1677 b1701_0) [(.int (0 : Int32)), (.ref b1701_0)]) _
   refine XS.iloadN X1759.here hx rfl (hb hby at_224) rfl ?_
   show SG p e below T1759 (mkF m 225 (la54 p1620 p1621 p1622 b1623 b1662 b1677 b1701_0) [(.int p1620), (.int (0 : Int32)), (.ref b1701_0)]) _
   refine st1760 _ ?_
   show SG p e below T1760 (mkF m 228 (la54 p1620 p1621 p1622 b1623 b1662 b1677 b1701_0) [(.int (1 : Int32))]) _
   refine XS.ifNo X1760.here hx rfl (hb hby at_228) rfl ((if0 _ _).trans (feq (by decide : ¬ ((1 : Int32) = (0 : Int32)))).1) ?_
   show SG p e below T1760 (mkF m 231 (la54 p1620 p1621 p1622 b1623 b1662 b1677 b1701_0) []) _
   refine XS.aload X1760.here hx rfl (hb hby at_231) rfl rfl ?_
   show SG p e below T1760 (mkF m 233 (la54 p1620 p1621 p1622 b1623 b1662 b1677 b1701_0) [(.ref b1701_0)]) _
   refine XS.iconst X1760.here hx rfl (hb hby at_233) ?_
   show SG p e below T1760 (mkF m 234 (la54 p1620 p1621 p1622 b1623 b1662 b1677 b1701_0) [(.int (1 : Int32)), (.ref b1701_0)]) _
   refine XS.iloadN X1760.here hx rfl (hb hby at_234) rfl ?_
   show SG p e below T1760 (mkF m 235 (la54 p1620 p1621 p1622 b1623 b1662 b1677 b1701_0) [(.int p1620), (.int (1 : Int32)), (.ref b1701_0)]) _
   refine st1761 _ ?_
   show SG p e below T1761 (mkF m 238 (la54 p1620 p1621 p1622 b1623 b1662 b1677 b1701_0) [(.int (1 : Int32))]) _
   refine XS.ifNo X1761.here hx rfl (hb hby at_238) rfl ((if0 _ _).trans (feq (by decide : ¬ ((1 : Int32) = (0 : Int32)))).1) ?_
   show SG p e below T1761 (mkF m 241 (la54 p1620 p1621 p1622 b1623 b1662 b1677 b1701_0) []) _
   refine XS.aload X1761.here hx rfl (hb hby at_241) rfl rfl ?_
   show SG p e below T1761 (mkF m 243 (la54 p1620 p1621 p1622 b1623 b1662 b1677 b1701_0) [(.ref b1701_0)]) _
   refine XS.iconst X1761.here hx rfl (hb hby at_243) ?_
   show SG p e below T1761 (mkF m 244 (la54 p1620 p1621 p1622 b1623 b1662 b1677 b1701_0) [(.int (2 : Int32)), (.ref b1701_0)]) _
   refine XS.iloadN X1761.here hx rfl (hb hby at_244) rfl ?_
   show SG p e below T1761 (mkF m 245 (la54 p1620 p1621 p1622 b1623 b1662 b1677 b1701_0) [(.int p1620), (.int (2 : Int32)), (.ref b1701_0)]) _
   refine st1768 _ ?_
   show SG p e below T1768 (mkF m 248 (la54 p1620 p1621 p1622 b1623 b1662 b1677 b1701_0) [(.int (1 : Int32))]) _
   refine XS.ifNo X1768.here hx rfl (hb hby at_248) rfl ((if0 _ _).trans (feq (by decide : ¬ ((1 : Int32) = (0 : Int32)))).1) ?_
   show SG p e below T1768 (mkF m 251 (la54 p1620 p1621 p1622 b1623 b1662 b1677 b1701_0) []) _
   refine XS.aload X1768.here hx rfl (hb hby at_251) rfl rfl ?_
   show SG p e below T1768 (mkF m 253 (la54 p1620 p1621 p1622 b1623 b1662 b1677 b1701_0) [(.ref b1701_0)]) _
   refine XS.iconst X1768.here hx rfl (hb hby at_253) ?_
   show SG p e below T1768 (mkF m 254 (la54 p1620 p1621 p1622 b1623 b1662 b1677 b1701_0) [(.int (3 : Int32)), (.ref b1701_0)]) _
   refine XS.iloadN X1768.here hx rfl (hb hby at_254) rfl ?_
   show SG p e below T1768 (mkF m 255 (la54 p1620 p1621 p1622 b1623 b1662 b1677 b1701_0) [(.int p1620), (.int (3 : Int32)), (.ref b1701_0)]) _
   refine st1775 _ ?_
   show SG p e below T1775 (mkF m 258 (la54 p1620 p1621 p1622 b1623 b1662 b1677 b1701_0) [(.int (1 : Int32))]) _
   refine XS.ifNo X1775.here hx rfl (hb hby at_258) rfl ((if0 _ _).trans (feq (by decide : ¬ ((1 : Int32) = (0 : Int32)))).1) ?_
   show SG p e below T1775 (mkF m 261 (la54 p1620 p1621 p1622 b1623 b1662 b1677 b1701_0) []) _
   refine XS.aload X1775.here hx rfl (hb hby at_261) rfl rfl ?_
   show SG p e below T1775 (mkF m 263 (la54 p1620 p1621 p1622 b1623 b1662 b1677 b1701_0) [(.ref b1701_0)]) _
   refine XS.iconst X1775.here hx rfl (hb hby at_263) ?_
   show SG p e below T1775 (mkF m 264 (la54 p1620 p1621 p1622 b1623 b1662 b1677 b1701_0) [(.int (4 : Int32)), (.ref b1701_0)]) _
   refine XS.iloadN X1775.here hx rfl (hb hby at_264) rfl ?_
   show SG p e below T1775 (mkF m 265 (la54 p1620 p1621 p1622 b1623 b1662 b1677 b1701_0) [(.int p1620), (.int (4 : Int32)), (.ref b1701_0)]) _
   refine st1782 _ ?_
   show SG p e below T1782 (mkF m 268 (la54 p1620 p1621 p1622 b1623 b1662 b1677 b1701_0) [(.int (1 : Int32))]) _
   refine XS.ifNo X1782.here hx rfl (hb hby at_268) rfl ((if0 _ _).trans (feq (by decide : ¬ ((1 : Int32) = (0 : Int32)))).1) ?_
   show SG p e below T1782 (mkF m 271 (la54 p1620 p1621 p1622 b1623 b1662 b1677 b1701_0) []) _
   refine XS.aload X1782.here hx rfl (hb hby at_271) rfl rfl ?_
   show SG p e below T1782 (mkF m 273 (la54 p1620 p1621 p1622 b1623 b1662 b1677 b1701_0) [(.ref b1701_0)]) _
   refine XS.iconst X1782.here hx rfl (hb hby at_273) ?_
   show SG p e below T1782 (mkF m 274 (la54 p1620 p1621 p1622 b1623 b1662 b1677 b1701_0) [(.int (5 : Int32)), (.ref b1701_0)]) _
   refine XS.iloadN X1782.here hx rfl (hb hby at_274) rfl ?_
   show SG p e below T1782 (mkF m 275 (la54 p1620 p1621 p1622 b1623 b1662 b1677 b1701_0) [(.int p1620), (.int (5 : Int32)), (.ref b1701_0)]) _
   refine st1789 _ ?_
   show SG p e below T1789 (mkF m 278 (la54 p1620 p1621 p1622 b1623 b1662 b1677 b1701_0) [(.int (1 : Int32))]) _
   refine XS.ifNo X1789.here hx rfl (hb hby at_278) rfl ((if0 _ _).trans (feq (by decide : ¬ ((1 : Int32) = (0 : Int32)))).1) ?_
   show SG p e below T1789 (mkF m 281 (la54 p1620 p1621 p1622 b1623 b1662 b1677 b1701_0) []) _
   refine XS.aload X1789.here hx rfl (hb hby at_281) rfl rfl ?_
   show SG p e below T1789 (mkF m 283 (la54 p1620 p1621 p1622 b1623 b1662 b1677 b1701_0) [(.ref b1701_0)]) _
   refine XS.bipush X1789.here hx rfl (hb hby at_283) ?_
   show SG p e below T1789 (mkF m 285 (la54 p1620 p1621 p1622 b1623 b1662 b1677 b1701_0) [(.int (6 : Int32)), (.ref b1701_0)]) _
   refine XS.iloadN X1789.here hx rfl (hb hby at_285) rfl ?_
   show SG p e below T1789 (mkF m 286 (la54 p1620 p1621 p1622 b1623 b1662 b1677 b1701_0) [(.int p1620), (.int (6 : Int32)), (.ref b1701_0)]) _
   refine st1796 _ ?_
   show SG p e below T1796 (mkF m 289 (la54 p1620 p1621 p1622 b1623 b1662 b1677 b1701_0) [(.int (1 : Int32))]) _
   refine XS.ifNo X1796.here hx rfl (hb hby at_289) rfl ((if0 _ _).trans (feq (by decide : ¬ ((1 : Int32) = (0 : Int32)))).1) ?_
   show SG p e below T1796 (mkF m 292 (la54 p1620 p1621 p1622 b1623 b1662 b1677 b1701_0) []) _
   refine XS.aload X1796.here hx rfl (hb hby at_292) rfl rfl ?_
   show SG p e below T1796 (mkF m 294 (la54 p1620 p1621 p1622 b1623 b1662 b1677 b1701_0) [(.ref b1701_0)]) _
   refine XS.bipush X1796.here hx rfl (hb hby at_294) ?_
   show SG p e below T1796 (mkF m 296 (la54 p1620 p1621 p1622 b1623 b1662 b1677 b1701_0) [(.int (7 : Int32)), (.ref b1701_0)]) _
   refine XS.iloadN X1796.here hx rfl (hb hby at_296) rfl ?_
   show SG p e below T1796 (mkF m 297 (la54 p1620 p1621 p1622 b1623 b1662 b1677 b1701_0) [(.int p1620), (.int (7 : Int32)), (.ref b1701_0)]) _
   refine st1803 _ ?_
   show SG p e below T1803 (mkF m 300 (la54 p1620 p1621 p1622 b1623 b1662 b1677 b1701_0) [(.int (1 : Int32))]) _
   refine XS.ifNo X1803.here hx rfl (hb hby at_300) rfl ((if0 _ _).trans (feq (by decide : ¬ ((1 : Int32) = (0 : Int32)))).1) ?_
   show SG p e below T1803 (mkF m 303 (la54 p1620 p1621 p1622 b1623 b1662 b1677 b1701_0) []) _
   refine XS.aload X1803.here hx rfl (hb hby at_303) rfl rfl ?_
   show SG p e below T1803 (mkF m 305 (la54 p1620 p1621 p1622 b1623 b1662 b1677 b1701_0) [(.ref b1701_0)]) _
   refine XS.bipush X1803.here hx rfl (hb hby at_305) ?_
   show SG p e below T1803 (mkF m 307 (la54 p1620 p1621 p1622 b1623 b1662 b1677 b1701_0) [(.int (8 : Int32)), (.ref b1701_0)]) _
   refine XS.iloadN X1803.here hx rfl (hb hby at_307) rfl ?_
   show SG p e below T1803 (mkF m 308 (la54 p1620 p1621 p1622 b1623 b1662 b1677 b1701_0) [(.int p1620), (.int (8 : Int32)), (.ref b1701_0)]) _
   refine st1810 _ ?_
   show SG p e below T1810 (mkF m 311 (la54 p1620 p1621 p1622 b1623 b1662 b1677 b1701_0) [(.int (1 : Int32))]) _
   refine XS.ifNo X1810.here hx rfl (hb hby at_311) rfl ((if0 _ _).trans (feq (by decide : ¬ ((1 : Int32) = (0 : Int32)))).1) ?_
   show SG p e below T1810 (mkF m 314 (la54 p1620 p1621 p1622 b1623 b1662 b1677 b1701_0) []) _
   refine XS.aload X1810.here hx rfl (hb hby at_314) rfl rfl ?_
   show SG p e below T1810 (mkF m 316 (la54 p1620 p1621 p1622 b1623 b1662 b1677 b1701_0) [(.ref b1701_0)]) _
   refine XS.bipush X1810.here hx rfl (hb hby at_316) ?_
   show SG p e below T1810 (mkF m 318 (la54 p1620 p1621 p1622 b1623 b1662 b1677 b1701_0) [(.int (9 : Int32)), (.ref b1701_0)]) _
   refine XS.iloadN X1810.here hx rfl (hb hby at_318) rfl ?_
   show SG p e below T1810 (mkF m 319 (la54 p1620 p1621 p1622 b1623 b1662 b1677 b1701_0) [(.int p1620), (.int (9 : Int32)), (.ref b1701_0)]) _
   refine st1817 _ ?_
   show SG p e below T1817 (mkF m 322 (la54 p1620 p1621 p1622 b1623 b1662 b1677 b1701_0) [(.int (1 : Int32))]) _
   refine XS.ifNo X1817.here hx rfl (hb hby at_322) rfl ((if0 _ _).trans (feq (by decide : ¬ ((1 : Int32) = (0 : Int32)))).1) ?_
   show SG p e below T1817 (mkF m 325 (la54 p1620 p1621 p1622 b1623 b1662 b1677 b1701_0) []) _
   refine XS.aload X1817.here hx rfl (hb hby at_325) rfl rfl ?_
   show SG p e below T1817 (mkF m 327 (la54 p1620 p1621 p1622 b1623 b1662 b1677 b1701_0) [(.ref b1701_0)]) _
   refine XS.bipush X1817.here hx rfl (hb hby at_327) ?_
   show SG p e below T1817 (mkF m 329 (la54 p1620 p1621 p1622 b1623 b1662 b1677 b1701_0) [(.int (10 : Int32)), (.ref b1701_0)]) _
   refine XS.iloadN X1817.here hx rfl (hb hby at_329) rfl ?_
   show SG p e below T1817 (mkF m 330 (la54 p1620 p1621 p1622 b1623 b1662 b1677 b1701_0) [(.int p1620), (.int (10 : Int32)), (.ref b1701_0)]) _
   refine st1824 _ ?_
   show SG p e below T1824 (mkF m 333 (la54 p1620 p1621 p1622 b1623 b1662 b1677 b1701_0) [(.int (1 : Int32))]) _
   refine XS.ifNo X1824.here hx rfl (hb hby at_333) rfl ((if0 _ _).trans (feq (by decide : ¬ ((1 : Int32) = (0 : Int32)))).1) ?_
   show SG p e below T1824 (mkF m 336 (la54 p1620 p1621 p1622 b1623 b1662 b1677 b1701_0) []) _
   refine XS.iconst X1824.here hx rfl (hb hby at_336) ?_
   show SG p e below T1824 (mkF m 337 (la54 p1620 p1621 p1622 b1623 b1662 b1677 b1701_0) [(.int (1 : Int32))]) _
   refine XS.goto X1824.here hx rfl (pc0 := 337) (pc' := 341) rfl (hb hby at_337) (by decide) (by decide) ?_
   show SG p e below T1824 (mkF m 341 (la54 p1620 p1621 p1622 b1623 b1662 b1677 b1701_0) [(.int (1 : Int32))]) _
   exact retN X1824 hx (t := .boolean) Bd.returns (by simp) (hb hby at_341) hr
 · show OQl (some (.int (1 : Int32))) n0 _ T1824.heap _
   exact ⟨rfl, N1824⟩
 · rw [hh]
   show CHr Z EL s.vm h0 T1824.vm T1824.heap
   exact CHr.trans R1824 (CHv.at X1824 hZ1701 (el_ok hw) R1824.1)
theorem comes_1 {Post : Tables → Env → Array Value → State → Outcome → State → Prop} (hpost : ∀ tb e args s v u, (limb_1_1.after args s (.returned v) u = true ∧ limb_1_2.after args s (.returned v) u = true ∧ True) → ReturnedEndW s (.returned v) u (Jvm.fieldLocs frame_1_writes args s ++ Jvm.arrayLocs frame_1_arrays args s ++ Jvm.staticLocs frame_1_statics s) 48 2432 → Post tb e args s (.returned v) u) :
   ArmFor flags0 classFile x code maxLocals ret World_1 tables_1 room_1 Calls_1 rest_1 Pre_1 Post := by
 intro l hfl _ _ p e ha hc hk s m args below hf hA hF happ hP
 obtain ⟨hcalls, hrest, hpre⟩ := hP
 obtain ⟨-, -, -, hnamed, -, -, -, hat⟩ := (Spec.applies_iff hf).mp happ
 obtain ⟨hg, hn⟩ := and_e (Cond.before_iff.mp (show (Jvm.Cond.and given_1 narrow_1).before args s = true from hpre))
 obtain ⟨gg0, gr0⟩ := and_e hg
 obtain ⟨gg1, gr1⟩ := and_e gr0
 obtain ⟨gg2, gr2⟩ := and_e gr1
 obtain ⟨w0, w1, w2, rfl⟩ : ∃ w0 w1 w2 : Value, args = #[w0, w1, w2] := by
   have hs : args.size = 3 := by simpa [Cond.value, given_1] using gg0
   obtain ⟨L⟩ := args
   match L, hs with
   | [w0, w1, w2], _ => exact ⟨w0, w1, w2, rfl⟩
 have hw := fun d (hd : d ∈ tables_1) => atoms_spec (ws := Jvm.Cond.code x code maxLocals ret :: tables_1) hat d (List.mem_cons_of_mem _ hd)
 have hfit : Fit s := fun {y c} hc i hi => by
   obtain ⟨ha, rfl⟩ := Array.getElem?_eq_some_iff.mp hc
   have q := List.all_eq_true.mp ((Array.all_eq_true_iff_forall_mem.mp hF) _ (Array.getElem_mem ha)) i (List.mem_range.mpr hi)
   simpa [Array.getElem?_eq_getElem hi] using q
 obtain ⟨i0, ei0⟩ := is_v gg1
 obtain rfl : w0 = (.int i0) := Option.some.inj ei0
 obtain ⟨i1, ei1⟩ := is_v gg2
 obtain rfl : w1 = (.int i1) := Option.some.inj ei1
 obtain ⟨i2, ei2⟩ := is_v gr2
 obtain rfl : w2 = (.int i2) := Option.some.inj ei2
 obtain ⟨hsets, hown0⟩ := atoms_of _ (rest_1_c_eq ▸ (show rest_1_c.before _ s = true from hrest))
 obtain ⟨hn1, hn2⟩ := and_e hn
 obtain ⟨hn3, hn4⟩ := and_e hn2
 obtain ⟨hn5, hn6⟩ := and_e hn4
 obtain ⟨hn7, hn8⟩ := and_e hn6
 obtain ⟨hn9, hn10⟩ := and_e hn8
 obtain ⟨hn11, hn12⟩ := and_e hn10
 obtain ⟨hn13, hn14⟩ := and_e hn12
 obtain ⟨hn15, hn16⟩ := and_e hn14
 obtain ⟨hn17, hn18⟩ := and_e hn16
 obtain ⟨hn19, hn20⟩ := and_e hn18
 obtain ⟨hn21, hn22⟩ := and_e hn20
 obtain ⟨w_c23, ev_c23⟩ := exa_v hn1
 have E_c23 := Exa.start ev_c23 hn1
 have S_c23 := Sta.start ev_c23 (Or.inr ⟨(tw hw 3 rfl), (tw hw 4 rfl)⟩)
 obtain ⟨w_c24, ev_c24⟩ := exa_v hn3
 have E_c24 := Exa.start ev_c24 hn3
 have S_c24 := Sta.start ev_c24 (Or.inr ⟨(tw hw 3 rfl), (tw hw 7 rfl)⟩)
 obtain ⟨w_c25, ev_c25⟩ := exa_v hn5
 have E_c25 := Exa.start ev_c25 hn5
 have S_c25 := Sta.start ev_c25 (Or.inr ⟨(tw hw 3 rfl), (tw hw 9 rfl)⟩)
 obtain ⟨w_c26, ev_c26⟩ := exa_v hn7
 have E_c26 := Exa.start ev_c26 hn7
 have S_c26 := Sta.start ev_c26 (Or.inr ⟨(tw hw 3 rfl), (tw hw 11 rfl)⟩)
 obtain ⟨w_c27, ev_c27⟩ := exa_v hn9
 have E_c27 := Exa.start ev_c27 hn9
 have S_c27 := Sta.start ev_c27 (Or.inr ⟨(tw hw 3 rfl), (tw hw 13 rfl)⟩)
 obtain ⟨w_c28, ev_c28⟩ := exa_v hn11
 have E_c28 := Exa.start ev_c28 hn11
 have S_c28 := Sta.start ev_c28 (Or.inr ⟨(tw hw 3 rfl), (tw hw 15 rfl)⟩)
 have F29 := own_fi ev_c26 hn13
 have F30 := own_fi ev_c23 hn15
 have F31 := own_fi ev_c25 hn17
 have F32 := own_fi ev_c27 hn19
 have F33 := own_fi ev_c28 hn21
 have F34 := own_fi ev_c24 hn22
 obtain ⟨wS, evS, hwS⟩ := own_cs (Cond.before_iff.mp (hsets _ (List.mem_of_getElem? (i := 1) rfl))) (Cond.before_iff.mp (hsets _ (List.mem_of_getElem? (i := 2) rfl)))
 have SS := Sta.start evS (Or.inl (hsets _ (List.mem_of_getElem? (i := 0) rfl)))
 obtain ⟨oF, evF, hoF⟩ := own_rf (Cond.before_iff.mp (hsets _ (List.mem_of_getElem? (i := 8) rfl)))
 have SF := Sta.start evF (Or.inl (hsets _ (List.mem_of_getElem? (i := 7) rfl)))
 obtain ⟨d1, kd1, evd1, Bd1⟩ := own_tab (n := 100) (F := fun r => Int32.ofNat (48 + r % 10)) (tw hw 53 rfl) (hsets _ (List.mem_of_getElem? (i := 12) rfl)) (hsets _ (List.mem_of_getElem? (i := 13) rfl)) (hsets _ (List.mem_of_getElem? (i := 14) rfl)) rfl (by decide) (fun r hr => by rw [← SBG.ones_num r hr]; rfl) (by decide)
 have Sd1 := Sta.start evd1 (Or.inl (hsets _ (List.mem_of_getElem? (i := 11) rfl)))
 obtain ⟨d2, kd2, evd2, Bd2⟩ := own_tab (n := 100) (F := fun r => Int32.ofNat (48 + r / 10)) (tw hw 53 rfl) (hsets _ (List.mem_of_getElem? (i := 17) rfl)) (hsets _ (List.mem_of_getElem? (i := 18) rfl)) (hsets _ (List.mem_of_getElem? (i := 19) rfl)) rfl (by decide) (fun r hr => by rw [← SBG.tens_num r hr]; rfl) (by decide)
 have Sd2 := Sta.start evd2 (Or.inl (hsets _ (List.mem_of_getElem? (i := 16) rfl)))
 have hCH : CHv s EL s.vm s.heap := CHv.start (el_ok hw) (fun q hq => hcalls.1 q hq) (hsets _ (List.mem_of_getElem? (i := 2) rfl)) (tw hw 53 rfl) (tw hw 59 rfl)
 suffices M : OMetH EL l s x code maxLocals ret tables_1 room_1 s.heap #[(.int i0), (.int i1), (.int i2)] (OQl (some (.int (1 : Int32))) s.heap.size) by
   obtain ⟨n, o, h1, h2, h3, _, L, rfl, ⟨rfl, N⟩, -, hq1, hq2, hq3, hq4⟩ := M p e ha hc hk s m _ below hf ((Spec.applies_iff_loose hf).mp happ).1 ⟨rfl, State.Warmed39.refl s, rfl, hCH⟩ trivial
   exact ⟨n, _, h1, h2, h3, hpost _ _ _ _ _ _ ⟨Cond.after_iff.mpr rfl, Cond.after_iff.mpr (eq_i res_at (Term.int_eval (1)) rfl), trivial⟩ ⟨hq1, hq2, hq3, (hq4.sift fun y hy => Or.inr (N y hy)).mono (by decide) (by decide)⟩⟩
 have hm_hq : ((i1 &&& (2147483647 : Int32)) % (6 : Int32)) = (0 : Int32) ∨ ((i1 &&& (2147483647 : Int32)) % (6 : Int32)) = (1 : Int32) ∨ ((i1 &&& (2147483647 : Int32)) % (6 : Int32)) = (2 : Int32) ∨ ((i1 &&& (2147483647 : Int32)) % (6 : Int32)) = (3 : Int32) ∨ ((i1 &&& (2147483647 : Int32)) % (6 : Int32)) = (4 : Int32) ∨ ((i1 &&& (2147483647 : Int32)) % (6 : Int32)) = (5 : Int32) := by
   obtain ⟨q1, q2⟩ := own_mod i1 (6 : Int32) (by decide)
   have q3 : (6 : Int32).toInt = 6 := by decide
   rw [q3] at q2
   generalize ((i1 &&& (2147483647 : Int32)) % (6 : Int32)) = z at q1 q2 ⊢
   have q4 : z.toInt = 0 ∨ z.toInt = 1 ∨ z.toInt = 2 ∨ z.toInt = 3 ∨ z.toInt = 4 ∨ z.toInt = 5 := by omega
   rcases q4 with q | q | q | q | q | q <;> simp [← Int32.toInt_inj, q]
 rcases own_b1 i2 with hr | hr <;> rcases hm_hq with hq | hq | hq | hq | hq | hq
 · exact r0_1 l s _ hw i0 i1 i2 w_c23 w_c24 w_c25 w_c26 w_c27 w_c28 w_c23 wS d1 d2 kd1 (fun r => Int32.ofNat (48 + r % 10)) kd2 (fun r => Int32.ofNat (48 + r / 10)) (68 : Int32) oF s.heap s.heap.size (Nat.le_refl _) S_c23 E_c23 S_c24 E_c24 S_c25 E_c25 S_c26 E_c26 S_c27 E_c27 S_c28 E_c28 hr (by rw [hq]; decide) (by rw [hq]; decide) (by rw [hq]; rfl) SS hwS Sd1 Sd2 Bd1 Bd2 rfl rfl (hsets _ (List.mem_of_getElem? (i := 10) rfl)) (hsets _ (List.mem_of_getElem? (i := 15) rfl)) F30 (by decide) E_c23 (by decide) (by decide) (own_q1 i0) SF hoF (own_q2 i0) (own_q3 _ _ _) (own_q4 i0 (c := 3) (by decide)) (own_q5 i0 (c := 3) (by decide) (by decide)) (by rw [own_q6, hq]; decide) (own_q4 i0 (c := 2) (by decide)) (own_q5 i0 (c := 2) (by decide) (by decide)) (own_q7 _ _ _) (own_q4 i0 (c := 1) (by decide)) (own_q5 i0 (c := 1) (by decide) (by decide)) (by rw [own_q8]; decide) rfl (own_q9 _ _ _)
 · exact r0_1 l s _ hw i0 i1 i2 w_c23 w_c24 w_c25 w_c26 w_c27 w_c28 w_c24 wS d1 d2 kd1 (fun r => Int32.ofNat (48 + r % 10)) kd2 (fun r => Int32.ofNat (48 + r / 10)) (87 : Int32) oF s.heap s.heap.size (Nat.le_refl _) S_c23 E_c23 S_c24 E_c24 S_c25 E_c25 S_c26 E_c26 S_c27 E_c27 S_c28 E_c28 hr (by rw [hq]; decide) (by rw [hq]; decide) (by rw [hq]; rfl) SS hwS Sd1 Sd2 Bd1 Bd2 rfl rfl (hsets _ (List.mem_of_getElem? (i := 10) rfl)) (hsets _ (List.mem_of_getElem? (i := 15) rfl)) F34 (by decide) E_c24 (by decide) (by decide) (own_q1 i0) SF hoF (own_q2 i0) (own_q3 _ _ _) (own_q4 i0 (c := 3) (by decide)) (own_q5 i0 (c := 3) (by decide) (by decide)) (by rw [own_q6, hq]; decide) (own_q4 i0 (c := 2) (by decide)) (own_q5 i0 (c := 2) (by decide) (by decide)) (own_q7 _ _ _) (own_q4 i0 (c := 1) (by decide)) (own_q5 i0 (c := 1) (by decide) (by decide)) (by rw [own_q8]; decide) rfl (own_q9 _ _ _)
 · exact r0_1 l s _ hw i0 i1 i2 w_c23 w_c24 w_c25 w_c26 w_c27 w_c28 w_c25 wS d1 d2 kd1 (fun r => Int32.ofNat (48 + r % 10)) kd2 (fun r => Int32.ofNat (48 + r / 10)) (77 : Int32) oF s.heap s.heap.size (Nat.le_refl _) S_c23 E_c23 S_c24 E_c24 S_c25 E_c25 S_c26 E_c26 S_c27 E_c27 S_c28 E_c28 hr (by rw [hq]; decide) (by rw [hq]; decide) (by rw [hq]; rfl) SS hwS Sd1 Sd2 Bd1 Bd2 rfl rfl (hsets _ (List.mem_of_getElem? (i := 10) rfl)) (hsets _ (List.mem_of_getElem? (i := 15) rfl)) F31 (by decide) E_c25 (by decide) (by decide) (own_q1 i0) SF hoF (own_q2 i0) (own_q3 _ _ _) (own_q4 i0 (c := 3) (by decide)) (own_q5 i0 (c := 3) (by decide) (by decide)) (by rw [own_q6, hq]; decide) (own_q4 i0 (c := 2) (by decide)) (own_q5 i0 (c := 2) (by decide) (by decide)) (own_q7 _ _ _) (own_q4 i0 (c := 1) (by decide)) (own_q5 i0 (c := 1) (by decide) (by decide)) (by rw [own_q8]; decide) rfl (own_q9 _ _ _)
 · exact r0_1 l s _ hw i0 i1 i2 w_c23 w_c24 w_c25 w_c26 w_c27 w_c28 w_c26 wS d1 d2 kd1 (fun r => Int32.ofNat (48 + r % 10)) kd2 (fun r => Int32.ofNat (48 + r / 10)) (81 : Int32) oF s.heap s.heap.size (Nat.le_refl _) S_c23 E_c23 S_c24 E_c24 S_c25 E_c25 S_c26 E_c26 S_c27 E_c27 S_c28 E_c28 hr (by rw [hq]; decide) (by rw [hq]; decide) (by rw [hq]; rfl) SS hwS Sd1 Sd2 Bd1 Bd2 rfl rfl (hsets _ (List.mem_of_getElem? (i := 10) rfl)) (hsets _ (List.mem_of_getElem? (i := 15) rfl)) F29 (by decide) E_c26 (by decide) (by decide) (own_q1 i0) SF hoF (own_q2 i0) (own_q3 _ _ _) (own_q4 i0 (c := 3) (by decide)) (own_q5 i0 (c := 3) (by decide) (by decide)) (by rw [own_q6, hq]; decide) (own_q4 i0 (c := 2) (by decide)) (own_q5 i0 (c := 2) (by decide) (by decide)) (own_q7 _ _ _) (own_q4 i0 (c := 1) (by decide)) (own_q5 i0 (c := 1) (by decide) (by decide)) (by rw [own_q8]; decide) rfl (own_q9 _ _ _)
 · exact r0_1 l s _ hw i0 i1 i2 w_c23 w_c24 w_c25 w_c26 w_c27 w_c28 w_c27 wS d1 d2 kd1 (fun r => Int32.ofNat (48 + r % 10)) kd2 (fun r => Int32.ofNat (48 + r / 10)) (72 : Int32) oF s.heap s.heap.size (Nat.le_refl _) S_c23 E_c23 S_c24 E_c24 S_c25 E_c25 S_c26 E_c26 S_c27 E_c27 S_c28 E_c28 hr (by rw [hq]; decide) (by rw [hq]; decide) (by rw [hq]; rfl) SS hwS Sd1 Sd2 Bd1 Bd2 rfl rfl (hsets _ (List.mem_of_getElem? (i := 10) rfl)) (hsets _ (List.mem_of_getElem? (i := 15) rfl)) F32 (by decide) E_c27 (by decide) (by decide) (own_q1 i0) SF hoF (own_q2 i0) (own_q3 _ _ _) (own_q4 i0 (c := 3) (by decide)) (own_q5 i0 (c := 3) (by decide) (by decide)) (by rw [own_q6, hq]; decide) (own_q4 i0 (c := 2) (by decide)) (own_q5 i0 (c := 2) (by decide) (by decide)) (own_q7 _ _ _) (own_q4 i0 (c := 1) (by decide)) (own_q5 i0 (c := 1) (by decide) (by decide)) (by rw [own_q8]; decide) rfl (own_q9 _ _ _)
 · exact r0_1 l s _ hw i0 i1 i2 w_c23 w_c24 w_c25 w_c26 w_c27 w_c28 w_c28 wS d1 d2 kd1 (fun r => Int32.ofNat (48 + r % 10)) kd2 (fun r => Int32.ofNat (48 + r / 10)) (89 : Int32) oF s.heap s.heap.size (Nat.le_refl _) S_c23 E_c23 S_c24 E_c24 S_c25 E_c25 S_c26 E_c26 S_c27 E_c27 S_c28 E_c28 hr (by rw [hq]; decide) (by rw [hq]; decide) (by rw [hq]; rfl) SS hwS Sd1 Sd2 Bd1 Bd2 rfl rfl (hsets _ (List.mem_of_getElem? (i := 10) rfl)) (hsets _ (List.mem_of_getElem? (i := 15) rfl)) F33 (by decide) E_c28 (by decide) (by decide) (own_q1 i0) SF hoF (own_q2 i0) (own_q3 _ _ _) (own_q4 i0 (c := 3) (by decide)) (own_q5 i0 (c := 3) (by decide) (by decide)) (by rw [own_q6, hq]; decide) (own_q4 i0 (c := 2) (by decide)) (own_q5 i0 (c := 2) (by decide) (by decide)) (own_q7 _ _ _) (own_q4 i0 (c := 1) (by decide)) (own_q5 i0 (c := 1) (by decide) (by decide)) (by rw [own_q8]; decide) rfl (own_q9 _ _ _)
 · exact r0_2 l s _ hw i0 i1 i2 w_c23 w_c24 w_c25 w_c26 w_c27 w_c28 w_c23 wS d1 d2 kd1 (fun r => Int32.ofNat (48 + r % 10)) kd2 (fun r => Int32.ofNat (48 + r / 10)) (68 : Int32) oF s.heap s.heap.size (Nat.le_refl _) S_c23 E_c23 S_c24 E_c24 S_c25 E_c25 S_c26 E_c26 S_c27 E_c27 S_c28 E_c28 (by rw [hr]; decide) (by rw [hq]; decide) (by rw [hq]; decide) (by rw [hq]; rfl) SS hwS Sd1 Sd2 Bd1 Bd2 rfl rfl (hsets _ (List.mem_of_getElem? (i := 10) rfl)) (hsets _ (List.mem_of_getElem? (i := 15) rfl)) F30 (by decide) E_c23 (by decide) (by decide) (own_q1 i0) SF hoF (own_q2 i0) (own_q3 _ _ _) (own_q4 i0 (c := 3) (by decide)) (own_q5 i0 (c := 3) (by decide) (by decide)) (by rw [own_q6, hq]; decide) (own_q4 i0 (c := 2) (by decide)) (own_q5 i0 (c := 2) (by decide) (by decide)) (own_q7 _ _ _) (own_q4 i0 (c := 1) (by decide)) (own_q5 i0 (c := 1) (by decide) (by decide)) (by rw [own_q8]; decide) rfl (own_q9 _ _ _)
 · exact r0_2 l s _ hw i0 i1 i2 w_c23 w_c24 w_c25 w_c26 w_c27 w_c28 w_c24 wS d1 d2 kd1 (fun r => Int32.ofNat (48 + r % 10)) kd2 (fun r => Int32.ofNat (48 + r / 10)) (87 : Int32) oF s.heap s.heap.size (Nat.le_refl _) S_c23 E_c23 S_c24 E_c24 S_c25 E_c25 S_c26 E_c26 S_c27 E_c27 S_c28 E_c28 (by rw [hr]; decide) (by rw [hq]; decide) (by rw [hq]; decide) (by rw [hq]; rfl) SS hwS Sd1 Sd2 Bd1 Bd2 rfl rfl (hsets _ (List.mem_of_getElem? (i := 10) rfl)) (hsets _ (List.mem_of_getElem? (i := 15) rfl)) F34 (by decide) E_c24 (by decide) (by decide) (own_q1 i0) SF hoF (own_q2 i0) (own_q3 _ _ _) (own_q4 i0 (c := 3) (by decide)) (own_q5 i0 (c := 3) (by decide) (by decide)) (by rw [own_q6, hq]; decide) (own_q4 i0 (c := 2) (by decide)) (own_q5 i0 (c := 2) (by decide) (by decide)) (own_q7 _ _ _) (own_q4 i0 (c := 1) (by decide)) (own_q5 i0 (c := 1) (by decide) (by decide)) (by rw [own_q8]; decide) rfl (own_q9 _ _ _)
 · exact r0_2 l s _ hw i0 i1 i2 w_c23 w_c24 w_c25 w_c26 w_c27 w_c28 w_c25 wS d1 d2 kd1 (fun r => Int32.ofNat (48 + r % 10)) kd2 (fun r => Int32.ofNat (48 + r / 10)) (77 : Int32) oF s.heap s.heap.size (Nat.le_refl _) S_c23 E_c23 S_c24 E_c24 S_c25 E_c25 S_c26 E_c26 S_c27 E_c27 S_c28 E_c28 (by rw [hr]; decide) (by rw [hq]; decide) (by rw [hq]; decide) (by rw [hq]; rfl) SS hwS Sd1 Sd2 Bd1 Bd2 rfl rfl (hsets _ (List.mem_of_getElem? (i := 10) rfl)) (hsets _ (List.mem_of_getElem? (i := 15) rfl)) F31 (by decide) E_c25 (by decide) (by decide) (own_q1 i0) SF hoF (own_q2 i0) (own_q3 _ _ _) (own_q4 i0 (c := 3) (by decide)) (own_q5 i0 (c := 3) (by decide) (by decide)) (by rw [own_q6, hq]; decide) (own_q4 i0 (c := 2) (by decide)) (own_q5 i0 (c := 2) (by decide) (by decide)) (own_q7 _ _ _) (own_q4 i0 (c := 1) (by decide)) (own_q5 i0 (c := 1) (by decide) (by decide)) (by rw [own_q8]; decide) rfl (own_q9 _ _ _)
 · exact r0_2 l s _ hw i0 i1 i2 w_c23 w_c24 w_c25 w_c26 w_c27 w_c28 w_c26 wS d1 d2 kd1 (fun r => Int32.ofNat (48 + r % 10)) kd2 (fun r => Int32.ofNat (48 + r / 10)) (81 : Int32) oF s.heap s.heap.size (Nat.le_refl _) S_c23 E_c23 S_c24 E_c24 S_c25 E_c25 S_c26 E_c26 S_c27 E_c27 S_c28 E_c28 (by rw [hr]; decide) (by rw [hq]; decide) (by rw [hq]; decide) (by rw [hq]; rfl) SS hwS Sd1 Sd2 Bd1 Bd2 rfl rfl (hsets _ (List.mem_of_getElem? (i := 10) rfl)) (hsets _ (List.mem_of_getElem? (i := 15) rfl)) F29 (by decide) E_c26 (by decide) (by decide) (own_q1 i0) SF hoF (own_q2 i0) (own_q3 _ _ _) (own_q4 i0 (c := 3) (by decide)) (own_q5 i0 (c := 3) (by decide) (by decide)) (by rw [own_q6, hq]; decide) (own_q4 i0 (c := 2) (by decide)) (own_q5 i0 (c := 2) (by decide) (by decide)) (own_q7 _ _ _) (own_q4 i0 (c := 1) (by decide)) (own_q5 i0 (c := 1) (by decide) (by decide)) (by rw [own_q8]; decide) rfl (own_q9 _ _ _)
 · exact r0_2 l s _ hw i0 i1 i2 w_c23 w_c24 w_c25 w_c26 w_c27 w_c28 w_c27 wS d1 d2 kd1 (fun r => Int32.ofNat (48 + r % 10)) kd2 (fun r => Int32.ofNat (48 + r / 10)) (72 : Int32) oF s.heap s.heap.size (Nat.le_refl _) S_c23 E_c23 S_c24 E_c24 S_c25 E_c25 S_c26 E_c26 S_c27 E_c27 S_c28 E_c28 (by rw [hr]; decide) (by rw [hq]; decide) (by rw [hq]; decide) (by rw [hq]; rfl) SS hwS Sd1 Sd2 Bd1 Bd2 rfl rfl (hsets _ (List.mem_of_getElem? (i := 10) rfl)) (hsets _ (List.mem_of_getElem? (i := 15) rfl)) F32 (by decide) E_c27 (by decide) (by decide) (own_q1 i0) SF hoF (own_q2 i0) (own_q3 _ _ _) (own_q4 i0 (c := 3) (by decide)) (own_q5 i0 (c := 3) (by decide) (by decide)) (by rw [own_q6, hq]; decide) (own_q4 i0 (c := 2) (by decide)) (own_q5 i0 (c := 2) (by decide) (by decide)) (own_q7 _ _ _) (own_q4 i0 (c := 1) (by decide)) (own_q5 i0 (c := 1) (by decide) (by decide)) (by rw [own_q8]; decide) rfl (own_q9 _ _ _)
 · exact r0_2 l s _ hw i0 i1 i2 w_c23 w_c24 w_c25 w_c26 w_c27 w_c28 w_c28 wS d1 d2 kd1 (fun r => Int32.ofNat (48 + r % 10)) kd2 (fun r => Int32.ofNat (48 + r / 10)) (89 : Int32) oF s.heap s.heap.size (Nat.le_refl _) S_c23 E_c23 S_c24 E_c24 S_c25 E_c25 S_c26 E_c26 S_c27 E_c27 S_c28 E_c28 (by rw [hr]; decide) (by rw [hq]; decide) (by rw [hq]; decide) (by rw [hq]; rfl) SS hwS Sd1 Sd2 Bd1 Bd2 rfl rfl (hsets _ (List.mem_of_getElem? (i := 10) rfl)) (hsets _ (List.mem_of_getElem? (i := 15) rfl)) F33 (by decide) E_c28 (by decide) (by decide) (own_q1 i0) SF hoF (own_q2 i0) (own_q3 _ _ _) (own_q4 i0 (c := 3) (by decide)) (own_q5 i0 (c := 3) (by decide) (by decide)) (by rw [own_q6, hq]; decide) (own_q4 i0 (c := 2) (by decide)) (own_q5 i0 (c := 2) (by decide) (by decide)) (own_q7 _ _ _) (own_q4 i0 (c := 1) (by decide)) (own_q5 i0 (c := 1) (by decide) (by decide)) (by rw [own_q8]; decide) rfl (own_q9 _ _ _)
theorem main_1_1 : Claimed_1_1 := comes_1 fun _ _ _ _ _ _ h hF => ⟨h.1, hF⟩
theorem main_1_2 : Claimed_1_2 := comes_1 fun _ _ _ _ _ _ h hF => ⟨h.2.1, hF⟩
end Jvm.Pilot.@@N@@
namespace Jvm.Pilot.@@N@@
open Jvm Jvm.ClassFile Sem Op Lib Jvm.Free Jvm.Stand Jvm.Pilot.@@N@@.Jvm.D
/-! MADE BY PROGRAM (witnessworld.py) out of the Statement's table words and the real class files: 30 classes; the members and pool entries that the words name. The judged class is class 1, her method 5. -/
namespace start1
open Jvm.ClassFile
def u (s : String) : CpInfo := .utf8 (stringToUtf16 s)
/-- a pool by its gaps: so many unusable entries, then the entry; so many at the end -/
def gap : Nat → List CpInfo → List CpInfo
  | 0, r => r
  | n + 1, r => .unusable :: gap n r
def poolList (es : List (Nat × CpInfo)) (last : Nat) : List CpInfo := es.foldr (fun e r => gap e.1 (e.2 :: r)) (gap last [])
def pool (es : List (Nat × CpInfo)) (last : Nat) : Array CpInfo := ⟨poolList es last⟩
def fileOf (pool : Array CpInfo) (this : Nat) (attrs : Array Attribute := #[]) (ms : Array MethodInfo := #[]) (fl : Nat := 33) (sup : Nat := 0) (ifs : Array Nat := #[]) (fds : Array FieldInfo := #[]) : ClassFile where
  minorVersion := 0
  majorVersion := 65
  constantPool := pool
  accessFlags := fl
  thisClass := this
  superClass := sup
  interfaces := ifs
  fields := fds
  methods := ms
  attributes := attrs
def plain (name : String) (sup : Option ClassId) : Class where
  name := name
  kind := .ordinary
  loader := none
  accessFlags := 33
  super := sup
  interfaces := #[]
  cf := none
  fields := #[]
  methods := #[]
  instanceTypes := #[]
  staticTypes := #[]
  resolved := #[]
  callSites := []
  init := .initialized
  statics := none
  mirror := none

def pool0 : Array CpInfo := pool [(5, u "<init>"), (0, u "()V"), (1, .class_ 10), (1, u "java/lang/Object")] 113

def k0c0 : Code := { maxStack := 0, maxLocals := 1, code := object_method_1_code, exceptionTable := #[], attributes := #[] }
def k0m0 : Method := { name := "<init>", desc := "()V", sig := { parameters := [], returnType := none }, accessFlags := 1, code := some k0c0 }
/-- java/lang/Object -/
def k0 : Class := { plain "java/lang/Object" none with
  accessFlags := 33
  interfaces := #[]
  cf := some (fileOf pool0 8 #[] #[{ accessFlags := 1, nameIndex := 5, descriptorIndex := 6, attributes := #[] }] 33 0 #[] #[])
  fields := #[]
  methods := #[k0m0]
  instanceTypes := #[]
  staticTypes := #[]
  resolved := Array.replicate 124 none
  statics := none }

def pool1 : Array CpInfo := pool [(2, .class_ 4), (1, u "java/lang/Object"), (0, u "<init>"), (0, u "()V"), (0, .long 10), (1, .long 100), (1, .long 1000), (1, .long 10000), (1, .long 100000), (1, .long 1000000), (1, .long 10000000), (1, .long 100000000), (1, .long 1000000000), (1, .methodref 26 27), (0, .class_ 28), (0, .nameAndType 29 30), (0, u "java/lang/Math"), (0, u "abs"), (0, u "(J)J"), (0, .methodref 32 33), (0, .class_ 34), (0, .nameAndType 35 36), (0, u "com/example/tranchebook/tranchebook/CycleToStringPinLaw"), (0, u "digits"), (0, u "(J)I"), (0, .methodref 32 38), (0, .nameAndType 39 40), (0, u "pow10"), (0, u "(I)J"), (0, .methodref 42 43), (0, .class_ 44), (0, .nameAndType 45 46), (0, u "java/lang/String"), (0, u "charAt"), (0, u "(I)C"), (0, .class_ 48), (0, u "com/example/tranchebook/tranchebook/Cycle$Unit"), (0, .fieldref 47 50), (0, .nameAndType 51 52), (0, u "DAYS"), (0, u "Lcom/example/tranchebook/tranchebook/Cycle$Unit;"), (0, .fieldref 47 54), (0, .nameAndType 55 52), (0, u "WEEKS"), (0, .fieldref 47 57), (0, .nameAndType 58 52), (0, u "MONTHS"), (0, .fieldref 47 60), (0, .nameAndType 61 52), (0, u "QUARTERS"), (0, .fieldref 47 63), (0, .nameAndType 64 52), (0, u "HALF_YEARS"), (0, .fieldref 47 66), (0, .nameAndType 67 52), (0, u "YEARS"), (0, .integer 2147483647), (0, .class_ 70), (0, u "com/example/tranchebook/tranchebook/Cycle"), (0, .methodref 69 72), (0, .nameAndType 5 73), (0, u "(ILcom/example/tranchebook/tranchebook/Cycle$Unit;Z)V"), (0, .methodref 69 75), (0, .nameAndType 76 77), (0, u "toString"), (0, u "()Ljava/lang/String;"), (0, .methodref 32 79), (0, .nameAndType 80 81), (0, u "middleLength"), (0, u "(I)I"), (0, .methodref 42 83), (0, .nameAndType 84 85), (0, u "length"), (0, u "()I"), (0, .methodref 32 87), (0, .nameAndType 88 89), (0, u "midOk"), (0, u "(Ljava/lang/String;II)Z"), (3, u "law"), (0, u "(III)Z")] 8

def k1m0 : Method := { name := "<init>", desc := "()V", sig := { parameters := [], returnType := none }, accessFlags := 1, code := none }
def k1c1 : Code := { maxStack := 5, maxLocals := 2, code := method_2_code, exceptionTable := #[], attributes := #[] }
def k1m1 : Method := { name := "pow10", desc := "(I)J", sig := { parameters := [.int], returnType := some .long }, accessFlags := 10, code := some k1c1 }
def k1c2 : Code := { maxStack := 4, maxLocals := 3, code := method_3_code, exceptionTable := #[], attributes := #[] }
def k1m2 : Method := { name := "digits", desc := "(J)I", sig := { parameters := [.long], returnType := some .int }, accessFlags := 10, code := some k1c2 }
def k1c3 : Code := { maxStack := 2, maxLocals := 3, code := method_4_code, exceptionTable := #[], attributes := #[] }
def k1m3 : Method := { name := "middleLength", desc := "(I)I", sig := { parameters := [.int], returnType := some .int }, accessFlags := 10, code := some k1c3 }
def k1c4 : Code := { maxStack := 5, maxLocals := 12, code := method_5_code, exceptionTable := #[], attributes := #[] }
def k1m4 : Method := { name := "midOk", desc := "(Ljava/lang/String;II)Z", sig := { parameters := [(.object "java/lang/String"), .int, .int], returnType := some .boolean }, accessFlags := 10, code := some k1c4 }
def k1c5 : Code := { maxStack := 5, maxLocals := 11, code := code, exceptionTable := #[], attributes := #[] }
def k1m5 : Method := { name := "law", desc := "(III)Z", sig := { parameters := [.int, .int, .int], returnType := some .boolean }, accessFlags := 9, code := some k1c5 }
/-- com/example/tranchebook/tranchebook/CycleToStringPinLaw -/
def k1 : Class := { plain "com/example/tranchebook/tranchebook/CycleToStringPinLaw" (some 0) with
  accessFlags := 49
  interfaces := #[]
  cf := some (fileOf pool1 32 #[] #[{ accessFlags := 1, nameIndex := 5, descriptorIndex := 6, attributes := #[] }, { accessFlags := 10, nameIndex := 39, descriptorIndex := 40, attributes := #[] }, { accessFlags := 10, nameIndex := 35, descriptorIndex := 36, attributes := #[] }, { accessFlags := 10, nameIndex := 80, descriptorIndex := 81, attributes := #[] }, { accessFlags := 10, nameIndex := 88, descriptorIndex := 89, attributes := #[] }, { accessFlags := 9, nameIndex := 93, descriptorIndex := 94, attributes := #[] }] 49 2 #[] #[])
  fields := #[]
  methods := #[k1m0, k1m1, k1m2, k1m3, k1m4, k1m5]
  instanceTypes := #[]
  staticTypes := #[]
  resolved := Array.replicate 103 none
  statics := none }

def pool2 : Array CpInfo := pool [(1, .class_ 2), (0, u "java/lang/constant/Constable"), (0, .class_ 4), (0, u "java/lang/Object")] 6

/-- java/lang/constant/Constable -/
def k2 : Class := { plain "java/lang/constant/Constable" (some 0) with
  accessFlags := 1537
  interfaces := #[]
  cf := some (fileOf pool2 1 #[] #[] 1537 3 #[] #[])
  fields := #[]
  methods := #[]
  instanceTypes := #[]
  staticTypes := #[]
  resolved := Array.replicate 11 none
  statics := none }

def pool3 : Array CpInfo := pool [(1, .class_ 2), (0, u "java/lang/Comparable"), (0, .class_ 4), (0, u "java/lang/Object")] 7

/-- java/lang/Comparable -/
def k3 : Class := { plain "java/lang/Comparable" (some 0) with
  accessFlags := 1537
  interfaces := #[]
  cf := some (fileOf pool3 1 #[] #[] 1537 3 #[] #[])
  fields := #[]
  methods := #[]
  instanceTypes := #[]
  staticTypes := #[]
  resolved := Array.replicate 12 none
  statics := none }

def pool4 : Array CpInfo := pool [(1, .class_ 2), (0, u "java/io/Serializable"), (0, .class_ 4), (0, u "java/lang/Object")] 2

/-- java/io/Serializable -/
def k4 : Class := { plain "java/io/Serializable" (some 0) with
  accessFlags := 1537
  interfaces := #[]
  cf := some (fileOf pool4 1 #[] #[] 1537 3 #[] #[])
  fields := #[]
  methods := #[]
  instanceTypes := #[]
  staticTypes := #[]
  resolved := Array.replicate 7 none
  statics := none }

def pool5 : Array CpInfo := pool [(2, .class_ 4), (1, u "java/lang/Enum"), (0, u "name"), (0, u "Ljava/lang/String;"), (2, u "ordinal"), (0, u "I"), (1, .class_ 14), (1, u "java/lang/Object"), (4, u "hash"), (86, .class_ 108), (1, u "java/lang/Enum$EnumDesc"), (2, .class_ 112), (0, u "java/lang/constant/Constable"), (0, .class_ 114), (0, u "java/lang/Comparable"), (0, .class_ 116), (0, u "java/io/Serializable")] 87

/-- java/lang/Enum -/
def k5 : Class := { plain "java/lang/Enum" (some 0) with
  accessFlags := 1057
  interfaces := #[2, 3, 4]
  cf := some (fileOf pool5 2 #[.nestMembers #[106]] #[] 1057 12 #[111, 113, 115] #[{ accessFlags := 18, nameIndex := 5, descriptorIndex := 6, attributes := #[] }, { accessFlags := 18, nameIndex := 9, descriptorIndex := 10, attributes := #[] }, { accessFlags := 2, nameIndex := 19, descriptorIndex := 10, attributes := #[] }])
  fields := #[{ name := "name", type := (.object "java/lang/String"), accessFlags := 18, slot := 0, constantValue := 0 }, { name := "ordinal", type := .int, accessFlags := 18, slot := 1, constantValue := 0 }, { name := "hash", type := .int, accessFlags := 2, slot := 2, constantValue := 0 }]
  methods := #[]
  instanceTypes := #[(.object "java/lang/String"), .int, .int]
  staticTypes := #[]
  resolved := Array.replicate 204 none
  statics := none }

def pool6 : Array CpInfo := pool [(1, .class_ 2), (0, u "com/example/tranchebook/tranchebook/Cycle$Unit"), (2, u "DAYS"), (0, u "Lcom/example/tranchebook/tranchebook/Cycle$Unit;"), (2, u "WEEKS"), (2, u "MONTHS"), (2, u "QUARTERS"), (2, u "HALF_YEARS"), (2, u "YEARS"), (2, u "$VALUES"), (0, u "[Lcom/example/tranchebook/tranchebook/Cycle$Unit;"), (6, .class_ 34), (1, u "java/lang/Enum"), (6, .fieldref 1 42), (0, .nameAndType 43 44), (0, u "letter"), (0, u "C"), (2, u "counted"), (0, u "Ljava/time/temporal/ChronoUnit;"), (2, u "length"), (0, u "I"), (26, u "getLetter"), (0, u "()C"), (6, .class_ 88), (0, u "com/example/tranchebook/tranchebook/Cycle")] 2

def k6c0 : Code := { maxStack := 1, maxLocals := 1, code := prog_13_method_4_code, exceptionTable := #[], attributes := #[] }
def k6m0 : Method := { name := "getLetter", desc := "()C", sig := { parameters := [], returnType := some .char }, accessFlags := 0, code := some k6c0 }
/-- com/example/tranchebook/tranchebook/Cycle$Unit -/
def k6 : Class := { plain "com/example/tranchebook/tranchebook/Cycle$Unit" (some 5) with
  accessFlags := 16432
  interfaces := #[]
  cf := some (fileOf pool6 1 #[.nestHost 87] #[{ accessFlags := 0, nameIndex := 79, descriptorIndex := 80, attributes := #[] }] 16432 32 #[] #[{ accessFlags := 16409, nameIndex := 5, descriptorIndex := 6, attributes := #[] }, { accessFlags := 16409, nameIndex := 9, descriptorIndex := 6, attributes := #[] }, { accessFlags := 16409, nameIndex := 12, descriptorIndex := 6, attributes := #[] }, { accessFlags := 16409, nameIndex := 15, descriptorIndex := 6, attributes := #[] }, { accessFlags := 16409, nameIndex := 18, descriptorIndex := 6, attributes := #[] }, { accessFlags := 16409, nameIndex := 21, descriptorIndex := 6, attributes := #[] }, { accessFlags := 18, nameIndex := 43, descriptorIndex := 44, attributes := #[] }, { accessFlags := 18, nameIndex := 47, descriptorIndex := 48, attributes := #[] }, { accessFlags := 18, nameIndex := 51, descriptorIndex := 52, attributes := #[] }, { accessFlags := 4122, nameIndex := 24, descriptorIndex := 25, attributes := #[] }])
  fields := #[{ name := "DAYS", type := (.object "com/example/tranchebook/tranchebook/Cycle$Unit"), accessFlags := 16409, slot := 0, constantValue := 0 }, { name := "WEEKS", type := (.object "com/example/tranchebook/tranchebook/Cycle$Unit"), accessFlags := 16409, slot := 1, constantValue := 0 }, { name := "MONTHS", type := (.object "com/example/tranchebook/tranchebook/Cycle$Unit"), accessFlags := 16409, slot := 2, constantValue := 0 }, { name := "QUARTERS", type := (.object "com/example/tranchebook/tranchebook/Cycle$Unit"), accessFlags := 16409, slot := 3, constantValue := 0 }, { name := "HALF_YEARS", type := (.object "com/example/tranchebook/tranchebook/Cycle$Unit"), accessFlags := 16409, slot := 4, constantValue := 0 }, { name := "YEARS", type := (.object "com/example/tranchebook/tranchebook/Cycle$Unit"), accessFlags := 16409, slot := 5, constantValue := 0 }, { name := "letter", type := .char, accessFlags := 18, slot := 3, constantValue := 0 }, { name := "counted", type := (.object "java/time/temporal/ChronoUnit"), accessFlags := 18, slot := 4, constantValue := 0 }, { name := "length", type := .int, accessFlags := 18, slot := 5, constantValue := 0 }, { name := "$VALUES", type := (.array (.object "com/example/tranchebook/tranchebook/Cycle$Unit")), accessFlags := 4122, slot := 6, constantValue := 0 }]
  methods := #[k6m0]
  instanceTypes := #[(.object "java/lang/String"), .int, .int, .char, (.object "java/time/temporal/ChronoUnit"), .int]
  staticTypes := #[(.object "com/example/tranchebook/tranchebook/Cycle$Unit"), (.object "com/example/tranchebook/tranchebook/Cycle$Unit"), (.object "com/example/tranchebook/tranchebook/Cycle$Unit"), (.object "com/example/tranchebook/tranchebook/Cycle$Unit"), (.object "com/example/tranchebook/tranchebook/Cycle$Unit"), (.object "com/example/tranchebook/tranchebook/Cycle$Unit"), (.array (.object "com/example/tranchebook/tranchebook/Cycle$Unit"))]
  resolved := Array.replicate 91 none
  statics := some 0 }

def pool7 : Array CpInfo := pool [(1, .methodref 2 3), (0, .class_ 4), (0, .nameAndType 5 6), (0, u "java/lang/Object"), (0, u "<init>"), (0, u "()V"), (0, .fieldref 8 9), (0, .class_ 10), (0, .nameAndType 11 12), (0, u "com/example/tranchebook/tranchebook/Cycle"), (0, u "count"), (0, u "I"), (0, .fieldref 8 14), (0, .nameAndType 15 16), (0, u "unit"), (0, u "Lcom/example/tranchebook/tranchebook/Cycle$Unit;"), (0, .fieldref 8 18), (0, .nameAndType 19 20), (0, u "longStub"), (0, u "Z"), (0, .class_ 22), (0, u "java/lang/StringBuilder"), (0, .methodref 21 3), (0, .string 25), (0, u "P"), (0, .methodref 21 27), (0, .nameAndType 28 29), (0, u "append"), (0, u "(Ljava/lang/String;)Ljava/lang/StringBuilder;"), (0, .methodref 21 31), (0, .nameAndType 28 32), (0, u "(I)Ljava/lang/StringBuilder;"), (0, .methodref 34 35), (0, .class_ 36), (0, .nameAndType 37 38), (0, u "com/example/tranchebook/tranchebook/Cycle$Unit"), (0, u "getLetter"), (0, u "()C"), (0, .methodref 21 40), (0, .nameAndType 28 41), (0, u "(C)Ljava/lang/StringBuilder;"), (0, .string 43), (0, u "L"), (0, .methodref 21 45), (0, .nameAndType 46 47), (0, u "toString"), (0, u "()Ljava/lang/String;"), (76, u "(ILcom/example/tranchebook/tranchebook/Cycle$Unit;Z)V")] 16

def k7c0 : Code := { maxStack := 2, maxLocals := 4, code := prog_12_method_1_code, exceptionTable := #[], attributes := #[] }
def k7m0 : Method := { name := "<init>", desc := "(ILcom/example/tranchebook/tranchebook/Cycle$Unit;Z)V", sig := { parameters := [.int, (.object "com/example/tranchebook/tranchebook/Cycle$Unit"), .boolean], returnType := none }, accessFlags := 0, code := some k7c0 }
def k7c1 : Code := { maxStack := 2, maxLocals := 1, code := prog_12_method_2_code, exceptionTable := #[], attributes := #[] }
def k7m1 : Method := { name := "toString", desc := "()Ljava/lang/String;", sig := { parameters := [], returnType := some (.object "java/lang/String") }, accessFlags := 1, code := some k7c1 }
/-- com/example/tranchebook/tranchebook/Cycle -/
def k7 : Class := { plain "com/example/tranchebook/tranchebook/Cycle" (some 0) with
  accessFlags := 33
  interfaces := #[]
  cf := some (fileOf pool7 8 #[.nestMembers #[34]] #[{ accessFlags := 0, nameIndex := 5, descriptorIndex := 124, attributes := #[] }, { accessFlags := 1, nameIndex := 46, descriptorIndex := 47, attributes := #[] }] 33 2 #[] #[{ accessFlags := 18, nameIndex := 11, descriptorIndex := 12, attributes := #[] }, { accessFlags := 18, nameIndex := 15, descriptorIndex := 16, attributes := #[] }, { accessFlags := 18, nameIndex := 19, descriptorIndex := 20, attributes := #[] }])
  fields := #[{ name := "count", type := .int, accessFlags := 18, slot := 0, constantValue := 0 }, { name := "unit", type := (.object "com/example/tranchebook/tranchebook/Cycle$Unit"), accessFlags := 18, slot := 1, constantValue := 0 }, { name := "longStub", type := .boolean, accessFlags := 18, slot := 2, constantValue := 0 }]
  methods := #[k7m0, k7m1]
  instanceTypes := #[.int, (.object "com/example/tranchebook/tranchebook/Cycle$Unit"), .boolean]
  staticTypes := #[]
  resolved := Array.replicate 141 none
  statics := none }

def pool8 : Array CpInfo := pool [(1, .class_ 2), (0, u "java/lang/Appendable"), (0, .class_ 4), (0, u "java/lang/Object")] 9

/-- java/lang/Appendable -/
def k8 : Class := { plain "java/lang/Appendable" (some 0) with
  accessFlags := 1537
  interfaces := #[]
  cf := some (fileOf pool8 1 #[] #[] 1537 3 #[] #[])
  fields := #[]
  methods := #[]
  instanceTypes := #[]
  staticTypes := #[]
  resolved := Array.replicate 14 none
  statics := none }

def pool9 : Array CpInfo := pool [(2, .class_ 4), (1, u "java/lang/CharSequence"), (42, .class_ 48), (0, u "java/lang/CharSequence$1CodePointIterator"), (10, .class_ 60), (0, u "java/lang/CharSequence$1CharIterator"), (5, .class_ 67), (0, u "java/lang/Object")] 63

/-- java/lang/CharSequence -/
def k9 : Class := { plain "java/lang/CharSequence" (some 0) with
  accessFlags := 1537
  interfaces := #[]
  cf := some (fileOf pool9 2 #[.nestMembers #[47, 59]] #[] 1537 66 #[] #[])
  fields := #[]
  methods := #[]
  instanceTypes := #[]
  staticTypes := #[]
  resolved := Array.replicate 131 none
  statics := none }

def pool10 : Array CpInfo := pool [(1, .class_ 2), (0, u "java/lang/String"), (0, .methodref 4 5), (0, .class_ 6), (0, .nameAndType 7 8), (0, u "java/lang/Object"), (0, u "<init>"), (0, u "()V"), (1, .class_ 12), (1, u "java/lang/AbstractStringBuilder"), (0, u "EMPTYVALUE"), (0, u "[B"), (0, .fieldref 10 16), (0, .nameAndType 17 14), (0, u "value"), (0, .fieldref 1 19), (0, .nameAndType 20 21), (0, u "COMPACT_STRINGS"), (0, u "Z"), (0, .fieldref 10 23), (0, .nameAndType 24 25), (0, u "coder"), (0, u "B"), (6, .methodref 1 33), (0, .nameAndType 34 35), (0, u "length"), (0, u "()I"), (0, .class_ 37), (0, u "java/lang/Integer"), (2, .methodref 1 41), (0, .nameAndType 24 42), (0, u "()B"), (2, u "append"), (0, u "(Ljava/lang/String;)Ljava/lang/AbstractStringBuilder;"), (1, .class_ 49), (0, u "java/lang/CharSequence"), (19, u "(Ljava/lang/String;)V"), (5, u "maybeLatin1"), (3, .fieldref 10 80), (0, .nameAndType 81 82), (0, u "count"), (0, u "I"), (0, .methodref 10 84), (0, .nameAndType 85 86), (0, u "isLatin1"), (0, u "()Z"), (1, .class_ 90), (1, u "java/lang/StringLatin1"), (9, .methodref 10 101), (0, .nameAndType 102 103), (0, u "ensureCapacityInternal"), (0, u "(I)V"), (3, u "(I)I"), (80, u "getChars"), (2, .methodref 88 192), (0, .nameAndType 193 194), (0, u "canEncode"), (0, u "(C)Z"), (13, .methodref 10 209), (0, .nameAndType 210 211), (0, u "putStringAt"), (0, u "(ILjava/lang/String;)V"), (5, u "inflateIfNeededFor"), (2, .nameAndType 221 222), (0, u "getBytes"), (0, u "([BIB)V"), (22, .methodref 36 246), (0, .nameAndType 247 107), (0, u "stringSize"), (0, .methodref 36 249), (0, .nameAndType 188 250), (0, u "(II[B)I"), (41, u "(C)Ljava/lang/AbstractStringBuilder;"), (104, .methodref 10 398), (0, .nameAndType 217 69), (0, .methodref 1 220), (3, u "()[B"), (40, .class_ 445), (0, u "java/lang/Appendable"), (65, u "(I)Ljava/lang/AbstractStringBuilder;"), (40, u "getValue")] 56

def k10m0 : Method := { name := "<init>", desc := "()V", sig := { parameters := [], returnType := none }, accessFlags := 0, code := none }
def k10c1 : Code := { maxStack := 2, maxLocals := 2, code := jdk_68_method_2_code, exceptionTable := #[], attributes := #[] }
def k10m1 : Method := { name := "<init>", desc := "(I)V", sig := { parameters := [.int], returnType := none }, accessFlags := 0, code := some k10c1 }
def k10c2 : Code := { maxStack := 1, maxLocals := 1, code := jdk_68_method_6_code, exceptionTable := #[], attributes := #[] }
def k10m2 : Method := { name := "length", desc := "()I", sig := { parameters := [], returnType := some .int }, accessFlags := 1, code := some k10c2 }
def k10c3 : Code := { maxStack := 4, maxLocals := 3, code := jdk_68_method_9_code, exceptionTable := #[], attributes := #[] }
def k10m3 : Method := { name := "ensureCapacityInternal", desc := "(I)V", sig := { parameters := [.int], returnType := none }, accessFlags := 2, code := some k10c3 }
def k10c4 : Code := { maxStack := 3, maxLocals := 3, code := jdk_68_method_22_code, exceptionTable := #[], attributes := #[] }
def k10m4 : Method := { name := "append", desc := "(Ljava/lang/String;)Ljava/lang/AbstractStringBuilder;", sig := { parameters := [(.object "java/lang/String")], returnType := some (.object "java/lang/AbstractStringBuilder") }, accessFlags := 1, code := some k10c4 }
def k10c5 : Code := { maxStack := 5, maxLocals := 2, code := jdk_68_method_31_code, exceptionTable := #[], attributes := #[] }
def k10m5 : Method := { name := "append", desc := "(C)Ljava/lang/AbstractStringBuilder;", sig := { parameters := [.char], returnType := some (.object "java/lang/AbstractStringBuilder") }, accessFlags := 1, code := some k10c5 }
def k10c6 : Code := { maxStack := 4, maxLocals := 4, code := jdk_68_method_32_code, exceptionTable := #[], attributes := #[] }
def k10m6 : Method := { name := "append", desc := "(I)Ljava/lang/AbstractStringBuilder;", sig := { parameters := [.int], returnType := some (.object "java/lang/AbstractStringBuilder") }, accessFlags := 1, code := some k10c6 }
def k10c7 : Code := { maxStack := 1, maxLocals := 1, code := jdk_68_method_64_code, exceptionTable := #[], attributes := #[] }
def k10m7 : Method := { name := "getValue", desc := "()[B", sig := { parameters := [], returnType := some (.array .byte) }, accessFlags := 16, code := some k10c7 }
def k10c8 : Code := { maxStack := 1, maxLocals := 1, code := jdk_68_method_68_code, exceptionTable := #[], attributes := #[] }
def k10m8 : Method := { name := "isLatin1", desc := "()Z", sig := { parameters := [], returnType := some .boolean }, accessFlags := 16, code := some k10c8 }
def k10c9 : Code := { maxStack := 2, maxLocals := 2, code := jdk_68_method_71_code, exceptionTable := #[], attributes := #[] }
def k10m9 : Method := { name := "inflateIfNeededFor", desc := "(Ljava/lang/String;)V", sig := { parameters := [(.object "java/lang/String")], returnType := none }, accessFlags := 2, code := some k10c9 }
def k10c10 : Code := { maxStack := 4, maxLocals := 3, code := jdk_68_method_73_code, exceptionTable := #[], attributes := #[] }
def k10m10 : Method := { name := "putStringAt", desc := "(ILjava/lang/String;)V", sig := { parameters := [.int, (.object "java/lang/String")], returnType := none }, accessFlags := 2, code := some k10c10 }
/-- java/lang/AbstractStringBuilder -/
def k10 : Class := { plain "java/lang/AbstractStringBuilder" (some 0) with
  accessFlags := 1056
  interfaces := #[8, 9]
  cf := some (fileOf pool10 10 #[] #[{ accessFlags := 0, nameIndex := 7, descriptorIndex := 8, attributes := #[] }, { accessFlags := 0, nameIndex := 7, descriptorIndex := 103, attributes := #[] }, { accessFlags := 1, nameIndex := 34, descriptorIndex := 35, attributes := #[] }, { accessFlags := 2, nameIndex := 102, descriptorIndex := 103, attributes := #[] }, { accessFlags := 1, nameIndex := 45, descriptorIndex := 46, attributes := #[] }, { accessFlags := 1, nameIndex := 45, descriptorIndex := 292, attributes := #[] }, { accessFlags := 1, nameIndex := 45, descriptorIndex := 511, attributes := #[] }, { accessFlags := 16, nameIndex := 552, descriptorIndex := 403, attributes := #[] }, { accessFlags := 16, nameIndex := 85, descriptorIndex := 86, attributes := #[] }, { accessFlags := 2, nameIndex := 217, descriptorIndex := 69, attributes := #[] }, { accessFlags := 2, nameIndex := 210, descriptorIndex := 211, attributes := #[] }] 1056 4 #[444, 48] #[{ accessFlags := 0, nameIndex := 17, descriptorIndex := 14, attributes := #[] }, { accessFlags := 0, nameIndex := 24, descriptorIndex := 25, attributes := #[] }, { accessFlags := 0, nameIndex := 75, descriptorIndex := 21, attributes := #[] }, { accessFlags := 0, nameIndex := 81, descriptorIndex := 82, attributes := #[] }, { accessFlags := 26, nameIndex := 13, descriptorIndex := 14, attributes := #[] }])
  fields := #[{ name := "value", type := (.array .byte), accessFlags := 0, slot := 0, constantValue := 0 }, { name := "coder", type := .byte, accessFlags := 0, slot := 1, constantValue := 0 }, { name := "maybeLatin1", type := .boolean, accessFlags := 0, slot := 2, constantValue := 0 }, { name := "count", type := .int, accessFlags := 0, slot := 3, constantValue := 0 }, { name := "EMPTYVALUE", type := (.array .byte), accessFlags := 26, slot := 0, constantValue := 0 }]
  methods := #[k10m0, k10m1, k10m2, k10m3, k10m4, k10m5, k10m6, k10m7, k10m8, k10m9, k10m10]
  instanceTypes := #[(.array .byte), .byte, .boolean, .int]
  staticTypes := #[(.array .byte)]
  resolved := Array.replicate 609 none
  statics := none }

def pool11 : Array CpInfo := pool [(1, .methodref 2 3), (0, .class_ 4), (0, .nameAndType 5 6), (0, u "java/lang/AbstractStringBuilder"), (0, u "<init>"), (0, u "(I)V"), (11, .class_ 20), (1, u "java/lang/String"), (3, .class_ 26), (1, u "java/lang/StringBuilder"), (0, u "append"), (0, u "(Ljava/lang/String;)Ljava/lang/StringBuilder;"), (0, .methodref 2 30), (0, .nameAndType 27 31), (0, u "(Ljava/lang/String;)Ljava/lang/AbstractStringBuilder;"), (18, .methodref 2 51), (0, .nameAndType 27 52), (0, u "(C)Ljava/lang/AbstractStringBuilder;"), (0, .methodref 2 54), (0, .nameAndType 27 55), (0, u "(I)Ljava/lang/AbstractStringBuilder;"), (81, .methodref 18 138), (0, .nameAndType 5 139), (0, u "(Ljava/lang/StringBuilder;)V"), (5, u "()V"), (10, u "()I"), (111, u "(I)Ljava/lang/StringBuilder;"), (17, u "(C)Ljava/lang/StringBuilder;"), (56, .methodref 2 344), (0, .nameAndType 345 156), (0, u "length"), (3, .class_ 350), (0, u "java/lang/Appendable"), (0, .class_ 352), (0, u "java/io/Serializable"), (0, .class_ 354), (0, u "java/lang/Comparable"), (0, .class_ 356), (0, u "java/lang/CharSequence"), (0, u "serialVersionUID"), (0, u "J"), (40, u "toString"), (0, u "()Ljava/lang/String;")] 21

def k11c0 : Code := { maxStack := 2, maxLocals := 1, code := jdk_67_method_1_code, exceptionTable := #[], attributes := #[] }
def k11m0 : Method := { name := "<init>", desc := "()V", sig := { parameters := [], returnType := none }, accessFlags := 1, code := some k11c0 }
def k11c1 : Code := { maxStack := 2, maxLocals := 2, code := jdk_67_method_7_code, exceptionTable := #[], attributes := #[] }
def k11m1 : Method := { name := "append", desc := "(Ljava/lang/String;)Ljava/lang/StringBuilder;", sig := { parameters := [(.object "java/lang/String")], returnType := some (.object "java/lang/StringBuilder") }, accessFlags := 1, code := some k11c1 }
def k11c2 : Code := { maxStack := 2, maxLocals := 2, code := jdk_67_method_14_code, exceptionTable := #[], attributes := #[] }
def k11m2 : Method := { name := "append", desc := "(C)Ljava/lang/StringBuilder;", sig := { parameters := [.char], returnType := some (.object "java/lang/StringBuilder") }, accessFlags := 1, code := some k11c2 }
def k11c3 : Code := { maxStack := 2, maxLocals := 2, code := jdk_67_method_15_code, exceptionTable := #[], attributes := #[] }
def k11m3 : Method := { name := "append", desc := "(I)Ljava/lang/StringBuilder;", sig := { parameters := [.int], returnType := some (.object "java/lang/StringBuilder") }, accessFlags := 1, code := some k11c3 }
def k11c4 : Code := { maxStack := 3, maxLocals := 1, code := jdk_67_method_42_code, exceptionTable := #[], attributes := #[] }
def k11m4 : Method := { name := "toString", desc := "()Ljava/lang/String;", sig := { parameters := [], returnType := some (.object "java/lang/String") }, accessFlags := 1, code := some k11c4 }
def k11c5 : Code := { maxStack := 1, maxLocals := 1, code := jdk_67_method_93_code, exceptionTable := #[], attributes := #[] }
def k11m5 : Method := { name := "length", desc := "()I", sig := { parameters := [], returnType := some .int }, accessFlags := 4161, code := some k11c5 }
/-- java/lang/StringBuilder -/
def k11 : Class := { plain "java/lang/StringBuilder" (some 10) with
  accessFlags := 49
  interfaces := #[8, 4, 3, 9]
  cf := some (fileOf pool11 24 #[] #[{ accessFlags := 1, nameIndex := 5, descriptorIndex := 145, attributes := #[] }, { accessFlags := 1, nameIndex := 27, descriptorIndex := 28, attributes := #[] }, { accessFlags := 1, nameIndex := 27, descriptorIndex := 286, attributes := #[] }, { accessFlags := 1, nameIndex := 27, descriptorIndex := 268, attributes := #[] }, { accessFlags := 1, nameIndex := 399, descriptorIndex := 400, attributes := #[] }, { accessFlags := 4161, nameIndex := 345, descriptorIndex := 156, attributes := #[] }] 49 2 #[349, 351, 353, 355] #[{ accessFlags := 24, nameIndex := 357, descriptorIndex := 358, attributes := #[] }])
  fields := #[{ name := "serialVersionUID", type := .long, accessFlags := 24, slot := 0, constantValue := 0 }]
  methods := #[k11m0, k11m1, k11m2, k11m3, k11m4, k11m5]
  instanceTypes := #[(.array .byte), .byte, .boolean, .int]
  staticTypes := #[.long]
  resolved := Array.replicate 422 none
  statics := none }

def pool12 : Array CpInfo := pool [(1, .class_ 2), (0, u "java/lang/constant/ConstantDesc"), (0, .class_ 4), (0, u "java/lang/Object")] 32

/-- java/lang/constant/ConstantDesc -/
def k12 : Class := { plain "java/lang/constant/ConstantDesc" (some 0) with
  accessFlags := 1537
  interfaces := #[]
  cf := some (fileOf pool12 1 #[] #[] 1537 3 #[] #[])
  fields := #[]
  methods := #[]
  instanceTypes := #[]
  staticTypes := #[]
  resolved := Array.replicate 37 none
  statics := none }

def pool13 : Array CpInfo := pool [(1, .methodref 2 3), (0, .class_ 4), (0, .nameAndType 5 6), (0, u "java/lang/Object"), (0, u "<init>"), (0, u "()V"), (2, .fieldref 10 11), (0, .class_ 12), (0, .nameAndType 13 14), (0, u "java/lang/String"), (0, u "value"), (0, u "[B"), (0, .fieldref 10 16), (0, .nameAndType 17 18), (0, u "coder"), (0, u "B"), (2, u "hash"), (0, u "I"), (2, u "hashIsZero"), (0, u "Z"), (11, .fieldref 10 39), (0, .nameAndType 40 26), (0, u "COMPACT_STRINGS"), (13, .methodref 55 56), (0, .class_ 57), (0, .nameAndType 58 59), (0, u "java/util/Arrays"), (0, u "copyOfRange"), (0, u "([BII)[B"), (47, .class_ 109), (1, u "java/lang/StringLatin1"), (32, u "()Z"), (50, .class_ 195), (1, u "java/lang/System"), (16, .methodref 193 213), (0, .nameAndType 214 215), (0, u "arraycopy"), (0, u "(Ljava/lang/Object;ILjava/lang/Object;II)V"), (118, u "()I"), (0, .methodref 10 336), (0, .nameAndType 17 337), (0, u "()B"), (2, u "()[B"), (22, u "([BI)C"), (27, u "(II)V"), (35, u "(I)C"), (61, .methodref 10 490), (0, .nameAndType 5 491), (0, u "(Ljava/lang/AbstractStringBuilder;Ljava/lang/Void;)V"), (0, .methodref 10 493), (0, .nameAndType 494 142), (0, u "isLatin1"), (0, .methodref 107 496), (0, .nameAndType 497 363), (0, u "charAt"), (3, u "checkIndex"), (4, .nameAndType 507 334), (0, u "length"), (24, u "getBytes"), (16, .methodref 550 506), (0, .class_ 551), (0, u "java/lang/AbstractStringBuilder"), (0, .methodref 550 553), (0, .nameAndType 554 340), (0, u "getValue"), (20, .class_ 576), (0, u "java/lang/CharSequence"), (22, u "CASE_INSENSITIVE_ORDER"), (0, u "Ljava/util/Comparator;"), (220, u "([BIB)V"), (225, .methodref 550 493), (5, .fieldref 1054 1055), (0, .class_ 1056), (0, .nameAndType 1057 1058), (0, u "jdk/internal/util/Preconditions"), (0, u "SIOOBE_FORMATTER"), (0, u "Ljava/util/function/BiFunction;"), (0, .methodref 1054 1060), (0, .nameAndType 501 1061), (0, u "(IILjava/util/function/BiFunction;)I"), (39, u "serialPersistentFields"), (0, u "[Ljava/io/ObjectStreamField;"), (0, .class_ 1104), (0, u "java/lang/String$CaseInsensitiveComparator"), (1, .class_ 1107), (0, u "java/io/Serializable"), (0, .class_ 1109), (0, u "java/lang/Comparable"), (0, .class_ 1111), (0, u "java/lang/constant/Constable"), (0, .class_ 1113), (0, u "java/lang/constant/ConstantDesc"), (2, u "serialVersionUID"), (0, u "J"), (3, u "REPL"), (0, u "C"), (2, u "LATIN1"), (1, u "UTF16"), (105, u "(Ljava/lang/StringBuilder;)V")] 217

def k13m0 : Method := { name := "<init>", desc := "()V", sig := { parameters := [], returnType := none }, accessFlags := 1, code := none }
def k13c1 : Code := { maxStack := 3, maxLocals := 2, code := jdk_42_method_53_code, exceptionTable := #[], attributes := #[] }
def k13m1 : Method := { name := "<init>", desc := "(Ljava/lang/StringBuilder;)V", sig := { parameters := [(.object "java/lang/StringBuilder")], returnType := none }, accessFlags := 1, code := some k13c1 }
def k13c2 : Code := { maxStack := 2, maxLocals := 1, code := jdk_42_method_54_code, exceptionTable := #[], attributes := #[] }
def k13m2 : Method := { name := "length", desc := "()I", sig := { parameters := [], returnType := some .int }, accessFlags := 1, code := some k13c2 }
def k13c3 : Code := { maxStack := 2, maxLocals := 2, code := jdk_42_method_56_code, exceptionTable := #[], attributes := #[] }
def k13m3 : Method := { name := "charAt", desc := "(I)C", sig := { parameters := [.int], returnType := some .char }, accessFlags := 1, code := some k13c3 }
def k13c4 : Code := { maxStack := 5, maxLocals := 4, code := jdk_42_method_147_code, exceptionTable := #[], attributes := #[] }
def k13m4 : Method := { name := "getBytes", desc := "([BIB)V", sig := { parameters := [(.array .byte), .int, .byte], returnType := none }, accessFlags := 0, code := some k13c4 }
def k13c5 : Code := { maxStack := 5, maxLocals := 5, code := jdk_42_method_150_code, exceptionTable := #[], attributes := #[] }
def k13m5 : Method := { name := "<init>", desc := "(Ljava/lang/AbstractStringBuilder;Ljava/lang/Void;)V", sig := { parameters := [(.object "java/lang/AbstractStringBuilder"), (.object "java/lang/Void")], returnType := none }, accessFlags := 0, code := some k13c5 }
def k13c6 : Code := { maxStack := 1, maxLocals := 1, code := jdk_42_method_152_code, exceptionTable := #[], attributes := #[] }
def k13m6 : Method := { name := "coder", desc := "()B", sig := { parameters := [], returnType := some .byte }, accessFlags := 0, code := some k13c6 }
def k13c7 : Code := { maxStack := 1, maxLocals := 1, code := jdk_42_method_154_code, exceptionTable := #[], attributes := #[] }
def k13m7 : Method := { name := "isLatin1", desc := "()Z", sig := { parameters := [], returnType := some .boolean }, accessFlags := 0, code := some k13c7 }
def k13c8 : Code := { maxStack := 3, maxLocals := 2, code := jdk_42_method_155_code, exceptionTable := #[], attributes := #[] }
def k13m8 : Method := { name := "checkIndex", desc := "(II)V", sig := { parameters := [.int, .int], returnType := none }, accessFlags := 8, code := some k13c8 }
/-- java/lang/String -/
def k13 : Class := { plain "java/lang/String" (some 0) with
  accessFlags := 49
  interfaces := #[4, 3, 9, 2, 12]
  cf := some (fileOf pool13 10 #[.nestMembers #[1103]] #[{ accessFlags := 1, nameIndex := 5, descriptorIndex := 6, attributes := #[] }, { accessFlags := 1, nameIndex := 5, descriptorIndex := 1233, attributes := #[] }, { accessFlags := 1, nameIndex := 507, descriptorIndex := 334, attributes := #[] }, { accessFlags := 1, nameIndex := 497, descriptorIndex := 427, attributes := #[] }, { accessFlags := 0, nameIndex := 532, descriptorIndex := 821, attributes := #[] }, { accessFlags := 0, nameIndex := 5, descriptorIndex := 491, attributes := #[] }, { accessFlags := 0, nameIndex := 17, descriptorIndex := 337, attributes := #[] }, { accessFlags := 0, nameIndex := 494, descriptorIndex := 142, attributes := #[] }, { accessFlags := 8, nameIndex := 501, descriptorIndex := 391, attributes := #[] }] 49 2 #[1106, 1108, 575, 1110, 1112] #[{ accessFlags := 18, nameIndex := 13, descriptorIndex := 14, attributes := #[] }, { accessFlags := 18, nameIndex := 17, descriptorIndex := 18, attributes := #[] }, { accessFlags := 2, nameIndex := 21, descriptorIndex := 22, attributes := #[] }, { accessFlags := 2, nameIndex := 25, descriptorIndex := 26, attributes := #[] }, { accessFlags := 26, nameIndex := 1116, descriptorIndex := 1117, attributes := #[] }, { accessFlags := 24, nameIndex := 40, descriptorIndex := 26, attributes := #[] }, { accessFlags := 26, nameIndex := 1101, descriptorIndex := 1102, attributes := #[] }, { accessFlags := 26, nameIndex := 1121, descriptorIndex := 1122, attributes := #[] }, { accessFlags := 25, nameIndex := 599, descriptorIndex := 600, attributes := #[] }, { accessFlags := 24, nameIndex := 1125, descriptorIndex := 18, attributes := #[] }, { accessFlags := 24, nameIndex := 1127, descriptorIndex := 18, attributes := #[] }])
  fields := #[{ name := "value", type := (.array .byte), accessFlags := 18, slot := 0, constantValue := 0 }, { name := "coder", type := .byte, accessFlags := 18, slot := 1, constantValue := 0 }, { name := "hash", type := .int, accessFlags := 2, slot := 2, constantValue := 0 }, { name := "hashIsZero", type := .boolean, accessFlags := 2, slot := 3, constantValue := 0 }, { name := "serialVersionUID", type := .long, accessFlags := 26, slot := 0, constantValue := 0 }, { name := "COMPACT_STRINGS", type := .boolean, accessFlags := 24, slot := 1, constantValue := 0 }, { name := "serialPersistentFields", type := (.array (.object "java/io/ObjectStreamField")), accessFlags := 26, slot := 2, constantValue := 0 }, { name := "REPL", type := .char, accessFlags := 26, slot := 3, constantValue := 0 }, { name := "CASE_INSENSITIVE_ORDER", type := (.object "java/util/Comparator"), accessFlags := 25, slot := 4, constantValue := 0 }, { name := "LATIN1", type := .byte, accessFlags := 24, slot := 5, constantValue := 0 }, { name := "UTF16", type := .byte, accessFlags := 24, slot := 6, constantValue := 0 }]
  methods := #[k13m0, k13m1, k13m2, k13m3, k13m4, k13m5, k13m6, k13m7, k13m8]
  instanceTypes := #[(.array .byte), .byte, .int, .boolean]
  staticTypes := #[.long, .boolean, (.array (.object "java/io/ObjectStreamField")), .char, (.object "java/util/Comparator"), .byte, .byte]
  resolved := Array.replicate 1451 none
  statics := some 1 }

def pool14 : Array CpInfo := pool [(2, .class_ 4), (1, u "java/lang/Object"), (0, u "<init>"), (0, u "()V"), (1, .class_ 10), (1, u "java/lang/System"), (0, u "allowSecurityManager"), (0, u "I"), (16, u "cons"), (0, u "Ljava/io/Console;"), (77, .class_ 110), (1, u "java/lang/System$CallersHolder"), (43, u "initialErrStream"), (0, u "Ljava/io/PrintStream;"), (19, u "security"), (0, u "Ljava/lang/SecurityManager;"), (31, .class_ 209), (0, u "java/lang/System$1"), (7, u "props"), (0, u "Ljava/util/Properties;"), (2, u "lineSeparator"), (0, u "Ljava/lang/String;"), (96, .class_ 321), (1, u "java/lang/System$LoggerFinder"), (5, .class_ 328), (0, u "java/lang/System$Logger"), (67, u "err"), (2, u "out"), (91, u "notSupportedJnuEncoding"), (15, u "in"), (17, u "initialIn"), (0, u "Ljava/io/InputStream;"), (35, u "bootLayer"), (0, u "Ljava/lang/ModuleLayer;"), (99, .class_ 664), (0, u "java/lang/System$2"), (9, u "NEVER"), (2, u "MAYBE"), (49, u "arraycopy"), (0, u "(Ljava/lang/Object;ILjava/lang/Object;II)V"), (72, .class_ 802), (0, u "java/lang/System$Logger$Level")] 31

def k14m0 : Method := { name := "<init>", desc := "()V", sig := { parameters := [], returnType := none }, accessFlags := 2, code := none }
def k14m1 : Method := { name := "arraycopy", desc := "(Ljava/lang/Object;ILjava/lang/Object;II)V", sig := { parameters := [(.object "java/lang/Object"), .int, (.object "java/lang/Object"), .int, .int], returnType := none }, accessFlags := 265, code := none }
/-- java/lang/System -/
def k14 : Class := { plain "java/lang/System" (some 0) with
  accessFlags := 49
  interfaces := #[]
  cf := some (fileOf pool14 8 #[.nestMembers #[319, 327, 801, 108, 663, 208]] #[{ accessFlags := 2, nameIndex := 5, descriptorIndex := 6, attributes := #[] }, { accessFlags := 265, nameIndex := 727, descriptorIndex := 728, attributes := #[] }] 49 2 #[] #[{ accessFlags := 25, nameIndex := 507, descriptorIndex := 526, attributes := #[] }, { accessFlags := 25, nameIndex := 399, descriptorIndex := 155, attributes := #[] }, { accessFlags := 25, nameIndex := 396, descriptorIndex := 155, attributes := #[] }, { accessFlags := 10, nameIndex := 525, descriptorIndex := 526, attributes := #[] }, { accessFlags := 26, nameIndex := 674, descriptorIndex := 12, attributes := #[] }, { accessFlags := 26, nameIndex := 677, descriptorIndex := 12, attributes := #[] }, { accessFlags := 10, nameIndex := 11, descriptorIndex := 12, attributes := #[] }, { accessFlags := 74, nameIndex := 175, descriptorIndex := 176, attributes := #[] }, { accessFlags := 10, nameIndex := 491, descriptorIndex := 222, attributes := #[] }, { accessFlags := 74, nameIndex := 29, descriptorIndex := 30, attributes := #[] }, { accessFlags := 74, nameIndex := 154, descriptorIndex := 155, attributes := #[] }, { accessFlags := 10, nameIndex := 217, descriptorIndex := 218, attributes := #[] }, { accessFlags := 10, nameIndex := 221, descriptorIndex := 222, attributes := #[] }, { accessFlags := 8, nameIndex := 562, descriptorIndex := 563, attributes := #[] }])
  fields := #[{ name := "in", type := (.object "java/io/InputStream"), accessFlags := 25, slot := 0, constantValue := 0 }, { name := "out", type := (.object "java/io/PrintStream"), accessFlags := 25, slot := 1, constantValue := 0 }, { name := "err", type := (.object "java/io/PrintStream"), accessFlags := 25, slot := 2, constantValue := 0 }, { name := "initialIn", type := (.object "java/io/InputStream"), accessFlags := 10, slot := 3, constantValue := 0 }, { name := "NEVER", type := .int, accessFlags := 26, slot := 4, constantValue := 0 }, { name := "MAYBE", type := .int, accessFlags := 26, slot := 5, constantValue := 0 }, { name := "allowSecurityManager", type := .int, accessFlags := 10, slot := 6, constantValue := 0 }, { name := "security", type := (.object "java/lang/SecurityManager"), accessFlags := 74, slot := 7, constantValue := 0 }, { name := "notSupportedJnuEncoding", type := (.object "java/lang/String"), accessFlags := 10, slot := 8, constantValue := 0 }, { name := "cons", type := (.object "java/io/Console"), accessFlags := 74, slot := 9, constantValue := 0 }, { name := "initialErrStream", type := (.object "java/io/PrintStream"), accessFlags := 74, slot := 10, constantValue := 0 }, { name := "props", type := (.object "java/util/Properties"), accessFlags := 10, slot := 11, constantValue := 0 }, { name := "lineSeparator", type := (.object "java/lang/String"), accessFlags := 10, slot := 12, constantValue := 0 }, { name := "bootLayer", type := (.object "java/lang/ModuleLayer"), accessFlags := 8, slot := 13, constantValue := 0 }]
  methods := #[k14m0, k14m1]
  instanceTypes := #[]
  staticTypes := #[(.object "java/io/InputStream"), (.object "java/io/PrintStream"), (.object "java/io/PrintStream"), (.object "java/io/InputStream"), .int, .int, .int, (.object "java/lang/SecurityManager"), (.object "java/lang/String"), (.object "java/io/Console"), (.object "java/io/PrintStream"), (.object "java/util/Properties"), (.object "java/lang/String"), (.object "java/lang/ModuleLayer")]
  resolved := Array.replicate 834 none
  statics := none }

def pool15 : Array CpInfo := pool [(2, .class_ 4), (1, u "java/lang/Object"), (0, u "<init>"), (0, u "()V"), (1, .class_ 10), (1, u "java/lang/Number"), (2, .class_ 14), (0, u "java/io/Serializable"), (0, u "serialVersionUID"), (0, u "J")] 20

def k15m0 : Method := { name := "<init>", desc := "()V", sig := { parameters := [], returnType := none }, accessFlags := 1, code := none }
/-- java/lang/Number -/
def k15 : Class := { plain "java/lang/Number" (some 0) with
  accessFlags := 1057
  interfaces := #[4]
  cf := some (fileOf pool15 8 #[] #[{ accessFlags := 1, nameIndex := 5, descriptorIndex := 6, attributes := #[] }] 1057 2 #[13] #[{ accessFlags := 26, nameIndex := 15, descriptorIndex := 16, attributes := #[] }])
  fields := #[{ name := "serialVersionUID", type := .long, accessFlags := 26, slot := 0, constantValue := 0 }]
  methods := #[k15m0]
  instanceTypes := #[]
  staticTypes := #[.long]
  resolved := Array.replicate 37 none
  statics := none }

def pool16 : Array CpInfo := pool [(1, .class_ 2), (0, u "java/lang/Integer"), (16, u "digits"), (0, u "[C"), (33, u "(I)I"), (19, u "stringSize"), (2, u "getChars"), (0, u "(II[B)I"), (4, .fieldref 1 84), (0, .nameAndType 85 86), (0, u "DigitOnes"), (0, u "[B"), (0, .fieldref 1 88), (0, .nameAndType 89 86), (0, u "DigitTens"), (99, .class_ 190), (0, u "java/lang/Integer$IntegerCache"), (3, u "I"), (8, .class_ 204), (0, u "java/lang/Number"), (2, u "value"), (94, u "TYPE"), (0, u "Ljava/lang/Class;"), (0, .class_ 305), (0, u "java/lang/Comparable"), (0, .class_ 307), (0, u "java/lang/constant/Constable"), (0, .class_ 309), (0, u "java/lang/constant/ConstantDesc"), (0, u "MIN_VALUE"), (1, u "MAX_VALUE"), (3, u "SIZE"), (1, u "BYTES"), (1, u "serialVersionUID"), (0, u "J")] 131

def k16c0 : Code := { maxStack := 4, maxLocals := 7, code := jdk_33_method_12_code, exceptionTable := #[], attributes := #[] }
def k16m0 : Method := { name := "getChars", desc := "(II[B)I", sig := { parameters := [.int, .int, (.array .byte)], returnType := some .int }, accessFlags := 8, code := some k16c0 }
def k16c1 : Code := { maxStack := 2, maxLocals := 4, code := jdk_33_method_13_code, exceptionTable := #[], attributes := #[] }
def k16m1 : Method := { name := "stringSize", desc := "(I)I", sig := { parameters := [.int], returnType := some .int }, accessFlags := 8, code := some k16c1 }
/-- java/lang/Integer -/
def k16 : Class := { plain "java/lang/Integer" (some 15) with
  accessFlags := 49
  interfaces := #[3, 2, 12]
  cf := some (fileOf pool16 1 #[.nestMembers #[189]] #[{ accessFlags := 8, nameIndex := 77, descriptorIndex := 78, attributes := #[] }, { accessFlags := 8, nameIndex := 74, descriptorIndex := 54, attributes := #[] }] 49 203 #[304, 306, 308] #[{ accessFlags := 25, nameIndex := 310, descriptorIndex := 194, attributes := #[] }, { accessFlags := 25, nameIndex := 312, descriptorIndex := 194, attributes := #[] }, { accessFlags := 25, nameIndex := 302, descriptorIndex := 303, attributes := #[] }, { accessFlags := 24, nameIndex := 19, descriptorIndex := 20, attributes := #[] }, { accessFlags := 24, nameIndex := 89, descriptorIndex := 86, attributes := #[] }, { accessFlags := 24, nameIndex := 85, descriptorIndex := 86, attributes := #[] }, { accessFlags := 18, nameIndex := 207, descriptorIndex := 194, attributes := #[] }, { accessFlags := 25, nameIndex := 316, descriptorIndex := 194, attributes := #[] }, { accessFlags := 25, nameIndex := 318, descriptorIndex := 194, attributes := #[] }, { accessFlags := 26, nameIndex := 320, descriptorIndex := 321, attributes := #[] }])
  fields := #[{ name := "MIN_VALUE", type := .int, accessFlags := 25, slot := 0, constantValue := 0 }, { name := "MAX_VALUE", type := .int, accessFlags := 25, slot := 1, constantValue := 0 }, { name := "TYPE", type := (.object "java/lang/Class"), accessFlags := 25, slot := 2, constantValue := 0 }, { name := "digits", type := (.array .char), accessFlags := 24, slot := 3, constantValue := 0 }, { name := "DigitTens", type := (.array .byte), accessFlags := 24, slot := 4, constantValue := 0 }, { name := "DigitOnes", type := (.array .byte), accessFlags := 24, slot := 5, constantValue := 0 }, { name := "value", type := .int, accessFlags := 18, slot := 0, constantValue := 0 }, { name := "SIZE", type := .int, accessFlags := 25, slot := 6, constantValue := 0 }, { name := "BYTES", type := .int, accessFlags := 25, slot := 7, constantValue := 0 }, { name := "serialVersionUID", type := .long, accessFlags := 26, slot := 8, constantValue := 0 }]
  methods := #[k16m0, k16m1]
  instanceTypes := #[.int]
  staticTypes := #[.int, .int, (.object "java/lang/Class"), (.array .char), (.array .byte), (.array .byte), .int, .int, .long]
  resolved := Array.replicate 453 none
  statics := some 2 }

def pool17 : Array CpInfo := pool [(1, .class_ 2), (0, u "java/lang/String"), (1, .class_ 6), (1, u "java/lang/Object"), (0, u "<init>"), (0, u "()V"), (0, .methodref 1 10), (0, .nameAndType 11 12), (0, u "checkIndex"), (0, u "(II)V"), (1, .class_ 16), (1, u "java/lang/StringLatin1"), (36, u "([BI)C"), (36, u "canEncode"), (14, u "(C)Z"), (15, u "$assertionsDisabled"), (0, u "Z"), (98, .class_ 223), (1, u "java/lang/StringLatin1$LinesSpliterator"), (28, u "charAt"), (137, .class_ 391), (0, u "java/lang/StringLatin1$CharsSpliterator")] 3

def k17m0 : Method := { name := "<init>", desc := "()V", sig := { parameters := [], returnType := none }, accessFlags := 0, code := none }
def k17c1 : Code := { maxStack := 2, maxLocals := 2, code := jdk_43_method_2_code, exceptionTable := #[], attributes := #[] }
def k17m1 : Method := { name := "charAt", desc := "([BI)C", sig := { parameters := [(.array .byte), .int], returnType := some .char }, accessFlags := 9, code := some k17c1 }
def k17c2 : Code := { maxStack := 2, maxLocals := 1, code := jdk_43_method_3_code, exceptionTable := #[], attributes := #[] }
def k17m2 : Method := { name := "canEncode", desc := "(C)Z", sig := { parameters := [.char], returnType := some .boolean }, accessFlags := 9, code := some k17c2 }
/-- java/lang/StringLatin1 -/
def k17 : Class := { plain "java/lang/StringLatin1" (some 0) with
  accessFlags := 48
  interfaces := #[]
  cf := some (fileOf pool17 14 #[.nestMembers #[390, 221]] #[{ accessFlags := 0, nameIndex := 7, descriptorIndex := 8, attributes := #[] }, { accessFlags := 9, nameIndex := 252, descriptorIndex := 53, attributes := #[] }, { accessFlags := 9, nameIndex := 90, descriptorIndex := 105, attributes := #[] }] 48 4 #[] #[{ accessFlags := 4120, nameIndex := 121, descriptorIndex := 122, attributes := #[] }])
  fields := #[{ name := "$assertionsDisabled", type := .boolean, accessFlags := 4120, slot := 0, constantValue := 0 }]
  methods := #[k17m0, k17m1, k17m2]
  instanceTypes := #[]
  staticTypes := #[.boolean]
  resolved := Array.replicate 395 none
  statics := none }

def pool18 : Array CpInfo := pool [(2, .class_ 4), (1, u "java/lang/Object"), (0, u "<init>"), (0, u "()V"), (7, .class_ 16), (1, u "java/util/Arrays"), (57, .class_ 76), (1, u "java/util/Arrays$NaturalOrder"), (36, .class_ 115), (1, u "java/util/Arrays$LegacyMergeSort"), (1, u "Z"), (21, u "copyOfRange"), (10, .methodref 151 152), (0, .class_ 153), (0, .nameAndType 154 155), (0, u "java/lang/System"), (0, u "arraycopy"), (0, u "(Ljava/lang/Object;ILjava/lang/Object;II)V"), (148, .methodref 305 306), (0, .class_ 307), (0, .nameAndType 308 309), (0, u "java/lang/Math"), (0, u "min"), (0, u "(II)I"), (29, .methodref 14 340), (0, .nameAndType 341 342), (0, u "copyOfRangeByte"), (0, u "([BII)[B"), (0, .methodref 14 344), (0, .nameAndType 345 346), (0, u "checkLength"), (0, u "(II)V"), (28, .class_ 376), (0, u "java/util/Arrays$ArrayList"), (68, u "$assertionsDisabled"), (269, u "MIN_ARRAY_SORT_GRAN"), (0, u "I"), (2, u "INSERTIONSORT_THRESHOLD"), (255, .class_ 976), (0, u "java/util/Arrays$ArrayItr")] 52

def k18m0 : Method := { name := "<init>", desc := "()V", sig := { parameters := [], returnType := none }, accessFlags := 2, code := none }
def k18c1 : Code := { maxStack := 4, maxLocals := 2, code := jdk_65_method_131_code, exceptionTable := #[], attributes := #[] }
def k18m1 : Method := { name := "checkLength", desc := "(II)V", sig := { parameters := [.int, .int], returnType := none }, accessFlags := 10, code := some k18c1 }
def k18c2 : Code := { maxStack := 3, maxLocals := 3, code := jdk_65_method_132_code, exceptionTable := #[], attributes := #[] }
def k18m2 : Method := { name := "copyOfRange", desc := "([BII)[B", sig := { parameters := [(.array .byte), .int, .int], returnType := some (.array .byte) }, accessFlags := 9, code := some k18c2 }
def k18c3 : Code := { maxStack := 6, maxLocals := 5, code := jdk_65_method_133_code, exceptionTable := #[], attributes := #[] }
def k18m3 : Method := { name := "copyOfRangeByte", desc := "([BII)[B", sig := { parameters := [(.array .byte), .int, .int], returnType := some (.array .byte) }, accessFlags := 10, code := some k18c3 }
/-- java/util/Arrays -/
def k18 : Class := { plain "java/util/Arrays" (some 0) with
  accessFlags := 49
  interfaces := #[]
  cf := some (fileOf pool18 14 #[.nestMembers #[975, 375, 113, 74]] #[{ accessFlags := 2, nameIndex := 5, descriptorIndex := 6, attributes := #[] }, { accessFlags := 10, nameIndex := 345, descriptorIndex := 346, attributes := #[] }, { accessFlags := 9, nameIndex := 139, descriptorIndex := 342, attributes := #[] }, { accessFlags := 10, nameIndex := 341, descriptorIndex := 342, attributes := #[] }] 49 2 #[] #[{ accessFlags := 26, nameIndex := 715, descriptorIndex := 716, attributes := #[] }, { accessFlags := 26, nameIndex := 719, descriptorIndex := 716, attributes := #[] }, { accessFlags := 4120, nameIndex := 445, descriptorIndex := 117, attributes := #[] }])
  fields := #[{ name := "MIN_ARRAY_SORT_GRAN", type := .int, accessFlags := 26, slot := 0, constantValue := 0 }, { name := "INSERTIONSORT_THRESHOLD", type := .int, accessFlags := 26, slot := 1, constantValue := 0 }, { name := "$assertionsDisabled", type := .boolean, accessFlags := 4120, slot := 2, constantValue := 0 }]
  methods := #[k18m0, k18m1, k18m2, k18m3]
  instanceTypes := #[]
  staticTypes := #[.int, .int, .boolean]
  resolved := Array.replicate 1029 none
  statics := none }

def pool19 : Array CpInfo := pool [(1, .class_ 2), (0, u "java/lang/Math"), (1, .class_ 6), (1, u "java/lang/Object"), (0, u "<init>"), (0, u "()V"), (89, .class_ 100), (1, u "java/lang/Math$RandomNumberGeneratorHolder"), (23, u "abs"), (0, u "(J)J"), (46, u "negativeZeroFloatBits"), (0, u "J"), (2, u "negativeZeroDoubleBits"), (24, u "min"), (43, u "$assertionsDisabled"), (0, u "Z"), (88, u "(II)I"), (2, u "twoToTheDoubleScaleDown"), (0, u "D"), (4, u "twoToTheDoubleScaleUp"), (9, u "E"), (3, u "PI"), (2, u "TAU"), (2, u "DEGREES_TO_RADIANS"), (0, u "RADIANS_TO_DEGREES")] 94

def k19m0 : Method := { name := "<init>", desc := "()V", sig := { parameters := [], returnType := none }, accessFlags := 2, code := none }
def k19c1 : Code := { maxStack := 4, maxLocals := 2, code := jdk_29_method_61_code, exceptionTable := #[], attributes := #[] }
def k19m1 : Method := { name := "abs", desc := "(J)J", sig := { parameters := [.long], returnType := some .long }, accessFlags := 9, code := some k19c1 }
def k19c2 : Code := { maxStack := 2, maxLocals := 2, code := jdk_29_method_69_code, exceptionTable := #[], attributes := #[] }
def k19m2 : Method := { name := "min", desc := "(II)I", sig := { parameters := [.int, .int], returnType := some .int }, accessFlags := 9, code := some k19c2 }
/-- java/lang/Math -/
def k19 : Class := { plain "java/lang/Math" (some 0) with
  accessFlags := 49
  interfaces := #[]
  cf := some (fileOf pool19 1 #[.nestMembers #[98]] #[{ accessFlags := 2, nameIndex := 7, descriptorIndex := 8, attributes := #[] }, { accessFlags := 9, nameIndex := 124, descriptorIndex := 125, attributes := #[] }, { accessFlags := 9, nameIndex := 201, descriptorIndex := 335, attributes := #[] }] 49 4 #[] #[{ accessFlags := 25, nameIndex := 354, descriptorIndex := 339, attributes := #[] }, { accessFlags := 25, nameIndex := 358, descriptorIndex := 339, attributes := #[] }, { accessFlags := 25, nameIndex := 361, descriptorIndex := 339, attributes := #[] }, { accessFlags := 26, nameIndex := 364, descriptorIndex := 339, attributes := #[] }, { accessFlags := 26, nameIndex := 365, descriptorIndex := 339, attributes := #[] }, { accessFlags := 26, nameIndex := 172, descriptorIndex := 173, attributes := #[] }, { accessFlags := 26, nameIndex := 176, descriptorIndex := 173, attributes := #[] }, { accessFlags := 8, nameIndex := 344, descriptorIndex := 339, attributes := #[] }, { accessFlags := 8, nameIndex := 338, descriptorIndex := 339, attributes := #[] }, { accessFlags := 4120, nameIndex := 245, descriptorIndex := 246, attributes := #[] }])
  fields := #[{ name := "E", type := .double, accessFlags := 25, slot := 0, constantValue := 0 }, { name := "PI", type := .double, accessFlags := 25, slot := 1, constantValue := 0 }, { name := "TAU", type := .double, accessFlags := 25, slot := 2, constantValue := 0 }, { name := "DEGREES_TO_RADIANS", type := .double, accessFlags := 26, slot := 3, constantValue := 0 }, { name := "RADIANS_TO_DEGREES", type := .double, accessFlags := 26, slot := 4, constantValue := 0 }, { name := "negativeZeroFloatBits", type := .long, accessFlags := 26, slot := 5, constantValue := 0 }, { name := "negativeZeroDoubleBits", type := .long, accessFlags := 26, slot := 6, constantValue := 0 }, { name := "twoToTheDoubleScaleUp", type := .double, accessFlags := 8, slot := 7, constantValue := 0 }, { name := "twoToTheDoubleScaleDown", type := .double, accessFlags := 8, slot := 8, constantValue := 0 }, { name := "$assertionsDisabled", type := .boolean, accessFlags := 4120, slot := 9, constantValue := 0 }]
  methods := #[k19m0, k19m1, k19m2]
  instanceTypes := #[]
  staticTypes := #[.double, .double, .double, .double, .double, .long, .long, .double, .double, .boolean]
  resolved := Array.replicate 460 none
  statics := none }

def pool20 : Array CpInfo := pool [(2, .class_ 4), (1, u "java/lang/Object"), (0, u "<init>"), (0, u "()V"), (17, .class_ 26), (1, u "jdk/internal/util/Preconditions"), (6, u "checkIndex"), (21, .class_ 56), (0, u "jdk/internal/util/Preconditions$4"), (57, .class_ 115), (0, u "jdk/internal/util/Preconditions$1"), (7, u "SIOOBE_FORMATTER"), (0, u "Ljava/util/function/BiFunction;"), (0, .class_ 126), (0, u "jdk/internal/util/Preconditions$2"), (3, u "AIOOBE_FORMATTER"), (0, .class_ 132), (0, u "jdk/internal/util/Preconditions$3"), (3, u "IOOBE_FORMATTER"), (41, u "(IILjava/util/function/BiFunction;)I")] 15

def k20m0 : Method := { name := "<init>", desc := "()V", sig := { parameters := [], returnType := none }, accessFlags := 1, code := none }
def k20c1 : Code := { maxStack := 3, maxLocals := 3, code := jdk_41_method_11_code, exceptionTable := #[], attributes := #[] }
def k20m1 : Method := { name := "checkIndex", desc := "(IILjava/util/function/BiFunction;)I", sig := { parameters := [.int, .int, (.object "java/util/function/BiFunction")], returnType := some .int }, accessFlags := 9, code := some k20c1 }
/-- jdk/internal/util/Preconditions -/
def k20 : Class := { plain "jdk/internal/util/Preconditions" (some 0) with
  accessFlags := 33
  interfaces := #[]
  cf := some (fileOf pool20 24 #[.nestMembers #[55, 131, 125, 114]] #[{ accessFlags := 1, nameIndex := 5, descriptorIndex := 6, attributes := #[] }, { accessFlags := 9, nameIndex := 33, descriptorIndex := 178, attributes := #[] }] 33 2 #[] #[{ accessFlags := 25, nameIndex := 123, descriptorIndex := 124, attributes := #[] }, { accessFlags := 25, nameIndex := 130, descriptorIndex := 124, attributes := #[] }, { accessFlags := 25, nameIndex := 136, descriptorIndex := 124, attributes := #[] }])
  fields := #[{ name := "SIOOBE_FORMATTER", type := (.object "java/util/function/BiFunction"), accessFlags := 25, slot := 0, constantValue := 0 }, { name := "AIOOBE_FORMATTER", type := (.object "java/util/function/BiFunction"), accessFlags := 25, slot := 1, constantValue := 0 }, { name := "IOOBE_FORMATTER", type := (.object "java/util/function/BiFunction"), accessFlags := 25, slot := 2, constantValue := 0 }]
  methods := #[k20m0, k20m1]
  instanceTypes := #[]
  staticTypes := #[(.object "java/util/function/BiFunction"), (.object "java/util/function/BiFunction"), (.object "java/util/function/BiFunction")]
  resolved := Array.replicate 194 none
  statics := some 3 }

def pool21 : Array CpInfo := pool [(9, u "<init>"), (6, .class_ 18), (1, u "java/lang/Object"), (0, u "()V"), (1, .class_ 23), (1, u "jdk/internal/util/ArraysSupport"), (0, u "LOG2_ARRAY_LONG_INDEX_SCALE"), (0, u "I"), (2, u "U"), (0, u "Ljdk/internal/misc/Unsafe;"), (8, u "BIG_ENDIAN"), (0, u "Z"), (8, u "LOG2_BYTE_BIT_SIZE"), (4, u "LOG2_ARRAY_INT_INDEX_SCALE"), (54, u "JLA"), (0, u "Ljdk/internal/access/JavaLangAccess;"), (11, u "LOG2_ARRAY_BOOLEAN_INDEX_SCALE"), (9, u "LOG2_ARRAY_BYTE_INDEX_SCALE"), (5, u "LOG2_ARRAY_CHAR_INDEX_SCALE"), (5, u "LOG2_ARRAY_SHORT_INDEX_SCALE"), (18, u "LOG2_ARRAY_FLOAT_INDEX_SCALE"), (24, u "LOG2_ARRAY_DOUBLE_INDEX_SCALE"), (89, u "T_BOOLEAN"), (2, u "T_CHAR"), (1, u "T_FLOAT"), (1, u "T_DOUBLE"), (1, u "T_BYTE"), (1, u "T_SHORT"), (1, u "T_INT"), (1, u "T_LONG"), (1, u "SOFT_MAX_ARRAY_LENGTH")] 83

def k21m0 : Method := { name := "<init>", desc := "()V", sig := { parameters := [], returnType := none }, accessFlags := 2, code := none }
/-- jdk/internal/util/ArraysSupport -/
def k21 : Class := { plain "jdk/internal/util/ArraysSupport" (some 0) with
  accessFlags := 33
  interfaces := #[]
  cf := some (fileOf pool21 21 #[] #[{ accessFlags := 2, nameIndex := 9, descriptorIndex := 19, attributes := #[] }] 33 16 #[] #[{ accessFlags := 24, nameIndex := 28, descriptorIndex := 29, attributes := #[] }, { accessFlags := 26, nameIndex := 38, descriptorIndex := 39, attributes := #[] }, { accessFlags := 25, nameIndex := 121, descriptorIndex := 25, attributes := #[] }, { accessFlags := 25, nameIndex := 131, descriptorIndex := 25, attributes := #[] }, { accessFlags := 25, nameIndex := 137, descriptorIndex := 25, attributes := #[] }, { accessFlags := 25, nameIndex := 143, descriptorIndex := 25, attributes := #[] }, { accessFlags := 25, nameIndex := 53, descriptorIndex := 25, attributes := #[] }, { accessFlags := 25, nameIndex := 24, descriptorIndex := 25, attributes := #[] }, { accessFlags := 25, nameIndex := 162, descriptorIndex := 25, attributes := #[] }, { accessFlags := 25, nameIndex := 187, descriptorIndex := 25, attributes := #[] }, { accessFlags := 26, nameIndex := 48, descriptorIndex := 25, attributes := #[] }, { accessFlags := 25, nameIndex := 277, descriptorIndex := 25, attributes := #[] }, { accessFlags := 25, nameIndex := 280, descriptorIndex := 25, attributes := #[] }, { accessFlags := 25, nameIndex := 282, descriptorIndex := 25, attributes := #[] }, { accessFlags := 25, nameIndex := 284, descriptorIndex := 25, attributes := #[] }, { accessFlags := 25, nameIndex := 286, descriptorIndex := 25, attributes := #[] }, { accessFlags := 25, nameIndex := 288, descriptorIndex := 25, attributes := #[] }, { accessFlags := 25, nameIndex := 290, descriptorIndex := 25, attributes := #[] }, { accessFlags := 25, nameIndex := 292, descriptorIndex := 25, attributes := #[] }, { accessFlags := 26, nameIndex := 108, descriptorIndex := 109, attributes := #[] }, { accessFlags := 25, nameIndex := 294, descriptorIndex := 25, attributes := #[] }])
  fields := #[{ name := "U", type := (.object "jdk/internal/misc/Unsafe"), accessFlags := 24, slot := 0, constantValue := 0 }, { name := "BIG_ENDIAN", type := .boolean, accessFlags := 26, slot := 1, constantValue := 0 }, { name := "LOG2_ARRAY_BOOLEAN_INDEX_SCALE", type := .int, accessFlags := 25, slot := 2, constantValue := 0 }, { name := "LOG2_ARRAY_BYTE_INDEX_SCALE", type := .int, accessFlags := 25, slot := 3, constantValue := 0 }, { name := "LOG2_ARRAY_CHAR_INDEX_SCALE", type := .int, accessFlags := 25, slot := 4, constantValue := 0 }, { name := "LOG2_ARRAY_SHORT_INDEX_SCALE", type := .int, accessFlags := 25, slot := 5, constantValue := 0 }, { name := "LOG2_ARRAY_INT_INDEX_SCALE", type := .int, accessFlags := 25, slot := 6, constantValue := 0 }, { name := "LOG2_ARRAY_LONG_INDEX_SCALE", type := .int, accessFlags := 25, slot := 7, constantValue := 0 }, { name := "LOG2_ARRAY_FLOAT_INDEX_SCALE", type := .int, accessFlags := 25, slot := 8, constantValue := 0 }, { name := "LOG2_ARRAY_DOUBLE_INDEX_SCALE", type := .int, accessFlags := 25, slot := 9, constantValue := 0 }, { name := "LOG2_BYTE_BIT_SIZE", type := .int, accessFlags := 26, slot := 10, constantValue := 0 }, { name := "T_BOOLEAN", type := .int, accessFlags := 25, slot := 11, constantValue := 0 }, { name := "T_CHAR", type := .int, accessFlags := 25, slot := 12, constantValue := 0 }, { name := "T_FLOAT", type := .int, accessFlags := 25, slot := 13, constantValue := 0 }, { name := "T_DOUBLE", type := .int, accessFlags := 25, slot := 14, constantValue := 0 }, { name := "T_BYTE", type := .int, accessFlags := 25, slot := 15, constantValue := 0 }, { name := "T_SHORT", type := .int, accessFlags := 25, slot := 16, constantValue := 0 }, { name := "T_INT", type := .int, accessFlags := 25, slot := 17, constantValue := 0 }, { name := "T_LONG", type := .int, accessFlags := 25, slot := 18, constantValue := 0 }, { name := "JLA", type := (.object "jdk/internal/access/JavaLangAccess"), accessFlags := 26, slot := 19, constantValue := 0 }, { name := "SOFT_MAX_ARRAY_LENGTH", type := .int, accessFlags := 25, slot := 20, constantValue := 0 }]
  methods := #[k21m0]
  instanceTypes := #[]
  staticTypes := #[(.object "jdk/internal/misc/Unsafe"), .boolean, .int, .int, .int, .int, .int, .int, .int, .int, .int, .int, .int, .int, .int, .int, .int, .int, .int, (.object "jdk/internal/access/JavaLangAccess"), .int]
  resolved := Array.replicate 378 none
  statics := none }

def pool22 : Array CpInfo := pool [(1, u "java/lang/Cloneable"), (0, .class_ 1), (0, u "java/lang/Object"), (0, .class_ 3)] 3

/-- java/lang/Cloneable -/
def k22 : Class := { plain "java/lang/Cloneable" (some 0) with
  accessFlags := 1537
  interfaces := #[]
  cf := some (fileOf pool22 2 #[] #[] 1537 4 #[] #[])
  fields := #[]
  methods := #[]
  instanceTypes := #[]
  staticTypes := #[]
  resolved := Array.replicate 8 none
  statics := none }

/-- the primitive byte -/
def k23 : Class := { plain "byte" none with kind := .primitive 'B', accessFlags := 0x411 }
/-- [B -/
def k24 : Class := { plain "[B" (some 0) with kind := .array 23 .byte, interfaces := #[22, 4], accessFlags := 1041 }

/-- the primitive char -/
def k25 : Class := { plain "char" none with kind := .primitive 'C', accessFlags := 0x411 }
/-- [C -/
def k26 : Class := { plain "[C" (some 0) with kind := .array 25 .char, interfaces := #[22, 4], accessFlags := 1041 }

/-- the primitive long -/
def k27 : Class := { plain "long" none with kind := .primitive 'J', accessFlags := 0x411 }
/-- [J -/
def k28 : Class := { plain "[J" (some 0) with kind := .array 27 .long, interfaces := #[22, 4], accessFlags := 1041 }

/-- [Lcom/example/tranchebook/tranchebook/Cycle$Unit; -/
def k29 : Class := { plain "[Lcom/example/tranchebook/tranchebook/Cycle$Unit;" (some 0) with kind := .array 6 (.object "com/example/tranchebook/tranchebook/Cycle$Unit"), interfaces := #[22, 4], accessFlags := 1041 }

def heap : Heap := #[{ cls := 6, slots := #[.ref 4, .ref 5, .ref 6, .ref 7, .ref 8, .ref 9, .null], vm := .statics 6 },
  { cls := 13, slots := #[.long 0, .int 1, .null, .int 0, .null, .int 0, .int 0], vm := .statics 13 },
  { cls := 16, slots := #[.int 0, .int 0, .null, .null, .ref 11, .ref 10, .int 0, .int 0, .long 0], vm := .statics 16 },
  { cls := 20, slots := #[.null, .null, .null], vm := .statics 20 },
  { cls := 6, slots := #[.null, .int 0, .int 0, .int 68, .null, .int 0], vm := .none },
  { cls := 6, slots := #[.null, .int 0, .int 0, .int 87, .null, .int 0], vm := .none },
  { cls := 6, slots := #[.null, .int 0, .int 0, .int 77, .null, .int 0], vm := .none },
  { cls := 6, slots := #[.null, .int 0, .int 0, .int 81, .null, .int 0], vm := .none },
  { cls := 6, slots := #[.null, .int 0, .int 0, .int 72, .null, .int 0], vm := .none },
  { cls := 6, slots := #[.null, .int 0, .int 0, .int 89, .null, .int 0], vm := .none },
  { cls := 24, slots := #[.int 48, .int 49, .int 50, .int 51, .int 52, .int 53, .int 54, .int 55, .int 56, .int 57, .int 48, .int 49, .int 50, .int 51, .int 52, .int 53, .int 54, .int 55, .int 56, .int 57, .int 48, .int 49, .int 50, .int 51, .int 52, .int 53, .int 54, .int 55, .int 56, .int 57, .int 48, .int 49, .int 50, .int 51, .int 52, .int 53, .int 54, .int 55, .int 56, .int 57, .int 48, .int 49, .int 50, .int 51, .int 52, .int 53, .int 54, .int 55, .int 56, .int 57, .int 48, .int 49, .int 50, .int 51, .int 52, .int 53, .int 54, .int 55, .int 56, .int 57, .int 48, .int 49, .int 50, .int 51, .int 52, .int 53, .int 54, .int 55, .int 56, .int 57, .int 48, .int 49, .int 50, .int 51, .int 52, .int 53, .int 54, .int 55, .int 56, .int 57, .int 48, .int 49, .int 50, .int 51, .int 52, .int 53, .int 54, .int 55, .int 56, .int 57, .int 48, .int 49, .int 50, .int 51, .int 52, .int 53, .int 54, .int 55, .int 56, .int 57], vm := .none },
  { cls := 24, slots := #[.int 48, .int 48, .int 48, .int 48, .int 48, .int 48, .int 48, .int 48, .int 48, .int 48, .int 49, .int 49, .int 49, .int 49, .int 49, .int 49, .int 49, .int 49, .int 49, .int 49, .int 50, .int 50, .int 50, .int 50, .int 50, .int 50, .int 50, .int 50, .int 50, .int 50, .int 51, .int 51, .int 51, .int 51, .int 51, .int 51, .int 51, .int 51, .int 51, .int 51, .int 52, .int 52, .int 52, .int 52, .int 52, .int 52, .int 52, .int 52, .int 52, .int 52, .int 53, .int 53, .int 53, .int 53, .int 53, .int 53, .int 53, .int 53, .int 53, .int 53, .int 54, .int 54, .int 54, .int 54, .int 54, .int 54, .int 54, .int 54, .int 54, .int 54, .int 55, .int 55, .int 55, .int 55, .int 55, .int 55, .int 55, .int 55, .int 55, .int 55, .int 56, .int 56, .int 56, .int 56, .int 56, .int 56, .int 56, .int 56, .int 56, .int 56, .int 57, .int 57, .int 57, .int 57, .int 57, .int 57, .int 57, .int 57, .int 57, .int 57], vm := .none }]
def classes : Array Class := #[k0, k1, k2, k3, k4, k5, k6, k7, k8, k9, k10, k11, k12, k13, k14, k15, k16, k17, k18, k19, k20, k21, k22, k23, k24, k25, k26, k27, k28, k29]
def interned : List (Array UInt16 × Addr) := []
def slotsUsed : Nat := 262
def theMethod : MethodId := ⟨1, 5⟩
def args0 : Array Value := #[.int 5, .int 0, .int 0]
def aboutOver (below : List Frame) : State where
  vm := { classes := classes, interned := interned.toArray }
  heap := heap
  slotsUsed := slotsUsed
  threads := #[{ frames := .invoking theMethod args0 :: below }]
def below0 : List Frame := [.native { method := ⟨0, 0⟩, args := #[] }]
def about1 : State := aboutOver below0
def p0 : Program := .bare "" "" ""
def e0 : Env := launch0.env 0 0 0
theorem w_frames : about1.frames = Frame.invoking theMethod args0 :: below0 := rfl
set_option maxRecDepth 65536 in
theorem w_args : argsFit about1.vm theMethod args0 = true := by decide +kernel
set_option maxRecDepth 65536 in
theorem w_heap : heapFits about1 = true := by decide +kernel
set_option maxRecDepth 65536 in
theorem w_runnable : about1.curStatus? = some .runnable := by decide +kernel
set_option maxRecDepth 65536 in
theorem w_alone : about1.alone = true := by decide +kernel
set_option maxRecDepth 65536 in
theorem w_named : about1.methodNamed? x = some theMethod := by decide +kernel
set_option maxRecDepth 65536 in
theorem w_hears : about1.hears theMethod below0 = true := by decide +kernel
set_option maxRecDepth 65536 in
theorem w_ripe : about1.ripe theMethod args0 below0 = true := by decide +kernel
theorem w_running : about1.status = .running := rfl
set_option maxRecDepth 65536 in
theorem w_room : about1.hasRoom e0.platform room_1 = true :=
  launch0.hasRoom_least _ room_1 (by decide +kernel) (by decide +kernel) (by decide +kernel) (by decide +kernel) (by decide +kernel) (by decide +kernel)
theorem allAtoms_all (ts : List Jvm.Cond) (a : Array Jvm.Value) (st : Jvm.State) : (allAtoms ts).before a st = ts.all (fun c => c.before a st) := by
  induction ts with
  | nil => rfl
  | cons c t ih =>
    show (Jvm.Cond.and c (allAtoms t)).before a st = _
    rw [Jvm.Cond.before_and, ih, List.all_cons]
def words1 : List Jvm.Cond := Jvm.Cond.code x code maxLocals ret :: tables_1
/-- a 'code' word, met by the world's own term for the bytes: nothing is compared byte by byte -/
theorem code_word {y : MethodName} {bytes : ByteArray} {mx : Nat} {rt : Option FieldType} {a : Array Value} {s : State} {m : MethodId} {meth : Method} {c : Code} (h1 : s.methodNamed? y = some m) (h2 : s.vm.method? m = some meth) (h3 : meth.code = some c) (h4 : c.code = bytes)
    (h5 : (c.maxLocals == mx && c.exceptionTable.isEmpty && decide (c.maxStack ≤ mostOperands) && decide (meth.sig.returnType = rt) && !meth.locks && decide (parseMethodDescriptor y.desc = some meth.sig)) = true) : (Jvm.Cond.code y bytes mx rt).before a s = true := by
  simp only [Bool.and_eq_true, beq_iff_eq, Bool.not_eq_true', decide_eq_true_eq] at h5
  obtain ⟨⟨⟨⟨⟨g1, g2⟩, g3⟩, g4⟩, g5⟩, g6⟩ := h5
  simp [Cond.before, Cond.holds, Cond.value, h1, h2, h3, h4, g1, g2, g3, g4, g5, g6]
def isCode : Jvm.Cond → Bool
  | .code _ _ _ _ => true
  | _ => false
theorem all_split {L : List Jvm.Cond} {P : Jvm.Cond → Bool} (h1 : L.all (fun c => isCode c || P c) = true) (h2 : ∀ c ∈ L.filter isCode, P c = true) : L.all P = true := by
  refine List.all_eq_true.mpr fun c hc => ?_
  have h := List.all_eq_true.mp h1 c hc
  rcases Bool.eq_false_or_eq_true (isCode c) with hi | hi
  · exact h2 c (List.mem_filter.mpr ⟨hc, hi⟩)
  · simpa [hi] using h
set_option maxRecDepth 65536 in
theorem w_c0 : (Jvm.Cond.code x code maxLocals ret).before args0 about1 = true := code_word (m := ⟨1, 5⟩) (meth := k1m5) (c := k1c5) (by decide +kernel) rfl rfl rfl (by decide +kernel)
set_option maxRecDepth 65536 in
theorem w_c1 : (Jvm.Cond.code ({ cls := "com/example/tranchebook/tranchebook/Cycle", name := "<init>", desc := "(ILcom/example/tranchebook/tranchebook/Cycle$Unit;Z)V" } : Jvm.MethodName) prog_12_method_1_code (4 : Nat) (Option.none : Option Jvm.ClassFile.FieldType)).before args0 about1 = true := code_word (m := ⟨7, 0⟩) (meth := k7m0) (c := k7c0) (by decide +kernel) rfl rfl rfl (by decide +kernel)
set_option maxRecDepth 65536 in
theorem w_c2 : (Jvm.Cond.code ({ cls := "java/lang/Object", name := "<init>", desc := "()V" } : Jvm.MethodName) object_method_1_code (1 : Nat) (Option.none : Option Jvm.ClassFile.FieldType)).before args0 about1 = true := code_word (m := ⟨0, 0⟩) (meth := k0m0) (c := k0c0) (by decide +kernel) rfl rfl rfl (by decide +kernel)
set_option maxRecDepth 65536 in
theorem w_c3 : (Jvm.Cond.code ({ cls := "com/example/tranchebook/tranchebook/Cycle", name := "toString", desc := "()Ljava/lang/String;" } : Jvm.MethodName) prog_12_method_2_code (1 : Nat) (Option.some (Jvm.ClassFile.FieldType.object "java/lang/String"))).before args0 about1 = true := code_word (m := ⟨7, 1⟩) (meth := k7m1) (c := k7c1) (by decide +kernel) rfl rfl rfl (by decide +kernel)
set_option maxRecDepth 65536 in
theorem w_c4 : (Jvm.Cond.code ({ cls := "java/lang/StringBuilder", name := "<init>", desc := "()V" } : Jvm.MethodName) jdk_67_method_1_code (1 : Nat) (Option.none : Option Jvm.ClassFile.FieldType)).before args0 about1 = true := code_word (m := ⟨11, 0⟩) (meth := k11m0) (c := k11c0) (by decide +kernel) rfl rfl rfl (by decide +kernel)
set_option maxRecDepth 65536 in
theorem w_c5 : (Jvm.Cond.code ({ cls := "java/lang/AbstractStringBuilder", name := "<init>", desc := "(I)V" } : Jvm.MethodName) jdk_68_method_2_code (2 : Nat) (Option.none : Option Jvm.ClassFile.FieldType)).before args0 about1 = true := code_word (m := ⟨10, 1⟩) (meth := k10m1) (c := k10c1) (by decide +kernel) rfl rfl rfl (by decide +kernel)
set_option maxRecDepth 65536 in
theorem w_c6 : (Jvm.Cond.code ({ cls := "java/lang/StringBuilder", name := "append", desc := "(Ljava/lang/String;)Ljava/lang/StringBuilder;" } : Jvm.MethodName) jdk_67_method_7_code (2 : Nat) (Option.some (Jvm.ClassFile.FieldType.object "java/lang/StringBuilder"))).before args0 about1 = true := code_word (m := ⟨11, 1⟩) (meth := k11m1) (c := k11c1) (by decide +kernel) rfl rfl rfl (by decide +kernel)
set_option maxRecDepth 65536 in
theorem w_c7 : (Jvm.Cond.code ({ cls := "java/lang/AbstractStringBuilder", name := "append", desc := "(Ljava/lang/String;)Ljava/lang/AbstractStringBuilder;" } : Jvm.MethodName) jdk_68_method_22_code (3 : Nat) (Option.some (Jvm.ClassFile.FieldType.object "java/lang/AbstractStringBuilder"))).before args0 about1 = true := code_word (m := ⟨10, 4⟩) (meth := k10m4) (c := k10c4) (by decide +kernel) rfl rfl rfl (by decide +kernel)
set_option maxRecDepth 65536 in
theorem w_c8 : (Jvm.Cond.code ({ cls := "java/lang/String", name := "length", desc := "()I" } : Jvm.MethodName) jdk_42_method_54_code (1 : Nat) (Option.some Jvm.ClassFile.FieldType.int)).before args0 about1 = true := code_word (m := ⟨13, 2⟩) (meth := k13m2) (c := k13c2) (by decide +kernel) rfl rfl rfl (by decide +kernel)
set_option maxRecDepth 65536 in
theorem w_c9 : (Jvm.Cond.code ({ cls := "java/lang/String", name := "coder", desc := "()B" } : Jvm.MethodName) jdk_42_method_152_code (1 : Nat) (Option.some Jvm.ClassFile.FieldType.byte)).before args0 about1 = true := code_word (m := ⟨13, 6⟩) (meth := k13m6) (c := k13c6) (by decide +kernel) rfl rfl rfl (by decide +kernel)
set_option maxRecDepth 65536 in
theorem w_c10 : (Jvm.Cond.code ({ cls := "java/lang/AbstractStringBuilder", name := "ensureCapacityInternal", desc := "(I)V" } : Jvm.MethodName) jdk_68_method_9_code (3 : Nat) (Option.none : Option Jvm.ClassFile.FieldType)).before args0 about1 = true := code_word (m := ⟨10, 3⟩) (meth := k10m3) (c := k10c3) (by decide +kernel) rfl rfl rfl (by decide +kernel)
set_option maxRecDepth 65536 in
theorem w_c11 : (Jvm.Cond.code ({ cls := "java/lang/AbstractStringBuilder", name := "putStringAt", desc := "(ILjava/lang/String;)V" } : Jvm.MethodName) jdk_68_method_73_code (3 : Nat) (Option.none : Option Jvm.ClassFile.FieldType)).before args0 about1 = true := code_word (m := ⟨10, 10⟩) (meth := k10m10) (c := k10c10) (by decide +kernel) rfl rfl rfl (by decide +kernel)
set_option maxRecDepth 65536 in
theorem w_c12 : (Jvm.Cond.code ({ cls := "java/lang/AbstractStringBuilder", name := "inflateIfNeededFor", desc := "(Ljava/lang/String;)V" } : Jvm.MethodName) jdk_68_method_71_code (2 : Nat) (Option.none : Option Jvm.ClassFile.FieldType)).before args0 about1 = true := code_word (m := ⟨10, 9⟩) (meth := k10m9) (c := k10c9) (by decide +kernel) rfl rfl rfl (by decide +kernel)
set_option maxRecDepth 65536 in
theorem w_c13 : (Jvm.Cond.code ({ cls := "java/lang/String", name := "getBytes", desc := "([BIB)V" } : Jvm.MethodName) jdk_42_method_147_code (4 : Nat) (Option.none : Option Jvm.ClassFile.FieldType)).before args0 about1 = true := code_word (m := ⟨13, 4⟩) (meth := k13m4) (c := k13c4) (by decide +kernel) rfl rfl rfl (by decide +kernel)
set_option maxRecDepth 65536 in
theorem w_c14 : (Jvm.Cond.code ({ cls := "java/lang/StringBuilder", name := "append", desc := "(I)Ljava/lang/StringBuilder;" } : Jvm.MethodName) jdk_67_method_15_code (2 : Nat) (Option.some (Jvm.ClassFile.FieldType.object "java/lang/StringBuilder"))).before args0 about1 = true := code_word (m := ⟨11, 3⟩) (meth := k11m3) (c := k11c3) (by decide +kernel) rfl rfl rfl (by decide +kernel)
set_option maxRecDepth 65536 in
theorem w_c15 : (Jvm.Cond.code ({ cls := "java/lang/AbstractStringBuilder", name := "append", desc := "(I)Ljava/lang/AbstractStringBuilder;" } : Jvm.MethodName) jdk_68_method_32_code (4 : Nat) (Option.some (Jvm.ClassFile.FieldType.object "java/lang/AbstractStringBuilder"))).before args0 about1 = true := code_word (m := ⟨10, 6⟩) (meth := k10m6) (c := k10c6) (by decide +kernel) rfl rfl rfl (by decide +kernel)
set_option maxRecDepth 65536 in
theorem w_c16 : (Jvm.Cond.code ({ cls := "java/lang/Integer", name := "stringSize", desc := "(I)I" } : Jvm.MethodName) jdk_33_method_13_code (4 : Nat) (Option.some Jvm.ClassFile.FieldType.int)).before args0 about1 = true := code_word (m := ⟨16, 1⟩) (meth := k16m1) (c := k16c1) (by decide +kernel) rfl rfl rfl (by decide +kernel)
set_option maxRecDepth 65536 in
theorem w_c17 : (Jvm.Cond.code ({ cls := "java/lang/AbstractStringBuilder", name := "isLatin1", desc := "()Z" } : Jvm.MethodName) jdk_68_method_68_code (1 : Nat) (Option.some Jvm.ClassFile.FieldType.boolean)).before args0 about1 = true := code_word (m := ⟨10, 8⟩) (meth := k10m8) (c := k10c8) (by decide +kernel) rfl rfl rfl (by decide +kernel)
set_option maxRecDepth 65536 in
theorem w_c18 : (Jvm.Cond.code ({ cls := "java/lang/Integer", name := "getChars", desc := "(II[B)I" } : Jvm.MethodName) jdk_33_method_12_code (7 : Nat) (Option.some Jvm.ClassFile.FieldType.int)).before args0 about1 = true := code_word (m := ⟨16, 0⟩) (meth := k16m0) (c := k16c0) (by decide +kernel) rfl rfl rfl (by decide +kernel)
set_option maxRecDepth 65536 in
theorem w_c19 : (Jvm.Cond.code ({ cls := "com/example/tranchebook/tranchebook/Cycle$Unit", name := "getLetter", desc := "()C" } : Jvm.MethodName) prog_13_method_4_code (1 : Nat) (Option.some Jvm.ClassFile.FieldType.char)).before args0 about1 = true := code_word (m := ⟨6, 0⟩) (meth := k6m0) (c := k6c0) (by decide +kernel) rfl rfl rfl (by decide +kernel)
set_option maxRecDepth 65536 in
theorem w_c20 : (Jvm.Cond.code ({ cls := "java/lang/StringBuilder", name := "append", desc := "(C)Ljava/lang/StringBuilder;" } : Jvm.MethodName) jdk_67_method_14_code (2 : Nat) (Option.some (Jvm.ClassFile.FieldType.object "java/lang/StringBuilder"))).before args0 about1 = true := code_word (m := ⟨11, 2⟩) (meth := k11m2) (c := k11c2) (by decide +kernel) rfl rfl rfl (by decide +kernel)
set_option maxRecDepth 65536 in
theorem w_c21 : (Jvm.Cond.code ({ cls := "java/lang/AbstractStringBuilder", name := "append", desc := "(C)Ljava/lang/AbstractStringBuilder;" } : Jvm.MethodName) jdk_68_method_31_code (2 : Nat) (Option.some (Jvm.ClassFile.FieldType.object "java/lang/AbstractStringBuilder"))).before args0 about1 = true := code_word (m := ⟨10, 5⟩) (meth := k10m5) (c := k10c5) (by decide +kernel) rfl rfl rfl (by decide +kernel)
set_option maxRecDepth 65536 in
theorem w_c22 : (Jvm.Cond.code ({ cls := "java/lang/StringLatin1", name := "canEncode", desc := "(C)Z" } : Jvm.MethodName) jdk_43_method_3_code (1 : Nat) (Option.some Jvm.ClassFile.FieldType.boolean)).before args0 about1 = true := code_word (m := ⟨17, 2⟩) (meth := k17m2) (c := k17c2) (by decide +kernel) rfl rfl rfl (by decide +kernel)
set_option maxRecDepth 65536 in
theorem w_c23 : (Jvm.Cond.code ({ cls := "java/lang/StringBuilder", name := "toString", desc := "()Ljava/lang/String;" } : Jvm.MethodName) jdk_67_method_42_code (1 : Nat) (Option.some (Jvm.ClassFile.FieldType.object "java/lang/String"))).before args0 about1 = true := code_word (m := ⟨11, 4⟩) (meth := k11m4) (c := k11c4) (by decide +kernel) rfl rfl rfl (by decide +kernel)
set_option maxRecDepth 65536 in
theorem w_c24 : (Jvm.Cond.code ({ cls := "java/lang/String", name := "<init>", desc := "(Ljava/lang/StringBuilder;)V" } : Jvm.MethodName) jdk_42_method_53_code (2 : Nat) (Option.none : Option Jvm.ClassFile.FieldType)).before args0 about1 = true := code_word (m := ⟨13, 1⟩) (meth := k13m1) (c := k13c1) (by decide +kernel) rfl rfl rfl (by decide +kernel)
set_option maxRecDepth 65536 in
theorem w_c25 : (Jvm.Cond.code ({ cls := "java/lang/String", name := "<init>", desc := "(Ljava/lang/AbstractStringBuilder;Ljava/lang/Void;)V" } : Jvm.MethodName) jdk_42_method_150_code (5 : Nat) (Option.none : Option Jvm.ClassFile.FieldType)).before args0 about1 = true := code_word (m := ⟨13, 5⟩) (meth := k13m5) (c := k13c5) (by decide +kernel) rfl rfl rfl (by decide +kernel)
set_option maxRecDepth 65536 in
theorem w_c26 : (Jvm.Cond.code ({ cls := "java/lang/AbstractStringBuilder", name := "getValue", desc := "()[B" } : Jvm.MethodName) jdk_68_method_64_code (1 : Nat) (Option.some (Jvm.ClassFile.FieldType.array Jvm.ClassFile.FieldType.byte))).before args0 about1 = true := code_word (m := ⟨10, 7⟩) (meth := k10m7) (c := k10c7) (by decide +kernel) rfl rfl rfl (by decide +kernel)
set_option maxRecDepth 65536 in
theorem w_c27 : (Jvm.Cond.code ({ cls := "java/lang/StringBuilder", name := "length", desc := "()I" } : Jvm.MethodName) jdk_67_method_93_code (1 : Nat) (Option.some Jvm.ClassFile.FieldType.int)).before args0 about1 = true := code_word (m := ⟨11, 5⟩) (meth := k11m5) (c := k11c5) (by decide +kernel) rfl rfl rfl (by decide +kernel)
set_option maxRecDepth 65536 in
theorem w_c28 : (Jvm.Cond.code ({ cls := "java/lang/AbstractStringBuilder", name := "length", desc := "()I" } : Jvm.MethodName) jdk_68_method_6_code (1 : Nat) (Option.some Jvm.ClassFile.FieldType.int)).before args0 about1 = true := code_word (m := ⟨10, 2⟩) (meth := k10m2) (c := k10c2) (by decide +kernel) rfl rfl rfl (by decide +kernel)
set_option maxRecDepth 65536 in
theorem w_c29 : (Jvm.Cond.code ({ cls := "java/util/Arrays", name := "copyOfRange", desc := "([BII)[B" } : Jvm.MethodName) jdk_65_method_132_code (3 : Nat) (Option.some (Jvm.ClassFile.FieldType.array Jvm.ClassFile.FieldType.byte))).before args0 about1 = true := code_word (m := ⟨18, 2⟩) (meth := k18m2) (c := k18c2) (by decide +kernel) rfl rfl rfl (by decide +kernel)
set_option maxRecDepth 65536 in
theorem w_c30 : (Jvm.Cond.code ({ cls := "java/util/Arrays", name := "copyOfRangeByte", desc := "([BII)[B" } : Jvm.MethodName) jdk_65_method_133_code (5 : Nat) (Option.some (Jvm.ClassFile.FieldType.array Jvm.ClassFile.FieldType.byte))).before args0 about1 = true := code_word (m := ⟨18, 3⟩) (meth := k18m3) (c := k18c3) (by decide +kernel) rfl rfl rfl (by decide +kernel)
set_option maxRecDepth 65536 in
theorem w_c31 : (Jvm.Cond.code ({ cls := "java/util/Arrays", name := "checkLength", desc := "(II)V" } : Jvm.MethodName) jdk_65_method_131_code (2 : Nat) (Option.none : Option Jvm.ClassFile.FieldType)).before args0 about1 = true := code_word (m := ⟨18, 1⟩) (meth := k18m1) (c := k18c1) (by decide +kernel) rfl rfl rfl (by decide +kernel)
set_option maxRecDepth 65536 in
theorem w_c32 : (Jvm.Cond.code ({ cls := "java/lang/Math", name := "min", desc := "(II)I" } : Jvm.MethodName) jdk_29_method_69_code (2 : Nat) (Option.some Jvm.ClassFile.FieldType.int)).before args0 about1 = true := code_word (m := ⟨19, 2⟩) (meth := k19m2) (c := k19c2) (by decide +kernel) rfl rfl rfl (by decide +kernel)
set_option maxRecDepth 65536 in
theorem w_c33 : (Jvm.Cond.code ({ cls := "com/example/tranchebook/tranchebook/CycleToStringPinLaw", name := "middleLength", desc := "(I)I" } : Jvm.MethodName) method_4_code (3 : Nat) (Option.some Jvm.ClassFile.FieldType.int)).before args0 about1 = true := code_word (m := ⟨1, 3⟩) (meth := k1m3) (c := k1c3) (by decide +kernel) rfl rfl rfl (by decide +kernel)
set_option maxRecDepth 65536 in
theorem w_c34 : (Jvm.Cond.code ({ cls := "java/lang/Math", name := "abs", desc := "(J)J" } : Jvm.MethodName) jdk_29_method_61_code (2 : Nat) (Option.some Jvm.ClassFile.FieldType.long)).before args0 about1 = true := code_word (m := ⟨19, 1⟩) (meth := k19m1) (c := k19c1) (by decide +kernel) rfl rfl rfl (by decide +kernel)
set_option maxRecDepth 65536 in
theorem w_c35 : (Jvm.Cond.code ({ cls := "com/example/tranchebook/tranchebook/CycleToStringPinLaw", name := "digits", desc := "(J)I" } : Jvm.MethodName) method_3_code (3 : Nat) (Option.some Jvm.ClassFile.FieldType.int)).before args0 about1 = true := code_word (m := ⟨1, 2⟩) (meth := k1m2) (c := k1c2) (by decide +kernel) rfl rfl rfl (by decide +kernel)
set_option maxRecDepth 65536 in
theorem w_c36 : (Jvm.Cond.code ({ cls := "java/lang/String", name := "charAt", desc := "(I)C" } : Jvm.MethodName) jdk_42_method_56_code (2 : Nat) (Option.some Jvm.ClassFile.FieldType.char)).before args0 about1 = true := code_word (m := ⟨13, 3⟩) (meth := k13m3) (c := k13c3) (by decide +kernel) rfl rfl rfl (by decide +kernel)
set_option maxRecDepth 65536 in
theorem w_c37 : (Jvm.Cond.code ({ cls := "java/lang/String", name := "isLatin1", desc := "()Z" } : Jvm.MethodName) jdk_42_method_154_code (1 : Nat) (Option.some Jvm.ClassFile.FieldType.boolean)).before args0 about1 = true := code_word (m := ⟨13, 7⟩) (meth := k13m7) (c := k13c7) (by decide +kernel) rfl rfl rfl (by decide +kernel)
set_option maxRecDepth 65536 in
theorem w_c38 : (Jvm.Cond.code ({ cls := "java/lang/StringLatin1", name := "charAt", desc := "([BI)C" } : Jvm.MethodName) jdk_43_method_2_code (2 : Nat) (Option.some Jvm.ClassFile.FieldType.char)).before args0 about1 = true := code_word (m := ⟨17, 1⟩) (meth := k17m1) (c := k17c1) (by decide +kernel) rfl rfl rfl (by decide +kernel)
set_option maxRecDepth 65536 in
theorem w_c39 : (Jvm.Cond.code ({ cls := "java/lang/String", name := "checkIndex", desc := "(II)V" } : Jvm.MethodName) jdk_42_method_155_code (2 : Nat) (Option.none : Option Jvm.ClassFile.FieldType)).before args0 about1 = true := code_word (m := ⟨13, 8⟩) (meth := k13m8) (c := k13c8) (by decide +kernel) rfl rfl rfl (by decide +kernel)
set_option maxRecDepth 65536 in
theorem w_c40 : (Jvm.Cond.code ({ cls := "jdk/internal/util/Preconditions", name := "checkIndex", desc := "(IILjava/util/function/BiFunction;)I" } : Jvm.MethodName) jdk_41_method_11_code (3 : Nat) (Option.some Jvm.ClassFile.FieldType.int)).before args0 about1 = true := code_word (m := ⟨20, 1⟩) (meth := k20m1) (c := k20c1) (by decide +kernel) rfl rfl rfl (by decide +kernel)
set_option maxRecDepth 65536 in
theorem w_c41 : (Jvm.Cond.code ({ cls := "com/example/tranchebook/tranchebook/CycleToStringPinLaw", name := "midOk", desc := "(Ljava/lang/String;II)Z" } : Jvm.MethodName) method_5_code (12 : Nat) (Option.some Jvm.ClassFile.FieldType.boolean)).before args0 about1 = true := code_word (m := ⟨1, 4⟩) (meth := k1m4) (c := k1c4) (by decide +kernel) rfl rfl rfl (by decide +kernel)
set_option maxRecDepth 65536 in
theorem w_c42 : (Jvm.Cond.code ({ cls := "com/example/tranchebook/tranchebook/CycleToStringPinLaw", name := "pow10", desc := "(I)J" } : Jvm.MethodName) method_2_code (2 : Nat) (Option.some Jvm.ClassFile.FieldType.long)).before args0 about1 = true := code_word (m := ⟨1, 1⟩) (meth := k1m1) (c := k1c1) (by decide +kernel) rfl rfl rfl (by decide +kernel)
def codes1 : List Jvm.Cond := [Jvm.Cond.code x code maxLocals ret, Jvm.Cond.code ({ cls := "com/example/tranchebook/tranchebook/Cycle", name := "<init>", desc := "(ILcom/example/tranchebook/tranchebook/Cycle$Unit;Z)V" } : Jvm.MethodName) prog_12_method_1_code (4 : Nat) (Option.none : Option Jvm.ClassFile.FieldType), Jvm.Cond.code ({ cls := "java/lang/Object", name := "<init>", desc := "()V" } : Jvm.MethodName) object_method_1_code (1 : Nat) (Option.none : Option Jvm.ClassFile.FieldType), Jvm.Cond.code ({ cls := "com/example/tranchebook/tranchebook/Cycle", name := "toString", desc := "()Ljava/lang/String;" } : Jvm.MethodName) prog_12_method_2_code (1 : Nat) (Option.some (Jvm.ClassFile.FieldType.object "java/lang/String")), Jvm.Cond.code ({ cls := "java/lang/StringBuilder", name := "<init>", desc := "()V" } : Jvm.MethodName) jdk_67_method_1_code (1 : Nat) (Option.none : Option Jvm.ClassFile.FieldType), Jvm.Cond.code ({ cls := "java/lang/AbstractStringBuilder", name := "<init>", desc := "(I)V" } : Jvm.MethodName) jdk_68_method_2_code (2 : Nat) (Option.none : Option Jvm.ClassFile.FieldType), Jvm.Cond.code ({ cls := "java/lang/StringBuilder", name := "append", desc := "(Ljava/lang/String;)Ljava/lang/StringBuilder;" } : Jvm.MethodName) jdk_67_method_7_code (2 : Nat) (Option.some (Jvm.ClassFile.FieldType.object "java/lang/StringBuilder")), Jvm.Cond.code ({ cls := "java/lang/AbstractStringBuilder", name := "append", desc := "(Ljava/lang/String;)Ljava/lang/AbstractStringBuilder;" } : Jvm.MethodName) jdk_68_method_22_code (3 : Nat) (Option.some (Jvm.ClassFile.FieldType.object "java/lang/AbstractStringBuilder")), Jvm.Cond.code ({ cls := "java/lang/String", name := "length", desc := "()I" } : Jvm.MethodName) jdk_42_method_54_code (1 : Nat) (Option.some Jvm.ClassFile.FieldType.int), Jvm.Cond.code ({ cls := "java/lang/String", name := "coder", desc := "()B" } : Jvm.MethodName) jdk_42_method_152_code (1 : Nat) (Option.some Jvm.ClassFile.FieldType.byte), Jvm.Cond.code ({ cls := "java/lang/AbstractStringBuilder", name := "ensureCapacityInternal", desc := "(I)V" } : Jvm.MethodName) jdk_68_method_9_code (3 : Nat) (Option.none : Option Jvm.ClassFile.FieldType), Jvm.Cond.code ({ cls := "java/lang/AbstractStringBuilder", name := "putStringAt", desc := "(ILjava/lang/String;)V" } : Jvm.MethodName) jdk_68_method_73_code (3 : Nat) (Option.none : Option Jvm.ClassFile.FieldType), Jvm.Cond.code ({ cls := "java/lang/AbstractStringBuilder", name := "inflateIfNeededFor", desc := "(Ljava/lang/String;)V" } : Jvm.MethodName) jdk_68_method_71_code (2 : Nat) (Option.none : Option Jvm.ClassFile.FieldType), Jvm.Cond.code ({ cls := "java/lang/String", name := "getBytes", desc := "([BIB)V" } : Jvm.MethodName) jdk_42_method_147_code (4 : Nat) (Option.none : Option Jvm.ClassFile.FieldType), Jvm.Cond.code ({ cls := "java/lang/StringBuilder", name := "append", desc := "(I)Ljava/lang/StringBuilder;" } : Jvm.MethodName) jdk_67_method_15_code (2 : Nat) (Option.some (Jvm.ClassFile.FieldType.object "java/lang/StringBuilder")), Jvm.Cond.code ({ cls := "java/lang/AbstractStringBuilder", name := "append", desc := "(I)Ljava/lang/AbstractStringBuilder;" } : Jvm.MethodName) jdk_68_method_32_code (4 : Nat) (Option.some (Jvm.ClassFile.FieldType.object "java/lang/AbstractStringBuilder")), Jvm.Cond.code ({ cls := "java/lang/Integer", name := "stringSize", desc := "(I)I" } : Jvm.MethodName) jdk_33_method_13_code (4 : Nat) (Option.some Jvm.ClassFile.FieldType.int), Jvm.Cond.code ({ cls := "java/lang/AbstractStringBuilder", name := "isLatin1", desc := "()Z" } : Jvm.MethodName) jdk_68_method_68_code (1 : Nat) (Option.some Jvm.ClassFile.FieldType.boolean), Jvm.Cond.code ({ cls := "java/lang/Integer", name := "getChars", desc := "(II[B)I" } : Jvm.MethodName) jdk_33_method_12_code (7 : Nat) (Option.some Jvm.ClassFile.FieldType.int), Jvm.Cond.code ({ cls := "com/example/tranchebook/tranchebook/Cycle$Unit", name := "getLetter", desc := "()C" } : Jvm.MethodName) prog_13_method_4_code (1 : Nat) (Option.some Jvm.ClassFile.FieldType.char), Jvm.Cond.code ({ cls := "java/lang/StringBuilder", name := "append", desc := "(C)Ljava/lang/StringBuilder;" } : Jvm.MethodName) jdk_67_method_14_code (2 : Nat) (Option.some (Jvm.ClassFile.FieldType.object "java/lang/StringBuilder")), Jvm.Cond.code ({ cls := "java/lang/AbstractStringBuilder", name := "append", desc := "(C)Ljava/lang/AbstractStringBuilder;" } : Jvm.MethodName) jdk_68_method_31_code (2 : Nat) (Option.some (Jvm.ClassFile.FieldType.object "java/lang/AbstractStringBuilder")), Jvm.Cond.code ({ cls := "java/lang/StringLatin1", name := "canEncode", desc := "(C)Z" } : Jvm.MethodName) jdk_43_method_3_code (1 : Nat) (Option.some Jvm.ClassFile.FieldType.boolean), Jvm.Cond.code ({ cls := "java/lang/StringBuilder", name := "toString", desc := "()Ljava/lang/String;" } : Jvm.MethodName) jdk_67_method_42_code (1 : Nat) (Option.some (Jvm.ClassFile.FieldType.object "java/lang/String")), Jvm.Cond.code ({ cls := "java/lang/String", name := "<init>", desc := "(Ljava/lang/StringBuilder;)V" } : Jvm.MethodName) jdk_42_method_53_code (2 : Nat) (Option.none : Option Jvm.ClassFile.FieldType), Jvm.Cond.code ({ cls := "java/lang/String", name := "<init>", desc := "(Ljava/lang/AbstractStringBuilder;Ljava/lang/Void;)V" } : Jvm.MethodName) jdk_42_method_150_code (5 : Nat) (Option.none : Option Jvm.ClassFile.FieldType), Jvm.Cond.code ({ cls := "java/lang/AbstractStringBuilder", name := "getValue", desc := "()[B" } : Jvm.MethodName) jdk_68_method_64_code (1 : Nat) (Option.some (Jvm.ClassFile.FieldType.array Jvm.ClassFile.FieldType.byte)), Jvm.Cond.code ({ cls := "java/lang/StringBuilder", name := "length", desc := "()I" } : Jvm.MethodName) jdk_67_method_93_code (1 : Nat) (Option.some Jvm.ClassFile.FieldType.int), Jvm.Cond.code ({ cls := "java/lang/AbstractStringBuilder", name := "length", desc := "()I" } : Jvm.MethodName) jdk_68_method_6_code (1 : Nat) (Option.some Jvm.ClassFile.FieldType.int), Jvm.Cond.code ({ cls := "java/util/Arrays", name := "copyOfRange", desc := "([BII)[B" } : Jvm.MethodName) jdk_65_method_132_code (3 : Nat) (Option.some (Jvm.ClassFile.FieldType.array Jvm.ClassFile.FieldType.byte)), Jvm.Cond.code ({ cls := "java/util/Arrays", name := "copyOfRangeByte", desc := "([BII)[B" } : Jvm.MethodName) jdk_65_method_133_code (5 : Nat) (Option.some (Jvm.ClassFile.FieldType.array Jvm.ClassFile.FieldType.byte)), Jvm.Cond.code ({ cls := "java/util/Arrays", name := "checkLength", desc := "(II)V" } : Jvm.MethodName) jdk_65_method_131_code (2 : Nat) (Option.none : Option Jvm.ClassFile.FieldType), Jvm.Cond.code ({ cls := "java/lang/Math", name := "min", desc := "(II)I" } : Jvm.MethodName) jdk_29_method_69_code (2 : Nat) (Option.some Jvm.ClassFile.FieldType.int), Jvm.Cond.code ({ cls := "com/example/tranchebook/tranchebook/CycleToStringPinLaw", name := "middleLength", desc := "(I)I" } : Jvm.MethodName) method_4_code (3 : Nat) (Option.some Jvm.ClassFile.FieldType.int), Jvm.Cond.code ({ cls := "java/lang/Math", name := "abs", desc := "(J)J" } : Jvm.MethodName) jdk_29_method_61_code (2 : Nat) (Option.some Jvm.ClassFile.FieldType.long), Jvm.Cond.code ({ cls := "com/example/tranchebook/tranchebook/CycleToStringPinLaw", name := "digits", desc := "(J)I" } : Jvm.MethodName) method_3_code (3 : Nat) (Option.some Jvm.ClassFile.FieldType.int), Jvm.Cond.code ({ cls := "java/lang/String", name := "charAt", desc := "(I)C" } : Jvm.MethodName) jdk_42_method_56_code (2 : Nat) (Option.some Jvm.ClassFile.FieldType.char), Jvm.Cond.code ({ cls := "java/lang/String", name := "isLatin1", desc := "()Z" } : Jvm.MethodName) jdk_42_method_154_code (1 : Nat) (Option.some Jvm.ClassFile.FieldType.boolean), Jvm.Cond.code ({ cls := "java/lang/StringLatin1", name := "charAt", desc := "([BI)C" } : Jvm.MethodName) jdk_43_method_2_code (2 : Nat) (Option.some Jvm.ClassFile.FieldType.char), Jvm.Cond.code ({ cls := "java/lang/String", name := "checkIndex", desc := "(II)V" } : Jvm.MethodName) jdk_42_method_155_code (2 : Nat) (Option.none : Option Jvm.ClassFile.FieldType), Jvm.Cond.code ({ cls := "jdk/internal/util/Preconditions", name := "checkIndex", desc := "(IILjava/util/function/BiFunction;)I" } : Jvm.MethodName) jdk_41_method_11_code (3 : Nat) (Option.some Jvm.ClassFile.FieldType.int), Jvm.Cond.code ({ cls := "com/example/tranchebook/tranchebook/CycleToStringPinLaw", name := "midOk", desc := "(Ljava/lang/String;II)Z" } : Jvm.MethodName) method_5_code (12 : Nat) (Option.some Jvm.ClassFile.FieldType.boolean), Jvm.Cond.code ({ cls := "com/example/tranchebook/tranchebook/CycleToStringPinLaw", name := "pow10", desc := "(I)J" } : Jvm.MethodName) method_2_code (2 : Nat) (Option.some Jvm.ClassFile.FieldType.long)]
set_option maxRecDepth 65536 in
theorem codes_eq : words1.filter isCode = codes1 := rfl
theorem w_codes : ∀ c ∈ words1.filter isCode, c.before args0 about1 = true := by
  rw [codes_eq]
  intro c hc
  simp only [codes1, List.mem_cons, List.not_mem_nil, or_false] at hc
  rcases hc with rfl | rfl | rfl | rfl | rfl | rfl | rfl | rfl | rfl | rfl | rfl | rfl | rfl | rfl | rfl | rfl | rfl | rfl | rfl | rfl | rfl | rfl | rfl | rfl | rfl | rfl | rfl | rfl | rfl | rfl | rfl | rfl | rfl | rfl | rfl | rfl | rfl | rfl | rfl | rfl | rfl | rfl | rfl
  · exact w_c0
  · exact w_c1
  · exact w_c2
  · exact w_c3
  · exact w_c4
  · exact w_c5
  · exact w_c6
  · exact w_c7
  · exact w_c8
  · exact w_c9
  · exact w_c10
  · exact w_c11
  · exact w_c12
  · exact w_c13
  · exact w_c14
  · exact w_c15
  · exact w_c16
  · exact w_c17
  · exact w_c18
  · exact w_c19
  · exact w_c20
  · exact w_c21
  · exact w_c22
  · exact w_c23
  · exact w_c24
  · exact w_c25
  · exact w_c26
  · exact w_c27
  · exact w_c28
  · exact w_c29
  · exact w_c30
  · exact w_c31
  · exact w_c32
  · exact w_c33
  · exact w_c34
  · exact w_c35
  · exact w_c36
  · exact w_c37
  · exact w_c38
  · exact w_c39
  · exact w_c40
  · exact w_c41
  · exact w_c42
set_option maxRecDepth 65536 in
theorem w_t1 : (words1.take 24).all (fun c => isCode c || c.before args0 about1) = true := by decide +kernel
set_option maxRecDepth 65536 in
theorem w_t2 : ((words1.drop 24).take 24).all (fun c => isCode c || c.before args0 about1) = true := by decide +kernel
set_option maxRecDepth 65536 in
theorem w_t3 : (((words1.drop 24).drop 24).take 24).all (fun c => isCode c || c.before args0 about1) = true := by decide +kernel
set_option maxRecDepth 65536 in
theorem w_t4 : ((((words1.drop 24).drop 24).drop 24).take 24).all (fun c => isCode c || c.before args0 about1) = true := by decide +kernel
set_option maxRecDepth 65536 in
theorem w_t5 : (((((words1.drop 24).drop 24).drop 24).drop 24).take 24).all (fun c => isCode c || c.before args0 about1) = true := by decide +kernel
set_option maxRecDepth 65536 in
theorem w_t6 : ((((((words1.drop 24).drop 24).drop 24).drop 24).drop 24).take 24).all (fun c => isCode c || c.before args0 about1) = true := by decide +kernel
set_option maxRecDepth 65536 in
theorem w_t7 : (((((((words1.drop 24).drop 24).drop 24).drop 24).drop 24).drop 24).take 24).all (fun c => isCode c || c.before args0 about1) = true := by decide +kernel
set_option maxRecDepth 65536 in
theorem w_t8 : ((((((((words1.drop 24).drop 24).drop 24).drop 24).drop 24).drop 24).drop 24).take 24).all (fun c => isCode c || c.before args0 about1) = true := by decide +kernel
set_option maxRecDepth 65536 in
theorem w_t9 : (((((((((words1.drop 24).drop 24).drop 24).drop 24).drop 24).drop 24).drop 24).drop 24).take 24).all (fun c => isCode c || c.before args0 about1) = true := by decide +kernel
set_option maxRecDepth 65536 in
theorem w_t10 : ((((((((((words1.drop 24).drop 24).drop 24).drop 24).drop 24).drop 24).drop 24).drop 24).drop 24).take 24).all (fun c => isCode c || c.before args0 about1) = true := by decide +kernel
set_option maxRecDepth 65536 in
theorem w_t11 : ((((((((((words1.drop 24).drop 24).drop 24).drop 24).drop 24).drop 24).drop 24).drop 24).drop 24).drop 24).all (fun c => isCode c || c.before args0 about1) = true := by decide +kernel
theorem w_tables : (allAtoms (Jvm.Cond.code x code maxLocals ret :: tables_1)).before args0 about1 = true := by
  rw [allAtoms_all]
  show words1.all (fun c => c.before args0 about1) = true
  refine all_split ?_ w_codes
  rw [← List.take_append_drop 24 words1, List.all_append, w_t1, ← List.take_append_drop 24 (words1.drop 24), List.all_append, w_t2, ← List.take_append_drop 24 ((words1.drop 24).drop 24), List.all_append, w_t3, ← List.take_append_drop 24 (((words1.drop 24).drop 24).drop 24), List.all_append, w_t4, ← List.take_append_drop 24 ((((words1.drop 24).drop 24).drop 24).drop 24), List.all_append, w_t5, ← List.take_append_drop 24 (((((words1.drop 24).drop 24).drop 24).drop 24).drop 24), List.all_append, w_t6, ← List.take_append_drop 24 ((((((words1.drop 24).drop 24).drop 24).drop 24).drop 24).drop 24), List.all_append, w_t7, ← List.take_append_drop 24 (((((((words1.drop 24).drop 24).drop 24).drop 24).drop 24).drop 24).drop 24), List.all_append, w_t8, ← List.take_append_drop 24 ((((((((words1.drop 24).drop 24).drop 24).drop 24).drop 24).drop 24).drop 24).drop 24), List.all_append, w_t9, ← List.take_append_drop 24 (((((((((words1.drop 24).drop 24).drop 24).drop 24).drop 24).drop 24).drop 24).drop 24).drop 24), List.all_append, w_t10, w_t11]
  rfl
set_option maxRecDepth 65536 in
theorem w_rest : rest_1_c.before args0 about1 = true := by decide +kernel
set_option maxRecDepth 65536 in
theorem w_case : (Jvm.Cond.and given_1 narrow_1).before args0 about1 = true := by decide +kernel
set_option maxRecDepth 65536 in
theorem w_consts : constsHeld consts_1 about1 := Jvm.Lit.constsHeldB_iff.mp (by decide +kernel)
theorem w_applies : (headSpec (Jvm.Cond.code x code maxLocals ret :: tables_1) room_1).applies x e0.platform about1 = true :=
  (Spec.applies_iff w_frames).mpr ⟨w_running, w_runnable, w_alone, w_named, w_hears, w_ripe, w_room, w_tables⟩
theorem atStart : AtStart classFile x code maxLocals ret World_1 tables_1 room_1 Calls_1 rest_1 Pre_1 launch0 p0 e0 about1 theMethod args0 below0 :=
  ⟨lists_1, trivial, launch0.admits_env _ _ _, launch0.least_env, fairChoices_fair.cas, fairChoices_fair.clock, w_frames, w_args, w_heap, w_applies, ⟨w_consts, trivial⟩, w_rest, w_case⟩
end start1
theorem witness_1 : WitnessClaimed_1 := ⟨start1.p0, start1.e0, start1.about1, start1.theMethod, start1.args0, start1.below0, start1.atStart⟩
end Jvm.Pilot.@@N@@
