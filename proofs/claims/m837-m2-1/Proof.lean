import JvmDerived
import JvmDerived.Pilot.@@N@@Statement
import JvmDerived.Pilot.@@N@@Code
set_option linter.unusedVariables false
set_option linter.unusedSimpArgs false
namespace Jvm.RoadKit
open Sem ClassFile Op Lib Jvm.Stand Jvm.Free Jvm.LawKit
section New
variable {p : Program} {l : Launch} {e : Env} {R : Room} {s : State} {m : MethodId} {args : Array Value} {below : List Frame} {meth : Method} {c : Code} {T : State} {locs : List Loc} {cells slots : Nat}
theorem retI (X : Stand p l e R s m args below meth c T locs cells slots) (hx : p.tables.exec = Jvm.exec) {pc : Nat} {Ls : Array Slot} {z : Int32} {rest : List Value} (hret : meth.sig.returnType = some .int) (hd : decode c.code pc = .ok (.ireturn, 1)) {fs : List Frame}
    (hl : ∀ (f : JFrame) (acts : List Action), f.method = m → f.locked = none → f.entered = [] → (doReturn e (T.setTop f) acts (some (.int z))).1 = T.setFrames fs) : Steps p.tables e below (T.setTop (mkF m pc Ls (.int z :: rest))) (T.setFrames fs) := by
  have hm' : T.vm.method? m = some meth := X.method'
  have hn : narrow .int (.int z) = .int z := rfl
  show Steps p.tables e below (T.setTop { method := m, pc := pc, locals := Ls, stack := _ :: rest, locked := none }) _
  jvm_step X.here [X.here.top, hx, hd, hm', hret, hn]
  first | (intro acts; rw [hl _ acts rfl rfl rfl]) | rw [hl _ _ rfl rfl rfl]
  exact Steps.refl _
end New
section Own
variable {Z : State} {h0 h h' : Heap} {ws ws' : List (Addr × Nat)} {a : Addr} {sl : Nat} {v : Value} {C n d : String}
/-- own: what a call leaves as it was, by places: every cell is kept in class, kind and size; a place that isn't listed keeps its value -/
def KSx (h h' : Heap) (ws : List (Addr × Nat)) : Prop := h.size ≤ h'.size ∧ ∀ (x : Addr) (c : Cell), h[x]? = some c → ∃ c' : Cell, h'[x]? = some c' ∧ c'.cls = c.cls ∧ c'.vm = c.vm ∧ c'.slots.size = c.slots.size ∧ (∀ j, (∀ p ∈ ws, x ≠ p.1 ∨ j ≠ p.2) → c'.slots[j]? = c.slots[j]?) ∧ ((c.vm.isStatics = true ∨ ∀ p ∈ ws, x ≠ p.1) → c' = c)
theorem ks0 {P : Addr × Nat → Prop} : ∀ p ∈ ([] : List (Addr × Nat)), P p := fun _ q => nomatch q
theorem ksS {P : Addr × Nat → Prop} {y : Addr × Nat} {L : List (Addr × Nat)} (q : P y) (r : ∀ p ∈ L, P p) : ∀ p ∈ y :: L, P p := fun x z => (List.mem_cons.mp z).elim (fun u => u ▸ q) (r x)
theorem KSx.refl (h : Heap) (ws : List (Addr × Nat)) : KSx h h ws := ⟨Nat.le_refl _, fun _ c q => ⟨c, q, rfl, rfl, rfl, fun _ _ => rfl, fun _ => rfl⟩⟩
theorem KSx.ext (K : KSx h0 h ws) (E : Ext h h') : KSx h0 h' ws := ⟨Nat.le_trans K.1 E.1, fun x c q => by obtain ⟨c', q', r⟩ := K.2 x c q; exact ⟨c', E.2 x c' q', r⟩⟩
theorem KSx.trans (K : KSx h0 h ws) (K' : KSx h h' ws') (q : ∀ p ∈ ws', p ∈ ws ∨ h0.size ≤ p.1) : KSx h0 h' ws := by
  refine ⟨Nat.le_trans K.1 K'.1, fun x c hc => ?_⟩
  obtain ⟨c1, a1, a2, a3, a4, a5, a6⟩ := K.2 x c hc
  obtain ⟨c2, b1, b2, b3, b4, b5, b6⟩ := K'.2 x c1 a1
  have hx : x < h0.size := (Array.getElem?_eq_some_iff.mp hc).1
  refine ⟨c2, b1, b2.trans a2, b3.trans a3, b4.trans a4, fun j hj => ?_, fun hs => ?_⟩
  · refine (b5 j fun p hp => ?_).trans (a5 j hj)
    rcases q p hp with w | g
    · exact hj p w
    · exact Or.inl fun e => by subst e; exact absurd hx (Nat.not_lt.mpr g)
  · have e1 : c1 = c := a6 hs
    refine (b6 ?_).trans e1
    rcases hs with w | w
    · exact Or.inl (by rw [e1]; exact w)
    · refine Or.inr fun p hp => ?_
      rcases q p hp with y | g
      · exact w p y
      · exact fun e => by subst e; exact absurd hx (Nat.not_lt.mpr g)
theorem KSx.of_wr (W : Wr h h' a sl v) : KSx h h' [(a, sl)] := by
  refine ⟨Nat.le_of_eq W.size.symm, fun x c hc => ?_⟩
  obtain ⟨c', e1, e2, e3, e4, e5, e6, e7⟩ := wr_at W hc
  refine ⟨c', e1, e2, e3, e4, fun j hj => ?_, fun hs => ?_⟩
  · rcases hj (a, sl) (List.mem_singleton.mpr rfl) with y | y
    · rw [e5 y]
    · exact e6 j y
  · rcases hs with y | y
    · by_cases z : x = a
      · rw [(e7 z).2.2] at y; cases y
      · exact e5 z
    · exact e5 (y (a, sl) (List.mem_singleton.mpr rfl))
theorem KSx.wr (K : KSx h0 h ws) (W : Wr h h' a sl v) (q : (a, sl) ∈ ws ∨ h0.size ≤ a) : KSx h0 h' ws := K.trans (KSx.of_wr W) fun p hp => by cases List.mem_singleton.mp hp; exact q
theorem Fld.ks (F : Fld Z h a C n d v) (K : KSx h h' ws) (q : ∀ p ∈ ws, a ≠ p.1 ∨ slotOf Z C n d ≠ p.2) : Fld Z h' a C n d v := by
  obtain ⟨cell, cf, k, i, f, h1, h2, h3, h4, h5, h6, h7⟩ := F
  obtain ⟨c', e1, e2, e3, -, e5, -⟩ := K.2 _ _ h1
  refine ⟨c', cf, k, i, f, e1, h2, h3, by rw [e3]; exact h4, by rw [e3]; exact h5, by rw [e2]; exact h6, ?_⟩
  refine (e5 _ fun p hp => ?_).trans h7
  simpa [slotOf, h2] using q p hp
theorem Exa.ks (F : Exa Z h a C) (K : KSx h h' ws) : Exa Z h' a C := by
  obtain ⟨cell, k, h1, h2, h3, h4, h5⟩ := F
  obtain ⟨c', e1, e2, e3, e4, -⟩ := K.2 _ _ h1
  exact ⟨c', k, e1, by rw [e2]; exact h2, by rw [e2]; exact h3, by rw [e3]; exact h4, by rw [e4]; exact h5⟩
theorem Sta.ks (F : Sta Z h C n d v) (K : KSx h h' ws) : Sta Z h' C n d v := by
  obtain ⟨cf, i, k, f, st, cell, h1, h2, h3, h4, h5, h6, h7⟩ := F
  obtain ⟨c', e1, -, -, -, -, e6⟩ := K.2 _ _ h5
  exact ⟨cf, i, k, f, st, cell, h1, h2, h3, h4, (e6 (Or.inl h6)) ▸ e1, h6, h7⟩
theorem Arr.ks {c : Cell} {ty : FieldType} (F : Arr Z h a c ty) (K : KSx h h' ws) (q : ∀ p ∈ ws, a ≠ p.1) : Arr Z h' a c ty := by
  obtain ⟨c', e1, -, -, -, -, e6⟩ := K.2 _ _ F.1
  exact ⟨(e6 (Or.inr q)) ▸ e1, F.2⟩
theorem Arv.ks {k : ClassId} {ty : FieldType} {z : Int32} {vs : List Value} {dv : Value} (F : Arv Z h a k ty z vs dv) (K : KSx h h' ws) (q : ∀ p ∈ ws, a ≠ p.1) : Arv Z h' a k ty z vs dv := by obtain ⟨c, A, r⟩ := F; exact ⟨c, A.ks K q, r⟩
theorem own_fi {args : Array Value} {s : State} {t : Term} {k : Int32} (ht : t.eval args s none [] s = some (.ref a)) (hq : (Cond.eq (.field t C n d) (.int k)).value args s none s [] = some true) : Fld s s.heap a C n d (.int k) := by
  have e2 : (Term.int k).eval args s none [] s = some (.int k) := Term.int_eval k
  obtain ⟨x, y, e1, e3, -, k2⟩ := cmp_v (Or.inl hq)
  cases e2.symm.trans e3
  obtain ⟨z, rfl⟩ := k2
  have q : z = k := by simpa [Cond.value, e1, e2] using hq
  subst q
  exact Fld.start (by rw [← fld_at ht]; exact e1)
theorem own_fr {args : Array Value} {s : State} {t u : Term} {b : Addr} (ht : t.eval args s none [] s = some (.ref a)) (hu : u.eval args s none [] s = some (.ref b)) (hq : (Cond.eq (.field t C n d) u).value args s none s [] = some true) : Fld s s.heap a C n d (.ref b) := by
  obtain ⟨x, y, e1, e3, k1, k2⟩ := cmp_v (Or.inl hq)
  cases hu.symm.trans e3
  have hr : x.isRef = true := k2.2
  have q : x = .ref b := gotT (eq_R e1 hu hr rfl) hq
  subst q
  exact Fld.start (by rw [← fld_at ht]; exact e1)
theorem own_len {args : Array Value} {s : State} {t : Term} {k : Int32} {cl : Cell} {ty : FieldType} (ht : t.eval args s none [] s = some (.ref a)) (A : Arr s s.heap a cl ty) (hq : (Cond.eq (.length t) (.int k)).value args s none s [] = some true) : cl.slots.size < 2 ^ 31 ∧ cl.slots.size.toInt32 = k := by
  have e2 : (Term.int k).eval args s none [] s = some (.int k) := Term.int_eval k
  have ha : s.arrayAt? a = some cl := A.fin (Vm.Alike.refl _)
  obtain ⟨x, y, e1, e3, -, k2⟩ := cmp_v (Or.inl hq)
  cases e2.symm.trans e3
  obtain ⟨z, rfl⟩ := k2
  have q : z = k := by simpa [Cond.value, e1, e2] using hq
  subst q
  by_cases hl : cl.slots.size < 2 ^ 31
  · rw [len_f ht ha hl] at e1
    cases e1; exact ⟨hl, rfl⟩
  · simp [Term.eval, ht, ha, hl] at e1
theorem own_el {args : Array Value} {s : State} {t u : Term} {k : Int32} {b : Addr} {cl : Cell} {ty : FieldType} (ht : t.eval args s none [] s = some (.ref a)) (hu : u.eval args s none [] s = some (.ref b)) (A : Arr s s.heap a cl ty) (hq : (Cond.eq (.elem t (.int k)) u).value args s none s [] = some true) : cl.slots[k.toNatClampNeg]? = some (.ref b) := by
  obtain ⟨x, y, e1, e3, k1, k2⟩ := cmp_v (Or.inl hq)
  cases hu.symm.trans e3
  have q : x = .ref b := gotT (eq_R e1 hu k2.2 rfl) hq
  subst q
  exact (elem_in e1 ht (Term.int_eval k) A.1).2
theorem own_sel {s : State} {a0 args : Array Value} {y : MethodName} {k : Nat} (hZ : Z.Warmed39 s.vm) (wi : (Cond.instantiable y.cls k).before a0 Z = true) (wp : (Cond.privateMethod y).before a0 Z = true) (wm : (Cond.instanceMethod y).before a0 Z = true) (hy : y.cls ≠ "java/lang/invoke/MethodHandle" ∧ y.cls ≠ "java/lang/invoke/VarHandle") : (Cond.selects y.cls y y).before args s = true := by
  obtain ⟨c, kc, h1, h2, -, h4, -⟩ := Cond.instantiable_spec (mvT (args := args) hZ wi)
  exact selects_self_of_private h1 h2 (Bool.or_eq_false_iff.mp h4).1 (Cond.privateMethod_at (mvP hZ wp (args := args))) (mvT hZ wm) hy
end Own
end Jvm.RoadKit
namespace Jvm.Pilot.@@N@@
open Jvm Jvm.ClassFile Sem Op Lib Jvm.Free Jvm.Stand Jvm.LawKit Jvm.RoadKit Bundle Jvm.Pilot.@@N@@.Jvm.D
abbrev OMet (l : Launch) (Z : State) (y : MethodName) (bytes : ByteArray) (ml : Nat) (rt : Option FieldType) (ws : List Jvm.Cond) (rm : Room) (h0 : Heap) (as : Array Value) (Q : Option Value → Heap → List Loc → Prop) : Prop :=
  MetFree l y (head1 (Jvm.Cond.code y bytes ml rt :: ws) rm) (fun a U => a = as ∧ Z.Warmed39 U.vm ∧ U.heap = h0) (fun _ _ _ _ _ => True) (fun _ U o U' => ∃ v L, o = .returned v ∧ Q v U'.heap L ∧ FrameEnd U o U' L rm.cells rm.slots)
abbrev OMetS (l : Launch) (Z : State) (y : MethodName) (bytes : ByteArray) (ml : Nat) (rt : Option FieldType) (ws : List Jvm.Cond) (rm : Room) (h0 : Heap) (as : Array Value) (Q : Option Value → Heap → List Loc → Prop) : Prop :=
  MetFree l y (head1 (Jvm.Cond.code y bytes ml rt :: ws) rm) (fun a U => a = as ∧ Z.Warmed39 U.vm ∧ U.heap = h0) (fun _ _ _ _ _ => True) (fun _ U o U' => ∃ v L, o = .returned v ∧ Q v U'.heap L ∧ ReturnedEndW U o U' L rm.cells rm.slots)
def OQp (r : Option Value) (h0 : Heap) (n0 : Nat) (v : Option Value) (h : Heap) (L : List Loc) : Prop := v = r ∧ Fr n0 L ∧ h = h0
def OQl (r : Option Value) (n0 : Nat) (v : Option Value) (h : Heap) (L : List Loc) : Prop := v = r ∧ Fr n0 L
theorem own_rng {k n : Int32} {N : Nat} (h : 0 ≤ k.toInt ∧ k.toInt < N) : ∃ i : Fin N, k = Int32.ofInt i.1 := by
  refine ⟨⟨k.toInt.toNat, by omega⟩, ?_⟩
  show k = Int32.ofInt ((k.toInt.toNat : Nat) : Int)
  rw [Int.toNat_of_nonneg h.1]; exact (Int32.ofInt_toInt k).symm
theorem own_mod (x : Int32) (y : Int32) (hy : 0 < y.toInt) : 0 ≤ ((x &&& (2147483647 : Int32)) % y).toInt ∧ ((x &&& (2147483647 : Int32)) % y).toInt < y.toInt := by
  have h1 := c_mask x 2147483647 31 (by decide) (by decide)
  have h2 := (c_iremV (x &&& (2147483647 : Int32)) y).1 (by rw [h1]; exact Int.emod_nonneg _ (by decide)) hy
  exact ⟨h2.1, h2.2.1⟩
theorem own_b1 (x : Int32) : (x &&& (1 : Int32)) = (0 : Int32) ∨ (x &&& (1 : Int32)) = (1 : Int32) := by
  have h := c_mask x 1 1 (by decide) (by decide)
  have q : (x &&& (1 : Int32)).toInt = 0 ∨ (x &&& (1 : Int32)).toInt = 1 := by rw [h]; omega
  rcases q with q | q <;> simp [← Int32.toInt_inj, q]
theorem d1_0 : decode prog_28_method_6_code 0 = .ok (.aload_n 0, 1) := by decide +kernel
theorem d1_1 : decode prog_28_method_6_code 1 = .ok (.getstatic 3, 3) := by decide +kernel
theorem d1_4 : decode prog_28_method_6_code 4 = .ok (.if_acmp .ne 9, 3) := by decide +kernel
theorem d1_7 : decode prog_28_method_6_code 7 = .ok (.getstatic 7, 3) := by decide +kernel
theorem d1_10 : decode prog_28_method_6_code 10 = .ok (.goto 6, 3) := by decide +kernel
theorem d1_16 : decode prog_28_method_6_code 16 = .ok (.areturn, 1) := by decide +kernel
theorem pn_com_example_cordon_cordon_model_Effect : plainName "com/example/cordon/cordon/model/Effect" = true := by first | (simp [plainName, overriddenIn]; done) | decide +kernel
theorem ef_1_v (m : MethodId) (x0 : Addr) : entryFrame m #[(.ref x0)] 1 = mkF m 0 #[.val (.ref x0)] [] := by first | (simp [entryFrame, mkF, argsToLocals, Value.category]; done) | rfl
set_option maxRecDepth 65536 in
set_option maxHeartbeats 40000000 in
theorem r1_1 (l : Launch) (Z : State) (a0 : Array Value) (hw : ∀ d ∈ tables_1, d.before a0 Z = true) (a4 : Addr) (w5 : Addr) (w7 : Addr) (h0 : Heap) (n0 : Nat) (Z0 : n0 ≤ h0.size) (H0 : Sta Z h0 "com/example/cordon/cordon/model/Effect" "PERMIT" "Lcom/example/cordon/cordon/model/Effect;" (.ref w5)) (H1 : a4 = w5) (H2 : Sta Z h0 "com/example/cordon/cordon/model/Effect" "DENY" "Lcom/example/cordon/cordon/model/Effect;" (.ref w7)) :
    OMet l Z (⟨"com/example/cordon/cordon/model/Effect", "other", "()Lcom/example/cordon/cordon/model/Effect;"⟩ : MethodName) prog_28_method_6_code 1 (some (.object "com/example/cordon/cordon/model/Effect")) [] ({ frames := 0, cells := 0, slots := 0, locals := 0 } : Room) h0 #[(.ref a4)] (OQp (some (.ref w7)) h0 n0) := by
  refine MetFree.of_bodySF (plainFor_of_name pn_com_example_cordon_cordon_model_Effect) hisR ?_
  intro p e s m args below meth c s₁ Bd hml0 hP hK
  obtain ⟨rfl, hZ, hh⟩ := hP
  have hx := Bd.exec
  have hby := Bd.bytes
  have hml : c.maxLocals = 1 := hml0
  have hown : s.vm.findClass "com/example/cordon/cordon/model/Effect" = some m.cls := findClass_of_methodNamed Bd.named
  have hnm := (name_of_methodNamed Bd.named Bd.method).1
  have X0 : Stand p l e ({ frames := 0, cells := 0, slots := 0, locals := 0 } : Room) s m #[(.ref a4)] below meth c s₁ [] 0 0 := Stand.of_body Bd
  have e0 : s₁.heap = h0 := by rw [← hh, Bd.state]; rfl
  have N0 := Fr.nil n0
  have pre0 : ∀ t, Steps p.tables e below (s₁.setTop (mkF m 0 #[.val (.ref a4)] [])) t → Steps p.tables e below (s₁.setTop (entryFrame m #[(.ref a4)] 1)) t := fun t k => castTop (ef_1_v m a4) k
  obtain ⟨T6, X6, e6, st6⟩ := getS2 X0 hx hZ hown (host := "") (Or.inl (hw _ (List.mem_of_getElem? (i := 8) rfl))) Via.refl e0 H0 (g := (mkF m 1 #[.val (.ref a4)] [(.ref a4)])) rfl (hb hby d1_1)
  obtain ⟨T8, X8, e8, st8⟩ := getS2 X6 hx hZ hown (host := "") (Or.inl (hw _ (List.mem_of_getElem? (i := 9) rfl))) Via.refl e6 H2 (g := (mkF m 7 #[.val (.ref a4)] [])) rfl (hb hby d1_7)
  obtain ⟨fs, hr, hrun, hended, hW, hsame⟩ := X8.leave (v := some (.ref w7)) (fun h => by rw [Bd.returns] at h; cases h)
  refine ⟨_, _, pre0 _ ?_, hrun, hended, _, _, rfl, ?_, ⟨_, rfl⟩, hW, hsame.mono (by decide) (by decide)⟩
  · show Steps p.tables e below (s₁.setTop (mkF m 0 #[.val (.ref a4)] [])) _
    refine XS.aloadN X0.here hx rfl (hb hby d1_0) rfl rfl ?_
    show Steps p.tables e below (s₁.setTop (mkF m 1 #[.val (.ref a4)] [(.ref a4)])) _
    refine st6 _ ?_
    show Steps p.tables e below (T6.setTop (mkF m 4 #[.val (.ref a4)] [(.ref w5), (.ref a4)])) _
    refine Jvm.RoadKit.acmp (g := (mkF m 4 #[.val (.ref a4)] [(.ref w5), (.ref a4)])) X6 hx rfl rfl rfl (pc0 := 4) (pc' := 7) (same := true) rfl (hb hby d1_4) rfl (decide_eq_true (congrArg Value.ref H1)) (by decide) (by decide) ?_
    show Steps p.tables e below (T6.setTop (mkF m 7 #[.val (.ref a4)] [])) _
    refine st8 _ ?_
    show Steps p.tables e below (T8.setTop (mkF m 10 #[.val (.ref a4)] [(.ref w7)])) _
    refine XS.goto X8.here hx rfl (pc0 := 10) (pc' := 16) rfl (hb hby d1_10) (by decide) (by decide) ?_
    show Steps p.tables e below (T8.setTop (mkF m 16 #[.val (.ref a4)] [(.ref w7)])) _
    jvm_step X8.here [X8.here.top, hx, (hb hby d1_16), X8.method', Bd.returns, Value.isRef, FieldType.isReference]
    first | (intro acts; rw [hr _ acts rfl rfl rfl]) | rw [hr _ _ rfl rfl rfl]
    exact Steps.refl _
  · show OQp (some (.ref w7)) h0 n0 _ T8.heap _
    rw [e8]
    exact ⟨rfl, N0, rfl⟩
theorem pd_0 : parseMethodDescriptor "()Lcom/example/cordon/cordon/model/Effect;" = some ⟨[], some (.object "com/example/cordon/cordon/model/Effect")⟩ := by decide +kernel
theorem d1_13 : decode prog_28_method_6_code 13 = .ok (.getstatic 3, 3) := by decide +kernel
set_option maxRecDepth 65536 in
set_option maxHeartbeats 40000000 in
theorem r1_2 (l : Launch) (Z : State) (a0 : Array Value) (hw : ∀ d ∈ tables_1, d.before a0 Z = true) (a11 : Addr) (w12 : Addr) (h0 : Heap) (n0 : Nat) (Z0 : n0 ≤ h0.size) (H0 : Sta Z h0 "com/example/cordon/cordon/model/Effect" "PERMIT" "Lcom/example/cordon/cordon/model/Effect;" (.ref w12)) (H1 : a11 ≠ w12) :
    OMet l Z (⟨"com/example/cordon/cordon/model/Effect", "other", "()Lcom/example/cordon/cordon/model/Effect;"⟩ : MethodName) prog_28_method_6_code 1 (some (.object "com/example/cordon/cordon/model/Effect")) [] ({ frames := 0, cells := 0, slots := 0, locals := 0 } : Room) h0 #[(.ref a11)] (OQp (some (.ref w12)) h0 n0) := by
  refine MetFree.of_bodySF (plainFor_of_name pn_com_example_cordon_cordon_model_Effect) hisR ?_
  intro p e s m args below meth c s₁ Bd hml0 hP hK
  obtain ⟨rfl, hZ, hh⟩ := hP
  have hx := Bd.exec
  have hby := Bd.bytes
  have hml : c.maxLocals = 1 := hml0
  have hown : s.vm.findClass "com/example/cordon/cordon/model/Effect" = some m.cls := findClass_of_methodNamed Bd.named
  have hnm := (name_of_methodNamed Bd.named Bd.method).1
  have X0 : Stand p l e ({ frames := 0, cells := 0, slots := 0, locals := 0 } : Room) s m #[(.ref a11)] below meth c s₁ [] 0 0 := Stand.of_body Bd
  have e0 : s₁.heap = h0 := by rw [← hh, Bd.state]; rfl
  have N0 := Fr.nil n0
  have pre0 : ∀ t, Steps p.tables e below (s₁.setTop (mkF m 0 #[.val (.ref a11)] [])) t → Steps p.tables e below (s₁.setTop (entryFrame m #[(.ref a11)] 1)) t := fun t k => castTop (ef_1_v m a11) k
  obtain ⟨T13, X13, e13, st13⟩ := getS2 X0 hx hZ hown (host := "") (Or.inl (hw _ (List.mem_of_getElem? (i := 8) rfl))) Via.refl e0 H0 (g := (mkF m 1 #[.val (.ref a11)] [(.ref a11)])) rfl (hb hby d1_1)
  obtain ⟨T14, X14, e14, st14⟩ := getS2 X13 hx hZ hown (host := "") (Or.inl (hw _ (List.mem_of_getElem? (i := 8) rfl))) Via.refl e13 H0 (g := (mkF m 13 #[.val (.ref a11)] [])) rfl (hb hby d1_13)
  obtain ⟨fs, hr, hrun, hended, hW, hsame⟩ := X14.leave (v := some (.ref w12)) (fun h => by rw [Bd.returns] at h; cases h)
  refine ⟨_, _, pre0 _ ?_, hrun, hended, _, _, rfl, ?_, ⟨_, rfl⟩, hW, hsame.mono (by decide) (by decide)⟩
  · show Steps p.tables e below (s₁.setTop (mkF m 0 #[.val (.ref a11)] [])) _
    refine XS.aloadN X0.here hx rfl (hb hby d1_0) rfl rfl ?_
    show Steps p.tables e below (s₁.setTop (mkF m 1 #[.val (.ref a11)] [(.ref a11)])) _
    refine st13 _ ?_
    show Steps p.tables e below (T13.setTop (mkF m 4 #[.val (.ref a11)] [(.ref w12), (.ref a11)])) _
    refine Jvm.RoadKit.acmp (g := (mkF m 4 #[.val (.ref a11)] [(.ref w12), (.ref a11)])) X13 hx rfl rfl rfl (pc0 := 4) (pc' := 13) (same := false) rfl (hb hby d1_4) rfl (decide_eq_false fun q => H1 (Value.ref.inj q)) (by decide) (by decide) ?_
    show Steps p.tables e below (T13.setTop (mkF m 13 #[.val (.ref a11)] [])) _
    refine st14 _ ?_
    show Steps p.tables e below (T14.setTop (mkF m 16 #[.val (.ref a11)] [(.ref w12)])) _
    jvm_step X14.here [X14.here.top, hx, (hb hby d1_16), X14.method', Bd.returns, Value.isRef, FieldType.isReference]
    first | (intro acts; rw [hr _ acts rfl rfl rfl]) | rw [hr _ _ rfl rfl rfl]
    exact Steps.refl _
  · show OQp (some (.ref w12)) h0 n0 _ T14.heap _
    rw [e14]
    exact ⟨rfl, N0, rfl⟩
theorem pn_com_example_cordon_cordon_model_EffectOtherPinLaw : plainName "com/example/cordon/cordon/model/EffectOtherPinLaw" = true := by first | (simp [plainName, overriddenIn]; done) | decide +kernel
theorem ef_0_v (m : MethodId) (x0 : Int32) : entryFrame m #[(.int x0)] maxLocals = mkF m 0 #[.val (.int x0), .unset, .unset] [] := by first | (simp [entryFrame, mkF, argsToLocals, Value.category, maxLocals]; done) | rfl
set_option maxRecDepth 65536 in
set_option maxHeartbeats 40000000 in
theorem r0_1 (l : Launch) (Z : State) (a0 : Array Value) (hw : ∀ d ∈ tables_1, d.before a0 Z = true) (p1 : Int32) (w2 : Addr) (w10 : Addr) (h0 : Heap) (n0 : Nat) (Z0 : n0 ≤ h0.size) (H0 : (p1 &&& (1 : Int32)) = (0 : Int32)) (H1 : Sta Z h0 "com/example/cordon/cordon/model/Effect" "PERMIT" "Lcom/example/cordon/cordon/model/Effect;" (.ref w2)) (H2 : Sta Z h0 "com/example/cordon/cordon/model/Effect" "DENY" "Lcom/example/cordon/cordon/model/Effect;" (.ref w10)) (H3 : Exa Z h0 w2 "com/example/cordon/cordon/model/Effect") (H4 : w10 ≠ w2) (H5 : Exa Z h0 w10 "com/example/cordon/cordon/model/Effect") :
    OMet l Z x code maxLocals ret tables_1 room_1 h0 #[(.int p1)] (OQl (some (.int (1 : Int32))) n0) := by
  refine MetFree.of_bodySF (plainFor_of_name pn_com_example_cordon_cordon_model_EffectOtherPinLaw) hisR ?_
  intro p e s m args below meth c s₁ Bd hml0 hP hK
  obtain ⟨rfl, hZ, hh⟩ := hP
  have hx := Bd.exec
  have hby := Bd.bytes
  have hml : c.maxLocals = 3 := hml0
  have hown : s.vm.findClass "com/example/cordon/cordon/model/EffectOtherPinLaw" = some m.cls := findClass_of_methodNamed Bd.named
  have hnm := (name_of_methodNamed Bd.named Bd.method).1
  have X0 : Stand p l e room_1 s m #[(.int p1)] below meth c s₁ [] 0 0 := Stand.of_body Bd
  have e0 : s₁.heap = h0 := by rw [← hh, Bd.state]; rfl
  have N0 := Fr.nil n0
  have pre0 : ∀ t, Steps p.tables e below (s₁.setTop (mkF m 0 #[.val (.int p1), .unset, .unset] [])) t → Steps p.tables e below (s₁.setTop (entryFrame m #[(.int p1)] maxLocals)) t := fun t k => castTop (ef_0_v m p1) k
  obtain ⟨T3, X3, e3, st3⟩ := getS2 X0 hx hZ hown (host := "") (Or.inl (hw _ (List.mem_of_getElem? (i := 0) rfl))) Via.refl e0 H1 (g := (mkF m 6 #[.val (.int p1), .unset, .unset] [])) rfl (hb hby at_6)
  obtain ⟨cq9, kq9, q9a, q9b, q9c⟩ := isOf hZ e3 H3
  obtain ⟨_, _, ⟨T9, L9, k9, n9⟩, -, X9, ⟨Lc9, hQ9, l9, y9, z9⟩, st9⟩ := X3.virtualBack hx (y := (⟨"com/example/cordon/cordon/model/Effect", "other", "()Lcom/example/cordon/cordon/model/Effect;"⟩ : MethodName)) (z := (⟨"com/example/cordon/cordon/model/Effect", "other", "()Lcom/example/cordon/cordon/model/Effect;"⟩ : MethodName)) hown (mvT hZ (hw _ (List.mem_of_getElem? (i := 3) rfl))) (mvT hZ (hw _ (List.mem_of_getElem? (i := 4) rfl))) (notFace_of_selects (args := #[]) (mvT hZ (hw _ (List.mem_of_getElem? (i := 6) rfl)))) (mvT hZ (hw _ (List.mem_of_getElem? (i := 6) rfl))) (mvT hZ (hw _ (List.mem_of_getElem? (i := 5) rfl))) (by decide) (backOf (W := 0) (r1_1 l Z a0 hw w2 w2 w10 h0 n0 Z0 H1 rfl H2) hZ (hw _ (List.mem_of_getElem? (i := 7) rfl)) (hw _ (List.mem_of_getElem? (i := 1) rfl)) (by decide) (by decide)) q9a q9c (g := (mkF m 17 #[.val (.int p1), .val (.ref w2), .unset] [(.ref w2)])) rfl (by rw [hml]; rfl) (Steps.refl _) (argsL := []) (rest := []) (lenOf pd_0 rfl) rfl (by show 2 * 0 + _ ≤ _; exact Nat.le_of_eq rfl) (hb hby at_17) (fun _ _ => ⟨rfl, e3, (by decide : 0 + 0 ≤ _), (by decide : 0 + 0 ≤ _)⟩)
  dsimp only [Pt.U, Pt.locs, Pt.cells, Pt.slots] at X9 l9 y9 z9 st9 hQ9
  subst l9 y9 z9
  obtain ⟨rfl, N9q, e9⟩ := hQ9
  have N9 := Fr.app N0 N9q
  obtain ⟨cq15, kq15, q15a, q15b, q15c⟩ := isOf hZ e9 H5
  obtain ⟨_, _, ⟨T15, L15, k15, n15⟩, -, X15, ⟨Lc15, hQ15, l15, y15, z15⟩, st15⟩ := X9.virtualBack hx (y := (⟨"com/example/cordon/cordon/model/Effect", "other", "()Lcom/example/cordon/cordon/model/Effect;"⟩ : MethodName)) (z := (⟨"com/example/cordon/cordon/model/Effect", "other", "()Lcom/example/cordon/cordon/model/Effect;"⟩ : MethodName)) hown (mvT hZ (hw _ (List.mem_of_getElem? (i := 3) rfl))) (mvT hZ (hw _ (List.mem_of_getElem? (i := 4) rfl))) (notFace_of_selects (args := #[]) (mvT hZ (hw _ (List.mem_of_getElem? (i := 6) rfl)))) (mvT hZ (hw _ (List.mem_of_getElem? (i := 6) rfl))) (mvT hZ (hw _ (List.mem_of_getElem? (i := 5) rfl))) (by decide) (backOf (W := 0) (r1_2 l Z a0 hw w10 w2 h0 n0 Z0 H1 H4) hZ (hw _ (List.mem_of_getElem? (i := 7) rfl)) (hw _ (List.mem_of_getElem? (i := 1) rfl)) (by decide) (by decide)) q15a q15c (g := (mkF m 33 #[.val (.int p1), .val (.ref w2), .val (.ref w10)] [(.ref w10)])) rfl (by rw [hml]; rfl) (Steps.refl _) (argsL := []) (rest := []) (lenOf pd_0 rfl) rfl (by show 2 * 0 + _ ≤ _; exact Nat.le_of_eq rfl) (hb hby at_33) (fun _ _ => ⟨rfl, e9, (by decide : 0 + 0 ≤ _), (by decide : 0 + 0 ≤ _)⟩)
  dsimp only [Pt.U, Pt.locs, Pt.cells, Pt.slots] at X15 l15 y15 z15 st15 hQ15
  subst l15 y15 z15
  obtain ⟨rfl, N15q, e15⟩ := hQ15
  have N15 := Fr.app N9 N15q
  obtain ⟨fs, hr, hrun, hended, hW, hsame⟩ := X15.leave (v := some (.int (1 : Int32))) (fun h => by rw [Bd.returns] at h; cases h)
  refine ⟨_, _, pre0 _ ?_, hrun, hended, _, _, rfl, ?_, ⟨_, rfl⟩, hW, hsame.mono (by decide) (by decide)⟩
  · show Steps p.tables e below (s₁.setTop (mkF m 0 #[.val (.int p1), .unset, .unset] [])) _
    refine XS.iloadN X0.here hx rfl (hb hby at_0) rfl ?_
    show Steps p.tables e below (s₁.setTop (mkF m 1 #[.val (.int p1), .unset, .unset] [(.int p1)])) _
    refine XS.iconst X0.here hx rfl (hb hby at_1) ?_
    show Steps p.tables e below (s₁.setTop (mkF m 2 #[.val (.int p1), .unset, .unset] [(.int (1 : Int32)), (.int p1)])) _
    refine XS.iand X0.here hx rfl (hb hby at_2) rfl ?_
    show Steps p.tables e below (s₁.setTop (mkF m 3 #[.val (.int p1), .unset, .unset] [(.int (p1 &&& (1 : Int32)))])) _
    refine XS.ifNo X0.here hx rfl (hb hby at_3) rfl ((if0 _ _).trans (teq H0).2) ?_
    show Steps p.tables e below (s₁.setTop (mkF m 6 #[.val (.int p1), .unset, .unset] [])) _
    refine st3 _ ?_
    show Steps p.tables e below (T3.setTop (mkF m 9 #[.val (.int p1), .unset, .unset] [(.ref w2)])) _
    refine XS.goto X3.here hx rfl (pc0 := 9) (pc' := 15) rfl (hb hby at_9) (by decide) (by decide) ?_
    show Steps p.tables e below (T3.setTop (mkF m 15 #[.val (.int p1), .unset, .unset] [(.ref w2)])) _
    refine XS.astoreN X3.here hx rfl (hb hby at_15) rfl rfl (l' := #[.val (.int p1), .val (.ref w2), .unset]) rfl ?_
    show Steps p.tables e below (T3.setTop (mkF m 16 #[.val (.int p1), .val (.ref w2), .unset] [])) _
    refine XS.aloadN X3.here hx rfl (hb hby at_16) rfl rfl ?_
    show Steps p.tables e below (T3.setTop (mkF m 17 #[.val (.int p1), .val (.ref w2), .unset] [(.ref w2)])) _
    refine st9.trans ?_
    show Steps p.tables e below (T9.setTop (mkF m 20 #[.val (.int p1), .val (.ref w2), .unset] [(.ref w10)])) _
    refine XS.astoreN X9.here hx rfl (hb hby at_20) rfl rfl (l' := #[.val (.int p1), .val (.ref w2), .val (.ref w10)]) rfl ?_
    show Steps p.tables e below (T9.setTop (mkF m 21 #[.val (.int p1), .val (.ref w2), .val (.ref w10)] [])) _
    refine XS.aloadN X9.here hx rfl (hb hby at_21) rfl rfl ?_
    show Steps p.tables e below (T9.setTop (mkF m 22 #[.val (.int p1), .val (.ref w2), .val (.ref w10)] [(.ref w10)])) _
    refine XS.ifnonnullYes X9.here hx rfl (pc0 := 22) (pc' := 27) rfl (hb hby at_22) rfl (by decide) (by decide) ?_
    show Steps p.tables e below (T9.setTop (mkF m 27 #[.val (.int p1), .val (.ref w2), .val (.ref w10)] [])) _
    refine XS.aloadN X9.here hx rfl (hb hby at_27) rfl rfl ?_
    show Steps p.tables e below (T9.setTop (mkF m 28 #[.val (.int p1), .val (.ref w2), .val (.ref w10)] [(.ref w10)])) _
    refine XS.aloadN X9.here hx rfl (hb hby at_28) rfl rfl ?_
    show Steps p.tables e below (T9.setTop (mkF m 29 #[.val (.int p1), .val (.ref w2), .val (.ref w10)] [(.ref w2), (.ref w10)])) _
    refine Jvm.RoadKit.acmp (g := (mkF m 29 #[.val (.int p1), .val (.ref w2), .val (.ref w10)] [(.ref w2), (.ref w10)])) X9 hx rfl rfl rfl (pc0 := 29) (pc' := 32) (same := false) rfl (hb hby at_29) rfl (decide_eq_false fun q => H4 (Value.ref.inj q)) (by decide) (by decide) ?_
    show Steps p.tables e below (T9.setTop (mkF m 32 #[.val (.int p1), .val (.ref w2), .val (.ref w10)] [])) _
    refine XS.aloadN X9.here hx rfl (hb hby at_32) rfl rfl ?_
    show Steps p.tables e below (T9.setTop (mkF m 33 #[.val (.int p1), .val (.ref w2), .val (.ref w10)] [(.ref w10)])) _
    refine st15.trans ?_
    show Steps p.tables e below (T15.setTop (mkF m 36 #[.val (.int p1), .val (.ref w2), .val (.ref w10)] [(.ref w2)])) _
    refine XS.aloadN X15.here hx rfl (hb hby at_36) rfl rfl ?_
    show Steps p.tables e below (T15.setTop (mkF m 37 #[.val (.int p1), .val (.ref w2), .val (.ref w10)] [(.ref w2), (.ref w2)])) _
    refine Jvm.RoadKit.acmp (g := (mkF m 37 #[.val (.int p1), .val (.ref w2), .val (.ref w10)] [(.ref w2), (.ref w2)])) X15 hx rfl rfl rfl (pc0 := 37) (pc' := 40) (same := true) rfl (hb hby at_37) rfl (decide_eq_true rfl) (by decide) (by decide) ?_
    show Steps p.tables e below (T15.setTop (mkF m 40 #[.val (.int p1), .val (.ref w2), .val (.ref w10)] [])) _
    refine XS.iconst X15.here hx rfl (hb hby at_40) ?_
    show Steps p.tables e below (T15.setTop (mkF m 41 #[.val (.int p1), .val (.ref w2), .val (.ref w10)] [(.int (1 : Int32))])) _
    refine XS.goto X15.here hx rfl (pc0 := 41) (pc' := 45) rfl (hb hby at_41) (by decide) (by decide) ?_
    show Steps p.tables e below (T15.setTop (mkF m 45 #[.val (.int p1), .val (.ref w2), .val (.ref w10)] [(.int (1 : Int32))])) _
    exact retN X15 hx (t := .boolean) Bd.returns (by simp) (hb hby at_45) hr
  · show OQl (some (.int (1 : Int32))) n0 _ T15.heap _
    exact ⟨rfl, N15⟩
set_option maxRecDepth 65536 in
set_option maxHeartbeats 40000000 in
theorem r0_2 (l : Launch) (Z : State) (a0 : Array Value) (hw : ∀ d ∈ tables_1, d.before a0 Z = true) (p16 : Int32) (w17 : Addr) (w24 : Addr) (h0 : Heap) (n0 : Nat) (Z0 : n0 ≤ h0.size) (H0 : ¬ ((p16 &&& (1 : Int32)) = (0 : Int32))) (H1 : Sta Z h0 "com/example/cordon/cordon/model/Effect" "DENY" "Lcom/example/cordon/cordon/model/Effect;" (.ref w17)) (H2 : Sta Z h0 "com/example/cordon/cordon/model/Effect" "PERMIT" "Lcom/example/cordon/cordon/model/Effect;" (.ref w24)) (H3 : w17 ≠ w24) (H4 : Exa Z h0 w17 "com/example/cordon/cordon/model/Effect") (H5 : w24 ≠ w17) (H6 : Exa Z h0 w24 "com/example/cordon/cordon/model/Effect") :
    OMet l Z x code maxLocals ret tables_1 room_1 h0 #[(.int p16)] (OQl (some (.int (1 : Int32))) n0) := by
  refine MetFree.of_bodySF (plainFor_of_name pn_com_example_cordon_cordon_model_EffectOtherPinLaw) hisR ?_
  intro p e s m args below meth c s₁ Bd hml0 hP hK
  obtain ⟨rfl, hZ, hh⟩ := hP
  have hx := Bd.exec
  have hby := Bd.bytes
  have hml : c.maxLocals = 3 := hml0
  have hown : s.vm.findClass "com/example/cordon/cordon/model/EffectOtherPinLaw" = some m.cls := findClass_of_methodNamed Bd.named
  have hnm := (name_of_methodNamed Bd.named Bd.method).1
  have X0 : Stand p l e room_1 s m #[(.int p16)] below meth c s₁ [] 0 0 := Stand.of_body Bd
  have e0 : s₁.heap = h0 := by rw [← hh, Bd.state]; rfl
  have N0 := Fr.nil n0
  have pre0 : ∀ t, Steps p.tables e below (s₁.setTop (mkF m 0 #[.val (.int p16), .unset, .unset] [])) t → Steps p.tables e below (s₁.setTop (entryFrame m #[(.int p16)] maxLocals)) t := fun t k => castTop (ef_0_v m p16) k
  obtain ⟨T18, X18, e18, st18⟩ := getS2 X0 hx hZ hown (host := "") (Or.inl (hw _ (List.mem_of_getElem? (i := 11) rfl))) Via.refl e0 H1 (g := (mkF m 12 #[.val (.int p16), .unset, .unset] [])) rfl (hb hby at_12)
  obtain ⟨cq23, kq23, q23a, q23b, q23c⟩ := isOf hZ e18 H4
  obtain ⟨_, _, ⟨T23, L23, k23, n23⟩, -, X23, ⟨Lc23, hQ23, l23, y23, z23⟩, st23⟩ := X18.virtualBack hx (y := (⟨"com/example/cordon/cordon/model/Effect", "other", "()Lcom/example/cordon/cordon/model/Effect;"⟩ : MethodName)) (z := (⟨"com/example/cordon/cordon/model/Effect", "other", "()Lcom/example/cordon/cordon/model/Effect;"⟩ : MethodName)) hown (mvT hZ (hw _ (List.mem_of_getElem? (i := 3) rfl))) (mvT hZ (hw _ (List.mem_of_getElem? (i := 4) rfl))) (notFace_of_selects (args := #[]) (mvT hZ (hw _ (List.mem_of_getElem? (i := 6) rfl)))) (mvT hZ (hw _ (List.mem_of_getElem? (i := 6) rfl))) (mvT hZ (hw _ (List.mem_of_getElem? (i := 5) rfl))) (by decide) (backOf (W := 0) (r1_2 l Z a0 hw w17 w24 h0 n0 Z0 H2 H3) hZ (hw _ (List.mem_of_getElem? (i := 7) rfl)) (hw _ (List.mem_of_getElem? (i := 1) rfl)) (by decide) (by decide)) q23a q23c (g := (mkF m 17 #[.val (.int p16), .val (.ref w17), .unset] [(.ref w17)])) rfl (by rw [hml]; rfl) (Steps.refl _) (argsL := []) (rest := []) (lenOf pd_0 rfl) rfl (by show 2 * 0 + _ ≤ _; exact Nat.le_of_eq rfl) (hb hby at_17) (fun _ _ => ⟨rfl, e18, (by decide : 0 + 0 ≤ _), (by decide : 0 + 0 ≤ _)⟩)
  dsimp only [Pt.U, Pt.locs, Pt.cells, Pt.slots] at X23 l23 y23 z23 st23 hQ23
  subst l23 y23 z23
  obtain ⟨rfl, N23q, e23⟩ := hQ23
  have N23 := Fr.app N0 N23q
  obtain ⟨cq30, kq30, q30a, q30b, q30c⟩ := isOf hZ e23 H6
  obtain ⟨_, _, ⟨T30, L30, k30, n30⟩, -, X30, ⟨Lc30, hQ30, l30, y30, z30⟩, st30⟩ := X23.virtualBack hx (y := (⟨"com/example/cordon/cordon/model/Effect", "other", "()Lcom/example/cordon/cordon/model/Effect;"⟩ : MethodName)) (z := (⟨"com/example/cordon/cordon/model/Effect", "other", "()Lcom/example/cordon/cordon/model/Effect;"⟩ : MethodName)) hown (mvT hZ (hw _ (List.mem_of_getElem? (i := 3) rfl))) (mvT hZ (hw _ (List.mem_of_getElem? (i := 4) rfl))) (notFace_of_selects (args := #[]) (mvT hZ (hw _ (List.mem_of_getElem? (i := 6) rfl)))) (mvT hZ (hw _ (List.mem_of_getElem? (i := 6) rfl))) (mvT hZ (hw _ (List.mem_of_getElem? (i := 5) rfl))) (by decide) (backOf (W := 0) (r1_1 l Z a0 hw w24 w24 w17 h0 n0 Z0 H2 rfl H1) hZ (hw _ (List.mem_of_getElem? (i := 7) rfl)) (hw _ (List.mem_of_getElem? (i := 1) rfl)) (by decide) (by decide)) q30a q30c (g := (mkF m 33 #[.val (.int p16), .val (.ref w17), .val (.ref w24)] [(.ref w24)])) rfl (by rw [hml]; rfl) (Steps.refl _) (argsL := []) (rest := []) (lenOf pd_0 rfl) rfl (by show 2 * 0 + _ ≤ _; exact Nat.le_of_eq rfl) (hb hby at_33) (fun _ _ => ⟨rfl, e23, (by decide : 0 + 0 ≤ _), (by decide : 0 + 0 ≤ _)⟩)
  dsimp only [Pt.U, Pt.locs, Pt.cells, Pt.slots] at X30 l30 y30 z30 st30 hQ30
  subst l30 y30 z30
  obtain ⟨rfl, N30q, e30⟩ := hQ30
  have N30 := Fr.app N23 N30q
  obtain ⟨fs, hr, hrun, hended, hW, hsame⟩ := X30.leave (v := some (.int (1 : Int32))) (fun h => by rw [Bd.returns] at h; cases h)
  refine ⟨_, _, pre0 _ ?_, hrun, hended, _, _, rfl, ?_, ⟨_, rfl⟩, hW, hsame.mono (by decide) (by decide)⟩
  · show Steps p.tables e below (s₁.setTop (mkF m 0 #[.val (.int p16), .unset, .unset] [])) _
    refine XS.iloadN X0.here hx rfl (hb hby at_0) rfl ?_
    show Steps p.tables e below (s₁.setTop (mkF m 1 #[.val (.int p16), .unset, .unset] [(.int p16)])) _
    refine XS.iconst X0.here hx rfl (hb hby at_1) ?_
    show Steps p.tables e below (s₁.setTop (mkF m 2 #[.val (.int p16), .unset, .unset] [(.int (1 : Int32)), (.int p16)])) _
    refine XS.iand X0.here hx rfl (hb hby at_2) rfl ?_
    show Steps p.tables e below (s₁.setTop (mkF m 3 #[.val (.int p16), .unset, .unset] [(.int (p16 &&& (1 : Int32)))])) _
    refine XS.ifYes X0.here hx rfl (pc0 := 3) (pc' := 12) rfl (hb hby at_3) rfl ((if0 _ _).trans (feq H0).2) (by decide) (by decide) ?_
    show Steps p.tables e below (s₁.setTop (mkF m 12 #[.val (.int p16), .unset, .unset] [])) _
    refine st18 _ ?_
    show Steps p.tables e below (T18.setTop (mkF m 15 #[.val (.int p16), .unset, .unset] [(.ref w17)])) _
    refine XS.astoreN X18.here hx rfl (hb hby at_15) rfl rfl (l' := #[.val (.int p16), .val (.ref w17), .unset]) rfl ?_
    show Steps p.tables e below (T18.setTop (mkF m 16 #[.val (.int p16), .val (.ref w17), .unset] [])) _
    refine XS.aloadN X18.here hx rfl (hb hby at_16) rfl rfl ?_
    show Steps p.tables e below (T18.setTop (mkF m 17 #[.val (.int p16), .val (.ref w17), .unset] [(.ref w17)])) _
    refine st23.trans ?_
    show Steps p.tables e below (T23.setTop (mkF m 20 #[.val (.int p16), .val (.ref w17), .unset] [(.ref w24)])) _
    refine XS.astoreN X23.here hx rfl (hb hby at_20) rfl rfl (l' := #[.val (.int p16), .val (.ref w17), .val (.ref w24)]) rfl ?_
    show Steps p.tables e below (T23.setTop (mkF m 21 #[.val (.int p16), .val (.ref w17), .val (.ref w24)] [])) _
    refine XS.aloadN X23.here hx rfl (hb hby at_21) rfl rfl ?_
    show Steps p.tables e below (T23.setTop (mkF m 22 #[.val (.int p16), .val (.ref w17), .val (.ref w24)] [(.ref w24)])) _
    refine XS.ifnonnullYes X23.here hx rfl (pc0 := 22) (pc' := 27) rfl (hb hby at_22) rfl (by decide) (by decide) ?_
    show Steps p.tables e below (T23.setTop (mkF m 27 #[.val (.int p16), .val (.ref w17), .val (.ref w24)] [])) _
    refine XS.aloadN X23.here hx rfl (hb hby at_27) rfl rfl ?_
    show Steps p.tables e below (T23.setTop (mkF m 28 #[.val (.int p16), .val (.ref w17), .val (.ref w24)] [(.ref w24)])) _
    refine XS.aloadN X23.here hx rfl (hb hby at_28) rfl rfl ?_
    show Steps p.tables e below (T23.setTop (mkF m 29 #[.val (.int p16), .val (.ref w17), .val (.ref w24)] [(.ref w17), (.ref w24)])) _
    refine Jvm.RoadKit.acmp (g := (mkF m 29 #[.val (.int p16), .val (.ref w17), .val (.ref w24)] [(.ref w17), (.ref w24)])) X23 hx rfl rfl rfl (pc0 := 29) (pc' := 32) (same := false) rfl (hb hby at_29) rfl (decide_eq_false fun q => H5 (Value.ref.inj q)) (by decide) (by decide) ?_
    show Steps p.tables e below (T23.setTop (mkF m 32 #[.val (.int p16), .val (.ref w17), .val (.ref w24)] [])) _
    refine XS.aloadN X23.here hx rfl (hb hby at_32) rfl rfl ?_
    show Steps p.tables e below (T23.setTop (mkF m 33 #[.val (.int p16), .val (.ref w17), .val (.ref w24)] [(.ref w24)])) _
    refine st30.trans ?_
    show Steps p.tables e below (T30.setTop (mkF m 36 #[.val (.int p16), .val (.ref w17), .val (.ref w24)] [(.ref w17)])) _
    refine XS.aloadN X30.here hx rfl (hb hby at_36) rfl rfl ?_
    show Steps p.tables e below (T30.setTop (mkF m 37 #[.val (.int p16), .val (.ref w17), .val (.ref w24)] [(.ref w17), (.ref w17)])) _
    refine Jvm.RoadKit.acmp (g := (mkF m 37 #[.val (.int p16), .val (.ref w17), .val (.ref w24)] [(.ref w17), (.ref w17)])) X30 hx rfl rfl rfl (pc0 := 37) (pc' := 40) (same := true) rfl (hb hby at_37) rfl (decide_eq_true rfl) (by decide) (by decide) ?_
    show Steps p.tables e below (T30.setTop (mkF m 40 #[.val (.int p16), .val (.ref w17), .val (.ref w24)] [])) _
    refine XS.iconst X30.here hx rfl (hb hby at_40) ?_
    show Steps p.tables e below (T30.setTop (mkF m 41 #[.val (.int p16), .val (.ref w17), .val (.ref w24)] [(.int (1 : Int32))])) _
    refine XS.goto X30.here hx rfl (pc0 := 41) (pc' := 45) rfl (hb hby at_41) (by decide) (by decide) ?_
    show Steps p.tables e below (T30.setTop (mkF m 45 #[.val (.int p16), .val (.ref w17), .val (.ref w24)] [(.int (1 : Int32))])) _
    exact retN X30 hx (t := .boolean) Bd.returns (by simp) (hb hby at_45) hr
  · show OQl (some (.int (1 : Int32))) n0 _ T30.heap _
    exact ⟨rfl, N30⟩
set_option maxRecDepth 65536 in
set_option maxHeartbeats 40000000 in
theorem comes_1 {Post : Tables → Env → Array Value → State → Outcome → State → Prop} (hpost : ∀ tb e args s v u, (limb_1_1.after args s (.returned v) u = true ∧ limb_1_2.after args s (.returned v) u = true ∧ True) → FrameEnd s (.returned v) u (Jvm.fieldLocs frame_1_writes args s ++ Jvm.arrayLocs frame_1_arrays args s ++ Jvm.staticLocs frame_1_statics s) 0 0 → Post tb e args s (.returned v) u) :
    ArmFor flags0 classFile x code maxLocals ret World_1 tables_1 room_1 Calls_1 rest_1 Pre_1 Post := by
  intro l hfl _ _ p e ha hc hk s m args below hf hA hF happ hP
  obtain ⟨hcalls, hrest, hpre⟩ := hP
  obtain ⟨-, -, -, hnamed, -, -, -, hat⟩ := (Spec.applies_iff hf).mp happ
  obtain ⟨hg, hn⟩ := and_e (Cond.before_iff.mp (show (Jvm.Cond.and given_1 narrow_1).before args s = true from hpre))
  obtain ⟨gg0, gr0⟩ := and_e hg
  obtain ⟨w0, rfl⟩ : ∃ w0 : Value, args = #[w0] := by
    have hs : args.size = 1 := by simpa [Cond.value, given_1] using gg0
    obtain ⟨L⟩ := args
    match L, hs with
    | [w0], _ => exact ⟨w0, rfl⟩
  have hw := fun d (hd : d ∈ tables_1) => atoms_spec (ws := Jvm.Cond.code x code maxLocals ret :: tables_1) hat d (List.mem_cons_of_mem _ hd)
  have hfit : Fit s := fun {y c} hc i hi => by
    obtain ⟨ha, rfl⟩ := Array.getElem?_eq_some_iff.mp hc
    have q := List.all_eq_true.mp ((Array.all_eq_true_iff_forall_mem.mp hF) _ (Array.getElem_mem ha)) i (List.mem_range.mpr hi)
    simpa [Array.getElem?_eq_getElem hi] using q
  obtain ⟨i0, ei0⟩ := is_v gr0
  obtain rfl : w0 = (.int i0) := Option.some.inj ei0
  obtain ⟨hn1, hn2⟩ := and_e hn
  obtain ⟨hn3, hn4⟩ := and_e hn2
  obtain ⟨hn5, hn6⟩ := and_e hn4
  obtain ⟨w_c7, ev_c7⟩ := exa_v hn1
  have E_c7 := Exa.start ev_c7 hn1
  have S_c7 := Sta.start ev_c7 (Or.inr ⟨(hw _ (List.mem_of_getElem? (i := 1) rfl)), (hw _ (List.mem_of_getElem? (i := 2) rfl))⟩)
  obtain ⟨w_c8, ev_c8⟩ := exa_v hn3
  have E_c8 := Exa.start ev_c8 hn3
  have S_c8 := Sta.start ev_c8 (Or.inr ⟨(hw _ (List.mem_of_getElem? (i := 1) rfl)), (hw _ (List.mem_of_getElem? (i := 10) rfl))⟩)
  have F9 := own_fi ev_c8 hn5
  have F10 := own_fi ev_c7 hn6
  suffices M : OMet l s x code maxLocals ret tables_1 room_1 s.heap #[(.int i0)] (OQl (some (.int (1 : Int32))) s.heap.size) by
    obtain ⟨n, o, h1, h2, h3, _, L, rfl, ⟨rfl, N⟩, hq⟩ := M p e ha hc hk s m _ below hf ((Spec.applies_iff_loose hf).mp happ).1 ⟨rfl, State.Warmed39.refl s, rfl⟩ trivial
    exact ⟨n, _, h1, h2, h3, hpost _ _ _ _ _ _ ⟨Cond.after_iff.mpr rfl, Cond.after_iff.mpr (eq_i res_at (Term.int_eval (1)) rfl), trivial⟩ ⟨hq.1, hq.2.1, (hq.2.2.sift fun y hy => Or.inr (N y hy)).mono (by decide) (by decide)⟩⟩
  rcases own_b1 i0 with hq | hq
  · exact r0_1 l s _ hw i0 w_c7 w_c8 s.heap s.heap.size (Nat.le_refl _) (by rw [hq] <;> decide) S_c7 S_c8 E_c7 (Fld.ne F9 F10 (by decide)) E_c8
  · exact r0_2 l s _ hw i0 w_c8 w_c7 s.heap s.heap.size (Nat.le_refl _) (by rw [hq] <;> decide) S_c8 S_c7 (Fld.ne F9 F10 (by decide)) E_c8 (Fld.ne F10 F9 (by decide)) E_c7
theorem main_1_1 : Claimed_1_1 := comes_1 fun _ _ _ _ _ _ h hF => ⟨h.1, hF⟩
theorem main_1_2 : Claimed_1_2 := comes_1 fun _ _ _ _ _ _ h hF => ⟨h.2.1, hF⟩
end Jvm.Pilot.@@N@@
namespace Jvm.Pilot.@@N@@
open Jvm Jvm.ClassFile Sem Op Lib Jvm.Free Jvm.Stand Jvm.Pilot.@@N@@.Jvm.D
/-! MADE BY PROGRAM (witnessworld.py) out of the Statement's table words and the real class files: 12 classes; the members and pool entries that the words name. The judged class is class 1, her method 1. -/
namespace start1
open Jvm.ClassFile
def u (s : String) : CpInfo := .utf8 (stringToUtf16 s)
/-- a pool by its gaps: so many unusable entries, then the entry; so many at the end -/
def gap : Nat → List CpInfo → List CpInfo
  | 0, r => r
  | n + 1, r => .unusable :: gap n r
def poolList (es : List (Nat × CpInfo)) (last : Nat) : List CpInfo := es.foldr (fun e r => gap e.1 (e.2 :: r)) (gap last [])
def pool (es : List (Nat × CpInfo)) (last : Nat) : Array CpInfo := ⟨poolList es last⟩
def fileOf (pool : Array CpInfo) (this : Nat) (attrs : Array Attribute := #[]) (ms : Array MethodInfo := #[]) (fl : Nat := 33) (sup : Nat := 0) (ifs : Array Nat := #[]) (fds : Array FieldInfo := #[]) : ClassFile where
  minorVersion := 0
  majorVersion := 65
  constantPool := pool
  accessFlags := fl
  thisClass := this
  superClass := sup
  interfaces := ifs
  fields := fds
  methods := ms
  attributes := attrs
def plain (name : String) (sup : Option ClassId) : Class where
  name := name
  kind := .ordinary
  loader := none
  accessFlags := 33
  super := sup
  interfaces := #[]
  cf := none
  fields := #[]
  methods := #[]
  instanceTypes := #[]
  staticTypes := #[]
  resolved := #[]
  callSites := []
  init := .initialized
  statics := none
  mirror := none

def pool0 : Array CpInfo := pool [(5, u "<init>"), (0, u "()V"), (1, .class_ 10), (1, u "java/lang/Object")] 113

def k0m0 : Method := { name := "<init>", desc := "()V", sig := { parameters := [], returnType := none }, accessFlags := 1, code := none }
/-- java/lang/Object -/
def k0 : Class := { plain "java/lang/Object" none with
  accessFlags := 33
  interfaces := #[]
  cf := some (fileOf pool0 8 #[] #[{ accessFlags := 1, nameIndex := 5, descriptorIndex := 6, attributes := #[] }] 33 0 #[] #[])
  fields := #[]
  methods := #[k0m0]
  instanceTypes := #[]
  staticTypes := #[]
  resolved := Array.replicate 124 none
  statics := none }

def pool1 : Array CpInfo := pool [(2, .class_ 4), (1, u "java/lang/Object"), (0, u "<init>"), (0, u "()V"), (0, .fieldref 8 9), (0, .class_ 10), (0, .nameAndType 11 12), (0, u "com/example/cordon/cordon/model/Effect"), (0, u "PERMIT"), (0, u "Lcom/example/cordon/cordon/model/Effect;"), (0, .fieldref 8 14), (0, .nameAndType 15 12), (0, u "DENY"), (0, .methodref 8 17), (0, .nameAndType 18 19), (0, u "other"), (0, u "()Lcom/example/cordon/cordon/model/Effect;"), (0, .class_ 21), (0, u "com/example/cordon/cordon/model/EffectOtherPinLaw"), (2, u "law"), (0, u "(I)Z")] 3

def k1m0 : Method := { name := "<init>", desc := "()V", sig := { parameters := [], returnType := none }, accessFlags := 1, code := none }
def k1c1 : Code := { maxStack := 2, maxLocals := 3, code := code, exceptionTable := #[], attributes := #[] }
def k1m1 : Method := { name := "law", desc := "(I)Z", sig := { parameters := [.int], returnType := some .boolean }, accessFlags := 9, code := some k1c1 }
/-- com/example/cordon/cordon/model/EffectOtherPinLaw -/
def k1 : Class := { plain "com/example/cordon/cordon/model/EffectOtherPinLaw" (some 0) with
  accessFlags := 49
  interfaces := #[]
  cf := some (fileOf pool1 20 #[] #[{ accessFlags := 1, nameIndex := 5, descriptorIndex := 6, attributes := #[] }, { accessFlags := 9, nameIndex := 24, descriptorIndex := 25, attributes := #[] }] 49 2 #[] #[])
  fields := #[]
  methods := #[k1m0, k1m1]
  instanceTypes := #[]
  staticTypes := #[]
  resolved := Array.replicate 29 none
  statics := none }

def pool2 : Array CpInfo := pool [(1, .class_ 2), (0, u "java/lang/constant/Constable"), (0, .class_ 4), (0, u "java/lang/Object")] 6

/-- java/lang/constant/Constable -/
def k2 : Class := { plain "java/lang/constant/Constable" (some 0) with
  accessFlags := 1537
  interfaces := #[]
  cf := some (fileOf pool2 1 #[] #[] 1537 3 #[] #[])
  fields := #[]
  methods := #[]
  instanceTypes := #[]
  staticTypes := #[]
  resolved := Array.replicate 11 none
  statics := none }

def pool3 : Array CpInfo := pool [(1, .class_ 2), (0, u "java/lang/Comparable"), (0, .class_ 4), (0, u "java/lang/Object")] 7

/-- java/lang/Comparable -/
def k3 : Class := { plain "java/lang/Comparable" (some 0) with
  accessFlags := 1537
  interfaces := #[]
  cf := some (fileOf pool3 1 #[] #[] 1537 3 #[] #[])
  fields := #[]
  methods := #[]
  instanceTypes := #[]
  staticTypes := #[]
  resolved := Array.replicate 12 none
  statics := none }

def pool4 : Array CpInfo := pool [(1, .class_ 2), (0, u "java/io/Serializable"), (0, .class_ 4), (0, u "java/lang/Object")] 2

/-- java/io/Serializable -/
def k4 : Class := { plain "java/io/Serializable" (some 0) with
  accessFlags := 1537
  interfaces := #[]
  cf := some (fileOf pool4 1 #[] #[] 1537 3 #[] #[])
  fields := #[]
  methods := #[]
  instanceTypes := #[]
  staticTypes := #[]
  resolved := Array.replicate 7 none
  statics := none }

def pool5 : Array CpInfo := pool [(2, .class_ 4), (1, u "java/lang/Enum"), (0, u "name"), (0, u "Ljava/lang/String;"), (2, u "ordinal"), (0, u "I"), (1, .class_ 14), (1, u "java/lang/Object"), (4, u "hash"), (86, .class_ 108), (1, u "java/lang/Enum$EnumDesc"), (2, .class_ 112), (0, u "java/lang/constant/Constable"), (0, .class_ 114), (0, u "java/lang/Comparable"), (0, .class_ 116), (0, u "java/io/Serializable")] 87

/-- java/lang/Enum -/
def k5 : Class := { plain "java/lang/Enum" (some 0) with
  accessFlags := 1057
  interfaces := #[2, 3, 4]
  cf := some (fileOf pool5 2 #[.nestMembers #[106]] #[] 1057 12 #[111, 113, 115] #[{ accessFlags := 18, nameIndex := 5, descriptorIndex := 6, attributes := #[] }, { accessFlags := 18, nameIndex := 9, descriptorIndex := 10, attributes := #[] }, { accessFlags := 2, nameIndex := 19, descriptorIndex := 10, attributes := #[] }])
  fields := #[{ name := "name", type := (.object "java/lang/String"), accessFlags := 18, slot := 0, constantValue := 0 }, { name := "ordinal", type := .int, accessFlags := 18, slot := 1, constantValue := 0 }, { name := "hash", type := .int, accessFlags := 2, slot := 2, constantValue := 0 }]
  methods := #[]
  instanceTypes := #[(.object "java/lang/String"), .int, .int]
  staticTypes := #[]
  resolved := Array.replicate 204 none
  statics := none }

def pool6 : Array CpInfo := pool [(1, .class_ 2), (0, u "com/example/cordon/cordon/model/Effect"), (0, .fieldref 1 4), (0, .nameAndType 5 6), (0, u "PERMIT"), (0, u "Lcom/example/cordon/cordon/model/Effect;"), (0, .fieldref 1 8), (0, .nameAndType 9 6), (0, u "DENY"), (2, u "$VALUES"), (0, u "[Lcom/example/cordon/cordon/model/Effect;"), (6, .class_ 22), (1, u "java/lang/Enum"), (8, u "xacmlName"), (0, u "Ljava/lang/String;"), (2, u "decision"), (0, u "Lcom/example/cordon/cordon/model/Decision;"), (2, u "indeterminate"), (38, u "other"), (0, u "()Lcom/example/cordon/cordon/model/Effect;")] 6

def k6c0 : Code := { maxStack := 2, maxLocals := 1, code := prog_28_method_6_code, exceptionTable := #[], attributes := #[] }
def k6m0 : Method := { name := "other", desc := "()Lcom/example/cordon/cordon/model/Effect;", sig := { parameters := [], returnType := some (.object "com/example/cordon/cordon/model/Effect") }, accessFlags := 0, code := some k6c0 }
/-- com/example/cordon/cordon/model/Effect -/
def k6 : Class := { plain "com/example/cordon/cordon/model/Effect" (some 5) with
  accessFlags := 16433
  interfaces := #[]
  cf := some (fileOf pool6 1 #[] #[{ accessFlags := 0, nameIndex := 78, descriptorIndex := 79, attributes := #[] }] 16433 20 #[] #[{ accessFlags := 16409, nameIndex := 5, descriptorIndex := 6, attributes := #[] }, { accessFlags := 16409, nameIndex := 9, descriptorIndex := 6, attributes := #[] }, { accessFlags := 18, nameIndex := 31, descriptorIndex := 32, attributes := #[] }, { accessFlags := 18, nameIndex := 35, descriptorIndex := 36, attributes := #[] }, { accessFlags := 18, nameIndex := 39, descriptorIndex := 36, attributes := #[] }, { accessFlags := 4122, nameIndex := 12, descriptorIndex := 13, attributes := #[] }])
  fields := #[{ name := "PERMIT", type := (.object "com/example/cordon/cordon/model/Effect"), accessFlags := 16409, slot := 0, constantValue := 0 }, { name := "DENY", type := (.object "com/example/cordon/cordon/model/Effect"), accessFlags := 16409, slot := 1, constantValue := 0 }, { name := "xacmlName", type := (.object "java/lang/String"), accessFlags := 18, slot := 3, constantValue := 0 }, { name := "decision", type := (.object "com/example/cordon/cordon/model/Decision"), accessFlags := 18, slot := 4, constantValue := 0 }, { name := "indeterminate", type := (.object "com/example/cordon/cordon/model/Decision"), accessFlags := 18, slot := 5, constantValue := 0 }, { name := "$VALUES", type := (.array (.object "com/example/cordon/cordon/model/Effect")), accessFlags := 4122, slot := 2, constantValue := 0 }]
  methods := #[k6m0]
  instanceTypes := #[(.object "java/lang/String"), .int, .int, (.object "java/lang/String"), (.object "com/example/cordon/cordon/model/Decision"), (.object "com/example/cordon/cordon/model/Decision")]
  staticTypes := #[(.object "com/example/cordon/cordon/model/Effect"), (.object "com/example/cordon/cordon/model/Effect"), (.array (.object "com/example/cordon/cordon/model/Effect"))]
  resolved := Array.replicate 86 none
  statics := some 0 }

def pool7 : Array CpInfo := pool [(1, u "java/lang/Cloneable"), (0, .class_ 1), (0, u "java/lang/Object"), (0, .class_ 3)] 3

/-- java/lang/Cloneable -/
def k7 : Class := { plain "java/lang/Cloneable" (some 0) with
  accessFlags := 1537
  interfaces := #[]
  cf := some (fileOf pool7 2 #[] #[] 1537 4 #[] #[])
  fields := #[]
  methods := #[]
  instanceTypes := #[]
  staticTypes := #[]
  resolved := Array.replicate 8 none
  statics := none }

/-- the primitive byte -/
def k8 : Class := { plain "byte" none with kind := .primitive 'B', accessFlags := 0x411 }
/-- [B -/
def k9 : Class := { plain "[B" (some 0) with kind := .array 8 .byte, interfaces := #[7, 4], accessFlags := 1041 }

/-- the primitive int -/
def k10 : Class := { plain "int" none with kind := .primitive 'I', accessFlags := 0x411 }
/-- [I -/
def k11 : Class := { plain "[I" (some 0) with kind := .array 10 .int, interfaces := #[7, 4], accessFlags := 1041 }

def heap : Heap := #[{ cls := 6, slots := #[.ref 1, .ref 2, .null], vm := .statics 6 },
  { cls := 6, slots := #[.null, .int 0, .int 0, .null, .null, .null], vm := .none },
  { cls := 6, slots := #[.null, .int 1, .int 0, .null, .null, .null], vm := .none }]
def classes : Array Class := #[k0, k1, k2, k3, k4, k5, k6, k7, k8, k9, k10, k11]
def interned : List (Array UInt16 × Addr) := []
def slotsUsed : Nat := 15
def theMethod : MethodId := ⟨1, 1⟩
def args0 : Array Value := #[.int 5]
def aboutOver (below : List Frame) : State where
  vm := { classes := classes, interned := interned.toArray }
  heap := heap
  slotsUsed := slotsUsed
  threads := #[{ frames := .invoking theMethod args0 :: below }]
def below0 : List Frame := [.native { method := ⟨0, 0⟩, args := #[] }]
def about1 : State := aboutOver below0
def p0 : Program := .bare "" "" ""
def e0 : Env := launch0.env 0 0 0
theorem w_frames : about1.frames = Frame.invoking theMethod args0 :: below0 := rfl
set_option maxRecDepth 65536 in
theorem w_args : argsFit about1.vm theMethod args0 = true := by decide +kernel
set_option maxRecDepth 65536 in
theorem w_heap : heapFits about1 = true := by decide +kernel
set_option maxRecDepth 65536 in
theorem w_runnable : about1.curStatus? = some .runnable := by decide +kernel
set_option maxRecDepth 65536 in
theorem w_alone : about1.alone = true := by decide +kernel
set_option maxRecDepth 65536 in
theorem w_named : about1.methodNamed? x = some theMethod := by decide +kernel
set_option maxRecDepth 65536 in
theorem w_hears : about1.hears theMethod below0 = true := by decide +kernel
set_option maxRecDepth 65536 in
theorem w_ripe : about1.ripe theMethod args0 below0 = true := by decide +kernel
theorem w_running : about1.status = .running := rfl
set_option maxRecDepth 65536 in
theorem w_room : about1.hasRoom e0.platform room_1 = true :=
  launch0.hasRoom_least _ room_1 (by decide +kernel) (by decide +kernel) (by decide +kernel) (by decide +kernel) (by decide +kernel) (by decide +kernel)
theorem allAtoms_all (ts : List Jvm.Cond) (a : Array Jvm.Value) (st : Jvm.State) : (allAtoms ts).before a st = ts.all (fun c => c.before a st) := by
  induction ts with
  | nil => rfl
  | cons c t ih =>
    show (Jvm.Cond.and c (allAtoms t)).before a st = _
    rw [Jvm.Cond.before_and, ih, List.all_cons]
def words1 : List Jvm.Cond := Jvm.Cond.code x code maxLocals ret :: tables_1
/-- a 'code' word, met by the world's own term for the bytes: nothing is compared byte by byte -/
theorem code_word {y : MethodName} {bytes : ByteArray} {mx : Nat} {rt : Option FieldType} {a : Array Value} {s : State} {m : MethodId} {meth : Method} {c : Code} (h1 : s.methodNamed? y = some m) (h2 : s.vm.method? m = some meth) (h3 : meth.code = some c) (h4 : c.code = bytes)
    (h5 : (c.maxLocals == mx && c.exceptionTable.isEmpty && decide (c.maxStack ≤ mostOperands) && decide (meth.sig.returnType = rt) && !meth.locks && decide (parseMethodDescriptor y.desc = some meth.sig)) = true) : (Jvm.Cond.code y bytes mx rt).before a s = true := by
  simp only [Bool.and_eq_true, beq_iff_eq, Bool.not_eq_true', decide_eq_true_eq] at h5
  obtain ⟨⟨⟨⟨⟨g1, g2⟩, g3⟩, g4⟩, g5⟩, g6⟩ := h5
  simp [Cond.before, Cond.holds, Cond.value, h1, h2, h3, h4, g1, g2, g3, g4, g5, g6]
def isCode : Jvm.Cond → Bool
  | .code _ _ _ _ => true
  | _ => false
theorem all_split {L : List Jvm.Cond} {P : Jvm.Cond → Bool} (h1 : L.all (fun c => isCode c || P c) = true) (h2 : ∀ c ∈ L.filter isCode, P c = true) : L.all P = true := by
  refine List.all_eq_true.mpr fun c hc => ?_
  have h := List.all_eq_true.mp h1 c hc
  rcases Bool.eq_false_or_eq_true (isCode c) with hi | hi
  · exact h2 c (List.mem_filter.mpr ⟨hc, hi⟩)
  · simpa [hi] using h
set_option maxRecDepth 65536 in
theorem w_c0 : (Jvm.Cond.code x code maxLocals ret).before args0 about1 = true := code_word (m := ⟨1, 1⟩) (meth := k1m1) (c := k1c1) (by decide +kernel) rfl rfl rfl (by decide +kernel)
set_option maxRecDepth 65536 in
theorem w_c1 : (Jvm.Cond.code ({ cls := "com/example/cordon/cordon/model/Effect", name := "other", desc := "()Lcom/example/cordon/cordon/model/Effect;" } : Jvm.MethodName) prog_28_method_6_code (1 : Nat) (Option.some (Jvm.ClassFile.FieldType.object "com/example/cordon/cordon/model/Effect"))).before args0 about1 = true := code_word (m := ⟨6, 0⟩) (meth := k6m0) (c := k6c0) (by decide +kernel) rfl rfl rfl (by decide +kernel)
def codes1 : List Jvm.Cond := [Jvm.Cond.code x code maxLocals ret, Jvm.Cond.code ({ cls := "com/example/cordon/cordon/model/Effect", name := "other", desc := "()Lcom/example/cordon/cordon/model/Effect;" } : Jvm.MethodName) prog_28_method_6_code (1 : Nat) (Option.some (Jvm.ClassFile.FieldType.object "com/example/cordon/cordon/model/Effect"))]
set_option maxRecDepth 65536 in
theorem codes_eq : words1.filter isCode = codes1 := rfl
theorem w_codes : ∀ c ∈ words1.filter isCode, c.before args0 about1 = true := by
  rw [codes_eq]
  intro c hc
  simp only [codes1, List.mem_cons, List.not_mem_nil, or_false] at hc
  rcases hc with rfl | rfl
  · exact w_c0
  · exact w_c1
set_option maxRecDepth 65536 in
theorem w_t1 : words1.all (fun c => isCode c || c.before args0 about1) = true := by decide +kernel
theorem w_tables : (allAtoms (Jvm.Cond.code x code maxLocals ret :: tables_1)).before args0 about1 = true := by
  rw [allAtoms_all]
  show words1.all (fun c => c.before args0 about1) = true
  refine all_split ?_ w_codes
  rw [w_t1]
set_option maxRecDepth 65536 in
theorem w_case : (Jvm.Cond.and given_1 narrow_1).before args0 about1 = true := by decide +kernel
theorem w_applies : (headSpec (Jvm.Cond.code x code maxLocals ret :: tables_1) room_1).applies x e0.platform about1 = true :=
  (Spec.applies_iff w_frames).mpr ⟨w_running, w_runnable, w_alone, w_named, w_hears, w_ripe, w_room, w_tables⟩
theorem atStart : AtStart classFile x code maxLocals ret World_1 tables_1 room_1 Calls_1 rest_1 Pre_1 launch0 p0 e0 about1 theMethod args0 below0 :=
  ⟨lists_1, trivial, launch0.admits_env _ _ _, launch0.least_env, fairChoices_fair.cas, fairChoices_fair.clock, w_frames, w_args, w_heap, w_applies, trivial, trivial, w_case⟩
end start1
theorem witness_1 : WitnessClaimed_1 := ⟨start1.p0, start1.e0, start1.about1, start1.theMethod, start1.args0, start1.below0, start1.atStart⟩
end Jvm.Pilot.@@N@@
