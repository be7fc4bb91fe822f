import JvmDerived
import JvmDerived.Pilot.@@N@@Statement
import JvmDerived.Pilot.@@N@@Code
set_option linter.unusedVariables false
set_option linter.unusedSimpArgs false
namespace Jvm.RoadKit
open Sem ClassFile Op Lib Jvm.Stand Jvm.Free Jvm.LawKit
section New
variable {p : Program} {l : Launch} {e : Env} {R : Room} {s : State} {m : MethodId} {args : Array Value} {below : List Frame} {meth : Method} {c : Code} {T : State} {locs : List Loc} {cells slots : Nat}
theorem retI (X : Stand p l e R s m args below meth c T locs cells slots) (hx : p.tables.exec = Jvm.exec) {pc : Nat} {Ls : Array Slot} {z : Int32} {rest : List Value} (hret : meth.sig.returnType = some .int) (hd : decode c.code pc = .ok (.ireturn, 1)) {fs : List Frame}
    (hl : ∀ (f : JFrame) (acts : List Action), f.method = m → f.locked = none → f.entered = [] → (doReturn e (T.setTop f) acts (some (.int z))).1 = T.setFrames fs) : Steps p.tables e below (T.setTop (mkF m pc Ls (.int z :: rest))) (T.setFrames fs) := by
  have hm' : T.vm.method? m = some meth := X.method'
  have hn : narrow .int (.int z) = .int z := rfl
  show Steps p.tables e below (T.setTop { method := m, pc := pc, locals := Ls, stack := _ :: rest, locked := none }) _
  jvm_step X.here [X.here.top, hx, hd, hm', hret, hn]
  first | (intro acts; rw [hl _ acts rfl rfl rfl]) | rw [hl _ _ rfl rfl rfl]
  exact Steps.refl _
end New
section Own
variable {Z : State} {h0 h h' : Heap} {ws ws' : List (Addr × Nat)} {a : Addr} {sl : Nat} {v : Value} {C n d : String}
/-- own: what a call leaves as it was, by places: every cell is kept in class, kind and size; a place that isn't listed keeps its value -/
def KSx (h h' : Heap) (ws : List (Addr × Nat)) : Prop := h.size ≤ h'.size ∧ ∀ (x : Addr) (c : Cell), h[x]? = some c → ∃ c' : Cell, h'[x]? = some c' ∧ c'.cls = c.cls ∧ c'.vm = c.vm ∧ c'.slots.size = c.slots.size ∧ (∀ j, (∀ p ∈ ws, x ≠ p.1 ∨ j ≠ p.2) → c'.slots[j]? = c.slots[j]?) ∧ ((c.vm.isStatics = true ∨ ∀ p ∈ ws, x ≠ p.1) → c' = c)
theorem ks0 {P : Addr × Nat → Prop} : ∀ p ∈ ([] : List (Addr × Nat)), P p := fun _ q => nomatch q
theorem ksS {P : Addr × Nat → Prop} {y : Addr × Nat} {L : List (Addr × Nat)} (q : P y) (r : ∀ p ∈ L, P p) : ∀ p ∈ y :: L, P p := fun x z => (List.mem_cons.mp z).elim (fun u => u ▸ q) (r x)
theorem KSx.refl (h : Heap) (ws : List (Addr × Nat)) : KSx h h ws := ⟨Nat.le_refl _, fun _ c q => ⟨c, q, rfl, rfl, rfl, fun _ _ => rfl, fun _ => rfl⟩⟩
theorem KSx.ext (K : KSx h0 h ws) (E : Ext h h') : KSx h0 h' ws := ⟨Nat.le_trans K.1 E.1, fun x c q => by obtain ⟨c', q', r⟩ := K.2 x c q; exact ⟨c', E.2 x c' q', r⟩⟩
theorem KSx.trans (K : KSx h0 h ws) (K' : KSx h h' ws') (q : ∀ p ∈ ws', p ∈ ws ∨ h0.size ≤ p.1) : KSx h0 h' ws := by
  refine ⟨Nat.le_trans K.1 K'.1, fun x c hc => ?_⟩
  obtain ⟨c1, a1, a2, a3, a4, a5, a6⟩ := K.2 x c hc
  obtain ⟨c2, b1, b2, b3, b4, b5, b6⟩ := K'.2 x c1 a1
  have hx : x < h0.size := (Array.getElem?_eq_some_iff.mp hc).1
  refine ⟨c2, b1, b2.trans a2, b3.trans a3, b4.trans a4, fun j hj => ?_, fun hs => ?_⟩
  · refine (b5 j fun p hp => ?_).trans (a5 j hj)
    rcases q p hp with w | g
    · exact hj p w
    · exact Or.inl fun e => by subst e; exact absurd hx (Nat.not_lt.mpr g)
  · have e1 : c1 = c := a6 hs
    refine (b6 ?_).trans e1
    rcases hs with w | w
    · exact Or.inl (by rw [e1]; exact w)
    · refine Or.inr fun p hp => ?_
      rcases q p hp with y | g
      · exact w p y
      · exact fun e => by subst e; exact absurd hx (Nat.not_lt.mpr g)
theorem KSx.of_wr (W : Wr h h' a sl v) : KSx h h' [(a, sl)] := by
  refine ⟨Nat.le_of_eq W.size.symm, fun x c hc => ?_⟩
  obtain ⟨c', e1, e2, e3, e4, e5, e6, e7⟩ := wr_at W hc
  refine ⟨c', e1, e2, e3, e4, fun j hj => ?_, fun hs => ?_⟩
  · rcases hj (a, sl) (List.mem_singleton.mpr rfl) with y | y
    · rw [e5 y]
    · exact e6 j y
  · rcases hs with y | y
    · by_cases z : x = a
      · rw [(e7 z).2.2] at y; cases y
      · exact e5 z
    · exact e5 (y (a, sl) (List.mem_singleton.mpr rfl))
theorem KSx.wr (K : KSx h0 h ws) (W : Wr h h' a sl v) (q : (a, sl) ∈ ws ∨ h0.size ≤ a) : KSx h0 h' ws := K.trans (KSx.of_wr W) fun p hp => by cases List.mem_singleton.mp hp; exact q
theorem Fld.ks (F : Fld Z h a C n d v) (K : KSx h h' ws) (q : ∀ p ∈ ws, a ≠ p.1 ∨ slotOf Z C n d ≠ p.2) : Fld Z h' a C n d v := by
  obtain ⟨cell, cf, k, i, f, h1, h2, h3, h4, h5, h6, h7⟩ := F
  obtain ⟨c', e1, e2, e3, -, e5, -⟩ := K.2 _ _ h1
  refine ⟨c', cf, k, i, f, e1, h2, h3, by rw [e3]; exact h4, by rw [e3]; exact h5, by rw [e2]; exact h6, ?_⟩
  refine (e5 _ fun p hp => ?_).trans h7
  simpa [slotOf, h2] using q p hp
theorem Exa.ks (F : Exa Z h a C) (K : KSx h h' ws) : Exa Z h' a C := by
  obtain ⟨cell, k, h1, h2, h3, h4, h5⟩ := F
  obtain ⟨c', e1, e2, e3, e4, -⟩ := K.2 _ _ h1
  exact ⟨c', k, e1, by rw [e2]; exact h2, by rw [e2]; exact h3, by rw [e3]; exact h4, by rw [e4]; exact h5⟩
theorem Sta.ks (F : Sta Z h C n d v) (K : KSx h h' ws) : Sta Z h' C n d v := by
  obtain ⟨cf, i, k, f, st, cell, h1, h2, h3, h4, h5, h6, h7⟩ := F
  obtain ⟨c', e1, -, -, -, -, e6⟩ := K.2 _ _ h5
  exact ⟨cf, i, k, f, st, cell, h1, h2, h3, h4, (e6 (Or.inl h6)) ▸ e1, h6, h7⟩
theorem Arr.ks {c : Cell} {ty : FieldType} (F : Arr Z h a c ty) (K : KSx h h' ws) (q : ∀ p ∈ ws, a ≠ p.1) : Arr Z h' a c ty := by
  obtain ⟨c', e1, -, -, -, -, e6⟩ := K.2 _ _ F.1
  exact ⟨(e6 (Or.inr q)) ▸ e1, F.2⟩
theorem Arv.ks {k : ClassId} {ty : FieldType} {z : Int32} {vs : List Value} {dv : Value} (F : Arv Z h a k ty z vs dv) (K : KSx h h' ws) (q : ∀ p ∈ ws, a ≠ p.1) : Arv Z h' a k ty z vs dv := by obtain ⟨c, A, r⟩ := F; exact ⟨c, A.ks K q, r⟩
theorem own_fi {args : Array Value} {s : State} {t : Term} {k : Int32} (ht : t.eval args s none [] s = some (.ref a)) (hq : (Cond.eq (.field t C n d) (.int k)).value args s none s [] = some true) : Fld s s.heap a C n d (.int k) := by
  have e2 : (Term.int k).eval args s none [] s = some (.int k) := Term.int_eval k
  obtain ⟨x, y, e1, e3, -, k2⟩ := cmp_v (Or.inl hq)
  cases e2.symm.trans e3
  obtain ⟨z, rfl⟩ := k2
  have q : z = k := by simpa [Cond.value, e1, e2] using hq
  subst q
  exact Fld.start (by rw [← fld_at ht]; exact e1)
theorem own_fr {args : Array Value} {s : State} {t u : Term} {b : Addr} (ht : t.eval args s none [] s = some (.ref a)) (hu : u.eval args s none [] s = some (.ref b)) (hq : (Cond.eq (.field t C n d) u).value args s none s [] = some true) : Fld s s.heap a C n d (.ref b) := by
  obtain ⟨x, y, e1, e3, k1, k2⟩ := cmp_v (Or.inl hq)
  cases hu.symm.trans e3
  have hr : x.isRef = true := k2.2
  have q : x = .ref b := gotT (eq_R e1 hu hr rfl) hq
  subst q
  exact Fld.start (by rw [← fld_at ht]; exact e1)
theorem own_len {args : Array Value} {s : State} {t : Term} {k : Int32} {cl : Cell} {ty : FieldType} (ht : t.eval args s none [] s = some (.ref a)) (A : Arr s s.heap a cl ty) (hq : (Cond.eq (.length t) (.int k)).value args s none s [] = some true) : cl.slots.size < 2 ^ 31 ∧ cl.slots.size.toInt32 = k := by
  have e2 : (Term.int k).eval args s none [] s = some (.int k) := Term.int_eval k
  have ha : s.arrayAt? a = some cl := A.fin (Vm.Alike.refl _)
  obtain ⟨x, y, e1, e3, -, k2⟩ := cmp_v (Or.inl hq)
  cases e2.symm.trans e3
  obtain ⟨z, rfl⟩ := k2
  have q : z = k := by simpa [Cond.value, e1, e2] using hq
  subst q
  by_cases hl : cl.slots.size < 2 ^ 31
  · rw [len_f ht ha hl] at e1
    cases e1; exact ⟨hl, rfl⟩
  · simp [Term.eval, ht, ha, hl] at e1
theorem own_el {args : Array Value} {s : State} {t u : Term} {k : Int32} {b : Addr} {cl : Cell} {ty : FieldType} (ht : t.eval args s none [] s = some (.ref a)) (hu : u.eval args s none [] s = some (.ref b)) (A : Arr s s.heap a cl ty) (hq : (Cond.eq (.elem t (.int k)) u).value args s none s [] = some true) : cl.slots[k.toNatClampNeg]? = some (.ref b) := by
  obtain ⟨x, y, e1, e3, k1, k2⟩ := cmp_v (Or.inl hq)
  cases hu.symm.trans e3
  have q : x = .ref b := gotT (eq_R e1 hu k2.2 rfl) hq
  subst q
  exact (elem_in e1 ht (Term.int_eval k) A.1).2
theorem own_sel {s : State} {a0 args : Array Value} {y : MethodName} {k : Nat} (hZ : Z.Warmed39 s.vm) (wi : (Cond.instantiable y.cls k).before a0 Z = true) (wp : (Cond.privateMethod y).before a0 Z = true) (wm : (Cond.instanceMethod y).before a0 Z = true) (hy : y.cls ≠ "java/lang/invoke/MethodHandle" ∧ y.cls ≠ "java/lang/invoke/VarHandle") : (Cond.selects y.cls y y).before args s = true := by
  obtain ⟨c, kc, h1, h2, -, h4, -⟩ := Cond.instantiable_spec (mvT (args := args) hZ wi)
  exact selects_self_of_private h1 h2 (Bool.or_eq_false_iff.mp h4).1 (Cond.privateMethod_at (mvP hZ wp (args := args))) (mvT hZ wm) hy
end Own
end Jvm.RoadKit
namespace Jvm.Pilot.@@N@@
open Jvm Jvm.ClassFile Sem Op Lib Jvm.Free Jvm.Stand Jvm.LawKit Jvm.RoadKit Bundle Jvm.Pilot.@@N@@.Jvm.D
abbrev OMet (l : Launch) (Z : State) (y : MethodName) (bytes : ByteArray) (ml : Nat) (rt : Option FieldType) (ws : List Jvm.Cond) (rm : Room) (h0 : Heap) (as : Array Value) (Q : Option Value → Heap → List Loc → Prop) : Prop :=
  MetFree l y (head1 (Jvm.Cond.code y bytes ml rt :: ws) rm) (fun a U => a = as ∧ Z.Warmed39 U.vm ∧ U.heap = h0) (fun _ _ _ _ _ => True) (fun _ U o U' => ∃ v L, o = .returned v ∧ Q v U'.heap L ∧ FrameEnd U o U' L rm.cells rm.slots)
abbrev OMetS (l : Launch) (Z : State) (y : MethodName) (bytes : ByteArray) (ml : Nat) (rt : Option FieldType) (ws : List Jvm.Cond) (rm : Room) (h0 : Heap) (as : Array Value) (Q : Option Value → Heap → List Loc → Prop) : Prop :=
  MetFree l y (head1 (Jvm.Cond.code y bytes ml rt :: ws) rm) (fun a U => a = as ∧ Z.Warmed39 U.vm ∧ U.heap = h0) (fun _ _ _ _ _ => True) (fun _ U o U' => ∃ v L, o = .returned v ∧ Q v U'.heap L ∧ ReturnedEndW U o U' L rm.cells rm.slots)
def OQp (r : Option Value) (h0 : Heap) (n0 : Nat) (v : Option Value) (h : Heap) (L : List Loc) : Prop := v = r ∧ Fr n0 L ∧ h = h0
def OQl (r : Option Value) (n0 : Nat) (v : Option Value) (h : Heap) (L : List Loc) : Prop := v = r ∧ Fr n0 L
theorem own_rng {k n : Int32} {N : Nat} (h : 0 ≤ k.toInt ∧ k.toInt < N) : ∃ i : Fin N, k = Int32.ofInt i.1 := by
  refine ⟨⟨k.toInt.toNat, by omega⟩, ?_⟩
  show k = Int32.ofInt ((k.toInt.toNat : Nat) : Int)
  rw [Int.toNat_of_nonneg h.1]; exact (Int32.ofInt_toInt k).symm
theorem own_mod (x : Int32) (y : Int32) (hy : 0 < y.toInt) : 0 ≤ ((x &&& (2147483647 : Int32)) % y).toInt ∧ ((x &&& (2147483647 : Int32)) % y).toInt < y.toInt := by
  have h1 := c_mask x 2147483647 31 (by decide) (by decide)
  have h2 := (c_iremV (x &&& (2147483647 : Int32)) y).1 (by rw [h1]; exact Int.emod_nonneg _ (by decide)) hy
  exact ⟨h2.1, h2.2.1⟩
theorem own_b1 (x : Int32) : (x &&& (1 : Int32)) = (0 : Int32) ∨ (x &&& (1 : Int32)) = (1 : Int32) := by
  have h := c_mask x 1 1 (by decide) (by decide)
  have q : (x &&& (1 : Int32)).toInt = 0 ∨ (x &&& (1 : Int32)).toInt = 1 := by rw [h]; omega
  rcases q with q | q <;> simp [← Int32.toInt_inj, q]
theorem d1_0 : decode method_2_code 0 = .ok (.iload_n 0, 1) := by decide +kernel
theorem d1_1 : decode method_2_code 1 = .ok (.ifCond .ne 7, 3) := by decide +kernel
theorem d1_4 : decode method_2_code 4 = .ok (.getstatic 7, 3) := by decide +kernel
theorem d1_7 : decode method_2_code 7 = .ok (.areturn, 1) := by decide +kernel
theorem pn_com_example_cordon_cordon_model_EffectOfPinLaw : plainName "com/example/cordon/cordon/model/EffectOfPinLaw" = true := by first | (simp [plainName, overriddenIn]; done) | decide +kernel
theorem ef_1_v (m : MethodId) (x0 : Int32) : entryFrame m #[(.int x0)] 1 = mkF m 0 #[.val (.int x0)] [] := by first | (simp [entryFrame, mkF, argsToLocals, Value.category]; done) | rfl
set_option maxRecDepth 65536 in
set_option maxHeartbeats 40000000 in
theorem r1_1 (l : Launch) (Z : State) (a0 : Array Value) (hw : ∀ d ∈ tables_1, d.before a0 Z = true) (p2 : Int32) (w3 : Addr) (h0 : Heap) (n0 : Nat) (Z0 : n0 ≤ h0.size) (H0 : p2 = (0 : Int32)) (H1 : Sta Z h0 "com/example/cordon/cordon/model/Decision" "PERMIT" "Lcom/example/cordon/cordon/model/Decision;" (.ref w3)) :
    OMet l Z (⟨"com/example/cordon/cordon/model/EffectOfPinLaw", "pick", "(I)Lcom/example/cordon/cordon/model/Decision;"⟩ : MethodName) method_2_code 1 (some (.object "com/example/cordon/cordon/model/Decision")) [] ({ frames := 0, cells := 0, slots := 0, locals := 0 } : Room) h0 #[(.int p2)] (OQp (some (.ref w3)) h0 n0) := by
  refine MetFree.of_bodySF (plainFor_of_name pn_com_example_cordon_cordon_model_EffectOfPinLaw) hisR ?_
  intro p e s m args below meth c s₁ Bd hml0 hP hK
  obtain ⟨rfl, hZ, hh⟩ := hP
  have hx := Bd.exec
  have hby := Bd.bytes
  have hml : c.maxLocals = 1 := hml0
  have hown : s.vm.findClass "com/example/cordon/cordon/model/EffectOfPinLaw" = some m.cls := findClass_of_methodNamed Bd.named
  have hnm := (name_of_methodNamed Bd.named Bd.method).1
  have X0 : Stand p l e ({ frames := 0, cells := 0, slots := 0, locals := 0 } : Room) s m #[(.int p2)] below meth c s₁ [] 0 0 := Stand.of_body Bd
  have e0 : s₁.heap = h0 := by rw [← hh, Bd.state]; rfl
  have N0 := Fr.nil n0
  have pre0 : ∀ t, Steps p.tables e below (s₁.setTop (mkF m 0 #[.val (.int p2)] [])) t → Steps p.tables e below (s₁.setTop (entryFrame m #[(.int p2)] 1)) t := fun t k => castTop (ef_1_v m p2) k
  obtain ⟨T4, X4, e4, st4⟩ := getS2 X0 hx hZ hown (host := "") (Or.inl (hw _ (List.mem_of_getElem? (i := 5) rfl))) Via.refl e0 H1 (g := (mkF m 4 #[.val (.int p2)] [])) rfl (hb hby d1_4)
  obtain ⟨fs, hr, hrun, hended, hW, hsame⟩ := X4.leave (v := some (.ref w3)) (fun h => by rw [Bd.returns] at h; cases h)
  refine ⟨_, _, pre0 _ ?_, hrun, hended, _, _, rfl, ?_, ⟨_, rfl⟩, hW, hsame.mono (by decide) (by decide)⟩
  · show Steps p.tables e below (s₁.setTop (mkF m 0 #[.val (.int p2)] [])) _
    refine XS.iloadN X0.here hx rfl (hb hby d1_0) rfl ?_
    show Steps p.tables e below (s₁.setTop (mkF m 1 #[.val (.int p2)] [(.int p2)])) _
    refine XS.ifNo X0.here hx rfl (hb hby d1_1) rfl ((if0 _ _).trans (teq H0).2) ?_
    show Steps p.tables e below (s₁.setTop (mkF m 4 #[.val (.int p2)] [])) _
    refine st4 _ ?_
    show Steps p.tables e below (T4.setTop (mkF m 7 #[.val (.int p2)] [(.ref w3)])) _
    jvm_step X4.here [X4.here.top, hx, (hb hby d1_7), X4.method', Bd.returns, Value.isRef, FieldType.isReference]
    first | (intro acts; rw [hr _ acts rfl rfl rfl]) | rw [hr _ _ rfl rfl rfl]
    exact Steps.refl _
  · show OQp (some (.ref w3)) h0 n0 _ T4.heap _
    rw [e4]
    exact ⟨rfl, N0, rfl⟩
theorem pd_0 : parseMethodDescriptor "(I)Lcom/example/cordon/cordon/model/Decision;" = some ⟨[.int], some (.object "com/example/cordon/cordon/model/Decision")⟩ := by decide +kernel
theorem d2_0 : decode prog_28_method_4_code 0 = .ok (.aconst_null, 1) := by decide +kernel
theorem d2_1 : decode prog_28_method_4_code 1 = .ok (.astore_n 1, 1) := by decide +kernel
theorem d2_2 : decode prog_28_method_4_code 2 = .ok (.invokestatic 40, 3) := by decide +kernel
theorem d3_0 : decode prog_28_method_1_code 0 = .ok (.getstatic 10, 3) := by decide +kernel
theorem d3_3 : decode prog_28_method_1_code 3 = .ok (.invokevirtual 14, 3) := by decide +kernel
theorem d3_6 : decode prog_28_method_1_code 6 = .ok (.checkcast 15, 3) := by decide +kernel
theorem d3_9 : decode prog_28_method_1_code 9 = .ok (.areturn, 1) := by decide +kernel
theorem pn_com_example_cordon_cordon_model_Effect : plainName "com/example/cordon/cordon/model/Effect" = true := by first | (simp [plainName, overriddenIn]; done) | decide +kernel
theorem ef_3_ (m : MethodId)  : entryFrame m #[] 0 = mkF m 0 #[] [] := by first | (simp [entryFrame, mkF, argsToLocals, Value.category]; done) | rfl
def Qr3_1 (Z : State) (w8 : Addr) (k10 : ClassId) (w11 : Addr) (w12 : Addr) (h0 : Heap) (n0 : Nat) (v : Option Value) (h : Heap) (L : List Loc) : Prop := Fr n0 L ∧ ∃ b13 : Addr, v = some (.ref b13) ∧ h0.size ≤ b13 ∧ KSx h0 h [] ∧ Exa Z h b13 "[Lcom/example/cordon/cordon/model/Effect;" ∧ Arv Z h b13 k10 (.object "com/example/cordon/cordon/model/Effect") (2 : Int32) [(.ref w11), (.ref w12)] .null
set_option maxRecDepth 65536 in
set_option maxHeartbeats 40000000 in
theorem r3_1 (l : Launch) (Z : State) (a0 : Array Value) (hw : ∀ d ∈ tables_1, d.before a0 Z = true) (w8 : Addr) (k10 : ClassId) (w11 : Addr) (w12 : Addr) (h0 : Heap) (n0 : Nat) (Z0 : n0 ≤ h0.size) (H0 : Sta Z h0 "com/example/cordon/cordon/model/Effect" "$VALUES" "[Lcom/example/cordon/cordon/model/Effect;" (.ref w8)) (H1 : Arv Z h0 w8 k10 (.object "com/example/cordon/cordon/model/Effect") (2 : Int32) [(.ref w11), (.ref w12)] .null) (H2 : Exa Z h0 w8 "[Lcom/example/cordon/cordon/model/Effect;") :
    OMet l Z (⟨"com/example/cordon/cordon/model/Effect", "values", "()[Lcom/example/cordon/cordon/model/Effect;"⟩ : MethodName) prog_28_method_1_code 0 (some (.array (.object "com/example/cordon/cordon/model/Effect"))) [] ({ frames := 1, cells := 1, slots := 2, locals := 14 } : Room) h0 #[] (Qr3_1 Z w8 k10 w11 w12 h0 n0) := by
  refine MetFree.of_bodySF (plainFor_of_name pn_com_example_cordon_cordon_model_Effect) hisR ?_
  intro p e s m args below meth c s₁ Bd hml0 hP hK
  obtain ⟨rfl, hZ, hh⟩ := hP
  have hx := Bd.exec
  have hby := Bd.bytes
  have hml : c.maxLocals = 0 := hml0
  have hown : s.vm.findClass "com/example/cordon/cordon/model/Effect" = some m.cls := findClass_of_methodNamed Bd.named
  have hnm := (name_of_methodNamed Bd.named Bd.method).1
  have X0 : Stand p l e ({ frames := 1, cells := 1, slots := 2, locals := 14 } : Room) s m #[] below meth c s₁ [] 0 0 := Stand.of_body Bd
  have e0 : s₁.heap = h0 := by rw [← hh, Bd.state]; rfl
  have N0 := Fr.nil n0
  have pre0 : ∀ t, Steps p.tables e below (s₁.setTop (mkF m 0 #[] [])) t → Steps p.tables e below (s₁.setTop (entryFrame m #[] 0)) t := fun t k => castTop (ef_3_ m ) k
  obtain ⟨T9, X9, e9, st9⟩ := getS2 X0 hx hZ hown (host := "") (Or.inl (hw _ (List.mem_of_getElem? (i := 15) rfl))) Via.refl e0 H0 (g := (mkF m 0 #[] [])) rfl (hb hby d3_0)
  obtain ⟨T13, h13, X13, e13, E13, V13, A13, st13⟩ := cloneH X9 hx hZ hown (hw _ (List.mem_of_getElem? (i := 17) rfl)) (hw _ (List.mem_of_getElem? (i := 18) rfl)) (hw _ (List.mem_of_getElem? (i := 22) rfl)) (hw _ (List.mem_of_getElem? (i := 20) rfl)) (hw _ (List.mem_of_getElem? (i := 21) rfl)) (hw _ (List.mem_of_getElem? (i := 23) rfl)) e9 (Arv.arh H1) H2 (g := (mkF m 3 #[] [(.ref w8)])) rfl (by rw [hml]; rfl) rfl (hb hby d3_3) (by decide) (W := 0) (by show 2 * 0 + _ ≤ _; exact Nat.le_of_eq rfl) (by decide) (cap := 2) (by decide) (by decide) (by decide)
  obtain ⟨b13, g13⟩ : ∃ z, z = h0.size := ⟨_, rfl⟩
  rw [← g13] at A13 V13 st13
  have KC13 := KSx.ext (KSx.refl h0 []) E13
  have Va13 : Arv Z h13 b13 k10 (.object "com/example/cordon/cordon/model/Effect") (2 : Int32) [(.ref w11), (.ref w12)] .null := V13
  obtain ⟨T14, X14, e14, st14⟩ := castY X13 hx hZ hown (hw _ (List.mem_of_getElem? (i := 27) rfl)) e13 (Ins.self A13) (g := (mkF m 6 #[] [(.ref b13)])) rfl rfl (hb hby d3_6)
  obtain ⟨fs, hr, hrun, hended, hW, hsame⟩ := X14.leave (v := some (.ref b13)) (fun h => by rw [Bd.returns] at h; cases h)
  refine ⟨_, _, pre0 _ ?_, hrun, hended, _, _, rfl, ?_, ⟨_, rfl⟩, hW, hsame.mono (by decide) (by decide)⟩
  · show Steps p.tables e below (s₁.setTop (mkF m 0 #[] [])) _
    refine st9 _ ?_
    show Steps p.tables e below (T9.setTop (mkF m 3 #[] [(.ref w8)])) _
    refine st13 _ ?_
    show Steps p.tables e below (T13.setTop (mkF m 6 #[] [(.ref b13)])) _
    refine st14 _ ?_
    show Steps p.tables e below (T14.setTop (mkF m 9 #[] [(.ref b13)])) _
    jvm_step X14.here [X14.here.top, hx, (hb hby d3_9), X14.method', Bd.returns, Value.isRef, FieldType.isReference]
    first | (intro acts; rw [hr _ acts rfl rfl rfl]) | rw [hr _ _ rfl rfl rfl]
    exact Steps.refl _
  · show Qr3_1 Z w8 k10 w11 w12 h0 n0 _ T14.heap _
    rw [e14]
    exact ⟨N0, b13, rfl, (Nat.le_trans (KSx.refl h0 []).1 (Nat.le_of_eq g13.symm)), KC13, A13, Va13⟩
theorem pd_1 : parseMethodDescriptor "()[Lcom/example/cordon/cordon/model/Effect;" = some ⟨[], some (.array (.object "com/example/cordon/cordon/model/Effect"))⟩ := by decide +kernel
theorem d2_5 : decode prog_28_method_4_code 5 = .ok (.astore_n 2, 1) := by decide +kernel
theorem d2_6 : decode prog_28_method_4_code 6 = .ok (.aload_n 2, 1) := by decide +kernel
theorem d2_7 : decode prog_28_method_4_code 7 = .ok (.arraylength, 1) := by decide +kernel
theorem d2_8 : decode prog_28_method_4_code 8 = .ok (.istore_n 3, 1) := by decide +kernel
theorem d2_9 : decode prog_28_method_4_code 9 = .ok (.iconst 0, 1) := by decide +kernel
theorem d2_10 : decode prog_28_method_4_code 10 = .ok (.istore 4, 2) := by decide +kernel
theorem d2_12 : decode prog_28_method_4_code 12 = .ok (.iload 4, 2) := by decide +kernel
theorem d2_14 : decode prog_28_method_4_code 14 = .ok (.iload_n 3, 1) := by decide +kernel
theorem d2_15 : decode prog_28_method_4_code 15 = .ok (.if_icmp .ge 31, 3) := by decide +kernel
theorem d2_18 : decode prog_28_method_4_code 18 = .ok (.aload_n 2, 1) := by decide +kernel
theorem d2_19 : decode prog_28_method_4_code 19 = .ok (.iload 4, 2) := by decide +kernel
theorem d2_21 : decode prog_28_method_4_code 21 = .ok (.aaload, 1) := by decide +kernel
theorem d2_22 : decode prog_28_method_4_code 22 = .ok (.astore 5, 2) := by decide +kernel
theorem d2_24 : decode prog_28_method_4_code 24 = .ok (.aload 5, 2) := by decide +kernel
theorem d2_26 : decode prog_28_method_4_code 26 = .ok (.getfield 33, 3) := by decide +kernel
theorem d2_29 : decode prog_28_method_4_code 29 = .ok (.aload_n 0, 1) := by decide +kernel
theorem d2_30 : decode prog_28_method_4_code 30 = .ok (.if_acmp .ne 8, 3) := by decide +kernel
theorem d2_33 : decode prog_28_method_4_code 33 = .ok (.aload 5, 2) := by decide +kernel
theorem d2_35 : decode prog_28_method_4_code 35 = .ok (.goto 4, 3) := by decide +kernel
theorem d2_39 : decode prog_28_method_4_code 39 = .ok (.astore_n 1, 1) := by decide +kernel
theorem d2_40 : decode prog_28_method_4_code 40 = .ok (.iinc 4 1, 3) := by decide +kernel
theorem d2_43 : decode prog_28_method_4_code 43 = .ok (.goto (-31), 3) := by decide +kernel
theorem d2_38 : decode prog_28_method_4_code 38 = .ok (.aload_n 1, 1) := by decide +kernel
theorem d2_46 : decode prog_28_method_4_code 46 = .ok (.aload_n 1, 1) := by decide +kernel
theorem d2_47 : decode prog_28_method_4_code 47 = .ok (.areturn, 1) := by decide +kernel
theorem ef_2_v (m : MethodId) (x0 : Addr) : entryFrame m #[(.ref x0)] 6 = mkF m 0 #[.val (.ref x0), .unset, .unset, .unset, .unset, .unset] [] := by first | (simp [entryFrame, mkF, argsToLocals, Value.category]; done) | rfl
def Qr2_1 (Z : State) (a7 : Addr) (w16 : Addr) (k17 : ClassId) (w18 : Addr) (w19 : Addr) (w22 : Addr) (w26 : Addr) (h0 : Heap) (n0 : Nat) (v : Option Value) (h : Heap) (L : List Loc) : Prop := Fr n0 L ∧ ∃ b15_0 : Addr, v = some (.ref w18) ∧ h0.size ≤ b15_0 ∧ KSx h0 h [] ∧ Exa Z h b15_0 "[Lcom/example/cordon/cordon/model/Effect;" ∧ Arv Z h b15_0 k17 (.object "com/example/cordon/cordon/model/Effect") (2 : Int32) [(.ref w18), (.ref w19)] .null
set_option maxRecDepth 65536 in
set_option maxHeartbeats 40000000 in
theorem r2_1 (l : Launch) (Z : State) (a0 : Array Value) (hw : ∀ d ∈ tables_1, d.before a0 Z = true) (a7 : Addr) (w16 : Addr) (k17 : ClassId) (w18 : Addr) (w19 : Addr) (w22 : Addr) (w26 : Addr) (h0 : Heap) (n0 : Nat) (Z0 : n0 ≤ h0.size) (H0 : Sta Z h0 "com/example/cordon/cordon/model/Effect" "$VALUES" "[Lcom/example/cordon/cordon/model/Effect;" (.ref w16)) (H1 : Arv Z h0 w16 k17 (.object "com/example/cordon/cordon/model/Effect") (2 : Int32) [(.ref w18), (.ref w19)] .null) (H2 : Exa Z h0 w16 "[Lcom/example/cordon/cordon/model/Effect;") (H3 : Fld Z h0 w18 "com/example/cordon/cordon/model/Effect" "decision" "Lcom/example/cordon/cordon/model/Decision;" (.ref w22)) (H4 : w22 = a7) (H5 : Fld Z h0 w19 "com/example/cordon/cordon/model/Effect" "decision" "Lcom/example/cordon/cordon/model/Decision;" (.ref w26)) (H6 : w26 ≠ a7) :
    OMet l Z (⟨"com/example/cordon/cordon/model/Effect", "of", "(Lcom/example/cordon/cordon/model/Decision;)Lcom/example/cordon/cordon/model/Effect;"⟩ : MethodName) prog_28_method_4_code 6 (some (.object "com/example/cordon/cordon/model/Effect")) [] ({ frames := 2, cells := 1, slots := 2, locals := 25 } : Room) h0 #[(.ref a7)] (Qr2_1 Z a7 w16 k17 w18 w19 w22 w26 h0 n0) := by
  refine MetFree.of_bodySF (plainFor_of_name pn_com_example_cordon_cordon_model_Effect) hisR ?_
  intro p e s m args below meth c s₁ Bd hml0 hP hK
  obtain ⟨rfl, hZ, hh⟩ := hP
  have hx := Bd.exec
  have hby := Bd.bytes
  have hml : c.maxLocals = 6 := hml0
  have hown : s.vm.findClass "com/example/cordon/cordon/model/Effect" = some m.cls := findClass_of_methodNamed Bd.named
  have hnm := (name_of_methodNamed Bd.named Bd.method).1
  have X0 : Stand p l e ({ frames := 2, cells := 1, slots := 2, locals := 25 } : Room) s m #[(.ref a7)] below meth c s₁ [] 0 0 := Stand.of_body Bd
  have e0 : s₁.heap = h0 := by rw [← hh, Bd.state]; rfl
  have N0 := Fr.nil n0
  have pre0 : ∀ t, Steps p.tables e below (s₁.setTop (mkF m 0 #[.val (.ref a7), .unset, .unset, .unset, .unset, .unset] [])) t → Steps p.tables e below (s₁.setTop (entryFrame m #[(.ref a7)] 6)) t := fun t k => castTop (ef_2_v m a7) k
  obtain ⟨_, _, ⟨T15, L15, k15, n15⟩, -, X15, ⟨Lc15, hQ15, l15, y15, z15⟩, st15⟩ := Jvm.LawKit.callS X0 hx (y := (⟨"com/example/cordon/cordon/model/Effect", "values", "()[Lcom/example/cordon/cordon/model/Effect;"⟩ : MethodName)) hown (mvT hZ (hw _ (List.mem_of_getElem? (i := 12) rfl))) (mvT hZ (hw _ (List.mem_of_getElem? (i := 13) rfl))) (mvT hZ (hw _ (List.mem_of_getElem? (i := 10) rfl))) (mvT hZ (hw _ (List.mem_of_getElem? (i := 14) rfl))) (by decide) (backOf (W := 0) (r3_1 l Z a0 hw w16 k17 w18 w19 h0 n0 Z0 H0 H1 H2) hZ (hw _ (List.mem_of_getElem? (i := 14) rfl)) (hw _ (List.mem_of_getElem? (i := 10) rfl)) (by decide) (by decide)) (g := (mkF m 2 #[.val (.ref a7), .val .null, .unset, .unset, .unset, .unset] [])) rfl (by rw [hml]; rfl) (argsL := []) (rest := []) (lenOf pd_1 rfl) rfl (by show 2 * 0 + _ ≤ _; exact Nat.le_of_eq rfl) (hb hby d2_2) (fun _ _ => ⟨rfl, e0, (by decide : 0 + 1 ≤ _), (by decide : 0 + 2 ≤ _)⟩)
  dsimp only [Pt.U, Pt.locs, Pt.cells, Pt.slots] at X15 l15 y15 z15 st15 hQ15
  subst l15 y15 z15
  obtain ⟨N15q, b15_0, rfl, ge_b15_0, K15, o15_0, o15_1⟩ := hQ15
  have N15 := Fr.app N0 N15q
  have KC15 := KSx.trans (KSx.refl h0 []) K15 ks0
  have vc20 := o15_1
  obtain ⟨cl20, Ar20, q20, S20, N20, Hh20, G20⟩ := vc20
  have vc21 := o15_1
  obtain ⟨cl21, Ar21, q21, S21, N21, Hh21, G21⟩ := vc21
  have hin21 : ¬ ((0 : Int32) < 0 ∨ cl21.slots.size ≤ ((0 : Int32)).toNatClampNeg) := inb_of S21 ⟨by decide, by decide⟩
  have hat21 : cl21.slots[((0 : Int32)).toNatClampNeg]? = some (.ref w18) := Has.at Hh21 hin21 rfl
  have f23 := (H3.ks K15 ks0)
  obtain ⟨T24, X24, e24, st24⟩ := getF X15 hx hZ hown (host := "") (Or.inl (hw _ (List.mem_of_getElem? (i := 29) rfl))) Via.refl rfl f23 (g := (mkF m 26 #[.val (.ref a7), .val .null, .val (.ref b15_0), .val (.int (2 : Int32)), .val (.int (0 : Int32)), .val (.ref w18)] [(.ref w18)])) rfl rfl (hb hby d2_26)
  have vc25 := o15_1
  obtain ⟨cl25, Ar25, q25, S25, N25, Hh25, G25⟩ := vc25
  have hin25 : ¬ ((1 : Int32) < 0 ∨ cl25.slots.size ≤ ((1 : Int32)).toNatClampNeg) := inb_of S25 ⟨by decide, by decide⟩
  have hat25 : cl25.slots[((1 : Int32)).toNatClampNeg]? = some (.ref w19) := Has.at Hh25 hin25 rfl
  have f27 := (H5.ks K15 ks0)
  obtain ⟨T28, X28, e28, st28⟩ := getF X24 hx hZ hown (host := "") (Or.inl (hw _ (List.mem_of_getElem? (i := 29) rfl))) Via.refl e24 f27 (g := (mkF m 26 #[.val (.ref a7), .val (.ref w18), .val (.ref b15_0), .val (.int (2 : Int32)), .val (.int (1 : Int32)), .val (.ref w19)] [(.ref w19)])) rfl rfl (hb hby d2_26)
  obtain ⟨fs, hr, hrun, hended, hW, hsame⟩ := X28.leave (v := some (.ref w18)) (fun h => by rw [Bd.returns] at h; cases h)
  refine ⟨_, _, pre0 _ ?_, hrun, hended, _, _, rfl, ?_, ⟨_, rfl⟩, hW, hsame.mono (by decide) (by decide)⟩
  · show Steps p.tables e below (s₁.setTop (mkF m 0 #[.val (.ref a7), .unset, .unset, .unset, .unset, .unset] [])) _
    refine XS.aconstNull X0.here hx rfl (hb hby d2_0) ?_
    show Steps p.tables e below (s₁.setTop (mkF m 1 #[.val (.ref a7), .unset, .unset, .unset, .unset, .unset] [.null])) _
    refine XS.astoreN X0.here hx rfl (hb hby d2_1) rfl rfl (l' := #[.val (.ref a7), .val .null, .unset, .unset, .unset, .unset]) rfl ?_
    show Steps p.tables e below (s₁.setTop (mkF m 2 #[.val (.ref a7), .val .null, .unset, .unset, .unset, .unset] [])) _
    refine st15 _ ?_
    show Steps p.tables e below (T15.setTop (mkF m 5 #[.val (.ref a7), .val .null, .unset, .unset, .unset, .unset] [(.ref b15_0)])) _
    refine XS.astoreN X15.here hx rfl (hb hby d2_5) rfl rfl (l' := #[.val (.ref a7), .val .null, .val (.ref b15_0), .unset, .unset, .unset]) rfl ?_
    show Steps p.tables e below (T15.setTop (mkF m 6 #[.val (.ref a7), .val .null, .val (.ref b15_0), .unset, .unset, .unset] [])) _
    refine XS.aloadN X15.here hx rfl (hb hby d2_6) rfl rfl ?_
    show Steps p.tables e below (T15.setTop (mkF m 7 #[.val (.ref a7), .val .null, .val (.ref b15_0), .unset, .unset, .unset] [(.ref b15_0)])) _
    refine X15.arraylength hx (Ar20.1) (State.isArrayOf_alike hZ.alike Ar20.2.1) (g := (mkF m 7 #[.val (.ref a7), .val .null, .val (.ref b15_0), .unset, .unset, .unset] [(.ref b15_0)])) rfl rfl (hb hby d2_7) _ ?_
    rw [len_of S20 N20]
    show Steps p.tables e below (T15.setTop (mkF m 8 #[.val (.ref a7), .val .null, .val (.ref b15_0), .unset, .unset, .unset] [(.int (2 : Int32))])) _
    refine XS.istoreN X15.here hx rfl (hb hby d2_8) rfl (l' := #[.val (.ref a7), .val .null, .val (.ref b15_0), .val (.int (2 : Int32)), .unset, .unset]) rfl ?_
    show Steps p.tables e below (T15.setTop (mkF m 9 #[.val (.ref a7), .val .null, .val (.ref b15_0), .val (.int (2 : Int32)), .unset, .unset] [])) _
    refine XS.iconst X15.here hx rfl (hb hby d2_9) ?_
    show Steps p.tables e below (T15.setTop (mkF m 10 #[.val (.ref a7), .val .null, .val (.ref b15_0), .val (.int (2 : Int32)), .unset, .unset] [(.int (0 : Int32))])) _
    refine XS.istore X15.here hx rfl (hb hby d2_10) rfl (l' := #[.val (.ref a7), .val .null, .val (.ref b15_0), .val (.int (2 : Int32)), .val (.int (0 : Int32)), .unset]) rfl ?_
    show Steps p.tables e below (T15.setTop (mkF m 12 #[.val (.ref a7), .val .null, .val (.ref b15_0), .val (.int (2 : Int32)), .val (.int (0 : Int32)), .unset] [])) _
    refine XS.iload X15.here hx rfl (hb hby d2_12) rfl ?_
    show Steps p.tables e below (T15.setTop (mkF m 14 #[.val (.ref a7), .val .null, .val (.ref b15_0), .val (.int (2 : Int32)), .val (.int (0 : Int32)), .unset] [(.int (0 : Int32))])) _
    refine XS.iloadN X15.here hx rfl (hb hby d2_14) rfl ?_
    show Steps p.tables e below (T15.setTop (mkF m 15 #[.val (.ref a7), .val .null, .val (.ref b15_0), .val (.int (2 : Int32)), .val (.int (0 : Int32)), .unset] [(.int (2 : Int32)), (.int (0 : Int32))])) _
    refine XS.icmpNo X15.here hx rfl (hb hby d2_15) rfl (tlt (by decide : (0 : Int32) < (2 : Int32))).2.1 ?_
    show Steps p.tables e below (T15.setTop (mkF m 18 #[.val (.ref a7), .val .null, .val (.ref b15_0), .val (.int (2 : Int32)), .val (.int (0 : Int32)), .unset] [])) _
    refine XS.aloadN X15.here hx rfl (hb hby d2_18) rfl rfl ?_
    show Steps p.tables e below (T15.setTop (mkF m 19 #[.val (.ref a7), .val .null, .val (.ref b15_0), .val (.int (2 : Int32)), .val (.int (0 : Int32)), .unset] [(.ref b15_0)])) _
    refine XS.iload X15.here hx rfl (hb hby d2_19) rfl ?_
    show Steps p.tables e below (T15.setTop (mkF m 21 #[.val (.ref a7), .val .null, .val (.ref b15_0), .val (.int (2 : Int32)), .val (.int (0 : Int32)), .unset] [(.int (0 : Int32)), (.ref b15_0)])) _
    refine X15.aaload hx (j := (0 : Int32)) (v := (.ref w18)) (Ar21.1) (State.isArrayOf_alike hZ.alike Ar21.2.1) rfl Ar21.2.2 hin21 hat21 (g := (mkF m 21 #[.val (.ref a7), .val .null, .val (.ref b15_0), .val (.int (2 : Int32)), .val (.int (0 : Int32)), .unset] [(.int (0 : Int32)), (.ref b15_0)])) rfl rfl (hb hby d2_21) _ ?_
    show Steps p.tables e below (T15.setTop (mkF m 22 #[.val (.ref a7), .val .null, .val (.ref b15_0), .val (.int (2 : Int32)), .val (.int (0 : Int32)), .unset] [(.ref w18)])) _
    refine XS.astore X15.here hx rfl (hb hby d2_22) rfl rfl (l' := #[.val (.ref a7), .val .null, .val (.ref b15_0), .val (.int (2 : Int32)), .val (.int (0 : Int32)), .val (.ref w18)]) rfl ?_
    show Steps p.tables e below (T15.setTop (mkF m 24 #[.val (.ref a7), .val .null, .val (.ref b15_0), .val (.int (2 : Int32)), .val (.int (0 : Int32)), .val (.ref w18)] [])) _
    refine XS.aload X15.here hx rfl (hb hby d2_24) rfl rfl ?_
    show Steps p.tables e below (T15.setTop (mkF m 26 #[.val (.ref a7), .val .null, .val (.ref b15_0), .val (.int (2 : Int32)), .val (.int (0 : Int32)), .val (.ref w18)] [(.ref w18)])) _
    refine st24 _ ?_
    show Steps p.tables e below (T24.setTop (mkF m 29 #[.val (.ref a7), .val .null, .val (.ref b15_0), .val (.int (2 : Int32)), .val (.int (0 : Int32)), .val (.ref w18)] [(.ref w22)])) _
    refine XS.aloadN X24.here hx rfl (hb hby d2_29) rfl rfl ?_
    show Steps p.tables e below (T24.setTop (mkF m 30 #[.val (.ref a7), .val .null, .val (.ref b15_0), .val (.int (2 : Int32)), .val (.int (0 : Int32)), .val (.ref w18)] [(.ref a7), (.ref w22)])) _
    refine Jvm.RoadKit.acmp (g := (mkF m 30 #[.val (.ref a7), .val .null, .val (.ref b15_0), .val (.int (2 : Int32)), .val (.int (0 : Int32)), .val (.ref w18)] [(.ref a7), (.ref w22)])) X24 hx rfl rfl rfl (pc0 := 30) (pc' := 33) (same := true) rfl (hb hby d2_30) rfl (decide_eq_true (congrArg Value.ref H4)) (by decide) (by decide) ?_
    show Steps p.tables e below (T24.setTop (mkF m 33 #[.val (.ref a7), .val .null, .val (.ref b15_0), .val (.int (2 : Int32)), .val (.int (0 : Int32)), .val (.ref w18)] [])) _
    refine XS.aload X24.here hx rfl (hb hby d2_33) rfl rfl ?_
    show Steps p.tables e below (T24.setTop (mkF m 35 #[.val (.ref a7), .val .null, .val (.ref b15_0), .val (.int (2 : Int32)), .val (.int (0 : Int32)), .val (.ref w18)] [(.ref w18)])) _
    refine XS.goto X24.here hx rfl (pc0 := 35) (pc' := 39) rfl (hb hby d2_35) (by decide) (by decide) ?_
    show Steps p.tables e below (T24.setTop (mkF m 39 #[.val (.ref a7), .val .null, .val (.ref b15_0), .val (.int (2 : Int32)), .val (.int (0 : Int32)), .val (.ref w18)] [(.ref w18)])) _
    refine XS.astoreN X24.here hx rfl (hb hby d2_39) rfl rfl (l' := #[.val (.ref a7), .val (.ref w18), .val (.ref b15_0), .val (.int (2 : Int32)), .val (.int (0 : Int32)), .val (.ref w18)]) rfl ?_
    show Steps p.tables e below (T24.setTop (mkF m 40 #[.val (.ref a7), .val (.ref w18), .val (.ref b15_0), .val (.int (2 : Int32)), .val (.int (0 : Int32)), .val (.ref w18)] [])) _
    refine XS.iinc X24.here hx rfl (hb hby d2_40) rfl (l' := #[.val (.ref a7), .val (.ref w18), .val (.ref b15_0), .val (.int (2 : Int32)), .val (.int (1 : Int32)), .val (.ref w18)]) rfl ?_
    show Steps p.tables e below (T24.setTop (mkF m 43 #[.val (.ref a7), .val (.ref w18), .val (.ref b15_0), .val (.int (2 : Int32)), .val (.int (1 : Int32)), .val (.ref w18)] [])) _
    refine XS.goto X24.here hx rfl (pc0 := 43) (pc' := 12) rfl (hb hby d2_43) (by decide) (by decide) ?_
    show Steps p.tables e below (T24.setTop (mkF m 12 #[.val (.ref a7), .val (.ref w18), .val (.ref b15_0), .val (.int (2 : Int32)), .val (.int (1 : Int32)), .val (.ref w18)] [])) _
    refine XS.iload X24.here hx rfl (hb hby d2_12) rfl ?_
    show Steps p.tables e below (T24.setTop (mkF m 14 #[.val (.ref a7), .val (.ref w18), .val (.ref b15_0), .val (.int (2 : Int32)), .val (.int (1 : Int32)), .val (.ref w18)] [(.int (1 : Int32))])) _
    refine XS.iloadN X24.here hx rfl (hb hby d2_14) rfl ?_
    show Steps p.tables e below (T24.setTop (mkF m 15 #[.val (.ref a7), .val (.ref w18), .val (.ref b15_0), .val (.int (2 : Int32)), .val (.int (1 : Int32)), .val (.ref w18)] [(.int (2 : Int32)), (.int (1 : Int32))])) _
    refine XS.icmpNo X24.here hx rfl (hb hby d2_15) rfl (tlt (by decide : (1 : Int32) < (2 : Int32))).2.1 ?_
    show Steps p.tables e below (T24.setTop (mkF m 18 #[.val (.ref a7), .val (.ref w18), .val (.ref b15_0), .val (.int (2 : Int32)), .val (.int (1 : Int32)), .val (.ref w18)] [])) _
    refine XS.aloadN X24.here hx rfl (hb hby d2_18) rfl rfl ?_
    show Steps p.tables e below (T24.setTop (mkF m 19 #[.val (.ref a7), .val (.ref w18), .val (.ref b15_0), .val (.int (2 : Int32)), .val (.int (1 : Int32)), .val (.ref w18)] [(.ref b15_0)])) _
    refine XS.iload X24.here hx rfl (hb hby d2_19) rfl ?_
    show Steps p.tables e below (T24.setTop (mkF m 21 #[.val (.ref a7), .val (.ref w18), .val (.ref b15_0), .val (.int (2 : Int32)), .val (.int (1 : Int32)), .val (.ref w18)] [(.int (1 : Int32)), (.ref b15_0)])) _
    refine X24.aaload hx (j := (1 : Int32)) (v := (.ref w19)) (by rw [e24]; exact Ar25.1) (State.isArrayOf_alike hZ.alike Ar25.2.1) rfl Ar25.2.2 hin25 hat25 (g := (mkF m 21 #[.val (.ref a7), .val (.ref w18), .val (.ref b15_0), .val (.int (2 : Int32)), .val (.int (1 : Int32)), .val (.ref w18)] [(.int (1 : Int32)), (.ref b15_0)])) rfl rfl (hb hby d2_21) _ ?_
    show Steps p.tables e below (T24.setTop (mkF m 22 #[.val (.ref a7), .val (.ref w18), .val (.ref b15_0), .val (.int (2 : Int32)), .val (.int (1 : Int32)), .val (.ref w18)] [(.ref w19)])) _
    refine XS.astore X24.here hx rfl (hb hby d2_22) rfl rfl (l' := #[.val (.ref a7), .val (.ref w18), .val (.ref b15_0), .val (.int (2 : Int32)), .val (.int (1 : Int32)), .val (.ref w19)]) rfl ?_
    show Steps p.tables e below (T24.setTop (mkF m 24 #[.val (.ref a7), .val (.ref w18), .val (.ref b15_0), .val (.int (2 : Int32)), .val (.int (1 : Int32)), .val (.ref w19)] [])) _
    refine XS.aload X24.here hx rfl (hb hby d2_24) rfl rfl ?_
    show Steps p.tables e below (T24.setTop (mkF m 26 #[.val (.ref a7), .val (.ref w18), .val (.ref b15_0), .val (.int (2 : Int32)), .val (.int (1 : Int32)), .val (.ref w19)] [(.ref w19)])) _
    refine st28 _ ?_
    show Steps p.tables e below (T28.setTop (mkF m 29 #[.val (.ref a7), .val (.ref w18), .val (.ref b15_0), .val (.int (2 : Int32)), .val (.int (1 : Int32)), .val (.ref w19)] [(.ref w26)])) _
    refine XS.aloadN X28.here hx rfl (hb hby d2_29) rfl rfl ?_
    show Steps p.tables e below (T28.setTop (mkF m 30 #[.val (.ref a7), .val (.ref w18), .val (.ref b15_0), .val (.int (2 : Int32)), .val (.int (1 : Int32)), .val (.ref w19)] [(.ref a7), (.ref w26)])) _
    refine Jvm.RoadKit.acmp (g := (mkF m 30 #[.val (.ref a7), .val (.ref w18), .val (.ref b15_0), .val (.int (2 : Int32)), .val (.int (1 : Int32)), .val (.ref w19)] [(.ref a7), (.ref w26)])) X28 hx rfl rfl rfl (pc0 := 30) (pc' := 38) (same := false) rfl (hb hby d2_30) rfl (decide_eq_false fun q => H6 (Value.ref.inj q)) (by decide) (by decide) ?_
    show Steps p.tables e below (T28.setTop (mkF m 38 #[.val (.ref a7), .val (.ref w18), .val (.ref b15_0), .val (.int (2 : Int32)), .val (.int (1 : Int32)), .val (.ref w19)] [])) _
    refine XS.aloadN X28.here hx rfl (hb hby d2_38) rfl rfl ?_
    show Steps p.tables e below (T28.setTop (mkF m 39 #[.val (.ref a7), .val (.ref w18), .val (.ref b15_0), .val (.int (2 : Int32)), .val (.int (1 : Int32)), .val (.ref w19)] [(.ref w18)])) _
    refine XS.astoreN X28.here hx rfl (hb hby d2_39) rfl rfl (l' := #[.val (.ref a7), .val (.ref w18), .val (.ref b15_0), .val (.int (2 : Int32)), .val (.int (1 : Int32)), .val (.ref w19)]) rfl ?_
    show Steps p.tables e below (T28.setTop (mkF m 40 #[.val (.ref a7), .val (.ref w18), .val (.ref b15_0), .val (.int (2 : Int32)), .val (.int (1 : Int32)), .val (.ref w19)] [])) _
    refine XS.iinc X28.here hx rfl (hb hby d2_40) rfl (l' := #[.val (.ref a7), .val (.ref w18), .val (.ref b15_0), .val (.int (2 : Int32)), .val (.int (2 : Int32)), .val (.ref w19)]) rfl ?_
    show Steps p.tables e below (T28.setTop (mkF m 43 #[.val (.ref a7), .val (.ref w18), .val (.ref b15_0), .val (.int (2 : Int32)), .val (.int (2 : Int32)), .val (.ref w19)] [])) _
    refine XS.goto X28.here hx rfl (pc0 := 43) (pc' := 12) rfl (hb hby d2_43) (by decide) (by decide) ?_
    show Steps p.tables e below (T28.setTop (mkF m 12 #[.val (.ref a7), .val (.ref w18), .val (.ref b15_0), .val (.int (2 : Int32)), .val (.int (2 : Int32)), .val (.ref w19)] [])) _
    refine XS.iload X28.here hx rfl (hb hby d2_12) rfl ?_
    show Steps p.tables e below (T28.setTop (mkF m 14 #[.val (.ref a7), .val (.ref w18), .val (.ref b15_0), .val (.int (2 : Int32)), .val (.int (2 : Int32)), .val (.ref w19)] [(.int (2 : Int32))])) _
    refine XS.iloadN X28.here hx rfl (hb hby d2_14) rfl ?_
    show Steps p.tables e below (T28.setTop (mkF m 15 #[.val (.ref a7), .val (.ref w18), .val (.ref b15_0), .val (.int (2 : Int32)), .val (.int (2 : Int32)), .val (.ref w19)] [(.int (2 : Int32)), (.int (2 : Int32))])) _
    refine XS.icmpYes X28.here hx rfl (pc0 := 15) (pc' := 46) rfl (hb hby d2_15) rfl (flt (by decide : ¬ ((2 : Int32) < (2 : Int32)))).2.1 (by decide) (by decide) ?_
    show Steps p.tables e below (T28.setTop (mkF m 46 #[.val (.ref a7), .val (.ref w18), .val (.ref b15_0), .val (.int (2 : Int32)), .val (.int (2 : Int32)), .val (.ref w19)] [])) _
    refine XS.aloadN X28.here hx rfl (hb hby d2_46) rfl rfl ?_
    show Steps p.tables e below (T28.setTop (mkF m 47 #[.val (.ref a7), .val (.ref w18), .val (.ref b15_0), .val (.int (2 : Int32)), .val (.int (2 : Int32)), .val (.ref w19)] [(.ref w18)])) _
    jvm_step X28.here [X28.here.top, hx, (hb hby d2_47), X28.method', Bd.returns, Value.isRef, FieldType.isReference]
    first | (intro acts; rw [hr _ acts rfl rfl rfl]) | rw [hr _ _ rfl rfl rfl]
    exact Steps.refl _
  · show Qr2_1 Z a7 w16 k17 w18 w19 w22 w26 h0 n0 _ T28.heap _
    rw [e28]
    exact ⟨N15, b15_0, rfl, (Nat.le_trans (KSx.refl h0 []).1 ge_b15_0), KC15, o15_0, o15_1⟩
theorem pd_2 : parseMethodDescriptor "(Lcom/example/cordon/cordon/model/Decision;)Lcom/example/cordon/cordon/model/Effect;" = some ⟨[(.object "com/example/cordon/cordon/model/Decision")], some (.object "com/example/cordon/cordon/model/Effect")⟩ := by decide +kernel
theorem d4_0 : decode method_3_code 0 = .ok (.iload_n 0, 1) := by decide +kernel
theorem d4_1 : decode method_3_code 1 = .ok (.ifCond .ne 7, 3) := by decide +kernel
theorem d4_4 : decode method_3_code 4 = .ok (.getstatic 28, 3) := by decide +kernel
theorem d4_7 : decode method_3_code 7 = .ok (.areturn, 1) := by decide +kernel
theorem ef_4_v (m : MethodId) (x0 : Int32) : entryFrame m #[(.int x0)] 1 = mkF m 0 #[.val (.int x0)] [] := by first | (simp [entryFrame, mkF, argsToLocals, Value.category]; done) | rfl
set_option maxRecDepth 65536 in
set_option maxHeartbeats 40000000 in
theorem r4_1 (l : Launch) (Z : State) (a0 : Array Value) (hw : ∀ d ∈ tables_1, d.before a0 Z = true) (p36 : Int32) (w37 : Addr) (h0 : Heap) (n0 : Nat) (Z0 : n0 ≤ h0.size) (H0 : p36 = (0 : Int32)) (H1 : Sta Z h0 "com/example/cordon/cordon/model/Effect" "PERMIT" "Lcom/example/cordon/cordon/model/Effect;" (.ref w37)) :
    OMet l Z (⟨"com/example/cordon/cordon/model/EffectOfPinLaw", "expected", "(I)Lcom/example/cordon/cordon/model/Effect;"⟩ : MethodName) method_3_code 1 (some (.object "com/example/cordon/cordon/model/Effect")) [] ({ frames := 0, cells := 0, slots := 0, locals := 0 } : Room) h0 #[(.int p36)] (OQp (some (.ref w37)) h0 n0) := by
  refine MetFree.of_bodySF (plainFor_of_name pn_com_example_cordon_cordon_model_EffectOfPinLaw) hisR ?_
  intro p e s m args below meth c s₁ Bd hml0 hP hK
  obtain ⟨rfl, hZ, hh⟩ := hP
  have hx := Bd.exec
  have hby := Bd.bytes
  have hml : c.maxLocals = 1 := hml0
  have hown : s.vm.findClass "com/example/cordon/cordon/model/EffectOfPinLaw" = some m.cls := findClass_of_methodNamed Bd.named
  have hnm := (name_of_methodNamed Bd.named Bd.method).1
  have X0 : Stand p l e ({ frames := 0, cells := 0, slots := 0, locals := 0 } : Room) s m #[(.int p36)] below meth c s₁ [] 0 0 := Stand.of_body Bd
  have e0 : s₁.heap = h0 := by rw [← hh, Bd.state]; rfl
  have N0 := Fr.nil n0
  have pre0 : ∀ t, Steps p.tables e below (s₁.setTop (mkF m 0 #[.val (.int p36)] [])) t → Steps p.tables e below (s₁.setTop (entryFrame m #[(.int p36)] 1)) t := fun t k => castTop (ef_4_v m p36) k
  obtain ⟨T38, X38, e38, st38⟩ := getS2 X0 hx hZ hown (host := "") (Or.inl (hw _ (List.mem_of_getElem? (i := 35) rfl))) Via.refl e0 H1 (g := (mkF m 4 #[.val (.int p36)] [])) rfl (hb hby d4_4)
  obtain ⟨fs, hr, hrun, hended, hW, hsame⟩ := X38.leave (v := some (.ref w37)) (fun h => by rw [Bd.returns] at h; cases h)
  refine ⟨_, _, pre0 _ ?_, hrun, hended, _, _, rfl, ?_, ⟨_, rfl⟩, hW, hsame.mono (by decide) (by decide)⟩
  · show Steps p.tables e below (s₁.setTop (mkF m 0 #[.val (.int p36)] [])) _
    refine XS.iloadN X0.here hx rfl (hb hby d4_0) rfl ?_
    show Steps p.tables e below (s₁.setTop (mkF m 1 #[.val (.int p36)] [(.int p36)])) _
    refine XS.ifNo X0.here hx rfl (hb hby d4_1) rfl ((if0 _ _).trans (teq H0).2) ?_
    show Steps p.tables e below (s₁.setTop (mkF m 4 #[.val (.int p36)] [])) _
    refine st38 _ ?_
    show Steps p.tables e below (T38.setTop (mkF m 7 #[.val (.int p36)] [(.ref w37)])) _
    jvm_step X38.here [X38.here.top, hx, (hb hby d4_7), X38.method', Bd.returns, Value.isRef, FieldType.isReference]
    first | (intro acts; rw [hr _ acts rfl rfl rfl]) | rw [hr _ _ rfl rfl rfl]
    exact Steps.refl _
  · show OQp (some (.ref w37)) h0 n0 _ T38.heap _
    rw [e38]
    exact ⟨rfl, N0, rfl⟩
theorem pd_3 : parseMethodDescriptor "(I)Lcom/example/cordon/cordon/model/Effect;" = some ⟨[.int], some (.object "com/example/cordon/cordon/model/Effect")⟩ := by decide +kernel
theorem ef_0_v (m : MethodId) (x0 : Int32) : entryFrame m #[(.int x0)] maxLocals = mkF m 0 #[.val (.int x0), .unset, .unset, .unset] [] := by first | (simp [entryFrame, mkF, argsToLocals, Value.category, maxLocals]; done) | rfl
set_option maxRecDepth 65536 in
set_option maxHeartbeats 40000000 in
theorem r0_1 (l : Launch) (Z : State) (a0 : Array Value) (hw : ∀ d ∈ tables_1, d.before a0 Z = true) (p1 : Int32) (w6 : Addr) (w30 : Addr) (k31 : ClassId) (w32 : Addr) (w33 : Addr) (w34 : Addr) (w35 : Addr) (w40 : Addr) (h0 : Heap) (n0 : Nat) (Z0 : n0 ≤ h0.size) (H0 : ((p1 &&& (2147483647 : Int32)) % (6 : Int32)) = (0 : Int32)) (H1 : Sta Z h0 "com/example/cordon/cordon/model/Decision" "PERMIT" "Lcom/example/cordon/cordon/model/Decision;" (.ref w6)) (H2 : Sta Z h0 "com/example/cordon/cordon/model/Effect" "$VALUES" "[Lcom/example/cordon/cordon/model/Effect;" (.ref w30)) (H3 : Arv Z h0 w30 k31 (.object "com/example/cordon/cordon/model/Effect") (2 : Int32) [(.ref w32), (.ref w33)] .null) (H4 : Exa Z h0 w30 "[Lcom/example/cordon/cordon/model/Effect;") (H5 : Fld Z h0 w32 "com/example/cordon/cordon/model/Effect" "decision" "Lcom/example/cordon/cordon/model/Decision;" (.ref w34)) (H6 : w34 = w6) (H7 : Fld Z h0 w33 "com/example/cordon/cordon/model/Effect" "decision" "Lcom/example/cordon/cordon/model/Decision;" (.ref w35)) (H8 : w35 ≠ w6) (H9 : Sta Z h0 "com/example/cordon/cordon/model/Effect" "PERMIT" "Lcom/example/cordon/cordon/model/Effect;" (.ref w40)) (H10 : w32 = w40) :
    OMet l Z x code maxLocals ret tables_1 room_1 h0 #[(.int p1)] (OQl (some (.int (1 : Int32))) n0) := by
  refine MetFree.of_bodySF (plainFor_of_name pn_com_example_cordon_cordon_model_EffectOfPinLaw) hisR ?_
  intro p e s m args below meth c s₁ Bd hml0 hP hK
  obtain ⟨rfl, hZ, hh⟩ := hP
  have hx := Bd.exec
  have hby := Bd.bytes
  have hml : c.maxLocals = 4 := hml0
  have hown : s.vm.findClass "com/example/cordon/cordon/model/EffectOfPinLaw" = some m.cls := findClass_of_methodNamed Bd.named
  have hnm := (name_of_methodNamed Bd.named Bd.method).1
  have X0 : Stand p l e room_1 s m #[(.int p1)] below meth c s₁ [] 0 0 := Stand.of_body Bd
  have e0 : s₁.heap = h0 := by rw [← hh, Bd.state]; rfl
  have N0 := Fr.nil n0
  have pre0 : ∀ t, Steps p.tables e below (s₁.setTop (mkF m 0 #[.val (.int p1), .unset, .unset, .unset] [])) t → Steps p.tables e below (s₁.setTop (entryFrame m #[(.int p1)] maxLocals)) t := fun t k => castTop (ef_0_v m p1) k
  obtain ⟨_, _, ⟨T5, L5, k5, n5⟩, -, X5, ⟨Lc5, hQ5, l5, y5, z5⟩, st5⟩ := Jvm.LawKit.callS X0 hx (y := (⟨"com/example/cordon/cordon/model/EffectOfPinLaw", "pick", "(I)Lcom/example/cordon/cordon/model/Decision;"⟩ : MethodName)) hown (mvT hZ (hw _ (List.mem_of_getElem? (i := 1) rfl))) (mvT hZ (hw _ (List.mem_of_getElem? (i := 2) rfl))) (mvT hZ (hw _ (List.mem_of_getElem? (i := 3) rfl))) (mvT hZ (hw _ (List.mem_of_getElem? (i := 4) rfl))) (by decide) (backOf (W := 0) (r1_1 l Z a0 hw ((p1 &&& (2147483647 : Int32)) % (6 : Int32)) w6 h0 n0 Z0 H0 H1) hZ (hw _ (List.mem_of_getElem? (i := 4) rfl)) (hw _ (List.mem_of_getElem? (i := 3) rfl)) (by decide) (by decide)) (g := (mkF m 9 #[.val (.int p1), .val (.int ((p1 &&& (2147483647 : Int32)) % (6 : Int32))), .unset, .unset] [(.int ((p1 &&& (2147483647 : Int32)) % (6 : Int32)))])) rfl (by rw [hml]; rfl) (argsL := [(.int ((p1 &&& (2147483647 : Int32)) % (6 : Int32)))]) (rest := []) (lenOf pd_0 rfl) rfl (by show 2 * 0 + _ ≤ _; exact Nat.le_of_eq rfl) (hb hby at_9) (fun _ _ => ⟨rfl, e0, (by decide : 0 + 0 ≤ _), (by decide : 0 + 0 ≤ _)⟩)
  dsimp only [Pt.U, Pt.locs, Pt.cells, Pt.slots] at X5 l5 y5 z5 st5 hQ5
  subst l5 y5 z5
  obtain ⟨rfl, N5q, e5⟩ := hQ5
  have N5 := Fr.app N0 N5q
  obtain ⟨_, _, ⟨T29, L29, k29, n29⟩, -, X29, ⟨Lc29, hQ29, l29, y29, z29⟩, st29⟩ := Jvm.LawKit.callS X5 hx (y := (⟨"com/example/cordon/cordon/model/Effect", "of", "(Lcom/example/cordon/cordon/model/Decision;)Lcom/example/cordon/cordon/model/Effect;"⟩ : MethodName)) hown (mvT hZ (hw _ (List.mem_of_getElem? (i := 8) rfl))) (mvT hZ (hw _ (List.mem_of_getElem? (i := 9) rfl))) (mvT hZ (hw _ (List.mem_of_getElem? (i := 10) rfl))) (mvT hZ (hw _ (List.mem_of_getElem? (i := 11) rfl))) (by decide) (backOf (W := 0) (r2_1 l Z a0 hw w6 w30 k31 w32 w33 w34 w35 h0 n0 Z0 H2 H3 H4 H5 H6 H7 H8) hZ (hw _ (List.mem_of_getElem? (i := 11) rfl)) (hw _ (List.mem_of_getElem? (i := 10) rfl)) (by decide) (by decide)) (g := (mkF m 14 #[.val (.int p1), .val (.int ((p1 &&& (2147483647 : Int32)) % (6 : Int32))), .val (.ref w6), .unset] [(.ref w6)])) rfl (by rw [hml]; rfl) (argsL := [(.ref w6)]) (rest := []) (lenOf pd_2 rfl) rfl (by show 2 * 0 + _ ≤ _; exact Nat.le_of_eq rfl) (hb hby at_14) (fun _ _ => ⟨rfl, e5, (by decide : 0 + 1 ≤ _), (by decide : 0 + 2 ≤ _)⟩)
  dsimp only [Pt.U, Pt.locs, Pt.cells, Pt.slots] at X29 l29 y29 z29 st29 hQ29
  subst l29 y29 z29
  obtain ⟨N29q, b29_0, rfl, ge_b29_0, K29, o29_0, o29_1⟩ := hQ29
  have N29 := Fr.app N5 N29q
  have KC29 := KSx.trans (KSx.refl h0 []) K29 ks0
  have f41 := (H9.ks K29)
  have Z29 : n0 ≤ T29.heap.size := Nat.le_trans Z0 K29.1
  obtain ⟨_, _, ⟨T39, L39, k39, n39⟩, -, X39, ⟨Lc39, hQ39, l39, y39, z39⟩, st39⟩ := Jvm.LawKit.callS X29 hx (y := (⟨"com/example/cordon/cordon/model/EffectOfPinLaw", "expected", "(I)Lcom/example/cordon/cordon/model/Effect;"⟩ : MethodName)) hown (mvT hZ (hw _ (List.mem_of_getElem? (i := 32) rfl))) (mvT hZ (hw _ (List.mem_of_getElem? (i := 33) rfl))) (mvT hZ (hw _ (List.mem_of_getElem? (i := 3) rfl))) (mvT hZ (hw _ (List.mem_of_getElem? (i := 34) rfl))) (by decide) (backOf (W := 1) (r4_1 l Z a0 hw ((p1 &&& (2147483647 : Int32)) % (6 : Int32)) w40 T29.heap n0 Z29 H0 f41) hZ (hw _ (List.mem_of_getElem? (i := 34) rfl)) (hw _ (List.mem_of_getElem? (i := 3) rfl)) (by decide) (by decide)) (g := (mkF m 20 #[.val (.int p1), .val (.int ((p1 &&& (2147483647 : Int32)) % (6 : Int32))), .val (.ref w6), .val (.ref w32)] [(.int ((p1 &&& (2147483647 : Int32)) % (6 : Int32))), (.ref w32)])) rfl (by rw [hml]; rfl) (argsL := [(.int ((p1 &&& (2147483647 : Int32)) % (6 : Int32)))]) (rest := [(.ref w32)]) (lenOf pd_3 rfl) rfl (by show 2 * 0 + _ ≤ _; exact Nat.le_of_eq rfl) (hb hby at_20) (fun _ _ => ⟨rfl, rfl, (by decide : 1 + 0 ≤ _), (by decide : 2 + 0 ≤ _)⟩)
  dsimp only [Pt.U, Pt.locs, Pt.cells, Pt.slots] at X39 l39 y39 z39 st39 hQ39
  subst l39 y39 z39
  obtain ⟨rfl, N39q, e39⟩ := hQ39
  have N39 := Fr.app N29 N39q
  obtain ⟨fs, hr, hrun, hended, hW, hsame⟩ := X39.leave (v := some (.int (1 : Int32))) (fun h => by rw [Bd.returns] at h; cases h)
  refine ⟨_, _, pre0 _ ?_, hrun, hended, _, _, rfl, ?_, ⟨_, rfl⟩, hW, hsame.mono (by decide) (by decide)⟩
  · show Steps p.tables e below (s₁.setTop (mkF m 0 #[.val (.int p1), .unset, .unset, .unset] [])) _
    refine XS.iloadN X0.here hx rfl (hb hby at_0) rfl ?_
    show Steps p.tables e below (s₁.setTop (mkF m 1 #[.val (.int p1), .unset, .unset, .unset] [(.int p1)])) _
    refine X0.ldcInt hx hown (mvT hZ (hw _ (List.mem_of_getElem? (i := 0) rfl))) (g := (mkF m 1 #[.val (.int p1), .unset, .unset, .unset] [(.int p1)])) rfl (hb hby at_1) _ ?_
    show Steps p.tables e below (s₁.setTop (mkF m 3 #[.val (.int p1), .unset, .unset, .unset] [(.int (2147483647 : Int32)), (.int p1)])) _
    refine XS.iand X0.here hx rfl (hb hby at_3) rfl ?_
    show Steps p.tables e below (s₁.setTop (mkF m 4 #[.val (.int p1), .unset, .unset, .unset] [(.int (p1 &&& (2147483647 : Int32)))])) _
    refine XS.bipush X0.here hx rfl (hb hby at_4) ?_
    show Steps p.tables e below (s₁.setTop (mkF m 6 #[.val (.int p1), .unset, .unset, .unset] [(.int (6 : Int32)), (.int (p1 &&& (2147483647 : Int32)))])) _
    refine iremM X0 hx rfl (hb hby at_6) rfl (by decide) ?_
    show Steps p.tables e below (s₁.setTop (mkF m 7 #[.val (.int p1), .unset, .unset, .unset] [(.int ((p1 &&& (2147483647 : Int32)) % (6 : Int32)))])) _
    refine XS.istoreN X0.here hx rfl (hb hby at_7) rfl (l' := #[.val (.int p1), .val (.int ((p1 &&& (2147483647 : Int32)) % (6 : Int32))), .unset, .unset]) rfl ?_
    show Steps p.tables e below (s₁.setTop (mkF m 8 #[.val (.int p1), .val (.int ((p1 &&& (2147483647 : Int32)) % (6 : Int32))), .unset, .unset] [])) _
    refine XS.iloadN X0.here hx rfl (hb hby at_8) rfl ?_
    show Steps p.tables e below (s₁.setTop (mkF m 9 #[.val (.int p1), .val (.int ((p1 &&& (2147483647 : Int32)) % (6 : Int32))), .unset, .unset] [(.int ((p1 &&& (2147483647 : Int32)) % (6 : Int32)))])) _
    refine st5 _ ?_
    show Steps p.tables e below (T5.setTop (mkF m 12 #[.val (.int p1), .val (.int ((p1 &&& (2147483647 : Int32)) % (6 : Int32))), .unset, .unset] [(.ref w6)])) _
    refine XS.astoreN X5.here hx rfl (hb hby at_12) rfl rfl (l' := #[.val (.int p1), .val (.int ((p1 &&& (2147483647 : Int32)) % (6 : Int32))), .val (.ref w6), .unset]) rfl ?_
    show Steps p.tables e below (T5.setTop (mkF m 13 #[.val (.int p1), .val (.int ((p1 &&& (2147483647 : Int32)) % (6 : Int32))), .val (.ref w6), .unset] [])) _
    refine XS.aloadN X5.here hx rfl (hb hby at_13) rfl rfl ?_
    show Steps p.tables e below (T5.setTop (mkF m 14 #[.val (.int p1), .val (.int ((p1 &&& (2147483647 : Int32)) % (6 : Int32))), .val (.ref w6), .unset] [(.ref w6)])) _
    refine st29 _ ?_
    show Steps p.tables e below (T29.setTop (mkF m 17 #[.val (.int p1), .val (.int ((p1 &&& (2147483647 : Int32)) % (6 : Int32))), .val (.ref w6), .unset] [(.ref w32)])) _
    refine XS.astoreN X29.here hx rfl (hb hby at_17) rfl rfl (l' := #[.val (.int p1), .val (.int ((p1 &&& (2147483647 : Int32)) % (6 : Int32))), .val (.ref w6), .val (.ref w32)]) rfl ?_
    show Steps p.tables e below (T29.setTop (mkF m 18 #[.val (.int p1), .val (.int ((p1 &&& (2147483647 : Int32)) % (6 : Int32))), .val (.ref w6), .val (.ref w32)] [])) _
    refine XS.aloadN X29.here hx rfl (hb hby at_18) rfl rfl ?_
    show Steps p.tables e below (T29.setTop (mkF m 19 #[.val (.int p1), .val (.int ((p1 &&& (2147483647 : Int32)) % (6 : Int32))), .val (.ref w6), .val (.ref w32)] [(.ref w32)])) _
    refine XS.iloadN X29.here hx rfl (hb hby at_19) rfl ?_
    show Steps p.tables e below (T29.setTop (mkF m 20 #[.val (.int p1), .val (.int ((p1 &&& (2147483647 : Int32)) % (6 : Int32))), .val (.ref w6), .val (.ref w32)] [(.int ((p1 &&& (2147483647 : Int32)) % (6 : Int32))), (.ref w32)])) _
    refine st39 _ ?_
    show Steps p.tables e below (T39.setTop (mkF m 23 #[.val (.int p1), .val (.int ((p1 &&& (2147483647 : Int32)) % (6 : Int32))), .val (.ref w6), .val (.ref w32)] [(.ref w40), (.ref w32)])) _
    refine Jvm.RoadKit.acmp (g := (mkF m 23 #[.val (.int p1), .val (.int ((p1 &&& (2147483647 : Int32)) % (6 : Int32))), .val (.ref w6), .val (.ref w32)] [(.ref w40), (.ref w32)])) X39 hx rfl rfl rfl (pc0 := 23) (pc' := 26) (same := true) rfl (hb hby at_23) rfl (decide_eq_true (congrArg Value.ref H10)) (by decide) (by decide) ?_
    show Steps p.tables e below (T39.setTop (mkF m 26 #[.val (.int p1), .val (.int ((p1 &&& (2147483647 : Int32)) % (6 : Int32))), .val (.ref w6), .val (.ref w32)] [])) _
    refine XS.iconst X39.here hx rfl (hb hby at_26) ?_
    show Steps p.tables e below (T39.setTop (mkF m 27 #[.val (.int p1), .val (.int ((p1 &&& (2147483647 : Int32)) % (6 : Int32))), .val (.ref w6), .val (.ref w32)] [(.int (1 : Int32))])) _
    refine XS.goto X39.here hx rfl (pc0 := 27) (pc' := 31) rfl (hb hby at_27) (by decide) (by decide) ?_
    show Steps p.tables e below (T39.setTop (mkF m 31 #[.val (.int p1), .val (.int ((p1 &&& (2147483647 : Int32)) % (6 : Int32))), .val (.ref w6), .val (.ref w32)] [(.int (1 : Int32))])) _
    exact retN X39 hx (t := .boolean) Bd.returns (by simp) (hb hby at_31) hr
  · show OQl (some (.int (1 : Int32))) n0 _ T39.heap _
    exact ⟨rfl, N39⟩
theorem d1_8 : decode method_2_code 8 = .ok (.iload_n 0, 1) := by decide +kernel
theorem d1_9 : decode method_2_code 9 = .ok (.iconst 1, 1) := by decide +kernel
theorem d1_10 : decode method_2_code 10 = .ok (.if_icmp .ne 7, 3) := by decide +kernel
theorem d1_13 : decode method_2_code 13 = .ok (.getstatic 13, 3) := by decide +kernel
theorem d1_16 : decode method_2_code 16 = .ok (.areturn, 1) := by decide +kernel
set_option maxRecDepth 65536 in
set_option maxHeartbeats 40000000 in
theorem r1_2 (l : Launch) (Z : State) (a0 : Array Value) (hw : ∀ d ∈ tables_1, d.before a0 Z = true) (p43 : Int32) (w44 : Addr) (h0 : Heap) (n0 : Nat) (Z0 : n0 ≤ h0.size) (H0 : ¬ (p43 = (0 : Int32))) (H1 : p43 = (1 : Int32)) (H2 : Sta Z h0 "com/example/cordon/cordon/model/Decision" "DENY" "Lcom/example/cordon/cordon/model/Decision;" (.ref w44)) :
    OMet l Z (⟨"com/example/cordon/cordon/model/EffectOfPinLaw", "pick", "(I)Lcom/example/cordon/cordon/model/Decision;"⟩ : MethodName) method_2_code 1 (some (.object "com/example/cordon/cordon/model/Decision")) [] ({ frames := 0, cells := 0, slots := 0, locals := 0 } : Room) h0 #[(.int p43)] (OQp (some (.ref w44)) h0 n0) := by
  refine MetFree.of_bodySF (plainFor_of_name pn_com_example_cordon_cordon_model_EffectOfPinLaw) hisR ?_
  intro p e s m args below meth c s₁ Bd hml0 hP hK
  obtain ⟨rfl, hZ, hh⟩ := hP
  have hx := Bd.exec
  have hby := Bd.bytes
  have hml : c.maxLocals = 1 := hml0
  have hown : s.vm.findClass "com/example/cordon/cordon/model/EffectOfPinLaw" = some m.cls := findClass_of_methodNamed Bd.named
  have hnm := (name_of_methodNamed Bd.named Bd.method).1
  have X0 : Stand p l e ({ frames := 0, cells := 0, slots := 0, locals := 0 } : Room) s m #[(.int p43)] below meth c s₁ [] 0 0 := Stand.of_body Bd
  have e0 : s₁.heap = h0 := by rw [← hh, Bd.state]; rfl
  have N0 := Fr.nil n0
  have pre0 : ∀ t, Steps p.tables e below (s₁.setTop (mkF m 0 #[.val (.int p43)] [])) t → Steps p.tables e below (s₁.setTop (entryFrame m #[(.int p43)] 1)) t := fun t k => castTop (ef_1_v m p43) k
  obtain ⟨T45, X45, e45, st45⟩ := getS2 X0 hx hZ hown (host := "") (Or.inl (hw _ (List.mem_of_getElem? (i := 40) rfl))) Via.refl e0 H2 (g := (mkF m 13 #[.val (.int p43)] [])) rfl (hb hby d1_13)
  obtain ⟨fs, hr, hrun, hended, hW, hsame⟩ := X45.leave (v := some (.ref w44)) (fun h => by rw [Bd.returns] at h; cases h)
  refine ⟨_, _, pre0 _ ?_, hrun, hended, _, _, rfl, ?_, ⟨_, rfl⟩, hW, hsame.mono (by decide) (by decide)⟩
  · show Steps p.tables e below (s₁.setTop (mkF m 0 #[.val (.int p43)] [])) _
    refine XS.iloadN X0.here hx rfl (hb hby d1_0) rfl ?_
    show Steps p.tables e below (s₁.setTop (mkF m 1 #[.val (.int p43)] [(.int p43)])) _
    refine XS.ifYes X0.here hx rfl (pc0 := 1) (pc' := 8) rfl (hb hby d1_1) rfl ((if0 _ _).trans (feq H0).2) (by decide) (by decide) ?_
    show Steps p.tables e below (s₁.setTop (mkF m 8 #[.val (.int p43)] [])) _
    refine XS.iloadN X0.here hx rfl (hb hby d1_8) rfl ?_
    show Steps p.tables e below (s₁.setTop (mkF m 9 #[.val (.int p43)] [(.int p43)])) _
    refine XS.iconst X0.here hx rfl (hb hby d1_9) ?_
    show Steps p.tables e below (s₁.setTop (mkF m 10 #[.val (.int p43)] [(.int (1 : Int32)), (.int p43)])) _
    refine XS.icmpNo X0.here hx rfl (hb hby d1_10) rfl (teq H1).2 ?_
    show Steps p.tables e below (s₁.setTop (mkF m 13 #[.val (.int p43)] [])) _
    refine st45 _ ?_
    show Steps p.tables e below (T45.setTop (mkF m 16 #[.val (.int p43)] [(.ref w44)])) _
    jvm_step X45.here [X45.here.top, hx, (hb hby d1_16), X45.method', Bd.returns, Value.isRef, FieldType.isReference]
    first | (intro acts; rw [hr _ acts rfl rfl rfl]) | rw [hr _ _ rfl rfl rfl]
    exact Steps.refl _
  · show OQp (some (.ref w44)) h0 n0 _ T45.heap _
    rw [e45]
    exact ⟨rfl, N0, rfl⟩
def Qr2_2 (Z : State) (a48 : Addr) (w57 : Addr) (k58 : ClassId) (w59 : Addr) (w60 : Addr) (w63 : Addr) (w67 : Addr) (h0 : Heap) (n0 : Nat) (v : Option Value) (h : Heap) (L : List Loc) : Prop := Fr n0 L ∧ ∃ b56_0 : Addr, v = some (.ref w60) ∧ h0.size ≤ b56_0 ∧ KSx h0 h [] ∧ Exa Z h b56_0 "[Lcom/example/cordon/cordon/model/Effect;" ∧ Arv Z h b56_0 k58 (.object "com/example/cordon/cordon/model/Effect") (2 : Int32) [(.ref w59), (.ref w60)] .null
set_option maxRecDepth 65536 in
set_option maxHeartbeats 40000000 in
theorem r2_2 (l : Launch) (Z : State) (a0 : Array Value) (hw : ∀ d ∈ tables_1, d.before a0 Z = true) (a48 : Addr) (w57 : Addr) (k58 : ClassId) (w59 : Addr) (w60 : Addr) (w63 : Addr) (w67 : Addr) (h0 : Heap) (n0 : Nat) (Z0 : n0 ≤ h0.size) (H0 : Sta Z h0 "com/example/cordon/cordon/model/Effect" "$VALUES" "[Lcom/example/cordon/cordon/model/Effect;" (.ref w57)) (H1 : Arv Z h0 w57 k58 (.object "com/example/cordon/cordon/model/Effect") (2 : Int32) [(.ref w59), (.ref w60)] .null) (H2 : Exa Z h0 w57 "[Lcom/example/cordon/cordon/model/Effect;") (H3 : Fld Z h0 w59 "com/example/cordon/cordon/model/Effect" "decision" "Lcom/example/cordon/cordon/model/Decision;" (.ref w63)) (H4 : w63 ≠ a48) (H5 : Fld Z h0 w60 "com/example/cordon/cordon/model/Effect" "decision" "Lcom/example/cordon/cordon/model/Decision;" (.ref w67)) (H6 : w67 = a48) :
    OMet l Z (⟨"com/example/cordon/cordon/model/Effect", "of", "(Lcom/example/cordon/cordon/model/Decision;)Lcom/example/cordon/cordon/model/Effect;"⟩ : MethodName) prog_28_method_4_code 6 (some (.object "com/example/cordon/cordon/model/Effect")) [] ({ frames := 2, cells := 1, slots := 2, locals := 25 } : Room) h0 #[(.ref a48)] (Qr2_2 Z a48 w57 k58 w59 w60 w63 w67 h0 n0) := by
  refine MetFree.of_bodySF (plainFor_of_name pn_com_example_cordon_cordon_model_Effect) hisR ?_
  intro p e s m args below meth c s₁ Bd hml0 hP hK
  obtain ⟨rfl, hZ, hh⟩ := hP
  have hx := Bd.exec
  have hby := Bd.bytes
  have hml : c.maxLocals = 6 := hml0
  have hown : s.vm.findClass "com/example/cordon/cordon/model/Effect" = some m.cls := findClass_of_methodNamed Bd.named
  have hnm := (name_of_methodNamed Bd.named Bd.method).1
  have X0 : Stand p l e ({ frames := 2, cells := 1, slots := 2, locals := 25 } : Room) s m #[(.ref a48)] below meth c s₁ [] 0 0 := Stand.of_body Bd
  have e0 : s₁.heap = h0 := by rw [← hh, Bd.state]; rfl
  have N0 := Fr.nil n0
  have pre0 : ∀ t, Steps p.tables e below (s₁.setTop (mkF m 0 #[.val (.ref a48), .unset, .unset, .unset, .unset, .unset] [])) t → Steps p.tables e below (s₁.setTop (entryFrame m #[(.ref a48)] 6)) t := fun t k => castTop (ef_2_v m a48) k
  obtain ⟨_, _, ⟨T56, L56, k56, n56⟩, -, X56, ⟨Lc56, hQ56, l56, y56, z56⟩, st56⟩ := Jvm.LawKit.callS X0 hx (y := (⟨"com/example/cordon/cordon/model/Effect", "values", "()[Lcom/example/cordon/cordon/model/Effect;"⟩ : MethodName)) hown (mvT hZ (hw _ (List.mem_of_getElem? (i := 12) rfl))) (mvT hZ (hw _ (List.mem_of_getElem? (i := 13) rfl))) (mvT hZ (hw _ (List.mem_of_getElem? (i := 10) rfl))) (mvT hZ (hw _ (List.mem_of_getElem? (i := 14) rfl))) (by decide) (backOf (W := 0) (r3_1 l Z a0 hw w57 k58 w59 w60 h0 n0 Z0 H0 H1 H2) hZ (hw _ (List.mem_of_getElem? (i := 14) rfl)) (hw _ (List.mem_of_getElem? (i := 10) rfl)) (by decide) (by decide)) (g := (mkF m 2 #[.val (.ref a48), .val .null, .unset, .unset, .unset, .unset] [])) rfl (by rw [hml]; rfl) (argsL := []) (rest := []) (lenOf pd_1 rfl) rfl (by show 2 * 0 + _ ≤ _; exact Nat.le_of_eq rfl) (hb hby d2_2) (fun _ _ => ⟨rfl, e0, (by decide : 0 + 1 ≤ _), (by decide : 0 + 2 ≤ _)⟩)
  dsimp only [Pt.U, Pt.locs, Pt.cells, Pt.slots] at X56 l56 y56 z56 st56 hQ56
  subst l56 y56 z56
  obtain ⟨N56q, b56_0, rfl, ge_b56_0, K56, o56_0, o56_1⟩ := hQ56
  have N56 := Fr.app N0 N56q
  have KC56 := KSx.trans (KSx.refl h0 []) K56 ks0
  have vc61 := o56_1
  obtain ⟨cl61, Ar61, q61, S61, N61, Hh61, G61⟩ := vc61
  have vc62 := o56_1
  obtain ⟨cl62, Ar62, q62, S62, N62, Hh62, G62⟩ := vc62
  have hin62 : ¬ ((0 : Int32) < 0 ∨ cl62.slots.size ≤ ((0 : Int32)).toNatClampNeg) := inb_of S62 ⟨by decide, by decide⟩
  have hat62 : cl62.slots[((0 : Int32)).toNatClampNeg]? = some (.ref w59) := Has.at Hh62 hin62 rfl
  have f64 := (H3.ks K56 ks0)
  obtain ⟨T65, X65, e65, st65⟩ := getF X56 hx hZ hown (host := "") (Or.inl (hw _ (List.mem_of_getElem? (i := 29) rfl))) Via.refl rfl f64 (g := (mkF m 26 #[.val (.ref a48), .val .null, .val (.ref b56_0), .val (.int (2 : Int32)), .val (.int (0 : Int32)), .val (.ref w59)] [(.ref w59)])) rfl rfl (hb hby d2_26)
  have vc66 := o56_1
  obtain ⟨cl66, Ar66, q66, S66, N66, Hh66, G66⟩ := vc66
  have hin66 : ¬ ((1 : Int32) < 0 ∨ cl66.slots.size ≤ ((1 : Int32)).toNatClampNeg) := inb_of S66 ⟨by decide, by decide⟩
  have hat66 : cl66.slots[((1 : Int32)).toNatClampNeg]? = some (.ref w60) := Has.at Hh66 hin66 rfl
  have f68 := (H5.ks K56 ks0)
  obtain ⟨T69, X69, e69, st69⟩ := getF X65 hx hZ hown (host := "") (Or.inl (hw _ (List.mem_of_getElem? (i := 29) rfl))) Via.refl e65 f68 (g := (mkF m 26 #[.val (.ref a48), .val .null, .val (.ref b56_0), .val (.int (2 : Int32)), .val (.int (1 : Int32)), .val (.ref w60)] [(.ref w60)])) rfl rfl (hb hby d2_26)
  obtain ⟨fs, hr, hrun, hended, hW, hsame⟩ := X69.leave (v := some (.ref w60)) (fun h => by rw [Bd.returns] at h; cases h)
  refine ⟨_, _, pre0 _ ?_, hrun, hended, _, _, rfl, ?_, ⟨_, rfl⟩, hW, hsame.mono (by decide) (by decide)⟩
  · show Steps p.tables e below (s₁.setTop (mkF m 0 #[.val (.ref a48), .unset, .unset, .unset, .unset, .unset] [])) _
    refine XS.aconstNull X0.here hx rfl (hb hby d2_0) ?_
    show Steps p.tables e below (s₁.setTop (mkF m 1 #[.val (.ref a48), .unset, .unset, .unset, .unset, .unset] [.null])) _
    refine XS.astoreN X0.here hx rfl (hb hby d2_1) rfl rfl (l' := #[.val (.ref a48), .val .null, .unset, .unset, .unset, .unset]) rfl ?_
    show Steps p.tables e below (s₁.setTop (mkF m 2 #[.val (.ref a48), .val .null, .unset, .unset, .unset, .unset] [])) _
    refine st56 _ ?_
    show Steps p.tables e below (T56.setTop (mkF m 5 #[.val (.ref a48), .val .null, .unset, .unset, .unset, .unset] [(.ref b56_0)])) _
    refine XS.astoreN X56.here hx rfl (hb hby d2_5) rfl rfl (l' := #[.val (.ref a48), .val .null, .val (.ref b56_0), .unset, .unset, .unset]) rfl ?_
    show Steps p.tables e below (T56.setTop (mkF m 6 #[.val (.ref a48), .val .null, .val (.ref b56_0), .unset, .unset, .unset] [])) _
    refine XS.aloadN X56.here hx rfl (hb hby d2_6) rfl rfl ?_
    show Steps p.tables e below (T56.setTop (mkF m 7 #[.val (.ref a48), .val .null, .val (.ref b56_0), .unset, .unset, .unset] [(.ref b56_0)])) _
    refine X56.arraylength hx (Ar61.1) (State.isArrayOf_alike hZ.alike Ar61.2.1) (g := (mkF m 7 #[.val (.ref a48), .val .null, .val (.ref b56_0), .unset, .unset, .unset] [(.ref b56_0)])) rfl rfl (hb hby d2_7) _ ?_
    rw [len_of S61 N61]
    show Steps p.tables e below (T56.setTop (mkF m 8 #[.val (.ref a48), .val .null, .val (.ref b56_0), .unset, .unset, .unset] [(.int (2 : Int32))])) _
    refine XS.istoreN X56.here hx rfl (hb hby d2_8) rfl (l' := #[.val (.ref a48), .val .null, .val (.ref b56_0), .val (.int (2 : Int32)), .unset, .unset]) rfl ?_
    show Steps p.tables e below (T56.setTop (mkF m 9 #[.val (.ref a48), .val .null, .val (.ref b56_0), .val (.int (2 : Int32)), .unset, .unset] [])) _
    refine XS.iconst X56.here hx rfl (hb hby d2_9) ?_
    show Steps p.tables e below (T56.setTop (mkF m 10 #[.val (.ref a48), .val .null, .val (.ref b56_0), .val (.int (2 : Int32)), .unset, .unset] [(.int (0 : Int32))])) _
    refine XS.istore X56.here hx rfl (hb hby d2_10) rfl (l' := #[.val (.ref a48), .val .null, .val (.ref b56_0), .val (.int (2 : Int32)), .val (.int (0 : Int32)), .unset]) rfl ?_
    show Steps p.tables e below (T56.setTop (mkF m 12 #[.val (.ref a48), .val .null, .val (.ref b56_0), .val (.int (2 : Int32)), .val (.int (0 : Int32)), .unset] [])) _
    refine XS.iload X56.here hx rfl (hb hby d2_12) rfl ?_
    show Steps p.tables e below (T56.setTop (mkF m 14 #[.val (.ref a48), .val .null, .val (.ref b56_0), .val (.int (2 : Int32)), .val (.int (0 : Int32)), .unset] [(.int (0 : Int32))])) _
    refine XS.iloadN X56.here hx rfl (hb hby d2_14) rfl ?_
    show Steps p.tables e below (T56.setTop (mkF m 15 #[.val (.ref a48), .val .null, .val (.ref b56_0), .val (.int (2 : Int32)), .val (.int (0 : Int32)), .unset] [(.int (2 : Int32)), (.int (0 : Int32))])) _
    refine XS.icmpNo X56.here hx rfl (hb hby d2_15) rfl (tlt (by decide : (0 : Int32) < (2 : Int32))).2.1 ?_
    show Steps p.tables e below (T56.setTop (mkF m 18 #[.val (.ref a48), .val .null, .val (.ref b56_0), .val (.int (2 : Int32)), .val (.int (0 : Int32)), .unset] [])) _
    refine XS.aloadN X56.here hx rfl (hb hby d2_18) rfl rfl ?_
    show Steps p.tables e below (T56.setTop (mkF m 19 #[.val (.ref a48), .val .null, .val (.ref b56_0), .val (.int (2 : Int32)), .val (.int (0 : Int32)), .unset] [(.ref b56_0)])) _
    refine XS.iload X56.here hx rfl (hb hby d2_19) rfl ?_
    show Steps p.tables e below (T56.setTop (mkF m 21 #[.val (.ref a48), .val .null, .val (.ref b56_0), .val (.int (2 : Int32)), .val (.int (0 : Int32)), .unset] [(.int (0 : Int32)), (.ref b56_0)])) _
    refine X56.aaload hx (j := (0 : Int32)) (v := (.ref w59)) (Ar62.1) (State.isArrayOf_alike hZ.alike Ar62.2.1) rfl Ar62.2.2 hin62 hat62 (g := (mkF m 21 #[.val (.ref a48), .val .null, .val (.ref b56_0), .val (.int (2 : Int32)), .val (.int (0 : Int32)), .unset] [(.int (0 : Int32)), (.ref b56_0)])) rfl rfl (hb hby d2_21) _ ?_
    show Steps p.tables e below (T56.setTop (mkF m 22 #[.val (.ref a48), .val .null, .val (.ref b56_0), .val (.int (2 : Int32)), .val (.int (0 : Int32)), .unset] [(.ref w59)])) _
    refine XS.astore X56.here hx rfl (hb hby d2_22) rfl rfl (l' := #[.val (.ref a48), .val .null, .val (.ref b56_0), .val (.int (2 : Int32)), .val (.int (0 : Int32)), .val (.ref w59)]) rfl ?_
    show Steps p.tables e below (T56.setTop (mkF m 24 #[.val (.ref a48), .val .null, .val (.ref b56_0), .val (.int (2 : Int32)), .val (.int (0 : Int32)), .val (.ref w59)] [])) _
    refine XS.aload X56.here hx rfl (hb hby d2_24) rfl rfl ?_
    show Steps p.tables e below (T56.setTop (mkF m 26 #[.val (.ref a48), .val .null, .val (.ref b56_0), .val (.int (2 : Int32)), .val (.int (0 : Int32)), .val (.ref w59)] [(.ref w59)])) _
    refine st65 _ ?_
    show Steps p.tables e below (T65.setTop (mkF m 29 #[.val (.ref a48), .val .null, .val (.ref b56_0), .val (.int (2 : Int32)), .val (.int (0 : Int32)), .val (.ref w59)] [(.ref w63)])) _
    refine XS.aloadN X65.here hx rfl (hb hby d2_29) rfl rfl ?_
    show Steps p.tables e below (T65.setTop (mkF m 30 #[.val (.ref a48), .val .null, .val (.ref b56_0), .val (.int (2 : Int32)), .val (.int (0 : Int32)), .val (.ref w59)] [(.ref a48), (.ref w63)])) _
    refine Jvm.RoadKit.acmp (g := (mkF m 30 #[.val (.ref a48), .val .null, .val (.ref b56_0), .val (.int (2 : Int32)), .val (.int (0 : Int32)), .val (.ref w59)] [(.ref a48), (.ref w63)])) X65 hx rfl rfl rfl (pc0 := 30) (pc' := 38) (same := false) rfl (hb hby d2_30) rfl (decide_eq_false fun q => H4 (Value.ref.inj q)) (by decide) (by decide) ?_
    show Steps p.tables e below (T65.setTop (mkF m 38 #[.val (.ref a48), .val .null, .val (.ref b56_0), .val (.int (2 : Int32)), .val (.int (0 : Int32)), .val (.ref w59)] [])) _
    refine XS.aloadN X65.here hx rfl (hb hby d2_38) rfl rfl ?_
    show Steps p.tables e below (T65.setTop (mkF m 39 #[.val (.ref a48), .val .null, .val (.ref b56_0), .val (.int (2 : Int32)), .val (.int (0 : Int32)), .val (.ref w59)] [.null])) _
    refine XS.astoreN X65.here hx rfl (hb hby d2_39) rfl rfl (l' := #[.val (.ref a48), .val .null, .val (.ref b56_0), .val (.int (2 : Int32)), .val (.int (0 : Int32)), .val (.ref w59)]) rfl ?_
    show Steps p.tables e below (T65.setTop (mkF m 40 #[.val (.ref a48), .val .null, .val (.ref b56_0), .val (.int (2 : Int32)), .val (.int (0 : Int32)), .val (.ref w59)] [])) _
    refine XS.iinc X65.here hx rfl (hb hby d2_40) rfl (l' := #[.val (.ref a48), .val .null, .val (.ref b56_0), .val (.int (2 : Int32)), .val (.int (1 : Int32)), .val (.ref w59)]) rfl ?_
    show Steps p.tables e below (T65.setTop (mkF m 43 #[.val (.ref a48), .val .null, .val (.ref b56_0), .val (.int (2 : Int32)), .val (.int (1 : Int32)), .val (.ref w59)] [])) _
    refine XS.goto X65.here hx rfl (pc0 := 43) (pc' := 12) rfl (hb hby d2_43) (by decide) (by decide) ?_
    show Steps p.tables e below (T65.setTop (mkF m 12 #[.val (.ref a48), .val .null, .val (.ref b56_0), .val (.int (2 : Int32)), .val (.int (1 : Int32)), .val (.ref w59)] [])) _
    refine XS.iload X65.here hx rfl (hb hby d2_12) rfl ?_
    show Steps p.tables e below (T65.setTop (mkF m 14 #[.val (.ref a48), .val .null, .val (.ref b56_0), .val (.int (2 : Int32)), .val (.int (1 : Int32)), .val (.ref w59)] [(.int (1 : Int32))])) _
    refine XS.iloadN X65.here hx rfl (hb hby d2_14) rfl ?_
    show Steps p.tables e below (T65.setTop (mkF m 15 #[.val (.ref a48), .val .null, .val (.ref b56_0), .val (.int (2 : Int32)), .val (.int (1 : Int32)), .val (.ref w59)] [(.int (2 : Int32)), (.int (1 : Int32))])) _
    refine XS.icmpNo X65.here hx rfl (hb hby d2_15) rfl (tlt (by decide : (1 : Int32) < (2 : Int32))).2.1 ?_
    show Steps p.tables e below (T65.setTop (mkF m 18 #[.val (.ref a48), .val .null, .val (.ref b56_0), .val (.int (2 : Int32)), .val (.int (1 : Int32)), .val (.ref w59)] [])) _
    refine XS.aloadN X65.here hx rfl (hb hby d2_18) rfl rfl ?_
    show Steps p.tables e below (T65.setTop (mkF m 19 #[.val (.ref a48), .val .null, .val (.ref b56_0), .val (.int (2 : Int32)), .val (.int (1 : Int32)), .val (.ref w59)] [(.ref b56_0)])) _
    refine XS.iload X65.here hx rfl (hb hby d2_19) rfl ?_
    show Steps p.tables e below (T65.setTop (mkF m 21 #[.val (.ref a48), .val .null, .val (.ref b56_0), .val (.int (2 : Int32)), .val (.int (1 : Int32)), .val (.ref w59)] [(.int (1 : Int32)), (.ref b56_0)])) _
    refine X65.aaload hx (j := (1 : Int32)) (v := (.ref w60)) (by rw [e65]; exact Ar66.1) (State.isArrayOf_alike hZ.alike Ar66.2.1) rfl Ar66.2.2 hin66 hat66 (g := (mkF m 21 #[.val (.ref a48), .val .null, .val (.ref b56_0), .val (.int (2 : Int32)), .val (.int (1 : Int32)), .val (.ref w59)] [(.int (1 : Int32)), (.ref b56_0)])) rfl rfl (hb hby d2_21) _ ?_
    show Steps p.tables e below (T65.setTop (mkF m 22 #[.val (.ref a48), .val .null, .val (.ref b56_0), .val (.int (2 : Int32)), .val (.int (1 : Int32)), .val (.ref w59)] [(.ref w60)])) _
    refine XS.astore X65.here hx rfl (hb hby d2_22) rfl rfl (l' := #[.val (.ref a48), .val .null, .val (.ref b56_0), .val (.int (2 : Int32)), .val (.int (1 : Int32)), .val (.ref w60)]) rfl ?_
    show Steps p.tables e below (T65.setTop (mkF m 24 #[.val (.ref a48), .val .null, .val (.ref b56_0), .val (.int (2 : Int32)), .val (.int (1 : Int32)), .val (.ref w60)] [])) _
    refine XS.aload X65.here hx rfl (hb hby d2_24) rfl rfl ?_
    show Steps p.tables e below (T65.setTop (mkF m 26 #[.val (.ref a48), .val .null, .val (.ref b56_0), .val (.int (2 : Int32)), .val (.int (1 : Int32)), .val (.ref w60)] [(.ref w60)])) _
    refine st69 _ ?_
    show Steps p.tables e below (T69.setTop (mkF m 29 #[.val (.ref a48), .val .null, .val (.ref b56_0), .val (.int (2 : Int32)), .val (.int (1 : Int32)), .val (.ref w60)] [(.ref w67)])) _
    refine XS.aloadN X69.here hx rfl (hb hby d2_29) rfl rfl ?_
    show Steps p.tables e below (T69.setTop (mkF m 30 #[.val (.ref a48), .val .null, .val (.ref b56_0), .val (.int (2 : Int32)), .val (.int (1 : Int32)), .val (.ref w60)] [(.ref a48), (.ref w67)])) _
    refine Jvm.RoadKit.acmp (g := (mkF m 30 #[.val (.ref a48), .val .null, .val (.ref b56_0), .val (.int (2 : Int32)), .val (.int (1 : Int32)), .val (.ref w60)] [(.ref a48), (.ref w67)])) X69 hx rfl rfl rfl (pc0 := 30) (pc' := 33) (same := true) rfl (hb hby d2_30) rfl (decide_eq_true (congrArg Value.ref H6)) (by decide) (by decide) ?_
    show Steps p.tables e below (T69.setTop (mkF m 33 #[.val (.ref a48), .val .null, .val (.ref b56_0), .val (.int (2 : Int32)), .val (.int (1 : Int32)), .val (.ref w60)] [])) _
    refine XS.aload X69.here hx rfl (hb hby d2_33) rfl rfl ?_
    show Steps p.tables e below (T69.setTop (mkF m 35 #[.val (.ref a48), .val .null, .val (.ref b56_0), .val (.int (2 : Int32)), .val (.int (1 : Int32)), .val (.ref w60)] [(.ref w60)])) _
    refine XS.goto X69.here hx rfl (pc0 := 35) (pc' := 39) rfl (hb hby d2_35) (by decide) (by decide) ?_
    show Steps p.tables e below (T69.setTop (mkF m 39 #[.val (.ref a48), .val .null, .val (.ref b56_0), .val (.int (2 : Int32)), .val (.int (1 : Int32)), .val (.ref w60)] [(.ref w60)])) _
    refine XS.astoreN X69.here hx rfl (hb hby d2_39) rfl rfl (l' := #[.val (.ref a48), .val (.ref w60), .val (.ref b56_0), .val (.int (2 : Int32)), .val (.int (1 : Int32)), .val (.ref w60)]) rfl ?_
    show Steps p.tables e below (T69.setTop (mkF m 40 #[.val (.ref a48), .val (.ref w60), .val (.ref b56_0), .val (.int (2 : Int32)), .val (.int (1 : Int32)), .val (.ref w60)] [])) _
    refine XS.iinc X69.here hx rfl (hb hby d2_40) rfl (l' := #[.val (.ref a48), .val (.ref w60), .val (.ref b56_0), .val (.int (2 : Int32)), .val (.int (2 : Int32)), .val (.ref w60)]) rfl ?_
    show Steps p.tables e below (T69.setTop (mkF m 43 #[.val (.ref a48), .val (.ref w60), .val (.ref b56_0), .val (.int (2 : Int32)), .val (.int (2 : Int32)), .val (.ref w60)] [])) _
    refine XS.goto X69.here hx rfl (pc0 := 43) (pc' := 12) rfl (hb hby d2_43) (by decide) (by decide) ?_
    show Steps p.tables e below (T69.setTop (mkF m 12 #[.val (.ref a48), .val (.ref w60), .val (.ref b56_0), .val (.int (2 : Int32)), .val (.int (2 : Int32)), .val (.ref w60)] [])) _
    refine XS.iload X69.here hx rfl (hb hby d2_12) rfl ?_
    show Steps p.tables e below (T69.setTop (mkF m 14 #[.val (.ref a48), .val (.ref w60), .val (.ref b56_0), .val (.int (2 : Int32)), .val (.int (2 : Int32)), .val (.ref w60)] [(.int (2 : Int32))])) _
    refine XS.iloadN X69.here hx rfl (hb hby d2_14) rfl ?_
    show Steps p.tables e below (T69.setTop (mkF m 15 #[.val (.ref a48), .val (.ref w60), .val (.ref b56_0), .val (.int (2 : Int32)), .val (.int (2 : Int32)), .val (.ref w60)] [(.int (2 : Int32)), (.int (2 : Int32))])) _
    refine XS.icmpYes X69.here hx rfl (pc0 := 15) (pc' := 46) rfl (hb hby d2_15) rfl (flt (by decide : ¬ ((2 : Int32) < (2 : Int32)))).2.1 (by decide) (by decide) ?_
    show Steps p.tables e below (T69.setTop (mkF m 46 #[.val (.ref a48), .val (.ref w60), .val (.ref b56_0), .val (.int (2 : Int32)), .val (.int (2 : Int32)), .val (.ref w60)] [])) _
    refine XS.aloadN X69.here hx rfl (hb hby d2_46) rfl rfl ?_
    show Steps p.tables e below (T69.setTop (mkF m 47 #[.val (.ref a48), .val (.ref w60), .val (.ref b56_0), .val (.int (2 : Int32)), .val (.int (2 : Int32)), .val (.ref w60)] [(.ref w60)])) _
    jvm_step X69.here [X69.here.top, hx, (hb hby d2_47), X69.method', Bd.returns, Value.isRef, FieldType.isReference]
    first | (intro acts; rw [hr _ acts rfl rfl rfl]) | rw [hr _ _ rfl rfl rfl]
    exact Steps.refl _
  · show Qr2_2 Z a48 w57 k58 w59 w60 w63 w67 h0 n0 _ T69.heap _
    rw [e69]
    exact ⟨N56, b56_0, rfl, (Nat.le_trans (KSx.refl h0 []).1 ge_b56_0), KC56, o56_0, o56_1⟩
theorem d4_8 : decode method_3_code 8 = .ok (.iload_n 0, 1) := by decide +kernel
theorem d4_9 : decode method_3_code 9 = .ok (.iconst 1, 1) := by decide +kernel
theorem d4_10 : decode method_3_code 10 = .ok (.if_icmp .ne 7, 3) := by decide +kernel
theorem d4_13 : decode method_3_code 13 = .ok (.getstatic 33, 3) := by decide +kernel
theorem d4_16 : decode method_3_code 16 = .ok (.areturn, 1) := by decide +kernel
set_option maxRecDepth 65536 in
set_option maxHeartbeats 40000000 in
theorem r4_2 (l : Launch) (Z : State) (a0 : Array Value) (hw : ∀ d ∈ tables_1, d.before a0 Z = true) (p77 : Int32) (w78 : Addr) (h0 : Heap) (n0 : Nat) (Z0 : n0 ≤ h0.size) (H0 : ¬ (p77 = (0 : Int32))) (H1 : p77 = (1 : Int32)) (H2 : Sta Z h0 "com/example/cordon/cordon/model/Effect" "DENY" "Lcom/example/cordon/cordon/model/Effect;" (.ref w78)) :
    OMet l Z (⟨"com/example/cordon/cordon/model/EffectOfPinLaw", "expected", "(I)Lcom/example/cordon/cordon/model/Effect;"⟩ : MethodName) method_3_code 1 (some (.object "com/example/cordon/cordon/model/Effect")) [] ({ frames := 0, cells := 0, slots := 0, locals := 0 } : Room) h0 #[(.int p77)] (OQp (some (.ref w78)) h0 n0) := by
  refine MetFree.of_bodySF (plainFor_of_name pn_com_example_cordon_cordon_model_EffectOfPinLaw) hisR ?_
  intro p e s m args below meth c s₁ Bd hml0 hP hK
  obtain ⟨rfl, hZ, hh⟩ := hP
  have hx := Bd.exec
  have hby := Bd.bytes
  have hml : c.maxLocals = 1 := hml0
  have hown : s.vm.findClass "com/example/cordon/cordon/model/EffectOfPinLaw" = some m.cls := findClass_of_methodNamed Bd.named
  have hnm := (name_of_methodNamed Bd.named Bd.method).1
  have X0 : Stand p l e ({ frames := 0, cells := 0, slots := 0, locals := 0 } : Room) s m #[(.int p77)] below meth c s₁ [] 0 0 := Stand.of_body Bd
  have e0 : s₁.heap = h0 := by rw [← hh, Bd.state]; rfl
  have N0 := Fr.nil n0
  have pre0 : ∀ t, Steps p.tables e below (s₁.setTop (mkF m 0 #[.val (.int p77)] [])) t → Steps p.tables e below (s₁.setTop (entryFrame m #[(.int p77)] 1)) t := fun t k => castTop (ef_4_v m p77) k
  obtain ⟨T79, X79, e79, st79⟩ := getS2 X0 hx hZ hown (host := "") (Or.inl (hw _ (List.mem_of_getElem? (i := 41) rfl))) Via.refl e0 H2 (g := (mkF m 13 #[.val (.int p77)] [])) rfl (hb hby d4_13)
  obtain ⟨fs, hr, hrun, hended, hW, hsame⟩ := X79.leave (v := some (.ref w78)) (fun h => by rw [Bd.returns] at h; cases h)
  refine ⟨_, _, pre0 _ ?_, hrun, hended, _, _, rfl, ?_, ⟨_, rfl⟩, hW, hsame.mono (by decide) (by decide)⟩
  · show Steps p.tables e below (s₁.setTop (mkF m 0 #[.val (.int p77)] [])) _
    refine XS.iloadN X0.here hx rfl (hb hby d4_0) rfl ?_
    show Steps p.tables e below (s₁.setTop (mkF m 1 #[.val (.int p77)] [(.int p77)])) _
    refine XS.ifYes X0.here hx rfl (pc0 := 1) (pc' := 8) rfl (hb hby d4_1) rfl ((if0 _ _).trans (feq H0).2) (by decide) (by decide) ?_
    show Steps p.tables e below (s₁.setTop (mkF m 8 #[.val (.int p77)] [])) _
    refine XS.iloadN X0.here hx rfl (hb hby d4_8) rfl ?_
    show Steps p.tables e below (s₁.setTop (mkF m 9 #[.val (.int p77)] [(.int p77)])) _
    refine XS.iconst X0.here hx rfl (hb hby d4_9) ?_
    show Steps p.tables e below (s₁.setTop (mkF m 10 #[.val (.int p77)] [(.int (1 : Int32)), (.int p77)])) _
    refine XS.icmpNo X0.here hx rfl (hb hby d4_10) rfl (teq H1).2 ?_
    show Steps p.tables e below (s₁.setTop (mkF m 13 #[.val (.int p77)] [])) _
    refine st79 _ ?_
    show Steps p.tables e below (T79.setTop (mkF m 16 #[.val (.int p77)] [(.ref w78)])) _
    jvm_step X79.here [X79.here.top, hx, (hb hby d4_16), X79.method', Bd.returns, Value.isRef, FieldType.isReference]
    first | (intro acts; rw [hr _ acts rfl rfl rfl]) | rw [hr _ _ rfl rfl rfl]
    exact Steps.refl _
  · show OQp (some (.ref w78)) h0 n0 _ T79.heap _
    rw [e79]
    exact ⟨rfl, N0, rfl⟩
set_option maxRecDepth 65536 in
set_option maxHeartbeats 40000000 in
theorem r0_2 (l : Launch) (Z : State) (a0 : Array Value) (hw : ∀ d ∈ tables_1, d.before a0 Z = true) (p42 : Int32) (w47 : Addr) (w71 : Addr) (k72 : ClassId) (w73 : Addr) (w74 : Addr) (w75 : Addr) (w76 : Addr) (w81 : Addr) (h0 : Heap) (n0 : Nat) (Z0 : n0 ≤ h0.size) (H0 : ¬ (((p42 &&& (2147483647 : Int32)) % (6 : Int32)) = (0 : Int32))) (H1 : ((p42 &&& (2147483647 : Int32)) % (6 : Int32)) = (1 : Int32)) (H2 : Sta Z h0 "com/example/cordon/cordon/model/Decision" "DENY" "Lcom/example/cordon/cordon/model/Decision;" (.ref w47)) (H3 : Sta Z h0 "com/example/cordon/cordon/model/Effect" "$VALUES" "[Lcom/example/cordon/cordon/model/Effect;" (.ref w71)) (H4 : Arv Z h0 w71 k72 (.object "com/example/cordon/cordon/model/Effect") (2 : Int32) [(.ref w73), (.ref w74)] .null) (H5 : Exa Z h0 w71 "[Lcom/example/cordon/cordon/model/Effect;") (H6 : Fld Z h0 w73 "com/example/cordon/cordon/model/Effect" "decision" "Lcom/example/cordon/cordon/model/Decision;" (.ref w75)) (H7 : w75 ≠ w47) (H8 : Fld Z h0 w74 "com/example/cordon/cordon/model/Effect" "decision" "Lcom/example/cordon/cordon/model/Decision;" (.ref w76)) (H9 : w76 = w47) (H10 : Sta Z h0 "com/example/cordon/cordon/model/Effect" "DENY" "Lcom/example/cordon/cordon/model/Effect;" (.ref w81)) (H11 : w74 = w81) :
    OMet l Z x code maxLocals ret tables_1 room_1 h0 #[(.int p42)] (OQl (some (.int (1 : Int32))) n0) := by
  refine MetFree.of_bodySF (plainFor_of_name pn_com_example_cordon_cordon_model_EffectOfPinLaw) hisR ?_
  intro p e s m args below meth c s₁ Bd hml0 hP hK
  obtain ⟨rfl, hZ, hh⟩ := hP
  have hx := Bd.exec
  have hby := Bd.bytes
  have hml : c.maxLocals = 4 := hml0
  have hown : s.vm.findClass "com/example/cordon/cordon/model/EffectOfPinLaw" = some m.cls := findClass_of_methodNamed Bd.named
  have hnm := (name_of_methodNamed Bd.named Bd.method).1
  have X0 : Stand p l e room_1 s m #[(.int p42)] below meth c s₁ [] 0 0 := Stand.of_body Bd
  have e0 : s₁.heap = h0 := by rw [← hh, Bd.state]; rfl
  have N0 := Fr.nil n0
  have pre0 : ∀ t, Steps p.tables e below (s₁.setTop (mkF m 0 #[.val (.int p42), .unset, .unset, .unset] [])) t → Steps p.tables e below (s₁.setTop (entryFrame m #[(.int p42)] maxLocals)) t := fun t k => castTop (ef_0_v m p42) k
  obtain ⟨_, _, ⟨T46, L46, k46, n46⟩, -, X46, ⟨Lc46, hQ46, l46, y46, z46⟩, st46⟩ := Jvm.LawKit.callS X0 hx (y := (⟨"com/example/cordon/cordon/model/EffectOfPinLaw", "pick", "(I)Lcom/example/cordon/cordon/model/Decision;"⟩ : MethodName)) hown (mvT hZ (hw _ (List.mem_of_getElem? (i := 1) rfl))) (mvT hZ (hw _ (List.mem_of_getElem? (i := 2) rfl))) (mvT hZ (hw _ (List.mem_of_getElem? (i := 3) rfl))) (mvT hZ (hw _ (List.mem_of_getElem? (i := 4) rfl))) (by decide) (backOf (W := 0) (r1_2 l Z a0 hw ((p42 &&& (2147483647 : Int32)) % (6 : Int32)) w47 h0 n0 Z0 H0 H1 H2) hZ (hw _ (List.mem_of_getElem? (i := 4) rfl)) (hw _ (List.mem_of_getElem? (i := 3) rfl)) (by decide) (by decide)) (g := (mkF m 9 #[.val (.int p42), .val (.int ((p42 &&& (2147483647 : Int32)) % (6 : Int32))), .unset, .unset] [(.int ((p42 &&& (2147483647 : Int32)) % (6 : Int32)))])) rfl (by rw [hml]; rfl) (argsL := [(.int ((p42 &&& (2147483647 : Int32)) % (6 : Int32)))]) (rest := []) (lenOf pd_0 rfl) rfl (by show 2 * 0 + _ ≤ _; exact Nat.le_of_eq rfl) (hb hby at_9) (fun _ _ => ⟨rfl, e0, (by decide : 0 + 0 ≤ _), (by decide : 0 + 0 ≤ _)⟩)
  dsimp only [Pt.U, Pt.locs, Pt.cells, Pt.slots] at X46 l46 y46 z46 st46 hQ46
  subst l46 y46 z46
  obtain ⟨rfl, N46q, e46⟩ := hQ46
  have N46 := Fr.app N0 N46q
  obtain ⟨_, _, ⟨T70, L70, k70, n70⟩, -, X70, ⟨Lc70, hQ70, l70, y70, z70⟩, st70⟩ := Jvm.LawKit.callS X46 hx (y := (⟨"com/example/cordon/cordon/model/Effect", "of", "(Lcom/example/cordon/cordon/model/Decision;)Lcom/example/cordon/cordon/model/Effect;"⟩ : MethodName)) hown (mvT hZ (hw _ (List.mem_of_getElem? (i := 8) rfl))) (mvT hZ (hw _ (List.mem_of_getElem? (i := 9) rfl))) (mvT hZ (hw _ (List.mem_of_getElem? (i := 10) rfl))) (mvT hZ (hw _ (List.mem_of_getElem? (i := 11) rfl))) (by decide) (backOf (W := 0) (r2_2 l Z a0 hw w47 w71 k72 w73 w74 w75 w76 h0 n0 Z0 H3 H4 H5 H6 H7 H8 H9) hZ (hw _ (List.mem_of_getElem? (i := 11) rfl)) (hw _ (List.mem_of_getElem? (i := 10) rfl)) (by decide) (by decide)) (g := (mkF m 14 #[.val (.int p42), .val (.int ((p42 &&& (2147483647 : Int32)) % (6 : Int32))), .val (.ref w47), .unset] [(.ref w47)])) rfl (by rw [hml]; rfl) (argsL := [(.ref w47)]) (rest := []) (lenOf pd_2 rfl) rfl (by show 2 * 0 + _ ≤ _; exact Nat.le_of_eq rfl) (hb hby at_14) (fun _ _ => ⟨rfl, e46, (by decide : 0 + 1 ≤ _), (by decide : 0 + 2 ≤ _)⟩)
  dsimp only [Pt.U, Pt.locs, Pt.cells, Pt.slots] at X70 l70 y70 z70 st70 hQ70
  subst l70 y70 z70
  obtain ⟨N70q, b70_0, rfl, ge_b70_0, K70, o70_0, o70_1⟩ := hQ70
  have N70 := Fr.app N46 N70q
  have KC70 := KSx.trans (KSx.refl h0 []) K70 ks0
  have f82 := (H10.ks K70)
  have Z70 : n0 ≤ T70.heap.size := Nat.le_trans Z0 K70.1
  obtain ⟨_, _, ⟨T80, L80, k80, n80⟩, -, X80, ⟨Lc80, hQ80, l80, y80, z80⟩, st80⟩ := Jvm.LawKit.callS X70 hx (y := (⟨"com/example/cordon/cordon/model/EffectOfPinLaw", "expected", "(I)Lcom/example/cordon/cordon/model/Effect;"⟩ : MethodName)) hown (mvT hZ (hw _ (List.mem_of_getElem? (i := 32) rfl))) (mvT hZ (hw _ (List.mem_of_getElem? (i := 33) rfl))) (mvT hZ (hw _ (List.mem_of_getElem? (i := 3) rfl))) (mvT hZ (hw _ (List.mem_of_getElem? (i := 34) rfl))) (by decide) (backOf (W := 1) (r4_2 l Z a0 hw ((p42 &&& (2147483647 : Int32)) % (6 : Int32)) w81 T70.heap n0 Z70 H0 H1 f82) hZ (hw _ (List.mem_of_getElem? (i := 34) rfl)) (hw _ (List.mem_of_getElem? (i := 3) rfl)) (by decide) (by decide)) (g := (mkF m 20 #[.val (.int p42), .val (.int ((p42 &&& (2147483647 : Int32)) % (6 : Int32))), .val (.ref w47), .val (.ref w74)] [(.int ((p42 &&& (2147483647 : Int32)) % (6 : Int32))), (.ref w74)])) rfl (by rw [hml]; rfl) (argsL := [(.int ((p42 &&& (2147483647 : Int32)) % (6 : Int32)))]) (rest := [(.ref w74)]) (lenOf pd_3 rfl) rfl (by show 2 * 0 + _ ≤ _; exact Nat.le_of_eq rfl) (hb hby at_20) (fun _ _ => ⟨rfl, rfl, (by decide : 1 + 0 ≤ _), (by decide : 2 + 0 ≤ _)⟩)
  dsimp only [Pt.U, Pt.locs, Pt.cells, Pt.slots] at X80 l80 y80 z80 st80 hQ80
  subst l80 y80 z80
  obtain ⟨rfl, N80q, e80⟩ := hQ80
  have N80 := Fr.app N70 N80q
  obtain ⟨fs, hr, hrun, hended, hW, hsame⟩ := X80.leave (v := some (.int (1 : Int32))) (fun h => by rw [Bd.returns] at h; cases h)
  refine ⟨_, _, pre0 _ ?_, hrun, hended, _, _, rfl, ?_, ⟨_, rfl⟩, hW, hsame.mono (by decide) (by decide)⟩
  · show Steps p.tables e below (s₁.setTop (mkF m 0 #[.val (.int p42), .unset, .unset, .unset] [])) _
    refine XS.iloadN X0.here hx rfl (hb hby at_0) rfl ?_
    show Steps p.tables e below (s₁.setTop (mkF m 1 #[.val (.int p42), .unset, .unset, .unset] [(.int p42)])) _
    refine X0.ldcInt hx hown (mvT hZ (hw _ (List.mem_of_getElem? (i := 0) rfl))) (g := (mkF m 1 #[.val (.int p42), .unset, .unset, .unset] [(.int p42)])) rfl (hb hby at_1) _ ?_
    show Steps p.tables e below (s₁.setTop (mkF m 3 #[.val (.int p42), .unset, .unset, .unset] [(.int (2147483647 : Int32)), (.int p42)])) _
    refine XS.iand X0.here hx rfl (hb hby at_3) rfl ?_
    show Steps p.tables e below (s₁.setTop (mkF m 4 #[.val (.int p42), .unset, .unset, .unset] [(.int (p42 &&& (2147483647 : Int32)))])) _
    refine XS.bipush X0.here hx rfl (hb hby at_4) ?_
    show Steps p.tables e below (s₁.setTop (mkF m 6 #[.val (.int p42), .unset, .unset, .unset] [(.int (6 : Int32)), (.int (p42 &&& (2147483647 : Int32)))])) _
    refine iremM X0 hx rfl (hb hby at_6) rfl (by decide) ?_
    show Steps p.tables e below (s₁.setTop (mkF m 7 #[.val (.int p42), .unset, .unset, .unset] [(.int ((p42 &&& (2147483647 : Int32)) % (6 : Int32)))])) _
    refine XS.istoreN X0.here hx rfl (hb hby at_7) rfl (l' := #[.val (.int p42), .val (.int ((p42 &&& (2147483647 : Int32)) % (6 : Int32))), .unset, .unset]) rfl ?_
    show Steps p.tables e below (s₁.setTop (mkF m 8 #[.val (.int p42), .val (.int ((p42 &&& (2147483647 : Int32)) % (6 : Int32))), .unset, .unset] [])) _
    refine XS.iloadN X0.here hx rfl (hb hby at_8) rfl ?_
    show Steps p.tables e below (s₁.setTop (mkF m 9 #[.val (.int p42), .val (.int ((p42 &&& (2147483647 : Int32)) % (6 : Int32))), .unset, .unset] [(.int ((p42 &&& (2147483647 : Int32)) % (6 : Int32)))])) _
    refine st46 _ ?_
    show Steps p.tables e below (T46.setTop (mkF m 12 #[.val (.int p42), .val (.int ((p42 &&& (2147483647 : Int32)) % (6 : Int32))), .unset, .unset] [(.ref w47)])) _
    refine XS.astoreN X46.here hx rfl (hb hby at_12) rfl rfl (l' := #[.val (.int p42), .val (.int ((p42 &&& (2147483647 : Int32)) % (6 : Int32))), .val (.ref w47), .unset]) rfl ?_
    show Steps p.tables e below (T46.setTop (mkF m 13 #[.val (.int p42), .val (.int ((p42 &&& (2147483647 : Int32)) % (6 : Int32))), .val (.ref w47), .unset] [])) _
    refine XS.aloadN X46.here hx rfl (hb hby at_13) rfl rfl ?_
    show Steps p.tables e below (T46.setTop (mkF m 14 #[.val (.int p42), .val (.int ((p42 &&& (2147483647 : Int32)) % (6 : Int32))), .val (.ref w47), .unset] [(.ref w47)])) _
    refine st70 _ ?_
    show Steps p.tables e below (T70.setTop (mkF m 17 #[.val (.int p42), .val (.int ((p42 &&& (2147483647 : Int32)) % (6 : Int32))), .val (.ref w47), .unset] [(.ref w74)])) _
    refine XS.astoreN X70.here hx rfl (hb hby at_17) rfl rfl (l' := #[.val (.int p42), .val (.int ((p42 &&& (2147483647 : Int32)) % (6 : Int32))), .val (.ref w47), .val (.ref w74)]) rfl ?_
    show Steps p.tables e below (T70.setTop (mkF m 18 #[.val (.int p42), .val (.int ((p42 &&& (2147483647 : Int32)) % (6 : Int32))), .val (.ref w47), .val (.ref w74)] [])) _
    refine XS.aloadN X70.here hx rfl (hb hby at_18) rfl rfl ?_
    show Steps p.tables e below (T70.setTop (mkF m 19 #[.val (.int p42), .val (.int ((p42 &&& (2147483647 : Int32)) % (6 : Int32))), .val (.ref w47), .val (.ref w74)] [(.ref w74)])) _
    refine XS.iloadN X70.here hx rfl (hb hby at_19) rfl ?_
    show Steps p.tables e below (T70.setTop (mkF m 20 #[.val (.int p42), .val (.int ((p42 &&& (2147483647 : Int32)) % (6 : Int32))), .val (.ref w47), .val (.ref w74)] [(.int ((p42 &&& (2147483647 : Int32)) % (6 : Int32))), (.ref w74)])) _
    refine st80 _ ?_
    show Steps p.tables e below (T80.setTop (mkF m 23 #[.val (.int p42), .val (.int ((p42 &&& (2147483647 : Int32)) % (6 : Int32))), .val (.ref w47), .val (.ref w74)] [(.ref w81), (.ref w74)])) _
    refine Jvm.RoadKit.acmp (g := (mkF m 23 #[.val (.int p42), .val (.int ((p42 &&& (2147483647 : Int32)) % (6 : Int32))), .val (.ref w47), .val (.ref w74)] [(.ref w81), (.ref w74)])) X80 hx rfl rfl rfl (pc0 := 23) (pc' := 26) (same := true) rfl (hb hby at_23) rfl (decide_eq_true (congrArg Value.ref H11)) (by decide) (by decide) ?_
    show Steps p.tables e below (T80.setTop (mkF m 26 #[.val (.int p42), .val (.int ((p42 &&& (2147483647 : Int32)) % (6 : Int32))), .val (.ref w47), .val (.ref w74)] [])) _
    refine XS.iconst X80.here hx rfl (hb hby at_26) ?_
    show Steps p.tables e below (T80.setTop (mkF m 27 #[.val (.int p42), .val (.int ((p42 &&& (2147483647 : Int32)) % (6 : Int32))), .val (.ref w47), .val (.ref w74)] [(.int (1 : Int32))])) _
    refine XS.goto X80.here hx rfl (pc0 := 27) (pc' := 31) rfl (hb hby at_27) (by decide) (by decide) ?_
    show Steps p.tables e below (T80.setTop (mkF m 31 #[.val (.int p42), .val (.int ((p42 &&& (2147483647 : Int32)) % (6 : Int32))), .val (.ref w47), .val (.ref w74)] [(.int (1 : Int32))])) _
    exact retN X80 hx (t := .boolean) Bd.returns (by simp) (hb hby at_31) hr
  · show OQl (some (.int (1 : Int32))) n0 _ T80.heap _
    exact ⟨rfl, N80⟩
theorem d1_17 : decode method_2_code 17 = .ok (.iload_n 0, 1) := by decide +kernel
theorem d1_18 : decode method_2_code 18 = .ok (.iconst 2, 1) := by decide +kernel
theorem d1_19 : decode method_2_code 19 = .ok (.if_icmp .ne 7, 3) := by decide +kernel
theorem d1_22 : decode method_2_code 22 = .ok (.getstatic 16, 3) := by decide +kernel
theorem d1_25 : decode method_2_code 25 = .ok (.areturn, 1) := by decide +kernel
set_option maxRecDepth 65536 in
set_option maxHeartbeats 40000000 in
theorem r1_3 (l : Launch) (Z : State) (a0 : Array Value) (hw : ∀ d ∈ tables_1, d.before a0 Z = true) (p84 : Int32) (w85 : Addr) (h0 : Heap) (n0 : Nat) (Z0 : n0 ≤ h0.size) (H0 : ¬ (p84 = (0 : Int32))) (H1 : ¬ (p84 = (1 : Int32))) (H2 : p84 = (2 : Int32)) (H3 : Sta Z h0 "com/example/cordon/cordon/model/Decision" "NOT_APPLICABLE" "Lcom/example/cordon/cordon/model/Decision;" (.ref w85)) :
    OMet l Z (⟨"com/example/cordon/cordon/model/EffectOfPinLaw", "pick", "(I)Lcom/example/cordon/cordon/model/Decision;"⟩ : MethodName) method_2_code 1 (some (.object "com/example/cordon/cordon/model/Decision")) [] ({ frames := 0, cells := 0, slots := 0, locals := 0 } : Room) h0 #[(.int p84)] (OQp (some (.ref w85)) h0 n0) := by
  refine MetFree.of_bodySF (plainFor_of_name pn_com_example_cordon_cordon_model_EffectOfPinLaw) hisR ?_
  intro p e s m args below meth c s₁ Bd hml0 hP hK
  obtain ⟨rfl, hZ, hh⟩ := hP
  have hx := Bd.exec
  have hby := Bd.bytes
  have hml : c.maxLocals = 1 := hml0
  have hown : s.vm.findClass "com/example/cordon/cordon/model/EffectOfPinLaw" = some m.cls := findClass_of_methodNamed Bd.named
  have hnm := (name_of_methodNamed Bd.named Bd.method).1
  have X0 : Stand p l e ({ frames := 0, cells := 0, slots := 0, locals := 0 } : Room) s m #[(.int p84)] below meth c s₁ [] 0 0 := Stand.of_body Bd
  have e0 : s₁.heap = h0 := by rw [← hh, Bd.state]; rfl
  have N0 := Fr.nil n0
  have pre0 : ∀ t, Steps p.tables e below (s₁.setTop (mkF m 0 #[.val (.int p84)] [])) t → Steps p.tables e below (s₁.setTop (entryFrame m #[(.int p84)] 1)) t := fun t k => castTop (ef_1_v m p84) k
  obtain ⟨T86, X86, e86, st86⟩ := getS2 X0 hx hZ hown (host := "") (Or.inl (hw _ (List.mem_of_getElem? (i := 38) rfl))) Via.refl e0 H3 (g := (mkF m 22 #[.val (.int p84)] [])) rfl (hb hby d1_22)
  obtain ⟨fs, hr, hrun, hended, hW, hsame⟩ := X86.leave (v := some (.ref w85)) (fun h => by rw [Bd.returns] at h; cases h)
  refine ⟨_, _, pre0 _ ?_, hrun, hended, _, _, rfl, ?_, ⟨_, rfl⟩, hW, hsame.mono (by decide) (by decide)⟩
  · show Steps p.tables e below (s₁.setTop (mkF m 0 #[.val (.int p84)] [])) _
    refine XS.iloadN X0.here hx rfl (hb hby d1_0) rfl ?_
    show Steps p.tables e below (s₁.setTop (mkF m 1 #[.val (.int p84)] [(.int p84)])) _
    refine XS.ifYes X0.here hx rfl (pc0 := 1) (pc' := 8) rfl (hb hby d1_1) rfl ((if0 _ _).trans (feq H0).2) (by decide) (by decide) ?_
    show Steps p.tables e below (s₁.setTop (mkF m 8 #[.val (.int p84)] [])) _
    refine XS.iloadN X0.here hx rfl (hb hby d1_8) rfl ?_
    show Steps p.tables e below (s₁.setTop (mkF m 9 #[.val (.int p84)] [(.int p84)])) _
    refine XS.iconst X0.here hx rfl (hb hby d1_9) ?_
    show Steps p.tables e below (s₁.setTop (mkF m 10 #[.val (.int p84)] [(.int (1 : Int32)), (.int p84)])) _
    refine XS.icmpYes X0.here hx rfl (pc0 := 10) (pc' := 17) rfl (hb hby d1_10) rfl (feq H1).2 (by decide) (by decide) ?_
    show Steps p.tables e below (s₁.setTop (mkF m 17 #[.val (.int p84)] [])) _
    refine XS.iloadN X0.here hx rfl (hb hby d1_17) rfl ?_
    show Steps p.tables e below (s₁.setTop (mkF m 18 #[.val (.int p84)] [(.int p84)])) _
    refine XS.iconst X0.here hx rfl (hb hby d1_18) ?_
    show Steps p.tables e below (s₁.setTop (mkF m 19 #[.val (.int p84)] [(.int (2 : Int32)), (.int p84)])) _
    refine XS.icmpNo X0.here hx rfl (hb hby d1_19) rfl (teq H2).2 ?_
    show Steps p.tables e below (s₁.setTop (mkF m 22 #[.val (.int p84)] [])) _
    refine st86 _ ?_
    show Steps p.tables e below (T86.setTop (mkF m 25 #[.val (.int p84)] [(.ref w85)])) _
    jvm_step X86.here [X86.here.top, hx, (hb hby d1_25), X86.method', Bd.returns, Value.isRef, FieldType.isReference]
    first | (intro acts; rw [hr _ acts rfl rfl rfl]) | rw [hr _ _ rfl rfl rfl]
    exact Steps.refl _
  · show OQp (some (.ref w85)) h0 n0 _ T86.heap _
    rw [e86]
    exact ⟨rfl, N0, rfl⟩
def Qr2_3 (Z : State) (a89 : Addr) (w98 : Addr) (k99 : ClassId) (w100 : Addr) (w101 : Addr) (w104 : Addr) (w108 : Addr) (h0 : Heap) (n0 : Nat) (v : Option Value) (h : Heap) (L : List Loc) : Prop := Fr n0 L ∧ ∃ b97_0 : Addr, v = some .null ∧ h0.size ≤ b97_0 ∧ KSx h0 h [] ∧ Exa Z h b97_0 "[Lcom/example/cordon/cordon/model/Effect;" ∧ Arv Z h b97_0 k99 (.object "com/example/cordon/cordon/model/Effect") (2 : Int32) [(.ref w100), (.ref w101)] .null
set_option maxRecDepth 65536 in
set_option maxHeartbeats 40000000 in
theorem r2_3 (l : Launch) (Z : State) (a0 : Array Value) (hw : ∀ d ∈ tables_1, d.before a0 Z = true) (a89 : Addr) (w98 : Addr) (k99 : ClassId) (w100 : Addr) (w101 : Addr) (w104 : Addr) (w108 : Addr) (h0 : Heap) (n0 : Nat) (Z0 : n0 ≤ h0.size) (H0 : Sta Z h0 "com/example/cordon/cordon/model/Effect" "$VALUES" "[Lcom/example/cordon/cordon/model/Effect;" (.ref w98)) (H1 : Arv Z h0 w98 k99 (.object "com/example/cordon/cordon/model/Effect") (2 : Int32) [(.ref w100), (.ref w101)] .null) (H2 : Exa Z h0 w98 "[Lcom/example/cordon/cordon/model/Effect;") (H3 : Fld Z h0 w100 "com/example/cordon/cordon/model/Effect" "decision" "Lcom/example/cordon/cordon/model/Decision;" (.ref w104)) (H4 : w104 ≠ a89) (H5 : Fld Z h0 w101 "com/example/cordon/cordon/model/Effect" "decision" "Lcom/example/cordon/cordon/model/Decision;" (.ref w108)) (H6 : w108 ≠ a89) :
    OMet l Z (⟨"com/example/cordon/cordon/model/Effect", "of", "(Lcom/example/cordon/cordon/model/Decision;)Lcom/example/cordon/cordon/model/Effect;"⟩ : MethodName) prog_28_method_4_code 6 (some (.object "com/example/cordon/cordon/model/Effect")) [] ({ frames := 2, cells := 1, slots := 2, locals := 25 } : Room) h0 #[(.ref a89)] (Qr2_3 Z a89 w98 k99 w100 w101 w104 w108 h0 n0) := by
  refine MetFree.of_bodySF (plainFor_of_name pn_com_example_cordon_cordon_model_Effect) hisR ?_
  intro p e s m args below meth c s₁ Bd hml0 hP hK
  obtain ⟨rfl, hZ, hh⟩ := hP
  have hx := Bd.exec
  have hby := Bd.bytes
  have hml : c.maxLocals = 6 := hml0
  have hown : s.vm.findClass "com/example/cordon/cordon/model/Effect" = some m.cls := findClass_of_methodNamed Bd.named
  have hnm := (name_of_methodNamed Bd.named Bd.method).1
  have X0 : Stand p l e ({ frames := 2, cells := 1, slots := 2, locals := 25 } : Room) s m #[(.ref a89)] below meth c s₁ [] 0 0 := Stand.of_body Bd
  have e0 : s₁.heap = h0 := by rw [← hh, Bd.state]; rfl
  have N0 := Fr.nil n0
  have pre0 : ∀ t, Steps p.tables e below (s₁.setTop (mkF m 0 #[.val (.ref a89), .unset, .unset, .unset, .unset, .unset] [])) t → Steps p.tables e below (s₁.setTop (entryFrame m #[(.ref a89)] 6)) t := fun t k => castTop (ef_2_v m a89) k
  obtain ⟨_, _, ⟨T97, L97, k97, n97⟩, -, X97, ⟨Lc97, hQ97, l97, y97, z97⟩, st97⟩ := Jvm.LawKit.callS X0 hx (y := (⟨"com/example/cordon/cordon/model/Effect", "values", "()[Lcom/example/cordon/cordon/model/Effect;"⟩ : MethodName)) hown (mvT hZ (hw _ (List.mem_of_getElem? (i := 12) rfl))) (mvT hZ (hw _ (List.mem_of_getElem? (i := 13) rfl))) (mvT hZ (hw _ (List.mem_of_getElem? (i := 10) rfl))) (mvT hZ (hw _ (List.mem_of_getElem? (i := 14) rfl))) (by decide) (backOf (W := 0) (r3_1 l Z a0 hw w98 k99 w100 w101 h0 n0 Z0 H0 H1 H2) hZ (hw _ (List.mem_of_getElem? (i := 14) rfl)) (hw _ (List.mem_of_getElem? (i := 10) rfl)) (by decide) (by decide)) (g := (mkF m 2 #[.val (.ref a89), .val .null, .unset, .unset, .unset, .unset] [])) rfl (by rw [hml]; rfl) (argsL := []) (rest := []) (lenOf pd_1 rfl) rfl (by show 2 * 0 + _ ≤ _; exact Nat.le_of_eq rfl) (hb hby d2_2) (fun _ _ => ⟨rfl, e0, (by decide : 0 + 1 ≤ _), (by decide : 0 + 2 ≤ _)⟩)
  dsimp only [Pt.U, Pt.locs, Pt.cells, Pt.slots] at X97 l97 y97 z97 st97 hQ97
  subst l97 y97 z97
  obtain ⟨N97q, b97_0, rfl, ge_b97_0, K97, o97_0, o97_1⟩ := hQ97
  have N97 := Fr.app N0 N97q
  have KC97 := KSx.trans (KSx.refl h0 []) K97 ks0
  have vc102 := o97_1
  obtain ⟨cl102, Ar102, q102, S102, N102, Hh102, G102⟩ := vc102
  have vc103 := o97_1
  obtain ⟨cl103, Ar103, q103, S103, N103, Hh103, G103⟩ := vc103
  have hin103 : ¬ ((0 : Int32) < 0 ∨ cl103.slots.size ≤ ((0 : Int32)).toNatClampNeg) := inb_of S103 ⟨by decide, by decide⟩
  have hat103 : cl103.slots[((0 : Int32)).toNatClampNeg]? = some (.ref w100) := Has.at Hh103 hin103 rfl
  have f105 := (H3.ks K97 ks0)
  obtain ⟨T106, X106, e106, st106⟩ := getF X97 hx hZ hown (host := "") (Or.inl (hw _ (List.mem_of_getElem? (i := 29) rfl))) Via.refl rfl f105 (g := (mkF m 26 #[.val (.ref a89), .val .null, .val (.ref b97_0), .val (.int (2 : Int32)), .val (.int (0 : Int32)), .val (.ref w100)] [(.ref w100)])) rfl rfl (hb hby d2_26)
  have vc107 := o97_1
  obtain ⟨cl107, Ar107, q107, S107, N107, Hh107, G107⟩ := vc107
  have hin107 : ¬ ((1 : Int32) < 0 ∨ cl107.slots.size ≤ ((1 : Int32)).toNatClampNeg) := inb_of S107 ⟨by decide, by decide⟩
  have hat107 : cl107.slots[((1 : Int32)).toNatClampNeg]? = some (.ref w101) := Has.at Hh107 hin107 rfl
  have f109 := (H5.ks K97 ks0)
  obtain ⟨T110, X110, e110, st110⟩ := getF X106 hx hZ hown (host := "") (Or.inl (hw _ (List.mem_of_getElem? (i := 29) rfl))) Via.refl e106 f109 (g := (mkF m 26 #[.val (.ref a89), .val .null, .val (.ref b97_0), .val (.int (2 : Int32)), .val (.int (1 : Int32)), .val (.ref w101)] [(.ref w101)])) rfl rfl (hb hby d2_26)
  obtain ⟨fs, hr, hrun, hended, hW, hsame⟩ := X110.leave (v := some .null) (fun h => by rw [Bd.returns] at h; cases h)
  refine ⟨_, _, pre0 _ ?_, hrun, hended, _, _, rfl, ?_, ⟨_, rfl⟩, hW, hsame.mono (by decide) (by decide)⟩
  · show Steps p.tables e below (s₁.setTop (mkF m 0 #[.val (.ref a89), .unset, .unset, .unset, .unset, .unset] [])) _
    refine XS.aconstNull X0.here hx rfl (hb hby d2_0) ?_
    show Steps p.tables e below (s₁.setTop (mkF m 1 #[.val (.ref a89), .unset, .unset, .unset, .unset, .unset] [.null])) _
    refine XS.astoreN X0.here hx rfl (hb hby d2_1) rfl rfl (l' := #[.val (.ref a89), .val .null, .unset, .unset, .unset, .unset]) rfl ?_
    show Steps p.tables e below (s₁.setTop (mkF m 2 #[.val (.ref a89), .val .null, .unset, .unset, .unset, .unset] [])) _
    refine st97 _ ?_
    show Steps p.tables e below (T97.setTop (mkF m 5 #[.val (.ref a89), .val .null, .unset, .unset, .unset, .unset] [(.ref b97_0)])) _
    refine XS.astoreN X97.here hx rfl (hb hby d2_5) rfl rfl (l' := #[.val (.ref a89), .val .null, .val (.ref b97_0), .unset, .unset, .unset]) rfl ?_
    show Steps p.tables e below (T97.setTop (mkF m 6 #[.val (.ref a89), .val .null, .val (.ref b97_0), .unset, .unset, .unset] [])) _
    refine XS.aloadN X97.here hx rfl (hb hby d2_6) rfl rfl ?_
    show Steps p.tables e below (T97.setTop (mkF m 7 #[.val (.ref a89), .val .null, .val (.ref b97_0), .unset, .unset, .unset] [(.ref b97_0)])) _
    refine X97.arraylength hx (Ar102.1) (State.isArrayOf_alike hZ.alike Ar102.2.1) (g := (mkF m 7 #[.val (.ref a89), .val .null, .val (.ref b97_0), .unset, .unset, .unset] [(.ref b97_0)])) rfl rfl (hb hby d2_7) _ ?_
    rw [len_of S102 N102]
    show Steps p.tables e below (T97.setTop (mkF m 8 #[.val (.ref a89), .val .null, .val (.ref b97_0), .unset, .unset, .unset] [(.int (2 : Int32))])) _
    refine XS.istoreN X97.here hx rfl (hb hby d2_8) rfl (l' := #[.val (.ref a89), .val .null, .val (.ref b97_0), .val (.int (2 : Int32)), .unset, .unset]) rfl ?_
    show Steps p.tables e below (T97.setTop (mkF m 9 #[.val (.ref a89), .val .null, .val (.ref b97_0), .val (.int (2 : Int32)), .unset, .unset] [])) _
    refine XS.iconst X97.here hx rfl (hb hby d2_9) ?_
    show Steps p.tables e below (T97.setTop (mkF m 10 #[.val (.ref a89), .val .null, .val (.ref b97_0), .val (.int (2 : Int32)), .unset, .unset] [(.int (0 : Int32))])) _
    refine XS.istore X97.here hx rfl (hb hby d2_10) rfl (l' := #[.val (.ref a89), .val .null, .val (.ref b97_0), .val (.int (2 : Int32)), .val (.int (0 : Int32)), .unset]) rfl ?_
    show Steps p.tables e below (T97.setTop (mkF m 12 #[.val (.ref a89), .val .null, .val (.ref b97_0), .val (.int (2 : Int32)), .val (.int (0 : Int32)), .unset] [])) _
    refine XS.iload X97.here hx rfl (hb hby d2_12) rfl ?_
    show Steps p.tables e below (T97.setTop (mkF m 14 #[.val (.ref a89), .val .null, .val (.ref b97_0), .val (.int (2 : Int32)), .val (.int (0 : Int32)), .unset] [(.int (0 : Int32))])) _
    refine XS.iloadN X97.here hx rfl (hb hby d2_14) rfl ?_
    show Steps p.tables e below (T97.setTop (mkF m 15 #[.val (.ref a89), .val .null, .val (.ref b97_0), .val (.int (2 : Int32)), .val (.int (0 : Int32)), .unset] [(.int (2 : Int32)), (.int (0 : Int32))])) _
    refine XS.icmpNo X97.here hx rfl (hb hby d2_15) rfl (tlt (by decide : (0 : Int32) < (2 : Int32))).2.1 ?_
    show Steps p.tables e below (T97.setTop (mkF m 18 #[.val (.ref a89), .val .null, .val (.ref b97_0), .val (.int (2 : Int32)), .val (.int (0 : Int32)), .unset] [])) _
    refine XS.aloadN X97.here hx rfl (hb hby d2_18) rfl rfl ?_
    show Steps p.tables e below (T97.setTop (mkF m 19 #[.val (.ref a89), .val .null, .val (.ref b97_0), .val (.int (2 : Int32)), .val (.int (0 : Int32)), .unset] [(.ref b97_0)])) _
    refine XS.iload X97.here hx rfl (hb hby d2_19) rfl ?_
    show Steps p.tables e below (T97.setTop (mkF m 21 #[.val (.ref a89), .val .null, .val (.ref b97_0), .val (.int (2 : Int32)), .val (.int (0 : Int32)), .unset] [(.int (0 : Int32)), (.ref b97_0)])) _
    refine X97.aaload hx (j := (0 : Int32)) (v := (.ref w100)) (Ar103.1) (State.isArrayOf_alike hZ.alike Ar103.2.1) rfl Ar103.2.2 hin103 hat103 (g := (mkF m 21 #[.val (.ref a89), .val .null, .val (.ref b97_0), .val (.int (2 : Int32)), .val (.int (0 : Int32)), .unset] [(.int (0 : Int32)), (.ref b97_0)])) rfl rfl (hb hby d2_21) _ ?_
    show Steps p.tables e below (T97.setTop (mkF m 22 #[.val (.ref a89), .val .null, .val (.ref b97_0), .val (.int (2 : Int32)), .val (.int (0 : Int32)), .unset] [(.ref w100)])) _
    refine XS.astore X97.here hx rfl (hb hby d2_22) rfl rfl (l' := #[.val (.ref a89), .val .null, .val (.ref b97_0), .val (.int (2 : Int32)), .val (.int (0 : Int32)), .val (.ref w100)]) rfl ?_
    show Steps p.tables e below (T97.setTop (mkF m 24 #[.val (.ref a89), .val .null, .val (.ref b97_0), .val (.int (2 : Int32)), .val (.int (0 : Int32)), .val (.ref w100)] [])) _
    refine XS.aload X97.here hx rfl (hb hby d2_24) rfl rfl ?_
    show Steps p.tables e below (T97.setTop (mkF m 26 #[.val (.ref a89), .val .null, .val (.ref b97_0), .val (.int (2 : Int32)), .val (.int (0 : Int32)), .val (.ref w100)] [(.ref w100)])) _
    refine st106 _ ?_
    show Steps p.tables e below (T106.setTop (mkF m 29 #[.val (.ref a89), .val .null, .val (.ref b97_0), .val (.int (2 : Int32)), .val (.int (0 : Int32)), .val (.ref w100)] [(.ref w104)])) _
    refine XS.aloadN X106.here hx rfl (hb hby d2_29) rfl rfl ?_
    show Steps p.tables e below (T106.setTop (mkF m 30 #[.val (.ref a89), .val .null, .val (.ref b97_0), .val (.int (2 : Int32)), .val (.int (0 : Int32)), .val (.ref w100)] [(.ref a89), (.ref w104)])) _
    refine Jvm.RoadKit.acmp (g := (mkF m 30 #[.val (.ref a89), .val .null, .val (.ref b97_0), .val (.int (2 : Int32)), .val (.int (0 : Int32)), .val (.ref w100)] [(.ref a89), (.ref w104)])) X106 hx rfl rfl rfl (pc0 := 30) (pc' := 38) (same := false) rfl (hb hby d2_30) rfl (decide_eq_false fun q => H4 (Value.ref.inj q)) (by decide) (by decide) ?_
    show Steps p.tables e below (T106.setTop (mkF m 38 #[.val (.ref a89), .val .null, .val (.ref b97_0), .val (.int (2 : Int32)), .val (.int (0 : Int32)), .val (.ref w100)] [])) _
    refine XS.aloadN X106.here hx rfl (hb hby d2_38) rfl rfl ?_
    show Steps p.tables e below (T106.setTop (mkF m 39 #[.val (.ref a89), .val .null, .val (.ref b97_0), .val (.int (2 : Int32)), .val (.int (0 : Int32)), .val (.ref w100)] [.null])) _
    refine XS.astoreN X106.here hx rfl (hb hby d2_39) rfl rfl (l' := #[.val (.ref a89), .val .null, .val (.ref b97_0), .val (.int (2 : Int32)), .val (.int (0 : Int32)), .val (.ref w100)]) rfl ?_
    show Steps p.tables e below (T106.setTop (mkF m 40 #[.val (.ref a89), .val .null, .val (.ref b97_0), .val (.int (2 : Int32)), .val (.int (0 : Int32)), .val (.ref w100)] [])) _
    refine XS.iinc X106.here hx rfl (hb hby d2_40) rfl (l' := #[.val (.ref a89), .val .null, .val (.ref b97_0), .val (.int (2 : Int32)), .val (.int (1 : Int32)), .val (.ref w100)]) rfl ?_
    show Steps p.tables e below (T106.setTop (mkF m 43 #[.val (.ref a89), .val .null, .val (.ref b97_0), .val (.int (2 : Int32)), .val (.int (1 : Int32)), .val (.ref w100)] [])) _
    refine XS.goto X106.here hx rfl (pc0 := 43) (pc' := 12) rfl (hb hby d2_43) (by decide) (by decide) ?_
    show Steps p.tables e below (T106.setTop (mkF m 12 #[.val (.ref a89), .val .null, .val (.ref b97_0), .val (.int (2 : Int32)), .val (.int (1 : Int32)), .val (.ref w100)] [])) _
    refine XS.iload X106.here hx rfl (hb hby d2_12) rfl ?_
    show Steps p.tables e below (T106.setTop (mkF m 14 #[.val (.ref a89), .val .null, .val (.ref b97_0), .val (.int (2 : Int32)), .val (.int (1 : Int32)), .val (.ref w100)] [(.int (1 : Int32))])) _
    refine XS.iloadN X106.here hx rfl (hb hby d2_14) rfl ?_
    show Steps p.tables e below (T106.setTop (mkF m 15 #[.val (.ref a89), .val .null, .val (.ref b97_0), .val (.int (2 : Int32)), .val (.int (1 : Int32)), .val (.ref w100)] [(.int (2 : Int32)), (.int (1 : Int32))])) _
    refine XS.icmpNo X106.here hx rfl (hb hby d2_15) rfl (tlt (by decide : (1 : Int32) < (2 : Int32))).2.1 ?_
    show Steps p.tables e below (T106.setTop (mkF m 18 #[.val (.ref a89), .val .null, .val (.ref b97_0), .val (.int (2 : Int32)), .val (.int (1 : Int32)), .val (.ref w100)] [])) _
    refine XS.aloadN X106.here hx rfl (hb hby d2_18) rfl rfl ?_
    show Steps p.tables e below (T106.setTop (mkF m 19 #[.val (.ref a89), .val .null, .val (.ref b97_0), .val (.int (2 : Int32)), .val (.int (1 : Int32)), .val (.ref w100)] [(.ref b97_0)])) _
    refine XS.iload X106.here hx rfl (hb hby d2_19) rfl ?_
    show Steps p.tables e below (T106.setTop (mkF m 21 #[.val (.ref a89), .val .null, .val (.ref b97_0), .val (.int (2 : Int32)), .val (.int (1 : Int32)), .val (.ref w100)] [(.int (1 : Int32)), (.ref b97_0)])) _
    refine X106.aaload hx (j := (1 : Int32)) (v := (.ref w101)) (by rw [e106]; exact Ar107.1) (State.isArrayOf_alike hZ.alike Ar107.2.1) rfl Ar107.2.2 hin107 hat107 (g := (mkF m 21 #[.val (.ref a89), .val .null, .val (.ref b97_0), .val (.int (2 : Int32)), .val (.int (1 : Int32)), .val (.ref w100)] [(.int (1 : Int32)), (.ref b97_0)])) rfl rfl (hb hby d2_21) _ ?_
    show Steps p.tables e below (T106.setTop (mkF m 22 #[.val (.ref a89), .val .null, .val (.ref b97_0), .val (.int (2 : Int32)), .val (.int (1 : Int32)), .val (.ref w100)] [(.ref w101)])) _
    refine XS.astore X106.here hx rfl (hb hby d2_22) rfl rfl (l' := #[.val (.ref a89), .val .null, .val (.ref b97_0), .val (.int (2 : Int32)), .val (.int (1 : Int32)), .val (.ref w101)]) rfl ?_
    show Steps p.tables e below (T106.setTop (mkF m 24 #[.val (.ref a89), .val .null, .val (.ref b97_0), .val (.int (2 : Int32)), .val (.int (1 : Int32)), .val (.ref w101)] [])) _
    refine XS.aload X106.here hx rfl (hb hby d2_24) rfl rfl ?_
    show Steps p.tables e below (T106.setTop (mkF m 26 #[.val (.ref a89), .val .null, .val (.ref b97_0), .val (.int (2 : Int32)), .val (.int (1 : Int32)), .val (.ref w101)] [(.ref w101)])) _
    refine st110 _ ?_
    show Steps p.tables e below (T110.setTop (mkF m 29 #[.val (.ref a89), .val .null, .val (.ref b97_0), .val (.int (2 : Int32)), .val (.int (1 : Int32)), .val (.ref w101)] [(.ref w108)])) _
    refine XS.aloadN X110.here hx rfl (hb hby d2_29) rfl rfl ?_
    show Steps p.tables e below (T110.setTop (mkF m 30 #[.val (.ref a89), .val .null, .val (.ref b97_0), .val (.int (2 : Int32)), .val (.int (1 : Int32)), .val (.ref w101)] [(.ref a89), (.ref w108)])) _
    refine Jvm.RoadKit.acmp (g := (mkF m 30 #[.val (.ref a89), .val .null, .val (.ref b97_0), .val (.int (2 : Int32)), .val (.int (1 : Int32)), .val (.ref w101)] [(.ref a89), (.ref w108)])) X110 hx rfl rfl rfl (pc0 := 30) (pc' := 38) (same := false) rfl (hb hby d2_30) rfl (decide_eq_false fun q => H6 (Value.ref.inj q)) (by decide) (by decide) ?_
    show Steps p.tables e below (T110.setTop (mkF m 38 #[.val (.ref a89), .val .null, .val (.ref b97_0), .val (.int (2 : Int32)), .val (.int (1 : Int32)), .val (.ref w101)] [])) _
    refine XS.aloadN X110.here hx rfl (hb hby d2_38) rfl rfl ?_
    show Steps p.tables e below (T110.setTop (mkF m 39 #[.val (.ref a89), .val .null, .val (.ref b97_0), .val (.int (2 : Int32)), .val (.int (1 : Int32)), .val (.ref w101)] [.null])) _
    refine XS.astoreN X110.here hx rfl (hb hby d2_39) rfl rfl (l' := #[.val (.ref a89), .val .null, .val (.ref b97_0), .val (.int (2 : Int32)), .val (.int (1 : Int32)), .val (.ref w101)]) rfl ?_
    show Steps p.tables e below (T110.setTop (mkF m 40 #[.val (.ref a89), .val .null, .val (.ref b97_0), .val (.int (2 : Int32)), .val (.int (1 : Int32)), .val (.ref w101)] [])) _
    refine XS.iinc X110.here hx rfl (hb hby d2_40) rfl (l' := #[.val (.ref a89), .val .null, .val (.ref b97_0), .val (.int (2 : Int32)), .val (.int (2 : Int32)), .val (.ref w101)]) rfl ?_
    show Steps p.tables e below (T110.setTop (mkF m 43 #[.val (.ref a89), .val .null, .val (.ref b97_0), .val (.int (2 : Int32)), .val (.int (2 : Int32)), .val (.ref w101)] [])) _
    refine XS.goto X110.here hx rfl (pc0 := 43) (pc' := 12) rfl (hb hby d2_43) (by decide) (by decide) ?_
    show Steps p.tables e below (T110.setTop (mkF m 12 #[.val (.ref a89), .val .null, .val (.ref b97_0), .val (.int (2 : Int32)), .val (.int (2 : Int32)), .val (.ref w101)] [])) _
    refine XS.iload X110.here hx rfl (hb hby d2_12) rfl ?_
    show Steps p.tables e below (T110.setTop (mkF m 14 #[.val (.ref a89), .val .null, .val (.ref b97_0), .val (.int (2 : Int32)), .val (.int (2 : Int32)), .val (.ref w101)] [(.int (2 : Int32))])) _
    refine XS.iloadN X110.here hx rfl (hb hby d2_14) rfl ?_
    show Steps p.tables e below (T110.setTop (mkF m 15 #[.val (.ref a89), .val .null, .val (.ref b97_0), .val (.int (2 : Int32)), .val (.int (2 : Int32)), .val (.ref w101)] [(.int (2 : Int32)), (.int (2 : Int32))])) _
    refine XS.icmpYes X110.here hx rfl (pc0 := 15) (pc' := 46) rfl (hb hby d2_15) rfl (flt (by decide : ¬ ((2 : Int32) < (2 : Int32)))).2.1 (by decide) (by decide) ?_
    show Steps p.tables e below (T110.setTop (mkF m 46 #[.val (.ref a89), .val .null, .val (.ref b97_0), .val (.int (2 : Int32)), .val (.int (2 : Int32)), .val (.ref w101)] [])) _
    refine XS.aloadN X110.here hx rfl (hb hby d2_46) rfl rfl ?_
    show Steps p.tables e below (T110.setTop (mkF m 47 #[.val (.ref a89), .val .null, .val (.ref b97_0), .val (.int (2 : Int32)), .val (.int (2 : Int32)), .val (.ref w101)] [.null])) _
    jvm_step X110.here [X110.here.top, hx, (hb hby d2_47), X110.method', Bd.returns, Value.isRef, FieldType.isReference]
    first | (intro acts; rw [hr _ acts rfl rfl rfl]) | rw [hr _ _ rfl rfl rfl]
    exact Steps.refl _
  · show Qr2_3 Z a89 w98 k99 w100 w101 w104 w108 h0 n0 _ T110.heap _
    rw [e110]
    exact ⟨N97, b97_0, rfl, (Nat.le_trans (KSx.refl h0 []).1 ge_b97_0), KC97, o97_0, o97_1⟩
theorem d4_17 : decode method_3_code 17 = .ok (.aconst_null, 1) := by decide +kernel
theorem d4_18 : decode method_3_code 18 = .ok (.areturn, 1) := by decide +kernel
set_option maxRecDepth 65536 in
set_option maxHeartbeats 40000000 in
theorem r4_3 (l : Launch) (Z : State) (a0 : Array Value) (hw : ∀ d ∈ tables_1, d.before a0 Z = true) (p118 : Int32) (h0 : Heap) (n0 : Nat) (Z0 : n0 ≤ h0.size) (H0 : ¬ (p118 = (0 : Int32))) (H1 : ¬ (p118 = (1 : Int32))) :
    OMet l Z (⟨"com/example/cordon/cordon/model/EffectOfPinLaw", "expected", "(I)Lcom/example/cordon/cordon/model/Effect;"⟩ : MethodName) method_3_code 1 (some (.object "com/example/cordon/cordon/model/Effect")) [] ({ frames := 0, cells := 0, slots := 0, locals := 0 } : Room) h0 #[(.int p118)] (OQp (some .null) h0 n0) := by
  refine MetFree.of_bodySF (plainFor_of_name pn_com_example_cordon_cordon_model_EffectOfPinLaw) hisR ?_
  intro p e s m args below meth c s₁ Bd hml0 hP hK
  obtain ⟨rfl, hZ, hh⟩ := hP
  have hx := Bd.exec
  have hby := Bd.bytes
  have hml : c.maxLocals = 1 := hml0
  have hown : s.vm.findClass "com/example/cordon/cordon/model/EffectOfPinLaw" = some m.cls := findClass_of_methodNamed Bd.named
  have hnm := (name_of_methodNamed Bd.named Bd.method).1
  have X0 : Stand p l e ({ frames := 0, cells := 0, slots := 0, locals := 0 } : Room) s m #[(.int p118)] below meth c s₁ [] 0 0 := Stand.of_body Bd
  have e0 : s₁.heap = h0 := by rw [← hh, Bd.state]; rfl
  have N0 := Fr.nil n0
  have pre0 : ∀ t, Steps p.tables e below (s₁.setTop (mkF m 0 #[.val (.int p118)] [])) t → Steps p.tables e below (s₁.setTop (entryFrame m #[(.int p118)] 1)) t := fun t k => castTop (ef_4_v m p118) k

  obtain ⟨fs, hr, hrun, hended, hW, hsame⟩ := X0.leave (v := some .null) (fun h => by rw [Bd.returns] at h; cases h)
  refine ⟨_, _, pre0 _ ?_, hrun, hended, _, _, rfl, ?_, ⟨_, rfl⟩, hW, hsame.mono (by decide) (by decide)⟩
  · show Steps p.tables e below (s₁.setTop (mkF m 0 #[.val (.int p118)] [])) _
    refine XS.iloadN X0.here hx rfl (hb hby d4_0) rfl ?_
    show Steps p.tables e below (s₁.setTop (mkF m 1 #[.val (.int p118)] [(.int p118)])) _
    refine XS.ifYes X0.here hx rfl (pc0 := 1) (pc' := 8) rfl (hb hby d4_1) rfl ((if0 _ _).trans (feq H0).2) (by decide) (by decide) ?_
    show Steps p.tables e below (s₁.setTop (mkF m 8 #[.val (.int p118)] [])) _
    refine XS.iloadN X0.here hx rfl (hb hby d4_8) rfl ?_
    show Steps p.tables e below (s₁.setTop (mkF m 9 #[.val (.int p118)] [(.int p118)])) _
    refine XS.iconst X0.here hx rfl (hb hby d4_9) ?_
    show Steps p.tables e below (s₁.setTop (mkF m 10 #[.val (.int p118)] [(.int (1 : Int32)), (.int p118)])) _
    refine XS.icmpYes X0.here hx rfl (pc0 := 10) (pc' := 17) rfl (hb hby d4_10) rfl (feq H1).2 (by decide) (by decide) ?_
    show Steps p.tables e below (s₁.setTop (mkF m 17 #[.val (.int p118)] [])) _
    refine XS.aconstNull X0.here hx rfl (hb hby d4_17) ?_
    show Steps p.tables e below (s₁.setTop (mkF m 18 #[.val (.int p118)] [.null])) _
    jvm_step X0.here [X0.here.top, hx, (hb hby d4_18), X0.method', Bd.returns, Value.isRef, FieldType.isReference]
    first | (intro acts; rw [hr _ acts rfl rfl rfl]) | rw [hr _ _ rfl rfl rfl]
    exact Steps.refl _
  · show OQp (some .null) h0 n0 _ s₁.heap _
    rw [e0]
    exact ⟨rfl, N0, rfl⟩
set_option maxRecDepth 65536 in
set_option maxHeartbeats 40000000 in
theorem r0_3 (l : Launch) (Z : State) (a0 : Array Value) (hw : ∀ d ∈ tables_1, d.before a0 Z = true) (p83 : Int32) (w88 : Addr) (w112 : Addr) (k113 : ClassId) (w114 : Addr) (w115 : Addr) (w116 : Addr) (w117 : Addr) (h0 : Heap) (n0 : Nat) (Z0 : n0 ≤ h0.size) (H0 : ¬ (((p83 &&& (2147483647 : Int32)) % (6 : Int32)) = (0 : Int32))) (H1 : ¬ (((p83 &&& (2147483647 : Int32)) % (6 : Int32)) = (1 : Int32))) (H2 : ((p83 &&& (2147483647 : Int32)) % (6 : Int32)) = (2 : Int32)) (H3 : Sta Z h0 "com/example/cordon/cordon/model/Decision" "NOT_APPLICABLE" "Lcom/example/cordon/cordon/model/Decision;" (.ref w88)) (H4 : Sta Z h0 "com/example/cordon/cordon/model/Effect" "$VALUES" "[Lcom/example/cordon/cordon/model/Effect;" (.ref w112)) (H5 : Arv Z h0 w112 k113 (.object "com/example/cordon/cordon/model/Effect") (2 : Int32) [(.ref w114), (.ref w115)] .null) (H6 : Exa Z h0 w112 "[Lcom/example/cordon/cordon/model/Effect;") (H7 : Fld Z h0 w114 "com/example/cordon/cordon/model/Effect" "decision" "Lcom/example/cordon/cordon/model/Decision;" (.ref w116)) (H8 : w116 ≠ w88) (H9 : Fld Z h0 w115 "com/example/cordon/cordon/model/Effect" "decision" "Lcom/example/cordon/cordon/model/Decision;" (.ref w117)) (H10 : w117 ≠ w88) :
    OMet l Z x code maxLocals ret tables_1 room_1 h0 #[(.int p83)] (OQl (some (.int (1 : Int32))) n0) := by
  refine MetFree.of_bodySF (plainFor_of_name pn_com_example_cordon_cordon_model_EffectOfPinLaw) hisR ?_
  intro p e s m args below meth c s₁ Bd hml0 hP hK
  obtain ⟨rfl, hZ, hh⟩ := hP
  have hx := Bd.exec
  have hby := Bd.bytes
  have hml : c.maxLocals = 4 := hml0
  have hown : s.vm.findClass "com/example/cordon/cordon/model/EffectOfPinLaw" = some m.cls := findClass_of_methodNamed Bd.named
  have hnm := (name_of_methodNamed Bd.named Bd.method).1
  have X0 : Stand p l e room_1 s m #[(.int p83)] below meth c s₁ [] 0 0 := Stand.of_body Bd
  have e0 : s₁.heap = h0 := by rw [← hh, Bd.state]; rfl
  have N0 := Fr.nil n0
  have pre0 : ∀ t, Steps p.tables e below (s₁.setTop (mkF m 0 #[.val (.int p83), .unset, .unset, .unset] [])) t → Steps p.tables e below (s₁.setTop (entryFrame m #[(.int p83)] maxLocals)) t := fun t k => castTop (ef_0_v m p83) k
  obtain ⟨_, _, ⟨T87, L87, k87, n87⟩, -, X87, ⟨Lc87, hQ87, l87, y87, z87⟩, st87⟩ := Jvm.LawKit.callS X0 hx (y := (⟨"com/example/cordon/cordon/model/EffectOfPinLaw", "pick", "(I)Lcom/example/cordon/cordon/model/Decision;"⟩ : MethodName)) hown (mvT hZ (hw _ (List.mem_of_getElem? (i := 1) rfl))) (mvT hZ (hw _ (List.mem_of_getElem? (i := 2) rfl))) (mvT hZ (hw _ (List.mem_of_getElem? (i := 3) rfl))) (mvT hZ (hw _ (List.mem_of_getElem? (i := 4) rfl))) (by decide) (backOf (W := 0) (r1_3 l Z a0 hw ((p83 &&& (2147483647 : Int32)) % (6 : Int32)) w88 h0 n0 Z0 H0 H1 H2 H3) hZ (hw _ (List.mem_of_getElem? (i := 4) rfl)) (hw _ (List.mem_of_getElem? (i := 3) rfl)) (by decide) (by decide)) (g := (mkF m 9 #[.val (.int p83), .val (.int ((p83 &&& (2147483647 : Int32)) % (6 : Int32))), .unset, .unset] [(.int ((p83 &&& (2147483647 : Int32)) % (6 : Int32)))])) rfl (by rw [hml]; rfl) (argsL := [(.int ((p83 &&& (2147483647 : Int32)) % (6 : Int32)))]) (rest := []) (lenOf pd_0 rfl) rfl (by show 2 * 0 + _ ≤ _; exact Nat.le_of_eq rfl) (hb hby at_9) (fun _ _ => ⟨rfl, e0, (by decide : 0 + 0 ≤ _), (by decide : 0 + 0 ≤ _)⟩)
  dsimp only [Pt.U, Pt.locs, Pt.cells, Pt.slots] at X87 l87 y87 z87 st87 hQ87
  subst l87 y87 z87
  obtain ⟨rfl, N87q, e87⟩ := hQ87
  have N87 := Fr.app N0 N87q
  obtain ⟨_, _, ⟨T111, L111, k111, n111⟩, -, X111, ⟨Lc111, hQ111, l111, y111, z111⟩, st111⟩ := Jvm.LawKit.callS X87 hx (y := (⟨"com/example/cordon/cordon/model/Effect", "of", "(Lcom/example/cordon/cordon/model/Decision;)Lcom/example/cordon/cordon/model/Effect;"⟩ : MethodName)) hown (mvT hZ (hw _ (List.mem_of_getElem? (i := 8) rfl))) (mvT hZ (hw _ (List.mem_of_getElem? (i := 9) rfl))) (mvT hZ (hw _ (List.mem_of_getElem? (i := 10) rfl))) (mvT hZ (hw _ (List.mem_of_getElem? (i := 11) rfl))) (by decide) (backOf (W := 0) (r2_3 l Z a0 hw w88 w112 k113 w114 w115 w116 w117 h0 n0 Z0 H4 H5 H6 H7 H8 H9 H10) hZ (hw _ (List.mem_of_getElem? (i := 11) rfl)) (hw _ (List.mem_of_getElem? (i := 10) rfl)) (by decide) (by decide)) (g := (mkF m 14 #[.val (.int p83), .val (.int ((p83 &&& (2147483647 : Int32)) % (6 : Int32))), .val (.ref w88), .unset] [(.ref w88)])) rfl (by rw [hml]; rfl) (argsL := [(.ref w88)]) (rest := []) (lenOf pd_2 rfl) rfl (by show 2 * 0 + _ ≤ _; exact Nat.le_of_eq rfl) (hb hby at_14) (fun _ _ => ⟨rfl, e87, (by decide : 0 + 1 ≤ _), (by decide : 0 + 2 ≤ _)⟩)
  dsimp only [Pt.U, Pt.locs, Pt.cells, Pt.slots] at X111 l111 y111 z111 st111 hQ111
  subst l111 y111 z111
  obtain ⟨N111q, b111_0, rfl, ge_b111_0, K111, o111_0, o111_1⟩ := hQ111
  have N111 := Fr.app N87 N111q
  have KC111 := KSx.trans (KSx.refl h0 []) K111 ks0
  have Z111 : n0 ≤ T111.heap.size := Nat.le_trans Z0 K111.1
  obtain ⟨_, _, ⟨T119, L119, k119, n119⟩, -, X119, ⟨Lc119, hQ119, l119, y119, z119⟩, st119⟩ := Jvm.LawKit.callS X111 hx (y := (⟨"com/example/cordon/cordon/model/EffectOfPinLaw", "expected", "(I)Lcom/example/cordon/cordon/model/Effect;"⟩ : MethodName)) hown (mvT hZ (hw _ (List.mem_of_getElem? (i := 32) rfl))) (mvT hZ (hw _ (List.mem_of_getElem? (i := 33) rfl))) (mvT hZ (hw _ (List.mem_of_getElem? (i := 3) rfl))) (mvT hZ (hw _ (List.mem_of_getElem? (i := 34) rfl))) (by decide) (backOf (W := 1) (r4_3 l Z a0 hw ((p83 &&& (2147483647 : Int32)) % (6 : Int32)) T111.heap n0 Z111 H0 H1) hZ (hw _ (List.mem_of_getElem? (i := 34) rfl)) (hw _ (List.mem_of_getElem? (i := 3) rfl)) (by decide) (by decide)) (g := (mkF m 20 #[.val (.int p83), .val (.int ((p83 &&& (2147483647 : Int32)) % (6 : Int32))), .val (.ref w88), .val .null] [(.int ((p83 &&& (2147483647 : Int32)) % (6 : Int32))), .null])) rfl (by rw [hml]; rfl) (argsL := [(.int ((p83 &&& (2147483647 : Int32)) % (6 : Int32)))]) (rest := [.null]) (lenOf pd_3 rfl) rfl (by show 2 * 0 + _ ≤ _; exact Nat.le_of_eq rfl) (hb hby at_20) (fun _ _ => ⟨rfl, rfl, (by decide : 1 + 0 ≤ _), (by decide : 2 + 0 ≤ _)⟩)
  dsimp only [Pt.U, Pt.locs, Pt.cells, Pt.slots] at X119 l119 y119 z119 st119 hQ119
  subst l119 y119 z119
  obtain ⟨rfl, N119q, e119⟩ := hQ119
  have N119 := Fr.app N111 N119q
  obtain ⟨fs, hr, hrun, hended, hW, hsame⟩ := X119.leave (v := some (.int (1 : Int32))) (fun h => by rw [Bd.returns] at h; cases h)
  refine ⟨_, _, pre0 _ ?_, hrun, hended, _, _, rfl, ?_, ⟨_, rfl⟩, hW, hsame.mono (by decide) (by decide)⟩
  · show Steps p.tables e below (s₁.setTop (mkF m 0 #[.val (.int p83), .unset, .unset, .unset] [])) _
    refine XS.iloadN X0.here hx rfl (hb hby at_0) rfl ?_
    show Steps p.tables e below (s₁.setTop (mkF m 1 #[.val (.int p83), .unset, .unset, .unset] [(.int p83)])) _
    refine X0.ldcInt hx hown (mvT hZ (hw _ (List.mem_of_getElem? (i := 0) rfl))) (g := (mkF m 1 #[.val (.int p83), .unset, .unset, .unset] [(.int p83)])) rfl (hb hby at_1) _ ?_
    show Steps p.tables e below (s₁.setTop (mkF m 3 #[.val (.int p83), .unset, .unset, .unset] [(.int (2147483647 : Int32)), (.int p83)])) _
    refine XS.iand X0.here hx rfl (hb hby at_3) rfl ?_
    show Steps p.tables e below (s₁.setTop (mkF m 4 #[.val (.int p83), .unset, .unset, .unset] [(.int (p83 &&& (2147483647 : Int32)))])) _
    refine XS.bipush X0.here hx rfl (hb hby at_4) ?_
    show Steps p.tables e below (s₁.setTop (mkF m 6 #[.val (.int p83), .unset, .unset, .unset] [(.int (6 : Int32)), (.int (p83 &&& (2147483647 : Int32)))])) _
    refine iremM X0 hx rfl (hb hby at_6) rfl (by decide) ?_
    show Steps p.tables e below (s₁.setTop (mkF m 7 #[.val (.int p83), .unset, .unset, .unset] [(.int ((p83 &&& (2147483647 : Int32)) % (6 : Int32)))])) _
    refine XS.istoreN X0.here hx rfl (hb hby at_7) rfl (l' := #[.val (.int p83), .val (.int ((p83 &&& (2147483647 : Int32)) % (6 : Int32))), .unset, .unset]) rfl ?_
    show Steps p.tables e below (s₁.setTop (mkF m 8 #[.val (.int p83), .val (.int ((p83 &&& (2147483647 : Int32)) % (6 : Int32))), .unset, .unset] [])) _
    refine XS.iloadN X0.here hx rfl (hb hby at_8) rfl ?_
    show Steps p.tables e below (s₁.setTop (mkF m 9 #[.val (.int p83), .val (.int ((p83 &&& (2147483647 : Int32)) % (6 : Int32))), .unset, .unset] [(.int ((p83 &&& (2147483647 : Int32)) % (6 : Int32)))])) _
    refine st87 _ ?_
    show Steps p.tables e below (T87.setTop (mkF m 12 #[.val (.int p83), .val (.int ((p83 &&& (2147483647 : Int32)) % (6 : Int32))), .unset, .unset] [(.ref w88)])) _
    refine XS.astoreN X87.here hx rfl (hb hby at_12) rfl rfl (l' := #[.val (.int p83), .val (.int ((p83 &&& (2147483647 : Int32)) % (6 : Int32))), .val (.ref w88), .unset]) rfl ?_
    show Steps p.tables e below (T87.setTop (mkF m 13 #[.val (.int p83), .val (.int ((p83 &&& (2147483647 : Int32)) % (6 : Int32))), .val (.ref w88), .unset] [])) _
    refine XS.aloadN X87.here hx rfl (hb hby at_13) rfl rfl ?_
    show Steps p.tables e below (T87.setTop (mkF m 14 #[.val (.int p83), .val (.int ((p83 &&& (2147483647 : Int32)) % (6 : Int32))), .val (.ref w88), .unset] [(.ref w88)])) _
    refine st111 _ ?_
    show Steps p.tables e below (T111.setTop (mkF m 17 #[.val (.int p83), .val (.int ((p83 &&& (2147483647 : Int32)) % (6 : Int32))), .val (.ref w88), .unset] [.null])) _
    refine XS.astoreN X111.here hx rfl (hb hby at_17) rfl rfl (l' := #[.val (.int p83), .val (.int ((p83 &&& (2147483647 : Int32)) % (6 : Int32))), .val (.ref w88), .val .null]) rfl ?_
    show Steps p.tables e below (T111.setTop (mkF m 18 #[.val (.int p83), .val (.int ((p83 &&& (2147483647 : Int32)) % (6 : Int32))), .val (.ref w88), .val .null] [])) _
    refine XS.aloadN X111.here hx rfl (hb hby at_18) rfl rfl ?_
    show Steps p.tables e below (T111.setTop (mkF m 19 #[.val (.int p83), .val (.int ((p83 &&& (2147483647 : Int32)) % (6 : Int32))), .val (.ref w88), .val .null] [.null])) _
    refine XS.iloadN X111.here hx rfl (hb hby at_19) rfl ?_
    show Steps p.tables e below (T111.setTop (mkF m 20 #[.val (.int p83), .val (.int ((p83 &&& (2147483647 : Int32)) % (6 : Int32))), .val (.ref w88), .val .null] [(.int ((p83 &&& (2147483647 : Int32)) % (6 : Int32))), .null])) _
    refine st119 _ ?_
    show Steps p.tables e below (T119.setTop (mkF m 23 #[.val (.int p83), .val (.int ((p83 &&& (2147483647 : Int32)) % (6 : Int32))), .val (.ref w88), .val .null] [.null, .null])) _
    refine Jvm.RoadKit.acmp (g := (mkF m 23 #[.val (.int p83), .val (.int ((p83 &&& (2147483647 : Int32)) % (6 : Int32))), .val (.ref w88), .val .null] [.null, .null])) X119 hx rfl rfl rfl (pc0 := 23) (pc' := 26) (same := true) rfl (hb hby at_23) rfl (decide_eq_true rfl) (by decide) (by decide) ?_
    show Steps p.tables e below (T119.setTop (mkF m 26 #[.val (.int p83), .val (.int ((p83 &&& (2147483647 : Int32)) % (6 : Int32))), .val (.ref w88), .val .null] [])) _
    refine XS.iconst X119.here hx rfl (hb hby at_26) ?_
    show Steps p.tables e below (T119.setTop (mkF m 27 #[.val (.int p83), .val (.int ((p83 &&& (2147483647 : Int32)) % (6 : Int32))), .val (.ref w88), .val .null] [(.int (1 : Int32))])) _
    refine XS.goto X119.here hx rfl (pc0 := 27) (pc' := 31) rfl (hb hby at_27) (by decide) (by decide) ?_
    show Steps p.tables e below (T119.setTop (mkF m 31 #[.val (.int p83), .val (.int ((p83 &&& (2147483647 : Int32)) % (6 : Int32))), .val (.ref w88), .val .null] [(.int (1 : Int32))])) _
    exact retN X119 hx (t := .boolean) Bd.returns (by simp) (hb hby at_31) hr
  · show OQl (some (.int (1 : Int32))) n0 _ T119.heap _
    exact ⟨rfl, N119⟩
theorem d1_26 : decode method_2_code 26 = .ok (.iload_n 0, 1) := by decide +kernel
theorem d1_27 : decode method_2_code 27 = .ok (.iconst 3, 1) := by decide +kernel
theorem d1_28 : decode method_2_code 28 = .ok (.if_icmp .ne 7, 3) := by decide +kernel
theorem d1_31 : decode method_2_code 31 = .ok (.getstatic 19, 3) := by decide +kernel
theorem d1_34 : decode method_2_code 34 = .ok (.areturn, 1) := by decide +kernel
set_option maxRecDepth 65536 in
set_option maxHeartbeats 40000000 in
theorem r1_4 (l : Launch) (Z : State) (a0 : Array Value) (hw : ∀ d ∈ tables_1, d.before a0 Z = true) (p121 : Int32) (w122 : Addr) (h0 : Heap) (n0 : Nat) (Z0 : n0 ≤ h0.size) (H0 : ¬ (p121 = (0 : Int32))) (H1 : ¬ (p121 = (1 : Int32))) (H2 : ¬ (p121 = (2 : Int32))) (H3 : p121 = (3 : Int32)) (H4 : Sta Z h0 "com/example/cordon/cordon/model/Decision" "INDETERMINATE_D" "Lcom/example/cordon/cordon/model/Decision;" (.ref w122)) :
    OMet l Z (⟨"com/example/cordon/cordon/model/EffectOfPinLaw", "pick", "(I)Lcom/example/cordon/cordon/model/Decision;"⟩ : MethodName) method_2_code 1 (some (.object "com/example/cordon/cordon/model/Decision")) [] ({ frames := 0, cells := 0, slots := 0, locals := 0 } : Room) h0 #[(.int p121)] (OQp (some (.ref w122)) h0 n0) := by
  refine MetFree.of_bodySF (plainFor_of_name pn_com_example_cordon_cordon_model_EffectOfPinLaw) hisR ?_
  intro p e s m args below meth c s₁ Bd hml0 hP hK
  obtain ⟨rfl, hZ, hh⟩ := hP
  have hx := Bd.exec
  have hby := Bd.bytes
  have hml : c.maxLocals = 1 := hml0
  have hown : s.vm.findClass "com/example/cordon/cordon/model/EffectOfPinLaw" = some m.cls := findClass_of_methodNamed Bd.named
  have hnm := (name_of_methodNamed Bd.named Bd.method).1
  have X0 : Stand p l e ({ frames := 0, cells := 0, slots := 0, locals := 0 } : Room) s m #[(.int p121)] below meth c s₁ [] 0 0 := Stand.of_body Bd
  have e0 : s₁.heap = h0 := by rw [← hh, Bd.state]; rfl
  have N0 := Fr.nil n0
  have pre0 : ∀ t, Steps p.tables e below (s₁.setTop (mkF m 0 #[.val (.int p121)] [])) t → Steps p.tables e below (s₁.setTop (entryFrame m #[(.int p121)] 1)) t := fun t k => castTop (ef_1_v m p121) k
  obtain ⟨T123, X123, e123, st123⟩ := getS2 X0 hx hZ hown (host := "") (Or.inl (hw _ (List.mem_of_getElem? (i := 36) rfl))) Via.refl e0 H4 (g := (mkF m 31 #[.val (.int p121)] [])) rfl (hb hby d1_31)
  obtain ⟨fs, hr, hrun, hended, hW, hsame⟩ := X123.leave (v := some (.ref w122)) (fun h => by rw [Bd.returns] at h; cases h)
  refine ⟨_, _, pre0 _ ?_, hrun, hended, _, _, rfl, ?_, ⟨_, rfl⟩, hW, hsame.mono (by decide) (by decide)⟩
  · show Steps p.tables e below (s₁.setTop (mkF m 0 #[.val (.int p121)] [])) _
    refine XS.iloadN X0.here hx rfl (hb hby d1_0) rfl ?_
    show Steps p.tables e below (s₁.setTop (mkF m 1 #[.val (.int p121)] [(.int p121)])) _
    refine XS.ifYes X0.here hx rfl (pc0 := 1) (pc' := 8) rfl (hb hby d1_1) rfl ((if0 _ _).trans (feq H0).2) (by decide) (by decide) ?_
    show Steps p.tables e below (s₁.setTop (mkF m 8 #[.val (.int p121)] [])) _
    refine XS.iloadN X0.here hx rfl (hb hby d1_8) rfl ?_
    show Steps p.tables e below (s₁.setTop (mkF m 9 #[.val (.int p121)] [(.int p121)])) _
    refine XS.iconst X0.here hx rfl (hb hby d1_9) ?_
    show Steps p.tables e below (s₁.setTop (mkF m 10 #[.val (.int p121)] [(.int (1 : Int32)), (.int p121)])) _
    refine XS.icmpYes X0.here hx rfl (pc0 := 10) (pc' := 17) rfl (hb hby d1_10) rfl (feq H1).2 (by decide) (by decide) ?_
    show Steps p.tables e below (s₁.setTop (mkF m 17 #[.val (.int p121)] [])) _
    refine XS.iloadN X0.here hx rfl (hb hby d1_17) rfl ?_
    show Steps p.tables e below (s₁.setTop (mkF m 18 #[.val (.int p121)] [(.int p121)])) _
    refine XS.iconst X0.here hx rfl (hb hby d1_18) ?_
    show Steps p.tables e below (s₁.setTop (mkF m 19 #[.val (.int p121)] [(.int (2 : Int32)), (.int p121)])) _
    refine XS.icmpYes X0.here hx rfl (pc0 := 19) (pc' := 26) rfl (hb hby d1_19) rfl (feq H2).2 (by decide) (by decide) ?_
    show Steps p.tables e below (s₁.setTop (mkF m 26 #[.val (.int p121)] [])) _
    refine XS.iloadN X0.here hx rfl (hb hby d1_26) rfl ?_
    show Steps p.tables e below (s₁.setTop (mkF m 27 #[.val (.int p121)] [(.int p121)])) _
    refine XS.iconst X0.here hx rfl (hb hby d1_27) ?_
    show Steps p.tables e below (s₁.setTop (mkF m 28 #[.val (.int p121)] [(.int (3 : Int32)), (.int p121)])) _
    refine XS.icmpNo X0.here hx rfl (hb hby d1_28) rfl (teq H3).2 ?_
    show Steps p.tables e below (s₁.setTop (mkF m 31 #[.val (.int p121)] [])) _
    refine st123 _ ?_
    show Steps p.tables e below (T123.setTop (mkF m 34 #[.val (.int p121)] [(.ref w122)])) _
    jvm_step X123.here [X123.here.top, hx, (hb hby d1_34), X123.method', Bd.returns, Value.isRef, FieldType.isReference]
    first | (intro acts; rw [hr _ acts rfl rfl rfl]) | rw [hr _ _ rfl rfl rfl]
    exact Steps.refl _
  · show OQp (some (.ref w122)) h0 n0 _ T123.heap _
    rw [e123]
    exact ⟨rfl, N0, rfl⟩
set_option maxRecDepth 65536 in
set_option maxHeartbeats 40000000 in
theorem r0_4 (l : Launch) (Z : State) (a0 : Array Value) (hw : ∀ d ∈ tables_1, d.before a0 Z = true) (p120 : Int32) (w125 : Addr) (w149 : Addr) (k150 : ClassId) (w151 : Addr) (w152 : Addr) (w153 : Addr) (w154 : Addr) (h0 : Heap) (n0 : Nat) (Z0 : n0 ≤ h0.size) (H0 : ¬ (((p120 &&& (2147483647 : Int32)) % (6 : Int32)) = (0 : Int32))) (H1 : ¬ (((p120 &&& (2147483647 : Int32)) % (6 : Int32)) = (1 : Int32))) (H2 : ¬ (((p120 &&& (2147483647 : Int32)) % (6 : Int32)) = (2 : Int32))) (H3 : ((p120 &&& (2147483647 : Int32)) % (6 : Int32)) = (3 : Int32)) (H4 : Sta Z h0 "com/example/cordon/cordon/model/Decision" "INDETERMINATE_D" "Lcom/example/cordon/cordon/model/Decision;" (.ref w125)) (H5 : Sta Z h0 "com/example/cordon/cordon/model/Effect" "$VALUES" "[Lcom/example/cordon/cordon/model/Effect;" (.ref w149)) (H6 : Arv Z h0 w149 k150 (.object "com/example/cordon/cordon/model/Effect") (2 : Int32) [(.ref w151), (.ref w152)] .null) (H7 : Exa Z h0 w149 "[Lcom/example/cordon/cordon/model/Effect;") (H8 : Fld Z h0 w151 "com/example/cordon/cordon/model/Effect" "decision" "Lcom/example/cordon/cordon/model/Decision;" (.ref w153)) (H9 : w153 ≠ w125) (H10 : Fld Z h0 w152 "com/example/cordon/cordon/model/Effect" "decision" "Lcom/example/cordon/cordon/model/Decision;" (.ref w154)) (H11 : w154 ≠ w125) :
    OMet l Z x code maxLocals ret tables_1 room_1 h0 #[(.int p120)] (OQl (some (.int (1 : Int32))) n0) := by
  refine MetFree.of_bodySF (plainFor_of_name pn_com_example_cordon_cordon_model_EffectOfPinLaw) hisR ?_
  intro p e s m args below meth c s₁ Bd hml0 hP hK
  obtain ⟨rfl, hZ, hh⟩ := hP
  have hx := Bd.exec
  have hby := Bd.bytes
  have hml : c.maxLocals = 4 := hml0
  have hown : s.vm.findClass "com/example/cordon/cordon/model/EffectOfPinLaw" = some m.cls := findClass_of_methodNamed Bd.named
  have hnm := (name_of_methodNamed Bd.named Bd.method).1
  have X0 : Stand p l e room_1 s m #[(.int p120)] below meth c s₁ [] 0 0 := Stand.of_body Bd
  have e0 : s₁.heap = h0 := by rw [← hh, Bd.state]; rfl
  have N0 := Fr.nil n0
  have pre0 : ∀ t, Steps p.tables e below (s₁.setTop (mkF m 0 #[.val (.int p120), .unset, .unset, .unset] [])) t → Steps p.tables e below (s₁.setTop (entryFrame m #[(.int p120)] maxLocals)) t := fun t k => castTop (ef_0_v m p120) k
  obtain ⟨_, _, ⟨T124, L124, k124, n124⟩, -, X124, ⟨Lc124, hQ124, l124, y124, z124⟩, st124⟩ := Jvm.LawKit.callS X0 hx (y := (⟨"com/example/cordon/cordon/model/EffectOfPinLaw", "pick", "(I)Lcom/example/cordon/cordon/model/Decision;"⟩ : MethodName)) hown (mvT hZ (hw _ (List.mem_of_getElem? (i := 1) rfl))) (mvT hZ (hw _ (List.mem_of_getElem? (i := 2) rfl))) (mvT hZ (hw _ (List.mem_of_getElem? (i := 3) rfl))) (mvT hZ (hw _ (List.mem_of_getElem? (i := 4) rfl))) (by decide) (backOf (W := 0) (r1_4 l Z a0 hw ((p120 &&& (2147483647 : Int32)) % (6 : Int32)) w125 h0 n0 Z0 H0 H1 H2 H3 H4) hZ (hw _ (List.mem_of_getElem? (i := 4) rfl)) (hw _ (List.mem_of_getElem? (i := 3) rfl)) (by decide) (by decide)) (g := (mkF m 9 #[.val (.int p120), .val (.int ((p120 &&& (2147483647 : Int32)) % (6 : Int32))), .unset, .unset] [(.int ((p120 &&& (2147483647 : Int32)) % (6 : Int32)))])) rfl (by rw [hml]; rfl) (argsL := [(.int ((p120 &&& (2147483647 : Int32)) % (6 : Int32)))]) (rest := []) (lenOf pd_0 rfl) rfl (by show 2 * 0 + _ ≤ _; exact Nat.le_of_eq rfl) (hb hby at_9) (fun _ _ => ⟨rfl, e0, (by decide : 0 + 0 ≤ _), (by decide : 0 + 0 ≤ _)⟩)
  dsimp only [Pt.U, Pt.locs, Pt.cells, Pt.slots] at X124 l124 y124 z124 st124 hQ124
  subst l124 y124 z124
  obtain ⟨rfl, N124q, e124⟩ := hQ124
  have N124 := Fr.app N0 N124q
  obtain ⟨_, _, ⟨T148, L148, k148, n148⟩, -, X148, ⟨Lc148, hQ148, l148, y148, z148⟩, st148⟩ := Jvm.LawKit.callS X124 hx (y := (⟨"com/example/cordon/cordon/model/Effect", "of", "(Lcom/example/cordon/cordon/model/Decision;)Lcom/example/cordon/cordon/model/Effect;"⟩ : MethodName)) hown (mvT hZ (hw _ (List.mem_of_getElem? (i := 8) rfl))) (mvT hZ (hw _ (List.mem_of_getElem? (i := 9) rfl))) (mvT hZ (hw _ (List.mem_of_getElem? (i := 10) rfl))) (mvT hZ (hw _ (List.mem_of_getElem? (i := 11) rfl))) (by decide) (backOf (W := 0) (r2_3 l Z a0 hw w125 w149 k150 w151 w152 w153 w154 h0 n0 Z0 H5 H6 H7 H8 H9 H10 H11) hZ (hw _ (List.mem_of_getElem? (i := 11) rfl)) (hw _ (List.mem_of_getElem? (i := 10) rfl)) (by decide) (by decide)) (g := (mkF m 14 #[.val (.int p120), .val (.int ((p120 &&& (2147483647 : Int32)) % (6 : Int32))), .val (.ref w125), .unset] [(.ref w125)])) rfl (by rw [hml]; rfl) (argsL := [(.ref w125)]) (rest := []) (lenOf pd_2 rfl) rfl (by show 2 * 0 + _ ≤ _; exact Nat.le_of_eq rfl) (hb hby at_14) (fun _ _ => ⟨rfl, e124, (by decide : 0 + 1 ≤ _), (by decide : 0 + 2 ≤ _)⟩)
  dsimp only [Pt.U, Pt.locs, Pt.cells, Pt.slots] at X148 l148 y148 z148 st148 hQ148
  subst l148 y148 z148
  obtain ⟨N148q, b148_0, rfl, ge_b148_0, K148, o148_0, o148_1⟩ := hQ148
  have N148 := Fr.app N124 N148q
  have KC148 := KSx.trans (KSx.refl h0 []) K148 ks0
  have Z148 : n0 ≤ T148.heap.size := Nat.le_trans Z0 K148.1
  obtain ⟨_, _, ⟨T156, L156, k156, n156⟩, -, X156, ⟨Lc156, hQ156, l156, y156, z156⟩, st156⟩ := Jvm.LawKit.callS X148 hx (y := (⟨"com/example/cordon/cordon/model/EffectOfPinLaw", "expected", "(I)Lcom/example/cordon/cordon/model/Effect;"⟩ : MethodName)) hown (mvT hZ (hw _ (List.mem_of_getElem? (i := 32) rfl))) (mvT hZ (hw _ (List.mem_of_getElem? (i := 33) rfl))) (mvT hZ (hw _ (List.mem_of_getElem? (i := 3) rfl))) (mvT hZ (hw _ (List.mem_of_getElem? (i := 34) rfl))) (by decide) (backOf (W := 1) (r4_3 l Z a0 hw ((p120 &&& (2147483647 : Int32)) % (6 : Int32)) T148.heap n0 Z148 H0 H1) hZ (hw _ (List.mem_of_getElem? (i := 34) rfl)) (hw _ (List.mem_of_getElem? (i := 3) rfl)) (by decide) (by decide)) (g := (mkF m 20 #[.val (.int p120), .val (.int ((p120 &&& (2147483647 : Int32)) % (6 : Int32))), .val (.ref w125), .val .null] [(.int ((p120 &&& (2147483647 : Int32)) % (6 : Int32))), .null])) rfl (by rw [hml]; rfl) (argsL := [(.int ((p120 &&& (2147483647 : Int32)) % (6 : Int32)))]) (rest := [.null]) (lenOf pd_3 rfl) rfl (by show 2 * 0 + _ ≤ _; exact Nat.le_of_eq rfl) (hb hby at_20) (fun _ _ => ⟨rfl, rfl, (by decide : 1 + 0 ≤ _), (by decide : 2 + 0 ≤ _)⟩)
  dsimp only [Pt.U, Pt.locs, Pt.cells, Pt.slots] at X156 l156 y156 z156 st156 hQ156
  subst l156 y156 z156
  obtain ⟨rfl, N156q, e156⟩ := hQ156
  have N156 := Fr.app N148 N156q
  obtain ⟨fs, hr, hrun, hended, hW, hsame⟩ := X156.leave (v := some (.int (1 : Int32))) (fun h => by rw [Bd.returns] at h; cases h)
  refine ⟨_, _, pre0 _ ?_, hrun, hended, _, _, rfl, ?_, ⟨_, rfl⟩, hW, hsame.mono (by decide) (by decide)⟩
  · show Steps p.tables e below (s₁.setTop (mkF m 0 #[.val (.int p120), .unset, .unset, .unset] [])) _
    refine XS.iloadN X0.here hx rfl (hb hby at_0) rfl ?_
    show Steps p.tables e below (s₁.setTop (mkF m 1 #[.val (.int p120), .unset, .unset, .unset] [(.int p120)])) _
    refine X0.ldcInt hx hown (mvT hZ (hw _ (List.mem_of_getElem? (i := 0) rfl))) (g := (mkF m 1 #[.val (.int p120), .unset, .unset, .unset] [(.int p120)])) rfl (hb hby at_1) _ ?_
    show Steps p.tables e below (s₁.setTop (mkF m 3 #[.val (.int p120), .unset, .unset, .unset] [(.int (2147483647 : Int32)), (.int p120)])) _
    refine XS.iand X0.here hx rfl (hb hby at_3) rfl ?_
    show Steps p.tables e below (s₁.setTop (mkF m 4 #[.val (.int p120), .unset, .unset, .unset] [(.int (p120 &&& (2147483647 : Int32)))])) _
    refine XS.bipush X0.here hx rfl (hb hby at_4) ?_
    show Steps p.tables e below (s₁.setTop (mkF m 6 #[.val (.int p120), .unset, .unset, .unset] [(.int (6 : Int32)), (.int (p120 &&& (2147483647 : Int32)))])) _
    refine iremM X0 hx rfl (hb hby at_6) rfl (by decide) ?_
    show Steps p.tables e below (s₁.setTop (mkF m 7 #[.val (.int p120), .unset, .unset, .unset] [(.int ((p120 &&& (2147483647 : Int32)) % (6 : Int32)))])) _
    refine XS.istoreN X0.here hx rfl (hb hby at_7) rfl (l' := #[.val (.int p120), .val (.int ((p120 &&& (2147483647 : Int32)) % (6 : Int32))), .unset, .unset]) rfl ?_
    show Steps p.tables e below (s₁.setTop (mkF m 8 #[.val (.int p120), .val (.int ((p120 &&& (2147483647 : Int32)) % (6 : Int32))), .unset, .unset] [])) _
    refine XS.iloadN X0.here hx rfl (hb hby at_8) rfl ?_
    show Steps p.tables e below (s₁.setTop (mkF m 9 #[.val (.int p120), .val (.int ((p120 &&& (2147483647 : Int32)) % (6 : Int32))), .unset, .unset] [(.int ((p120 &&& (2147483647 : Int32)) % (6 : Int32)))])) _
    refine st124 _ ?_
    show Steps p.tables e below (T124.setTop (mkF m 12 #[.val (.int p120), .val (.int ((p120 &&& (2147483647 : Int32)) % (6 : Int32))), .unset, .unset] [(.ref w125)])) _
    refine XS.astoreN X124.here hx rfl (hb hby at_12) rfl rfl (l' := #[.val (.int p120), .val (.int ((p120 &&& (2147483647 : Int32)) % (6 : Int32))), .val (.ref w125), .unset]) rfl ?_
    show Steps p.tables e below (T124.setTop (mkF m 13 #[.val (.int p120), .val (.int ((p120 &&& (2147483647 : Int32)) % (6 : Int32))), .val (.ref w125), .unset] [])) _
    refine XS.aloadN X124.here hx rfl (hb hby at_13) rfl rfl ?_
    show Steps p.tables e below (T124.setTop (mkF m 14 #[.val (.int p120), .val (.int ((p120 &&& (2147483647 : Int32)) % (6 : Int32))), .val (.ref w125), .unset] [(.ref w125)])) _
    refine st148 _ ?_
    show Steps p.tables e below (T148.setTop (mkF m 17 #[.val (.int p120), .val (.int ((p120 &&& (2147483647 : Int32)) % (6 : Int32))), .val (.ref w125), .unset] [.null])) _
    refine XS.astoreN X148.here hx rfl (hb hby at_17) rfl rfl (l' := #[.val (.int p120), .val (.int ((p120 &&& (2147483647 : Int32)) % (6 : Int32))), .val (.ref w125), .val .null]) rfl ?_
    show Steps p.tables e below (T148.setTop (mkF m 18 #[.val (.int p120), .val (.int ((p120 &&& (2147483647 : Int32)) % (6 : Int32))), .val (.ref w125), .val .null] [])) _
    refine XS.aloadN X148.here hx rfl (hb hby at_18) rfl rfl ?_
    show Steps p.tables e below (T148.setTop (mkF m 19 #[.val (.int p120), .val (.int ((p120 &&& (2147483647 : Int32)) % (6 : Int32))), .val (.ref w125), .val .null] [.null])) _
    refine XS.iloadN X148.here hx rfl (hb hby at_19) rfl ?_
    show Steps p.tables e below (T148.setTop (mkF m 20 #[.val (.int p120), .val (.int ((p120 &&& (2147483647 : Int32)) % (6 : Int32))), .val (.ref w125), .val .null] [(.int ((p120 &&& (2147483647 : Int32)) % (6 : Int32))), .null])) _
    refine st156 _ ?_
    show Steps p.tables e below (T156.setTop (mkF m 23 #[.val (.int p120), .val (.int ((p120 &&& (2147483647 : Int32)) % (6 : Int32))), .val (.ref w125), .val .null] [.null, .null])) _
    refine Jvm.RoadKit.acmp (g := (mkF m 23 #[.val (.int p120), .val (.int ((p120 &&& (2147483647 : Int32)) % (6 : Int32))), .val (.ref w125), .val .null] [.null, .null])) X156 hx rfl rfl rfl (pc0 := 23) (pc' := 26) (same := true) rfl (hb hby at_23) rfl (decide_eq_true rfl) (by decide) (by decide) ?_
    show Steps p.tables e below (T156.setTop (mkF m 26 #[.val (.int p120), .val (.int ((p120 &&& (2147483647 : Int32)) % (6 : Int32))), .val (.ref w125), .val .null] [])) _
    refine XS.iconst X156.here hx rfl (hb hby at_26) ?_
    show Steps p.tables e below (T156.setTop (mkF m 27 #[.val (.int p120), .val (.int ((p120 &&& (2147483647 : Int32)) % (6 : Int32))), .val (.ref w125), .val .null] [(.int (1 : Int32))])) _
    refine XS.goto X156.here hx rfl (pc0 := 27) (pc' := 31) rfl (hb hby at_27) (by decide) (by decide) ?_
    show Steps p.tables e below (T156.setTop (mkF m 31 #[.val (.int p120), .val (.int ((p120 &&& (2147483647 : Int32)) % (6 : Int32))), .val (.ref w125), .val .null] [(.int (1 : Int32))])) _
    exact retN X156 hx (t := .boolean) Bd.returns (by simp) (hb hby at_31) hr
  · show OQl (some (.int (1 : Int32))) n0 _ T156.heap _
    exact ⟨rfl, N156⟩
theorem d1_35 : decode method_2_code 35 = .ok (.iload_n 0, 1) := by decide +kernel
theorem d1_36 : decode method_2_code 36 = .ok (.iconst 4, 1) := by decide +kernel
theorem d1_37 : decode method_2_code 37 = .ok (.if_icmp .ne 7, 3) := by decide +kernel
theorem d1_40 : decode method_2_code 40 = .ok (.getstatic 22, 3) := by decide +kernel
theorem d1_43 : decode method_2_code 43 = .ok (.areturn, 1) := by decide +kernel
set_option maxRecDepth 65536 in
set_option maxHeartbeats 40000000 in
theorem r1_5 (l : Launch) (Z : State) (a0 : Array Value) (hw : ∀ d ∈ tables_1, d.before a0 Z = true) (p158 : Int32) (w159 : Addr) (h0 : Heap) (n0 : Nat) (Z0 : n0 ≤ h0.size) (H0 : ¬ (p158 = (0 : Int32))) (H1 : ¬ (p158 = (1 : Int32))) (H2 : ¬ (p158 = (2 : Int32))) (H3 : ¬ (p158 = (3 : Int32))) (H4 : p158 = (4 : Int32)) (H5 : Sta Z h0 "com/example/cordon/cordon/model/Decision" "INDETERMINATE_P" "Lcom/example/cordon/cordon/model/Decision;" (.ref w159)) :
    OMet l Z (⟨"com/example/cordon/cordon/model/EffectOfPinLaw", "pick", "(I)Lcom/example/cordon/cordon/model/Decision;"⟩ : MethodName) method_2_code 1 (some (.object "com/example/cordon/cordon/model/Decision")) [] ({ frames := 0, cells := 0, slots := 0, locals := 0 } : Room) h0 #[(.int p158)] (OQp (some (.ref w159)) h0 n0) := by
  refine MetFree.of_bodySF (plainFor_of_name pn_com_example_cordon_cordon_model_EffectOfPinLaw) hisR ?_
  intro p e s m args below meth c s₁ Bd hml0 hP hK
  obtain ⟨rfl, hZ, hh⟩ := hP
  have hx := Bd.exec
  have hby := Bd.bytes
  have hml : c.maxLocals = 1 := hml0
  have hown : s.vm.findClass "com/example/cordon/cordon/model/EffectOfPinLaw" = some m.cls := findClass_of_methodNamed Bd.named
  have hnm := (name_of_methodNamed Bd.named Bd.method).1
  have X0 : Stand p l e ({ frames := 0, cells := 0, slots := 0, locals := 0 } : Room) s m #[(.int p158)] below meth c s₁ [] 0 0 := Stand.of_body Bd
  have e0 : s₁.heap = h0 := by rw [← hh, Bd.state]; rfl
  have N0 := Fr.nil n0
  have pre0 : ∀ t, Steps p.tables e below (s₁.setTop (mkF m 0 #[.val (.int p158)] [])) t → Steps p.tables e below (s₁.setTop (entryFrame m #[(.int p158)] 1)) t := fun t k => castTop (ef_1_v m p158) k
  obtain ⟨T160, X160, e160, st160⟩ := getS2 X0 hx hZ hown (host := "") (Or.inl (hw _ (List.mem_of_getElem? (i := 44) rfl))) Via.refl e0 H5 (g := (mkF m 40 #[.val (.int p158)] [])) rfl (hb hby d1_40)
  obtain ⟨fs, hr, hrun, hended, hW, hsame⟩ := X160.leave (v := some (.ref w159)) (fun h => by rw [Bd.returns] at h; cases h)
  refine ⟨_, _, pre0 _ ?_, hrun, hended, _, _, rfl, ?_, ⟨_, rfl⟩, hW, hsame.mono (by decide) (by decide)⟩
  · show Steps p.tables e below (s₁.setTop (mkF m 0 #[.val (.int p158)] [])) _
    refine XS.iloadN X0.here hx rfl (hb hby d1_0) rfl ?_
    show Steps p.tables e below (s₁.setTop (mkF m 1 #[.val (.int p158)] [(.int p158)])) _
    refine XS.ifYes X0.here hx rfl (pc0 := 1) (pc' := 8) rfl (hb hby d1_1) rfl ((if0 _ _).trans (feq H0).2) (by decide) (by decide) ?_
    show Steps p.tables e below (s₁.setTop (mkF m 8 #[.val (.int p158)] [])) _
    refine XS.iloadN X0.here hx rfl (hb hby d1_8) rfl ?_
    show Steps p.tables e below (s₁.setTop (mkF m 9 #[.val (.int p158)] [(.int p158)])) _
    refine XS.iconst X0.here hx rfl (hb hby d1_9) ?_
    show Steps p.tables e below (s₁.setTop (mkF m 10 #[.val (.int p158)] [(.int (1 : Int32)), (.int p158)])) _
    refine XS.icmpYes X0.here hx rfl (pc0 := 10) (pc' := 17) rfl (hb hby d1_10) rfl (feq H1).2 (by decide) (by decide) ?_
    show Steps p.tables e below (s₁.setTop (mkF m 17 #[.val (.int p158)] [])) _
    refine XS.iloadN X0.here hx rfl (hb hby d1_17) rfl ?_
    show Steps p.tables e below (s₁.setTop (mkF m 18 #[.val (.int p158)] [(.int p158)])) _
    refine XS.iconst X0.here hx rfl (hb hby d1_18) ?_
    show Steps p.tables e below (s₁.setTop (mkF m 19 #[.val (.int p158)] [(.int (2 : Int32)), (.int p158)])) _
    refine XS.icmpYes X0.here hx rfl (pc0 := 19) (pc' := 26) rfl (hb hby d1_19) rfl (feq H2).2 (by decide) (by decide) ?_
    show Steps p.tables e below (s₁.setTop (mkF m 26 #[.val (.int p158)] [])) _
    refine XS.iloadN X0.here hx rfl (hb hby d1_26) rfl ?_
    show Steps p.tables e below (s₁.setTop (mkF m 27 #[.val (.int p158)] [(.int p158)])) _
    refine XS.iconst X0.here hx rfl (hb hby d1_27) ?_
    show Steps p.tables e below (s₁.setTop (mkF m 28 #[.val (.int p158)] [(.int (3 : Int32)), (.int p158)])) _
    refine XS.icmpYes X0.here hx rfl (pc0 := 28) (pc' := 35) rfl (hb hby d1_28) rfl (feq H3).2 (by decide) (by decide) ?_
    show Steps p.tables e below (s₁.setTop (mkF m 35 #[.val (.int p158)] [])) _
    refine XS.iloadN X0.here hx rfl (hb hby d1_35) rfl ?_
    show Steps p.tables e below (s₁.setTop (mkF m 36 #[.val (.int p158)] [(.int p158)])) _
    refine XS.iconst X0.here hx rfl (hb hby d1_36) ?_
    show Steps p.tables e below (s₁.setTop (mkF m 37 #[.val (.int p158)] [(.int (4 : Int32)), (.int p158)])) _
    refine XS.icmpNo X0.here hx rfl (hb hby d1_37) rfl (teq H4).2 ?_
    show Steps p.tables e below (s₁.setTop (mkF m 40 #[.val (.int p158)] [])) _
    refine st160 _ ?_
    show Steps p.tables e below (T160.setTop (mkF m 43 #[.val (.int p158)] [(.ref w159)])) _
    jvm_step X160.here [X160.here.top, hx, (hb hby d1_43), X160.method', Bd.returns, Value.isRef, FieldType.isReference]
    first | (intro acts; rw [hr _ acts rfl rfl rfl]) | rw [hr _ _ rfl rfl rfl]
    exact Steps.refl _
  · show OQp (some (.ref w159)) h0 n0 _ T160.heap _
    rw [e160]
    exact ⟨rfl, N0, rfl⟩
set_option maxRecDepth 65536 in
set_option maxHeartbeats 40000000 in
theorem r0_5 (l : Launch) (Z : State) (a0 : Array Value) (hw : ∀ d ∈ tables_1, d.before a0 Z = true) (p157 : Int32) (w162 : Addr) (w186 : Addr) (k187 : ClassId) (w188 : Addr) (w189 : Addr) (w190 : Addr) (w191 : Addr) (h0 : Heap) (n0 : Nat) (Z0 : n0 ≤ h0.size) (H0 : ¬ (((p157 &&& (2147483647 : Int32)) % (6 : Int32)) = (0 : Int32))) (H1 : ¬ (((p157 &&& (2147483647 : Int32)) % (6 : Int32)) = (1 : Int32))) (H2 : ¬ (((p157 &&& (2147483647 : Int32)) % (6 : Int32)) = (2 : Int32))) (H3 : ¬ (((p157 &&& (2147483647 : Int32)) % (6 : Int32)) = (3 : Int32))) (H4 : ((p157 &&& (2147483647 : Int32)) % (6 : Int32)) = (4 : Int32)) (H5 : Sta Z h0 "com/example/cordon/cordon/model/Decision" "INDETERMINATE_P" "Lcom/example/cordon/cordon/model/Decision;" (.ref w162)) (H6 : Sta Z h0 "com/example/cordon/cordon/model/Effect" "$VALUES" "[Lcom/example/cordon/cordon/model/Effect;" (.ref w186)) (H7 : Arv Z h0 w186 k187 (.object "com/example/cordon/cordon/model/Effect") (2 : Int32) [(.ref w188), (.ref w189)] .null) (H8 : Exa Z h0 w186 "[Lcom/example/cordon/cordon/model/Effect;") (H9 : Fld Z h0 w188 "com/example/cordon/cordon/model/Effect" "decision" "Lcom/example/cordon/cordon/model/Decision;" (.ref w190)) (H10 : w190 ≠ w162) (H11 : Fld Z h0 w189 "com/example/cordon/cordon/model/Effect" "decision" "Lcom/example/cordon/cordon/model/Decision;" (.ref w191)) (H12 : w191 ≠ w162) :
    OMet l Z x code maxLocals ret tables_1 room_1 h0 #[(.int p157)] (OQl (some (.int (1 : Int32))) n0) := by
  refine MetFree.of_bodySF (plainFor_of_name pn_com_example_cordon_cordon_model_EffectOfPinLaw) hisR ?_
  intro p e s m args below meth c s₁ Bd hml0 hP hK
  obtain ⟨rfl, hZ, hh⟩ := hP
  have hx := Bd.exec
  have hby := Bd.bytes
  have hml : c.maxLocals = 4 := hml0
  have hown : s.vm.findClass "com/example/cordon/cordon/model/EffectOfPinLaw" = some m.cls := findClass_of_methodNamed Bd.named
  have hnm := (name_of_methodNamed Bd.named Bd.method).1
  have X0 : Stand p l e room_1 s m #[(.int p157)] below meth c s₁ [] 0 0 := Stand.of_body Bd
  have e0 : s₁.heap = h0 := by rw [← hh, Bd.state]; rfl
  have N0 := Fr.nil n0
  have pre0 : ∀ t, Steps p.tables e below (s₁.setTop (mkF m 0 #[.val (.int p157), .unset, .unset, .unset] [])) t → Steps p.tables e below (s₁.setTop (entryFrame m #[(.int p157)] maxLocals)) t := fun t k => castTop (ef_0_v m p157) k
  obtain ⟨_, _, ⟨T161, L161, k161, n161⟩, -, X161, ⟨Lc161, hQ161, l161, y161, z161⟩, st161⟩ := Jvm.LawKit.callS X0 hx (y := (⟨"com/example/cordon/cordon/model/EffectOfPinLaw", "pick", "(I)Lcom/example/cordon/cordon/model/Decision;"⟩ : MethodName)) hown (mvT hZ (hw _ (List.mem_of_getElem? (i := 1) rfl))) (mvT hZ (hw _ (List.mem_of_getElem? (i := 2) rfl))) (mvT hZ (hw _ (List.mem_of_getElem? (i := 3) rfl))) (mvT hZ (hw _ (List.mem_of_getElem? (i := 4) rfl))) (by decide) (backOf (W := 0) (r1_5 l Z a0 hw ((p157 &&& (2147483647 : Int32)) % (6 : Int32)) w162 h0 n0 Z0 H0 H1 H2 H3 H4 H5) hZ (hw _ (List.mem_of_getElem? (i := 4) rfl)) (hw _ (List.mem_of_getElem? (i := 3) rfl)) (by decide) (by decide)) (g := (mkF m 9 #[.val (.int p157), .val (.int ((p157 &&& (2147483647 : Int32)) % (6 : Int32))), .unset, .unset] [(.int ((p157 &&& (2147483647 : Int32)) % (6 : Int32)))])) rfl (by rw [hml]; rfl) (argsL := [(.int ((p157 &&& (2147483647 : Int32)) % (6 : Int32)))]) (rest := []) (lenOf pd_0 rfl) rfl (by show 2 * 0 + _ ≤ _; exact Nat.le_of_eq rfl) (hb hby at_9) (fun _ _ => ⟨rfl, e0, (by decide : 0 + 0 ≤ _), (by decide : 0 + 0 ≤ _)⟩)
  dsimp only [Pt.U, Pt.locs, Pt.cells, Pt.slots] at X161 l161 y161 z161 st161 hQ161
  subst l161 y161 z161
  obtain ⟨rfl, N161q, e161⟩ := hQ161
  have N161 := Fr.app N0 N161q
  obtain ⟨_, _, ⟨T185, L185, k185, n185⟩, -, X185, ⟨Lc185, hQ185, l185, y185, z185⟩, st185⟩ := Jvm.LawKit.callS X161 hx (y := (⟨"com/example/cordon/cordon/model/Effect", "of", "(Lcom/example/cordon/cordon/model/Decision;)Lcom/example/cordon/cordon/model/Effect;"⟩ : MethodName)) hown (mvT hZ (hw _ (List.mem_of_getElem? (i := 8) rfl))) (mvT hZ (hw _ (List.mem_of_getElem? (i := 9) rfl))) (mvT hZ (hw _ (List.mem_of_getElem? (i := 10) rfl))) (mvT hZ (hw _ (List.mem_of_getElem? (i := 11) rfl))) (by decide) (backOf (W := 0) (r2_3 l Z a0 hw w162 w186 k187 w188 w189 w190 w191 h0 n0 Z0 H6 H7 H8 H9 H10 H11 H12) hZ (hw _ (List.mem_of_getElem? (i := 11) rfl)) (hw _ (List.mem_of_getElem? (i := 10) rfl)) (by decide) (by decide)) (g := (mkF m 14 #[.val (.int p157), .val (.int ((p157 &&& (2147483647 : Int32)) % (6 : Int32))), .val (.ref w162), .unset] [(.ref w162)])) rfl (by rw [hml]; rfl) (argsL := [(.ref w162)]) (rest := []) (lenOf pd_2 rfl) rfl (by show 2 * 0 + _ ≤ _; exact Nat.le_of_eq rfl) (hb hby at_14) (fun _ _ => ⟨rfl, e161, (by decide : 0 + 1 ≤ _), (by decide : 0 + 2 ≤ _)⟩)
  dsimp only [Pt.U, Pt.locs, Pt.cells, Pt.slots] at X185 l185 y185 z185 st185 hQ185
  subst l185 y185 z185
  obtain ⟨N185q, b185_0, rfl, ge_b185_0, K185, o185_0, o185_1⟩ := hQ185
  have N185 := Fr.app N161 N185q
  have KC185 := KSx.trans (KSx.refl h0 []) K185 ks0
  have Z185 : n0 ≤ T185.heap.size := Nat.le_trans Z0 K185.1
  obtain ⟨_, _, ⟨T193, L193, k193, n193⟩, -, X193, ⟨Lc193, hQ193, l193, y193, z193⟩, st193⟩ := Jvm.LawKit.callS X185 hx (y := (⟨"com/example/cordon/cordon/model/EffectOfPinLaw", "expected", "(I)Lcom/example/cordon/cordon/model/Effect;"⟩ : MethodName)) hown (mvT hZ (hw _ (List.mem_of_getElem? (i := 32) rfl))) (mvT hZ (hw _ (List.mem_of_getElem? (i := 33) rfl))) (mvT hZ (hw _ (List.mem_of_getElem? (i := 3) rfl))) (mvT hZ (hw _ (List.mem_of_getElem? (i := 34) rfl))) (by decide) (backOf (W := 1) (r4_3 l Z a0 hw ((p157 &&& (2147483647 : Int32)) % (6 : Int32)) T185.heap n0 Z185 H0 H1) hZ (hw _ (List.mem_of_getElem? (i := 34) rfl)) (hw _ (List.mem_of_getElem? (i := 3) rfl)) (by decide) (by decide)) (g := (mkF m 20 #[.val (.int p157), .val (.int ((p157 &&& (2147483647 : Int32)) % (6 : Int32))), .val (.ref w162), .val .null] [(.int ((p157 &&& (2147483647 : Int32)) % (6 : Int32))), .null])) rfl (by rw [hml]; rfl) (argsL := [(.int ((p157 &&& (2147483647 : Int32)) % (6 : Int32)))]) (rest := [.null]) (lenOf pd_3 rfl) rfl (by show 2 * 0 + _ ≤ _; exact Nat.le_of_eq rfl) (hb hby at_20) (fun _ _ => ⟨rfl, rfl, (by decide : 1 + 0 ≤ _), (by decide : 2 + 0 ≤ _)⟩)
  dsimp only [Pt.U, Pt.locs, Pt.cells, Pt.slots] at X193 l193 y193 z193 st193 hQ193
  subst l193 y193 z193
  obtain ⟨rfl, N193q, e193⟩ := hQ193
  have N193 := Fr.app N185 N193q
  obtain ⟨fs, hr, hrun, hended, hW, hsame⟩ := X193.leave (v := some (.int (1 : Int32))) (fun h => by rw [Bd.returns] at h; cases h)
  refine ⟨_, _, pre0 _ ?_, hrun, hended, _, _, rfl, ?_, ⟨_, rfl⟩, hW, hsame.mono (by decide) (by decide)⟩
  · show Steps p.tables e below (s₁.setTop (mkF m 0 #[.val (.int p157), .unset, .unset, .unset] [])) _
    refine XS.iloadN X0.here hx rfl (hb hby at_0) rfl ?_
    show Steps p.tables e below (s₁.setTop (mkF m 1 #[.val (.int p157), .unset, .unset, .unset] [(.int p157)])) _
    refine X0.ldcInt hx hown (mvT hZ (hw _ (List.mem_of_getElem? (i := 0) rfl))) (g := (mkF m 1 #[.val (.int p157), .unset, .unset, .unset] [(.int p157)])) rfl (hb hby at_1) _ ?_
    show Steps p.tables e below (s₁.setTop (mkF m 3 #[.val (.int p157), .unset, .unset, .unset] [(.int (2147483647 : Int32)), (.int p157)])) _
    refine XS.iand X0.here hx rfl (hb hby at_3) rfl ?_
    show Steps p.tables e below (s₁.setTop (mkF m 4 #[.val (.int p157), .unset, .unset, .unset] [(.int (p157 &&& (2147483647 : Int32)))])) _
    refine XS.bipush X0.here hx rfl (hb hby at_4) ?_
    show Steps p.tables e below (s₁.setTop (mkF m 6 #[.val (.int p157), .unset, .unset, .unset] [(.int (6 : Int32)), (.int (p157 &&& (2147483647 : Int32)))])) _
    refine iremM X0 hx rfl (hb hby at_6) rfl (by decide) ?_
    show Steps p.tables e below (s₁.setTop (mkF m 7 #[.val (.int p157), .unset, .unset, .unset] [(.int ((p157 &&& (2147483647 : Int32)) % (6 : Int32)))])) _
    refine XS.istoreN X0.here hx rfl (hb hby at_7) rfl (l' := #[.val (.int p157), .val (.int ((p157 &&& (2147483647 : Int32)) % (6 : Int32))), .unset, .unset]) rfl ?_
    show Steps p.tables e below (s₁.setTop (mkF m 8 #[.val (.int p157), .val (.int ((p157 &&& (2147483647 : Int32)) % (6 : Int32))), .unset, .unset] [])) _
    refine XS.iloadN X0.here hx rfl (hb hby at_8) rfl ?_
    show Steps p.tables e below (s₁.setTop (mkF m 9 #[.val (.int p157), .val (.int ((p157 &&& (2147483647 : Int32)) % (6 : Int32))), .unset, .unset] [(.int ((p157 &&& (2147483647 : Int32)) % (6 : Int32)))])) _
    refine st161 _ ?_
    show Steps p.tables e below (T161.setTop (mkF m 12 #[.val (.int p157), .val (.int ((p157 &&& (2147483647 : Int32)) % (6 : Int32))), .unset, .unset] [(.ref w162)])) _
    refine XS.astoreN X161.here hx rfl (hb hby at_12) rfl rfl (l' := #[.val (.int p157), .val (.int ((p157 &&& (2147483647 : Int32)) % (6 : Int32))), .val (.ref w162), .unset]) rfl ?_
    show Steps p.tables e below (T161.setTop (mkF m 13 #[.val (.int p157), .val (.int ((p157 &&& (2147483647 : Int32)) % (6 : Int32))), .val (.ref w162), .unset] [])) _
    refine XS.aloadN X161.here hx rfl (hb hby at_13) rfl rfl ?_
    show Steps p.tables e below (T161.setTop (mkF m 14 #[.val (.int p157), .val (.int ((p157 &&& (2147483647 : Int32)) % (6 : Int32))), .val (.ref w162), .unset] [(.ref w162)])) _
    refine st185 _ ?_
    show Steps p.tables e below (T185.setTop (mkF m 17 #[.val (.int p157), .val (.int ((p157 &&& (2147483647 : Int32)) % (6 : Int32))), .val (.ref w162), .unset] [.null])) _
    refine XS.astoreN X185.here hx rfl (hb hby at_17) rfl rfl (l' := #[.val (.int p157), .val (.int ((p157 &&& (2147483647 : Int32)) % (6 : Int32))), .val (.ref w162), .val .null]) rfl ?_
    show Steps p.tables e below (T185.setTop (mkF m 18 #[.val (.int p157), .val (.int ((p157 &&& (2147483647 : Int32)) % (6 : Int32))), .val (.ref w162), .val .null] [])) _
    refine XS.aloadN X185.here hx rfl (hb hby at_18) rfl rfl ?_
    show Steps p.tables e below (T185.setTop (mkF m 19 #[.val (.int p157), .val (.int ((p157 &&& (2147483647 : Int32)) % (6 : Int32))), .val (.ref w162), .val .null] [.null])) _
    refine XS.iloadN X185.here hx rfl (hb hby at_19) rfl ?_
    show Steps p.tables e below (T185.setTop (mkF m 20 #[.val (.int p157), .val (.int ((p157 &&& (2147483647 : Int32)) % (6 : Int32))), .val (.ref w162), .val .null] [(.int ((p157 &&& (2147483647 : Int32)) % (6 : Int32))), .null])) _
    refine st193 _ ?_
    show Steps p.tables e below (T193.setTop (mkF m 23 #[.val (.int p157), .val (.int ((p157 &&& (2147483647 : Int32)) % (6 : Int32))), .val (.ref w162), .val .null] [.null, .null])) _
    refine Jvm.RoadKit.acmp (g := (mkF m 23 #[.val (.int p157), .val (.int ((p157 &&& (2147483647 : Int32)) % (6 : Int32))), .val (.ref w162), .val .null] [.null, .null])) X193 hx rfl rfl rfl (pc0 := 23) (pc' := 26) (same := true) rfl (hb hby at_23) rfl (decide_eq_true rfl) (by decide) (by decide) ?_
    show Steps p.tables e below (T193.setTop (mkF m 26 #[.val (.int p157), .val (.int ((p157 &&& (2147483647 : Int32)) % (6 : Int32))), .val (.ref w162), .val .null] [])) _
    refine XS.iconst X193.here hx rfl (hb hby at_26) ?_
    show Steps p.tables e below (T193.setTop (mkF m 27 #[.val (.int p157), .val (.int ((p157 &&& (2147483647 : Int32)) % (6 : Int32))), .val (.ref w162), .val .null] [(.int (1 : Int32))])) _
    refine XS.goto X193.here hx rfl (pc0 := 27) (pc' := 31) rfl (hb hby at_27) (by decide) (by decide) ?_
    show Steps p.tables e below (T193.setTop (mkF m 31 #[.val (.int p157), .val (.int ((p157 &&& (2147483647 : Int32)) % (6 : Int32))), .val (.ref w162), .val .null] [(.int (1 : Int32))])) _
    exact retN X193 hx (t := .boolean) Bd.returns (by simp) (hb hby at_31) hr
  · show OQl (some (.int (1 : Int32))) n0 _ T193.heap _
    exact ⟨rfl, N193⟩
theorem d1_44 : decode method_2_code 44 = .ok (.getstatic 25, 3) := by decide +kernel
theorem d1_47 : decode method_2_code 47 = .ok (.areturn, 1) := by decide +kernel
set_option maxRecDepth 65536 in
set_option maxHeartbeats 40000000 in
theorem r1_6 (l : Launch) (Z : State) (a0 : Array Value) (hw : ∀ d ∈ tables_1, d.before a0 Z = true) (p195 : Int32) (w196 : Addr) (h0 : Heap) (n0 : Nat) (Z0 : n0 ≤ h0.size) (H0 : ¬ (p195 = (0 : Int32))) (H1 : ¬ (p195 = (1 : Int32))) (H2 : ¬ (p195 = (2 : Int32))) (H3 : ¬ (p195 = (3 : Int32))) (H4 : ¬ (p195 = (4 : Int32))) (H5 : Sta Z h0 "com/example/cordon/cordon/model/Decision" "INDETERMINATE_DP" "Lcom/example/cordon/cordon/model/Decision;" (.ref w196)) :
    OMet l Z (⟨"com/example/cordon/cordon/model/EffectOfPinLaw", "pick", "(I)Lcom/example/cordon/cordon/model/Decision;"⟩ : MethodName) method_2_code 1 (some (.object "com/example/cordon/cordon/model/Decision")) [] ({ frames := 0, cells := 0, slots := 0, locals := 0 } : Room) h0 #[(.int p195)] (OQp (some (.ref w196)) h0 n0) := by
  refine MetFree.of_bodySF (plainFor_of_name pn_com_example_cordon_cordon_model_EffectOfPinLaw) hisR ?_
  intro p e s m args below meth c s₁ Bd hml0 hP hK
  obtain ⟨rfl, hZ, hh⟩ := hP
  have hx := Bd.exec
  have hby := Bd.bytes
  have hml : c.maxLocals = 1 := hml0
  have hown : s.vm.findClass "com/example/cordon/cordon/model/EffectOfPinLaw" = some m.cls := findClass_of_methodNamed Bd.named
  have hnm := (name_of_methodNamed Bd.named Bd.method).1
  have X0 : Stand p l e ({ frames := 0, cells := 0, slots := 0, locals := 0 } : Room) s m #[(.int p195)] below meth c s₁ [] 0 0 := Stand.of_body Bd
  have e0 : s₁.heap = h0 := by rw [← hh, Bd.state]; rfl
  have N0 := Fr.nil n0
  have pre0 : ∀ t, Steps p.tables e below (s₁.setTop (mkF m 0 #[.val (.int p195)] [])) t → Steps p.tables e below (s₁.setTop (entryFrame m #[(.int p195)] 1)) t := fun t k => castTop (ef_1_v m p195) k
  obtain ⟨T197, X197, e197, st197⟩ := getS2 X0 hx hZ hown (host := "") (Or.inl (hw _ (List.mem_of_getElem? (i := 42) rfl))) Via.refl e0 H5 (g := (mkF m 44 #[.val (.int p195)] [])) rfl (hb hby d1_44)
  obtain ⟨fs, hr, hrun, hended, hW, hsame⟩ := X197.leave (v := some (.ref w196)) (fun h => by rw [Bd.returns] at h; cases h)
  refine ⟨_, _, pre0 _ ?_, hrun, hended, _, _, rfl, ?_, ⟨_, rfl⟩, hW, hsame.mono (by decide) (by decide)⟩
  · show Steps p.tables e below (s₁.setTop (mkF m 0 #[.val (.int p195)] [])) _
    refine XS.iloadN X0.here hx rfl (hb hby d1_0) rfl ?_
    show Steps p.tables e below (s₁.setTop (mkF m 1 #[.val (.int p195)] [(.int p195)])) _
    refine XS.ifYes X0.here hx rfl (pc0 := 1) (pc' := 8) rfl (hb hby d1_1) rfl ((if0 _ _).trans (feq H0).2) (by decide) (by decide) ?_
    show Steps p.tables e below (s₁.setTop (mkF m 8 #[.val (.int p195)] [])) _
    refine XS.iloadN X0.here hx rfl (hb hby d1_8) rfl ?_
    show Steps p.tables e below (s₁.setTop (mkF m 9 #[.val (.int p195)] [(.int p195)])) _
    refine XS.iconst X0.here hx rfl (hb hby d1_9) ?_
    show Steps p.tables e below (s₁.setTop (mkF m 10 #[.val (.int p195)] [(.int (1 : Int32)), (.int p195)])) _
    refine XS.icmpYes X0.here hx rfl (pc0 := 10) (pc' := 17) rfl (hb hby d1_10) rfl (feq H1).2 (by decide) (by decide) ?_
    show Steps p.tables e below (s₁.setTop (mkF m 17 #[.val (.int p195)] [])) _
    refine XS.iloadN X0.here hx rfl (hb hby d1_17) rfl ?_
    show Steps p.tables e below (s₁.setTop (mkF m 18 #[.val (.int p195)] [(.int p195)])) _
    refine XS.iconst X0.here hx rfl (hb hby d1_18) ?_
    show Steps p.tables e below (s₁.setTop (mkF m 19 #[.val (.int p195)] [(.int (2 : Int32)), (.int p195)])) _
    refine XS.icmpYes X0.here hx rfl (pc0 := 19) (pc' := 26) rfl (hb hby d1_19) rfl (feq H2).2 (by decide) (by decide) ?_
    show Steps p.tables e below (s₁.setTop (mkF m 26 #[.val (.int p195)] [])) _
    refine XS.iloadN X0.here hx rfl (hb hby d1_26) rfl ?_
    show Steps p.tables e below (s₁.setTop (mkF m 27 #[.val (.int p195)] [(.int p195)])) _
    refine XS.iconst X0.here hx rfl (hb hby d1_27) ?_
    show Steps p.tables e below (s₁.setTop (mkF m 28 #[.val (.int p195)] [(.int (3 : Int32)), (.int p195)])) _
    refine XS.icmpYes X0.here hx rfl (pc0 := 28) (pc' := 35) rfl (hb hby d1_28) rfl (feq H3).2 (by decide) (by decide) ?_
    show Steps p.tables e below (s₁.setTop (mkF m 35 #[.val (.int p195)] [])) _
    refine XS.iloadN X0.here hx rfl (hb hby d1_35) rfl ?_
    show Steps p.tables e below (s₁.setTop (mkF m 36 #[.val (.int p195)] [(.int p195)])) _
    refine XS.iconst X0.here hx rfl (hb hby d1_36) ?_
    show Steps p.tables e below (s₁.setTop (mkF m 37 #[.val (.int p195)] [(.int (4 : Int32)), (.int p195)])) _
    refine XS.icmpYes X0.here hx rfl (pc0 := 37) (pc' := 44) rfl (hb hby d1_37) rfl (feq H4).2 (by decide) (by decide) ?_
    show Steps p.tables e below (s₁.setTop (mkF m 44 #[.val (.int p195)] [])) _
    refine st197 _ ?_
    show Steps p.tables e below (T197.setTop (mkF m 47 #[.val (.int p195)] [(.ref w196)])) _
    jvm_step X197.here [X197.here.top, hx, (hb hby d1_47), X197.method', Bd.returns, Value.isRef, FieldType.isReference]
    first | (intro acts; rw [hr _ acts rfl rfl rfl]) | rw [hr _ _ rfl rfl rfl]
    exact Steps.refl _
  · show OQp (some (.ref w196)) h0 n0 _ T197.heap _
    rw [e197]
    exact ⟨rfl, N0, rfl⟩
set_option maxRecDepth 65536 in
set_option maxHeartbeats 40000000 in
theorem r0_6 (l : Launch) (Z : State) (a0 : Array Value) (hw : ∀ d ∈ tables_1, d.before a0 Z = true) (p194 : Int32) (w199 : Addr) (w223 : Addr) (k224 : ClassId) (w225 : Addr) (w226 : Addr) (w227 : Addr) (w228 : Addr) (h0 : Heap) (n0 : Nat) (Z0 : n0 ≤ h0.size) (H0 : ¬ (((p194 &&& (2147483647 : Int32)) % (6 : Int32)) = (0 : Int32))) (H1 : ¬ (((p194 &&& (2147483647 : Int32)) % (6 : Int32)) = (1 : Int32))) (H2 : ¬ (((p194 &&& (2147483647 : Int32)) % (6 : Int32)) = (2 : Int32))) (H3 : ¬ (((p194 &&& (2147483647 : Int32)) % (6 : Int32)) = (3 : Int32))) (H4 : ¬ (((p194 &&& (2147483647 : Int32)) % (6 : Int32)) = (4 : Int32))) (H5 : Sta Z h0 "com/example/cordon/cordon/model/Decision" "INDETERMINATE_DP" "Lcom/example/cordon/cordon/model/Decision;" (.ref w199)) (H6 : Sta Z h0 "com/example/cordon/cordon/model/Effect" "$VALUES" "[Lcom/example/cordon/cordon/model/Effect;" (.ref w223)) (H7 : Arv Z h0 w223 k224 (.object "com/example/cordon/cordon/model/Effect") (2 : Int32) [(.ref w225), (.ref w226)] .null) (H8 : Exa Z h0 w223 "[Lcom/example/cordon/cordon/model/Effect;") (H9 : Fld Z h0 w225 "com/example/cordon/cordon/model/Effect" "decision" "Lcom/example/cordon/cordon/model/Decision;" (.ref w227)) (H10 : w227 ≠ w199) (H11 : Fld Z h0 w226 "com/example/cordon/cordon/model/Effect" "decision" "Lcom/example/cordon/cordon/model/Decision;" (.ref w228)) (H12 : w228 ≠ w199) :
    OMet l Z x code maxLocals ret tables_1 room_1 h0 #[(.int p194)] (OQl (some (.int (1 : Int32))) n0) := by
  refine MetFree.of_bodySF (plainFor_of_name pn_com_example_cordon_cordon_model_EffectOfPinLaw) hisR ?_
  intro p e s m args below meth c s₁ Bd hml0 hP hK
  obtain ⟨rfl, hZ, hh⟩ := hP
  have hx := Bd.exec
  have hby := Bd.bytes
  have hml : c.maxLocals = 4 := hml0
  have hown : s.vm.findClass "com/example/cordon/cordon/model/EffectOfPinLaw" = some m.cls := findClass_of_methodNamed Bd.named
  have hnm := (name_of_methodNamed Bd.named Bd.method).1
  have X0 : Stand p l e room_1 s m #[(.int p194)] below meth c s₁ [] 0 0 := Stand.of_body Bd
  have e0 : s₁.heap = h0 := by rw [← hh, Bd.state]; rfl
  have N0 := Fr.nil n0
  have pre0 : ∀ t, Steps p.tables e below (s₁.setTop (mkF m 0 #[.val (.int p194), .unset, .unset, .unset] [])) t → Steps p.tables e below (s₁.setTop (entryFrame m #[(.int p194)] maxLocals)) t := fun t k => castTop (ef_0_v m p194) k
  obtain ⟨_, _, ⟨T198, L198, k198, n198⟩, -, X198, ⟨Lc198, hQ198, l198, y198, z198⟩, st198⟩ := Jvm.LawKit.callS X0 hx (y := (⟨"com/example/cordon/cordon/model/EffectOfPinLaw", "pick", "(I)Lcom/example/cordon/cordon/model/Decision;"⟩ : MethodName)) hown (mvT hZ (hw _ (List.mem_of_getElem? (i := 1) rfl))) (mvT hZ (hw _ (List.mem_of_getElem? (i := 2) rfl))) (mvT hZ (hw _ (List.mem_of_getElem? (i := 3) rfl))) (mvT hZ (hw _ (List.mem_of_getElem? (i := 4) rfl))) (by decide) (backOf (W := 0) (r1_6 l Z a0 hw ((p194 &&& (2147483647 : Int32)) % (6 : Int32)) w199 h0 n0 Z0 H0 H1 H2 H3 H4 H5) hZ (hw _ (List.mem_of_getElem? (i := 4) rfl)) (hw _ (List.mem_of_getElem? (i := 3) rfl)) (by decide) (by decide)) (g := (mkF m 9 #[.val (.int p194), .val (.int ((p194 &&& (2147483647 : Int32)) % (6 : Int32))), .unset, .unset] [(.int ((p194 &&& (2147483647 : Int32)) % (6 : Int32)))])) rfl (by rw [hml]; rfl) (argsL := [(.int ((p194 &&& (2147483647 : Int32)) % (6 : Int32)))]) (rest := []) (lenOf pd_0 rfl) rfl (by show 2 * 0 + _ ≤ _; exact Nat.le_of_eq rfl) (hb hby at_9) (fun _ _ => ⟨rfl, e0, (by decide : 0 + 0 ≤ _), (by decide : 0 + 0 ≤ _)⟩)
  dsimp only [Pt.U, Pt.locs, Pt.cells, Pt.slots] at X198 l198 y198 z198 st198 hQ198
  subst l198 y198 z198
  obtain ⟨rfl, N198q, e198⟩ := hQ198
  have N198 := Fr.app N0 N198q
  obtain ⟨_, _, ⟨T222, L222, k222, n222⟩, -, X222, ⟨Lc222, hQ222, l222, y222, z222⟩, st222⟩ := Jvm.LawKit.callS X198 hx (y := (⟨"com/example/cordon/cordon/model/Effect", "of", "(Lcom/example/cordon/cordon/model/Decision;)Lcom/example/cordon/cordon/model/Effect;"⟩ : MethodName)) hown (mvT hZ (hw _ (List.mem_of_getElem? (i := 8) rfl))) (mvT hZ (hw _ (List.mem_of_getElem? (i := 9) rfl))) (mvT hZ (hw _ (List.mem_of_getElem? (i := 10) rfl))) (mvT hZ (hw _ (List.mem_of_getElem? (i := 11) rfl))) (by decide) (backOf (W := 0) (r2_3 l Z a0 hw w199 w223 k224 w225 w226 w227 w228 h0 n0 Z0 H6 H7 H8 H9 H10 H11 H12) hZ (hw _ (List.mem_of_getElem? (i := 11) rfl)) (hw _ (List.mem_of_getElem? (i := 10) rfl)) (by decide) (by decide)) (g := (mkF m 14 #[.val (.int p194), .val (.int ((p194 &&& (2147483647 : Int32)) % (6 : Int32))), .val (.ref w199), .unset] [(.ref w199)])) rfl (by rw [hml]; rfl) (argsL := [(.ref w199)]) (rest := []) (lenOf pd_2 rfl) rfl (by show 2 * 0 + _ ≤ _; exact Nat.le_of_eq rfl) (hb hby at_14) (fun _ _ => ⟨rfl, e198, (by decide : 0 + 1 ≤ _), (by decide : 0 + 2 ≤ _)⟩)
  dsimp only [Pt.U, Pt.locs, Pt.cells, Pt.slots] at X222 l222 y222 z222 st222 hQ222
  subst l222 y222 z222
  obtain ⟨N222q, b222_0, rfl, ge_b222_0, K222, o222_0, o222_1⟩ := hQ222
  have N222 := Fr.app N198 N222q
  have KC222 := KSx.trans (KSx.refl h0 []) K222 ks0
  have Z222 : n0 ≤ T222.heap.size := Nat.le_trans Z0 K222.1
  obtain ⟨_, _, ⟨T230, L230, k230, n230⟩, -, X230, ⟨Lc230, hQ230, l230, y230, z230⟩, st230⟩ := Jvm.LawKit.callS X222 hx (y := (⟨"com/example/cordon/cordon/model/EffectOfPinLaw", "expected", "(I)Lcom/example/cordon/cordon/model/Effect;"⟩ : MethodName)) hown (mvT hZ (hw _ (List.mem_of_getElem? (i := 32) rfl))) (mvT hZ (hw _ (List.mem_of_getElem? (i := 33) rfl))) (mvT hZ (hw _ (List.mem_of_getElem? (i := 3) rfl))) (mvT hZ (hw _ (List.mem_of_getElem? (i := 34) rfl))) (by decide) (backOf (W := 1) (r4_3 l Z a0 hw ((p194 &&& (2147483647 : Int32)) % (6 : Int32)) T222.heap n0 Z222 H0 H1) hZ (hw _ (List.mem_of_getElem? (i := 34) rfl)) (hw _ (List.mem_of_getElem? (i := 3) rfl)) (by decide) (by decide)) (g := (mkF m 20 #[.val (.int p194), .val (.int ((p194 &&& (2147483647 : Int32)) % (6 : Int32))), .val (.ref w199), .val .null] [(.int ((p194 &&& (2147483647 : Int32)) % (6 : Int32))), .null])) rfl (by rw [hml]; rfl) (argsL := [(.int ((p194 &&& (2147483647 : Int32)) % (6 : Int32)))]) (rest := [.null]) (lenOf pd_3 rfl) rfl (by show 2 * 0 + _ ≤ _; exact Nat.le_of_eq rfl) (hb hby at_20) (fun _ _ => ⟨rfl, rfl, (by decide : 1 + 0 ≤ _), (by decide : 2 + 0 ≤ _)⟩)
  dsimp only [Pt.U, Pt.locs, Pt.cells, Pt.slots] at X230 l230 y230 z230 st230 hQ230
  subst l230 y230 z230
  obtain ⟨rfl, N230q, e230⟩ := hQ230
  have N230 := Fr.app N222 N230q
  obtain ⟨fs, hr, hrun, hended, hW, hsame⟩ := X230.leave (v := some (.int (1 : Int32))) (fun h => by rw [Bd.returns] at h; cases h)
  refine ⟨_, _, pre0 _ ?_, hrun, hended, _, _, rfl, ?_, ⟨_, rfl⟩, hW, hsame.mono (by decide) (by decide)⟩
  · show Steps p.tables e below (s₁.setTop (mkF m 0 #[.val (.int p194), .unset, .unset, .unset] [])) _
    refine XS.iloadN X0.here hx rfl (hb hby at_0) rfl ?_
    show Steps p.tables e below (s₁.setTop (mkF m 1 #[.val (.int p194), .unset, .unset, .unset] [(.int p194)])) _
    refine X0.ldcInt hx hown (mvT hZ (hw _ (List.mem_of_getElem? (i := 0) rfl))) (g := (mkF m 1 #[.val (.int p194), .unset, .unset, .unset] [(.int p194)])) rfl (hb hby at_1) _ ?_
    show Steps p.tables e below (s₁.setTop (mkF m 3 #[.val (.int p194), .unset, .unset, .unset] [(.int (2147483647 : Int32)), (.int p194)])) _
    refine XS.iand X0.here hx rfl (hb hby at_3) rfl ?_
    show Steps p.tables e below (s₁.setTop (mkF m 4 #[.val (.int p194), .unset, .unset, .unset] [(.int (p194 &&& (2147483647 : Int32)))])) _
    refine XS.bipush X0.here hx rfl (hb hby at_4) ?_
    show Steps p.tables e below (s₁.setTop (mkF m 6 #[.val (.int p194), .unset, .unset, .unset] [(.int (6 : Int32)), (.int (p194 &&& (2147483647 : Int32)))])) _
    refine iremM X0 hx rfl (hb hby at_6) rfl (by decide) ?_
    show Steps p.tables e below (s₁.setTop (mkF m 7 #[.val (.int p194), .unset, .unset, .unset] [(.int ((p194 &&& (2147483647 : Int32)) % (6 : Int32)))])) _
    refine XS.istoreN X0.here hx rfl (hb hby at_7) rfl (l' := #[.val (.int p194), .val (.int ((p194 &&& (2147483647 : Int32)) % (6 : Int32))), .unset, .unset]) rfl ?_
    show Steps p.tables e below (s₁.setTop (mkF m 8 #[.val (.int p194), .val (.int ((p194 &&& (2147483647 : Int32)) % (6 : Int32))), .unset, .unset] [])) _
    refine XS.iloadN X0.here hx rfl (hb hby at_8) rfl ?_
    show Steps p.tables e below (s₁.setTop (mkF m 9 #[.val (.int p194), .val (.int ((p194 &&& (2147483647 : Int32)) % (6 : Int32))), .unset, .unset] [(.int ((p194 &&& (2147483647 : Int32)) % (6 : Int32)))])) _
    refine st198 _ ?_
    show Steps p.tables e below (T198.setTop (mkF m 12 #[.val (.int p194), .val (.int ((p194 &&& (2147483647 : Int32)) % (6 : Int32))), .unset, .unset] [(.ref w199)])) _
    refine XS.astoreN X198.here hx rfl (hb hby at_12) rfl rfl (l' := #[.val (.int p194), .val (.int ((p194 &&& (2147483647 : Int32)) % (6 : Int32))), .val (.ref w199), .unset]) rfl ?_
    show Steps p.tables e below (T198.setTop (mkF m 13 #[.val (.int p194), .val (.int ((p194 &&& (2147483647 : Int32)) % (6 : Int32))), .val (.ref w199), .unset] [])) _
    refine XS.aloadN X198.here hx rfl (hb hby at_13) rfl rfl ?_
    show Steps p.tables e below (T198.setTop (mkF m 14 #[.val (.int p194), .val (.int ((p194 &&& (2147483647 : Int32)) % (6 : Int32))), .val (.ref w199), .unset] [(.ref w199)])) _
    refine st222 _ ?_
    show Steps p.tables e below (T222.setTop (mkF m 17 #[.val (.int p194), .val (.int ((p194 &&& (2147483647 : Int32)) % (6 : Int32))), .val (.ref w199), .unset] [.null])) _
    refine XS.astoreN X222.here hx rfl (hb hby at_17) rfl rfl (l' := #[.val (.int p194), .val (.int ((p194 &&& (2147483647 : Int32)) % (6 : Int32))), .val (.ref w199), .val .null]) rfl ?_
    show Steps p.tables e below (T222.setTop (mkF m 18 #[.val (.int p194), .val (.int ((p194 &&& (2147483647 : Int32)) % (6 : Int32))), .val (.ref w199), .val .null] [])) _
    refine XS.aloadN X222.here hx rfl (hb hby at_18) rfl rfl ?_
    show Steps p.tables e below (T222.setTop (mkF m 19 #[.val (.int p194), .val (.int ((p194 &&& (2147483647 : Int32)) % (6 : Int32))), .val (.ref w199), .val .null] [.null])) _
    refine XS.iloadN X222.here hx rfl (hb hby at_19) rfl ?_
    show Steps p.tables e below (T222.setTop (mkF m 20 #[.val (.int p194), .val (.int ((p194 &&& (2147483647 : Int32)) % (6 : Int32))), .val (.ref w199), .val .null] [(.int ((p194 &&& (2147483647 : Int32)) % (6 : Int32))), .null])) _
    refine st230 _ ?_
    show Steps p.tables e below (T230.setTop (mkF m 23 #[.val (.int p194), .val (.int ((p194 &&& (2147483647 : Int32)) % (6 : Int32))), .val (.ref w199), .val .null] [.null, .null])) _
    refine Jvm.RoadKit.acmp (g := (mkF m 23 #[.val (.int p194), .val (.int ((p194 &&& (2147483647 : Int32)) % (6 : Int32))), .val (.ref w199), .val .null] [.null, .null])) X230 hx rfl rfl rfl (pc0 := 23) (pc' := 26) (same := true) rfl (hb hby at_23) rfl (decide_eq_true rfl) (by decide) (by decide) ?_
    show Steps p.tables e below (T230.setTop (mkF m 26 #[.val (.int p194), .val (.int ((p194 &&& (2147483647 : Int32)) % (6 : Int32))), .val (.ref w199), .val .null] [])) _
    refine XS.iconst X230.here hx rfl (hb hby at_26) ?_
    show Steps p.tables e below (T230.setTop (mkF m 27 #[.val (.int p194), .val (.int ((p194 &&& (2147483647 : Int32)) % (6 : Int32))), .val (.ref w199), .val .null] [(.int (1 : Int32))])) _
    refine XS.goto X230.here hx rfl (pc0 := 27) (pc' := 31) rfl (hb hby at_27) (by decide) (by decide) ?_
    show Steps p.tables e below (T230.setTop (mkF m 31 #[.val (.int p194), .val (.int ((p194 &&& (2147483647 : Int32)) % (6 : Int32))), .val (.ref w199), .val .null] [(.int (1 : Int32))])) _
    exact retN X230 hx (t := .boolean) Bd.returns (by simp) (hb hby at_31) hr
  · show OQl (some (.int (1 : Int32))) n0 _ T230.heap _
    exact ⟨rfl, N230⟩
set_option maxRecDepth 65536 in
set_option maxHeartbeats 40000000 in
theorem comes_1 {Post : Tables → Env → Array Value → State → Outcome → State → Prop} (hpost : ∀ tb e args s v u, (limb_1_1.after args s (.returned v) u = true ∧ limb_1_2.after args s (.returned v) u = true ∧ True) → FrameEnd s (.returned v) u (Jvm.fieldLocs frame_1_writes args s ++ Jvm.arrayLocs frame_1_arrays args s ++ Jvm.staticLocs frame_1_statics s) 16 128 → Post tb e args s (.returned v) u) :
    ArmFor flags0 classFile x code maxLocals ret World_1 tables_1 room_1 Calls_1 rest_1 Pre_1 Post := by
  intro l hfl _ _ p e ha hc hk s m args below hf hA hF happ hP
  obtain ⟨hcalls, hrest, hpre⟩ := hP
  obtain ⟨-, -, -, hnamed, -, -, -, hat⟩ := (Spec.applies_iff hf).mp happ
  obtain ⟨hg, hn⟩ := and_e (Cond.before_iff.mp (show (Jvm.Cond.and given_1 narrow_1).before args s = true from hpre))
  obtain ⟨gg0, gr0⟩ := and_e hg
  obtain ⟨w0, rfl⟩ : ∃ w0 : Value, args = #[w0] := by
    have hs : args.size = 1 := by simpa [Cond.value, given_1] using gg0
    obtain ⟨L⟩ := args
    match L, hs with
    | [w0], _ => exact ⟨w0, rfl⟩
  have hw := fun d (hd : d ∈ tables_1) => atoms_spec (ws := Jvm.Cond.code x code maxLocals ret :: tables_1) hat d (List.mem_cons_of_mem _ hd)
  have hfit : Fit s := fun {y c} hc i hi => by
    obtain ⟨ha, rfl⟩ := Array.getElem?_eq_some_iff.mp hc
    have q := List.all_eq_true.mp ((Array.all_eq_true_iff_forall_mem.mp hF) _ (Array.getElem_mem ha)) i (List.mem_range.mpr hi)
    simpa [Array.getElem?_eq_getElem hi] using q
  obtain ⟨i0, ei0⟩ := is_v gr0
  obtain rfl : w0 = (.int i0) := Option.some.inj ei0
  obtain ⟨hn1, hn2⟩ := and_e hn
  obtain ⟨hn3, hn4⟩ := and_e hn2
  obtain ⟨hn5, hn6⟩ := and_e hn4
  obtain ⟨hn7, hn8⟩ := and_e hn6
  obtain ⟨hn9, hn10⟩ := and_e hn8
  obtain ⟨hn11, hn12⟩ := and_e hn10
  obtain ⟨hn13, hn14⟩ := and_e hn12
  obtain ⟨hn15, hn16⟩ := and_e hn14
  obtain ⟨hn17, hn18⟩ := and_e hn16
  obtain ⟨hn19, hn20⟩ := and_e hn18
  obtain ⟨hn21, hn22⟩ := and_e hn20
  obtain ⟨hn23, hn24⟩ := and_e hn22
  obtain ⟨hn25, hn26⟩ := and_e hn24
  obtain ⟨hn27, hn28⟩ := and_e hn26
  obtain ⟨hn29, hn30⟩ := and_e hn28
  obtain ⟨hn31, hn32⟩ := and_e hn30
  obtain ⟨hn33, hn34⟩ := and_e hn32
  obtain ⟨hn35, hn36⟩ := and_e hn34
  obtain ⟨hn37, hn38⟩ := and_e hn36
  obtain ⟨hn39, hn40⟩ := and_e hn38
  obtain ⟨w_c41, ev_c41⟩ := exa_v hn1
  have E_c41 := Exa.start ev_c41 hn1
  have S_c41 := Sta.start ev_c41 (Or.inr ⟨(hw _ (List.mem_of_getElem? (i := 6) rfl)), (hw _ (List.mem_of_getElem? (i := 7) rfl))⟩)
  obtain ⟨w_c42, ev_c42⟩ := exa_v hn5
  have E_c42 := Exa.start ev_c42 hn5
  have S_c42 := Sta.start ev_c42 (Or.inl (hw _ (List.mem_of_getElem? (i := 26) rfl)))
  obtain ⟨w_c43, ev_c43⟩ := exa_v hn9
  have E_c43 := Exa.start ev_c43 hn9
  have S_c43 := Sta.start ev_c43 (Or.inr ⟨(hw _ (List.mem_of_getElem? (i := 10) rfl)), (hw _ (List.mem_of_getElem? (i := 24) rfl))⟩)
  obtain ⟨w_c44, ev_c44⟩ := exa_v hn13
  have E_c44 := Exa.start ev_c44 hn13
  have S_c44 := Sta.start ev_c44 (Or.inr ⟨(hw _ (List.mem_of_getElem? (i := 10) rfl)), (hw _ (List.mem_of_getElem? (i := 25) rfl))⟩)
  have F45 := own_fr ev_c43 ev_c41 hn17
  obtain ⟨w_c46, ev_c46⟩ := exa_v hn19
  have E_c46 := Exa.start ev_c46 hn19
  have S_c46 := Sta.start ev_c46 (Or.inr ⟨(hw _ (List.mem_of_getElem? (i := 6) rfl)), (hw _ (List.mem_of_getElem? (i := 31) rfl))⟩)
  have F47 := own_fr ev_c44 ev_c46 hn21
  have F48 := own_fi ev_c46 hn23
  have F49 := own_fi ev_c41 hn25
  obtain ⟨w_c50, ev_c50⟩ := exa_v hn27
  have E_c50 := Exa.start ev_c50 hn27
  have S_c50 := Sta.start ev_c50 (Or.inr ⟨(hw _ (List.mem_of_getElem? (i := 6) rfl)), (hw _ (List.mem_of_getElem? (i := 37) rfl))⟩)
  have F51 := own_fi ev_c50 hn29
  obtain ⟨w_c52, ev_c52⟩ := exa_v hn31
  have E_c52 := Exa.start ev_c52 hn31
  have S_c52 := Sta.start ev_c52 (Or.inr ⟨(hw _ (List.mem_of_getElem? (i := 6) rfl)), (hw _ (List.mem_of_getElem? (i := 39) rfl))⟩)
  have F53 := own_fi ev_c52 hn33
  obtain ⟨w_c54, ev_c54⟩ := exa_v hn35
  have E_c54 := Exa.start ev_c54 hn35
  have S_c54 := Sta.start ev_c54 (Or.inr ⟨(hw _ (List.mem_of_getElem? (i := 6) rfl)), (hw _ (List.mem_of_getElem? (i := 43) rfl))⟩)
  have F55 := own_fi ev_c54 hn37
  obtain ⟨w_c56, ev_c56⟩ := exa_v hn39
  have E_c56 := Exa.start ev_c56 hn39
  have S_c56 := Sta.start ev_c56 (Or.inr ⟨(hw _ (List.mem_of_getElem? (i := 6) rfl)), (hw _ (List.mem_of_getElem? (i := 45) rfl))⟩)
  have F57 := own_fi ev_c56 hn40
  obtain ⟨cl_r58, Ar_r58⟩ := Arr.start ev_c42 hn3
  have L_r58 := own_len ev_c42 Ar_r58 hn7
  have el_r58_0 := own_el ev_c42 ev_c43 Ar_r58 hn11
  have el_r58_1 := own_el ev_c42 ev_c44 Ar_r58 hn15
  have V_r58 : Arv s s.heap w_c42 cl_r58.cls (.object "com/example/cordon/cordon/model/Effect") (2 : Int32) [(.ref w_c43), (.ref w_c44)] .null := Arv.start hfit Ar_r58 L_r58.1 L_r58.2 (by decide) rfl ⟨el_r58_0, ⟨el_r58_1, trivial⟩⟩
  suffices M : OMet l s x code maxLocals ret tables_1 room_1 s.heap #[(.int i0)] (OQl (some (.int (1 : Int32))) s.heap.size) by
    obtain ⟨n, o, h1, h2, h3, _, L, rfl, ⟨rfl, N⟩, hq⟩ := M p e ha hc hk s m _ below hf ((Spec.applies_iff_loose hf).mp happ).1 ⟨rfl, State.Warmed39.refl s, rfl⟩ trivial
    exact ⟨n, _, h1, h2, h3, hpost _ _ _ _ _ _ ⟨Cond.after_iff.mpr rfl, Cond.after_iff.mpr (eq_i res_at (Term.int_eval (1)) rfl), trivial⟩ ⟨hq.1, hq.2.1, (hq.2.2.sift fun y hy => Or.inr (N y hy)).mono (by decide) (by decide)⟩⟩
  have hm_hq : ((i0 &&& (2147483647 : Int32)) % (6 : Int32)) = (0 : Int32) ∨ ((i0 &&& (2147483647 : Int32)) % (6 : Int32)) = (1 : Int32) ∨ ((i0 &&& (2147483647 : Int32)) % (6 : Int32)) = (2 : Int32) ∨ ((i0 &&& (2147483647 : Int32)) % (6 : Int32)) = (3 : Int32) ∨ ((i0 &&& (2147483647 : Int32)) % (6 : Int32)) = (4 : Int32) ∨ ((i0 &&& (2147483647 : Int32)) % (6 : Int32)) = (5 : Int32) := by
    obtain ⟨q1, q2⟩ := own_mod i0 (6 : Int32) (by decide)
    have q3 : (6 : Int32).toInt = 6 := by decide
    rw [q3] at q2
    generalize ((i0 &&& (2147483647 : Int32)) % (6 : Int32)) = z at q1 q2 ⊢
    have q4 : z.toInt = 0 ∨ z.toInt = 1 ∨ z.toInt = 2 ∨ z.toInt = 3 ∨ z.toInt = 4 ∨ z.toInt = 5 := by omega
    rcases q4 with q | q | q | q | q | q <;> simp [← Int32.toInt_inj, q]
  rcases hm_hq with hq | hq | hq | hq | hq | hq
  · exact r0_1 l s _ hw i0 w_c41 w_c42 cl_r58.cls w_c43 w_c44 w_c41 w_c46 w_c43 s.heap s.heap.size (Nat.le_refl _) (by rw [hq] <;> decide) S_c41 S_c42 V_r58 E_c42 F45 rfl F47 (Fld.ne F48 F49 (by decide)) S_c43 rfl
  · exact r0_2 l s _ hw i0 w_c46 w_c42 cl_r58.cls w_c43 w_c44 w_c41 w_c46 w_c44 s.heap s.heap.size (Nat.le_refl _) (by rw [hq] <;> decide) (by rw [hq] <;> decide) S_c46 S_c42 V_r58 E_c42 F45 (Fld.ne F49 F48 (by decide)) F47 rfl S_c44 rfl
  · exact r0_3 l s _ hw i0 w_c52 w_c42 cl_r58.cls w_c43 w_c44 w_c41 w_c46 s.heap s.heap.size (Nat.le_refl _) (by rw [hq] <;> decide) (by rw [hq] <;> decide) (by rw [hq] <;> decide) S_c52 S_c42 V_r58 E_c42 F45 (Fld.ne F49 F53 (by decide)) F47 (Fld.ne F48 F53 (by decide))
  · exact r0_4 l s _ hw i0 w_c50 w_c42 cl_r58.cls w_c43 w_c44 w_c41 w_c46 s.heap s.heap.size (Nat.le_refl _) (by rw [hq] <;> decide) (by rw [hq] <;> decide) (by rw [hq] <;> decide) (by rw [hq] <;> decide) S_c50 S_c42 V_r58 E_c42 F45 (Fld.ne F49 F51 (by decide)) F47 (Fld.ne F48 F51 (by decide))
  · exact r0_5 l s _ hw i0 w_c56 w_c42 cl_r58.cls w_c43 w_c44 w_c41 w_c46 s.heap s.heap.size (Nat.le_refl _) (by rw [hq] <;> decide) (by rw [hq] <;> decide) (by rw [hq] <;> decide) (by rw [hq] <;> decide) (by rw [hq] <;> decide) S_c56 S_c42 V_r58 E_c42 F45 (Fld.ne F49 F57 (by decide)) F47 (Fld.ne F48 F57 (by decide))
  · exact r0_6 l s _ hw i0 w_c54 w_c42 cl_r58.cls w_c43 w_c44 w_c41 w_c46 s.heap s.heap.size (Nat.le_refl _) (by rw [hq] <;> decide) (by rw [hq] <;> decide) (by rw [hq] <;> decide) (by rw [hq] <;> decide) (by rw [hq] <;> decide) S_c54 S_c42 V_r58 E_c42 F45 (Fld.ne F49 F55 (by decide)) F47 (Fld.ne F48 F55 (by decide))
theorem main_1_1 : Claimed_1_1 := comes_1 fun _ _ _ _ _ _ h hF => ⟨h.1, hF⟩
theorem main_1_2 : Claimed_1_2 := comes_1 fun _ _ _ _ _ _ h hF => ⟨h.2.1, hF⟩
end Jvm.Pilot.@@N@@
namespace Jvm.Pilot.@@N@@
open Jvm Jvm.ClassFile Sem Op Lib Jvm.Free Jvm.Stand Jvm.Pilot.@@N@@.Jvm.D
/-! MADE BY PROGRAM (witnessworld.py) out of the Statement's table words and the real class files: 14 classes; the members and pool entries that the words name. The judged class is class 1, her method 3. -/
namespace start1
open Jvm.ClassFile
def u (s : String) : CpInfo := .utf8 (stringToUtf16 s)
/-- a pool by its gaps: so many unusable entries, then the entry; so many at the end -/
def gap : Nat → List CpInfo → List CpInfo
  | 0, r => r
  | n + 1, r => .unusable :: gap n r
def poolList (es : List (Nat × CpInfo)) (last : Nat) : List CpInfo := es.foldr (fun e r => gap e.1 (e.2 :: r)) (gap last [])
def pool (es : List (Nat × CpInfo)) (last : Nat) : Array CpInfo := ⟨poolList es last⟩
def fileOf (pool : Array CpInfo) (this : Nat) (attrs : Array Attribute := #[]) (ms : Array MethodInfo := #[]) (fl : Nat := 33) (sup : Nat := 0) (ifs : Array Nat := #[]) (fds : Array FieldInfo := #[]) : ClassFile where
  minorVersion := 0
  majorVersion := 65
  constantPool := pool
  accessFlags := fl
  thisClass := this
  superClass := sup
  interfaces := ifs
  fields := fds
  methods := ms
  attributes := attrs
def plain (name : String) (sup : Option ClassId) : Class where
  name := name
  kind := .ordinary
  loader := none
  accessFlags := 33
  super := sup
  interfaces := #[]
  cf := none
  fields := #[]
  methods := #[]
  instanceTypes := #[]
  staticTypes := #[]
  resolved := #[]
  callSites := []
  init := .initialized
  statics := none
  mirror := none

def pool0 : Array CpInfo := pool [(5, u "<init>"), (0, u "()V"), (1, .class_ 10), (1, u "java/lang/Object"), (85, u "clone"), (0, u "()Ljava/lang/Object;")] 26

def k0m0 : Method := { name := "<init>", desc := "()V", sig := { parameters := [], returnType := none }, accessFlags := 1, code := none }
def k0m1 : Method := { name := "clone", desc := "()Ljava/lang/Object;", sig := { parameters := [], returnType := some (.object "java/lang/Object") }, accessFlags := 260, code := none }
/-- java/lang/Object -/
def k0 : Class := { plain "java/lang/Object" none with
  accessFlags := 33
  interfaces := #[]
  cf := some (fileOf pool0 8 #[] #[{ accessFlags := 1, nameIndex := 5, descriptorIndex := 6, attributes := #[] }, { accessFlags := 260, nameIndex := 96, descriptorIndex := 97, attributes := #[] }] 33 0 #[] #[])
  fields := #[]
  methods := #[k0m0, k0m1]
  instanceTypes := #[]
  staticTypes := #[]
  resolved := Array.replicate 124 none
  statics := none }

def pool1 : Array CpInfo := pool [(2, .class_ 4), (1, u "java/lang/Object"), (0, u "<init>"), (0, u "()V"), (0, .fieldref 8 9), (0, .class_ 10), (0, .nameAndType 11 12), (0, u "com/example/cordon/cordon/model/Decision"), (0, u "PERMIT"), (0, u "Lcom/example/cordon/cordon/model/Decision;"), (0, .fieldref 8 14), (0, .nameAndType 15 12), (0, u "DENY"), (0, .fieldref 8 17), (0, .nameAndType 18 12), (0, u "NOT_APPLICABLE"), (0, .fieldref 8 20), (0, .nameAndType 21 12), (0, u "INDETERMINATE_D"), (0, .fieldref 8 23), (0, .nameAndType 24 12), (0, u "INDETERMINATE_P"), (0, .fieldref 8 26), (0, .nameAndType 27 12), (0, u "INDETERMINATE_DP"), (0, .fieldref 29 30), (0, .class_ 31), (0, .nameAndType 11 32), (0, u "com/example/cordon/cordon/model/Effect"), (0, u "Lcom/example/cordon/cordon/model/Effect;"), (0, .fieldref 29 34), (0, .nameAndType 15 32), (0, .integer 2147483647), (0, .methodref 37 38), (0, .class_ 39), (0, .nameAndType 40 41), (0, u "com/example/cordon/cordon/model/EffectOfPinLaw"), (0, u "pick"), (0, u "(I)Lcom/example/cordon/cordon/model/Decision;"), (0, .methodref 29 43), (0, .nameAndType 44 45), (0, u "of"), (0, u "(Lcom/example/cordon/cordon/model/Decision;)Lcom/example/cordon/cordon/model/Effect;"), (0, .methodref 37 47), (0, .nameAndType 48 49), (0, u "expected"), (0, u "(I)Lcom/example/cordon/cordon/model/Effect;"), (3, u "law"), (0, u "(I)Z")] 2

def k1m0 : Method := { name := "<init>", desc := "()V", sig := { parameters := [], returnType := none }, accessFlags := 2, code := none }
def k1c1 : Code := { maxStack := 2, maxLocals := 1, code := method_2_code, exceptionTable := #[], attributes := #[] }
def k1m1 : Method := { name := "pick", desc := "(I)Lcom/example/cordon/cordon/model/Decision;", sig := { parameters := [.int], returnType := some (.object "com/example/cordon/cordon/model/Decision") }, accessFlags := 10, code := some k1c1 }
def k1c2 : Code := { maxStack := 2, maxLocals := 1, code := method_3_code, exceptionTable := #[], attributes := #[] }
def k1m2 : Method := { name := "expected", desc := "(I)Lcom/example/cordon/cordon/model/Effect;", sig := { parameters := [.int], returnType := some (.object "com/example/cordon/cordon/model/Effect") }, accessFlags := 10, code := some k1c2 }
def k1c3 : Code := { maxStack := 2, maxLocals := 4, code := code, exceptionTable := #[], attributes := #[] }
def k1m3 : Method := { name := "law", desc := "(I)Z", sig := { parameters := [.int], returnType := some .boolean }, accessFlags := 9, code := some k1c3 }
/-- com/example/cordon/cordon/model/EffectOfPinLaw -/
def k1 : Class := { plain "com/example/cordon/cordon/model/EffectOfPinLaw" (some 0) with
  accessFlags := 49
  interfaces := #[]
  cf := some (fileOf pool1 37 #[] #[{ accessFlags := 2, nameIndex := 5, descriptorIndex := 6, attributes := #[] }, { accessFlags := 10, nameIndex := 40, descriptorIndex := 41, attributes := #[] }, { accessFlags := 10, nameIndex := 48, descriptorIndex := 49, attributes := #[] }, { accessFlags := 9, nameIndex := 53, descriptorIndex := 54, attributes := #[] }] 49 2 #[] #[])
  fields := #[]
  methods := #[k1m0, k1m1, k1m2, k1m3]
  instanceTypes := #[]
  staticTypes := #[]
  resolved := Array.replicate 57 none
  statics := none }

def pool2 : Array CpInfo := pool [(1, .class_ 2), (0, u "java/lang/constant/Constable"), (0, .class_ 4), (0, u "java/lang/Object")] 6

/-- java/lang/constant/Constable -/
def k2 : Class := { plain "java/lang/constant/Constable" (some 0) with
  accessFlags := 1537
  interfaces := #[]
  cf := some (fileOf pool2 1 #[] #[] 1537 3 #[] #[])
  fields := #[]
  methods := #[]
  instanceTypes := #[]
  staticTypes := #[]
  resolved := Array.replicate 11 none
  statics := none }

def pool3 : Array CpInfo := pool [(1, .class_ 2), (0, u "java/lang/Comparable"), (0, .class_ 4), (0, u "java/lang/Object")] 7

/-- java/lang/Comparable -/
def k3 : Class := { plain "java/lang/Comparable" (some 0) with
  accessFlags := 1537
  interfaces := #[]
  cf := some (fileOf pool3 1 #[] #[] 1537 3 #[] #[])
  fields := #[]
  methods := #[]
  instanceTypes := #[]
  staticTypes := #[]
  resolved := Array.replicate 12 none
  statics := none }

def pool4 : Array CpInfo := pool [(1, .class_ 2), (0, u "java/io/Serializable"), (0, .class_ 4), (0, u "java/lang/Object")] 2

/-- java/io/Serializable -/
def k4 : Class := { plain "java/io/Serializable" (some 0) with
  accessFlags := 1537
  interfaces := #[]
  cf := some (fileOf pool4 1 #[] #[] 1537 3 #[] #[])
  fields := #[]
  methods := #[]
  instanceTypes := #[]
  staticTypes := #[]
  resolved := Array.replicate 7 none
  statics := none }

def pool5 : Array CpInfo := pool [(2, .class_ 4), (1, u "java/lang/Enum"), (0, u "name"), (0, u "Ljava/lang/String;"), (2, u "ordinal"), (0, u "I"), (1, .class_ 14), (1, u "java/lang/Object"), (4, u "hash"), (86, .class_ 108), (1, u "java/lang/Enum$EnumDesc"), (2, .class_ 112), (0, u "java/lang/constant/Constable"), (0, .class_ 114), (0, u "java/lang/Comparable"), (0, .class_ 116), (0, u "java/io/Serializable")] 87

/-- java/lang/Enum -/
def k5 : Class := { plain "java/lang/Enum" (some 0) with
  accessFlags := 1057
  interfaces := #[2, 3, 4]
  cf := some (fileOf pool5 2 #[.nestMembers #[106]] #[] 1057 12 #[111, 113, 115] #[{ accessFlags := 18, nameIndex := 5, descriptorIndex := 6, attributes := #[] }, { accessFlags := 18, nameIndex := 9, descriptorIndex := 10, attributes := #[] }, { accessFlags := 2, nameIndex := 19, descriptorIndex := 10, attributes := #[] }])
  fields := #[{ name := "name", type := (.object "java/lang/String"), accessFlags := 18, slot := 0, constantValue := 0 }, { name := "ordinal", type := .int, accessFlags := 18, slot := 1, constantValue := 0 }, { name := "hash", type := .int, accessFlags := 2, slot := 2, constantValue := 0 }]
  methods := #[]
  instanceTypes := #[(.object "java/lang/String"), .int, .int]
  staticTypes := #[]
  resolved := Array.replicate 204 none
  statics := none }

def pool6 : Array CpInfo := pool [(1, .class_ 2), (0, u "com/example/cordon/cordon/model/Decision"), (2, u "PERMIT"), (0, u "Lcom/example/cordon/cordon/model/Decision;"), (2, u "DENY"), (2, u "NOT_APPLICABLE"), (2, u "INDETERMINATE_D"), (2, u "INDETERMINATE_P"), (2, u "INDETERMINATE_DP"), (2, u "$VALUES"), (0, u "[Lcom/example/cordon/cordon/model/Decision;"), (6, .class_ 34), (1, u "java/lang/Enum"), (8, u "xacmlName"), (0, u "Ljava/lang/String;")] 37

/-- com/example/cordon/cordon/model/Decision -/
def k6 : Class := { plain "com/example/cordon/cordon/model/Decision" (some 5) with
  accessFlags := 16433
  interfaces := #[]
  cf := some (fileOf pool6 1 #[] #[] 16433 32 #[] #[{ accessFlags := 16409, nameIndex := 5, descriptorIndex := 6, attributes := #[] }, { accessFlags := 16409, nameIndex := 9, descriptorIndex := 6, attributes := #[] }, { accessFlags := 16409, nameIndex := 12, descriptorIndex := 6, attributes := #[] }, { accessFlags := 16409, nameIndex := 15, descriptorIndex := 6, attributes := #[] }, { accessFlags := 16409, nameIndex := 18, descriptorIndex := 6, attributes := #[] }, { accessFlags := 16409, nameIndex := 21, descriptorIndex := 6, attributes := #[] }, { accessFlags := 18, nameIndex := 43, descriptorIndex := 44, attributes := #[] }, { accessFlags := 4122, nameIndex := 24, descriptorIndex := 25, attributes := #[] }])
  fields := #[{ name := "PERMIT", type := (.object "com/example/cordon/cordon/model/Decision"), accessFlags := 16409, slot := 0, constantValue := 0 }, { name := "DENY", type := (.object "com/example/cordon/cordon/model/Decision"), accessFlags := 16409, slot := 1, constantValue := 0 }, { name := "NOT_APPLICABLE", type := (.object "com/example/cordon/cordon/model/Decision"), accessFlags := 16409, slot := 2, constantValue := 0 }, { name := "INDETERMINATE_D", type := (.object "com/example/cordon/cordon/model/Decision"), accessFlags := 16409, slot := 3, constantValue := 0 }, { name := "INDETERMINATE_P", type := (.object "com/example/cordon/cordon/model/Decision"), accessFlags := 16409, slot := 4, constantValue := 0 }, { name := "INDETERMINATE_DP", type := (.object "com/example/cordon/cordon/model/Decision"), accessFlags := 16409, slot := 5, constantValue := 0 }, { name := "xacmlName", type := (.object "java/lang/String"), accessFlags := 18, slot := 3, constantValue := 0 }, { name := "$VALUES", type := (.array (.object "com/example/cordon/cordon/model/Decision")), accessFlags := 4122, slot := 6, constantValue := 0 }]
  methods := #[]
  instanceTypes := #[(.object "java/lang/String"), .int, .int, (.object "java/lang/String")]
  staticTypes := #[(.object "com/example/cordon/cordon/model/Decision"), (.object "com/example/cordon/cordon/model/Decision"), (.object "com/example/cordon/cordon/model/Decision"), (.object "com/example/cordon/cordon/model/Decision"), (.object "com/example/cordon/cordon/model/Decision"), (.object "com/example/cordon/cordon/model/Decision"), (.array (.object "com/example/cordon/cordon/model/Decision"))]
  resolved := Array.replicate 82 none
  statics := some 0 }

def pool7 : Array CpInfo := pool [(1, .class_ 2), (0, u "com/example/cordon/cordon/model/Effect"), (2, u "PERMIT"), (0, u "Lcom/example/cordon/cordon/model/Effect;"), (2, u "DENY"), (0, .fieldref 1 11), (0, .nameAndType 12 13), (0, u "$VALUES"), (0, u "[Lcom/example/cordon/cordon/model/Effect;"), (0, .methodref 15 16), (0, .class_ 13), (0, .nameAndType 17 18), (0, u "clone"), (0, u "()Ljava/lang/Object;"), (1, .class_ 22), (1, u "java/lang/Enum"), (8, u "xacmlName"), (0, u "Ljava/lang/String;"), (0, .fieldref 1 34), (0, .nameAndType 35 36), (0, u "decision"), (0, u "Lcom/example/cordon/cordon/model/Decision;"), (2, u "indeterminate"), (0, .methodref 1 41), (0, .nameAndType 42 43), (0, u "values"), (0, u "()[Lcom/example/cordon/cordon/model/Effect;"), (30, u "of"), (0, u "(Lcom/example/cordon/cordon/model/Decision;)Lcom/example/cordon/cordon/model/Effect;")] 10

def k7c0 : Code := { maxStack := 1, maxLocals := 0, code := prog_28_method_1_code, exceptionTable := #[], attributes := #[] }
def k7m0 : Method := { name := "values", desc := "()[Lcom/example/cordon/cordon/model/Effect;", sig := { parameters := [], returnType := some (.array (.object "com/example/cordon/cordon/model/Effect")) }, accessFlags := 9, code := some k7c0 }
def k7c1 : Code := { maxStack := 2, maxLocals := 6, code := prog_28_method_4_code, exceptionTable := #[], attributes := #[] }
def k7m1 : Method := { name := "of", desc := "(Lcom/example/cordon/cordon/model/Decision;)Lcom/example/cordon/cordon/model/Effect;", sig := { parameters := [(.object "com/example/cordon/cordon/model/Decision")], returnType := some (.object "com/example/cordon/cordon/model/Effect") }, accessFlags := 8, code := some k7c1 }
/-- com/example/cordon/cordon/model/Effect -/
def k7 : Class := { plain "com/example/cordon/cordon/model/Effect" (some 5) with
  accessFlags := 16433
  interfaces := #[]
  cf := some (fileOf pool7 1 #[] #[{ accessFlags := 9, nameIndex := 42, descriptorIndex := 43, attributes := #[] }, { accessFlags := 8, nameIndex := 74, descriptorIndex := 75, attributes := #[] }] 16433 20 #[] #[{ accessFlags := 16409, nameIndex := 5, descriptorIndex := 6, attributes := #[] }, { accessFlags := 16409, nameIndex := 9, descriptorIndex := 6, attributes := #[] }, { accessFlags := 18, nameIndex := 31, descriptorIndex := 32, attributes := #[] }, { accessFlags := 18, nameIndex := 35, descriptorIndex := 36, attributes := #[] }, { accessFlags := 18, nameIndex := 39, descriptorIndex := 36, attributes := #[] }, { accessFlags := 4122, nameIndex := 12, descriptorIndex := 13, attributes := #[] }])
  fields := #[{ name := "PERMIT", type := (.object "com/example/cordon/cordon/model/Effect"), accessFlags := 16409, slot := 0, constantValue := 0 }, { name := "DENY", type := (.object "com/example/cordon/cordon/model/Effect"), accessFlags := 16409, slot := 1, constantValue := 0 }, { name := "xacmlName", type := (.object "java/lang/String"), accessFlags := 18, slot := 3, constantValue := 0 }, { name := "decision", type := (.object "com/example/cordon/cordon/model/Decision"), accessFlags := 18, slot := 4, constantValue := 0 }, { name := "indeterminate", type := (.object "com/example/cordon/cordon/model/Decision"), accessFlags := 18, slot := 5, constantValue := 0 }, { name := "$VALUES", type := (.array (.object "com/example/cordon/cordon/model/Effect")), accessFlags := 4122, slot := 2, constantValue := 0 }]
  methods := #[k7m0, k7m1]
  instanceTypes := #[(.object "java/lang/String"), .int, .int, (.object "java/lang/String"), (.object "com/example/cordon/cordon/model/Decision"), (.object "com/example/cordon/cordon/model/Decision")]
  staticTypes := #[(.object "com/example/cordon/cordon/model/Effect"), (.object "com/example/cordon/cordon/model/Effect"), (.array (.object "com/example/cordon/cordon/model/Effect"))]
  resolved := Array.replicate 86 none
  statics := some 1 }

def pool8 : Array CpInfo := pool [(1, .class_ 2), (0, u "java/lang/Cloneable"), (0, .class_ 4), (0, u "java/lang/Object")] 2

/-- java/lang/Cloneable -/
def k8 : Class := { plain "java/lang/Cloneable" (some 0) with
  accessFlags := 1537
  interfaces := #[]
  cf := some (fileOf pool8 1 #[] #[] 1537 3 #[] #[])
  fields := #[]
  methods := #[]
  instanceTypes := #[]
  staticTypes := #[]
  resolved := Array.replicate 7 none
  statics := none }

/-- the primitive byte -/
def k9 : Class := { plain "byte" none with kind := .primitive 'B', accessFlags := 0x411 }
/-- [B -/
def k10 : Class := { plain "[B" (some 0) with kind := .array 9 .byte, interfaces := #[8, 4], accessFlags := 1041 }

/-- the primitive int -/
def k11 : Class := { plain "int" none with kind := .primitive 'I', accessFlags := 0x411 }
/-- [I -/
def k12 : Class := { plain "[I" (some 0) with kind := .array 11 .int, interfaces := #[8, 4], accessFlags := 1041 }

/-- [Lcom/example/cordon/cordon/model/Effect; -/
def k13 : Class := { plain "[Lcom/example/cordon/cordon/model/Effect;" (some 0) with kind := .array 7 (.object "com/example/cordon/cordon/model/Effect"), interfaces := #[8, 4], accessFlags := 1041 }

def heap : Heap := #[{ cls := 6, slots := #[.ref 3, .ref 6, .ref 8, .ref 7, .ref 10, .ref 9, .null], vm := .statics 6 },
  { cls := 7, slots := #[.ref 4, .ref 5, .ref 2], vm := .statics 7 },
  { cls := 13, slots := #[.ref 4, .ref 5], vm := .none },
  { cls := 6, slots := #[.null, .int 0, .int 0, .null], vm := .none },
  { cls := 7, slots := #[.null, .int 0, .int 0, .null, .ref 3, .null], vm := .none },
  { cls := 7, slots := #[.null, .int 0, .int 0, .null, .ref 6, .null], vm := .none },
  { cls := 6, slots := #[.null, .int 1, .int 0, .null], vm := .none },
  { cls := 6, slots := #[.null, .int 3, .int 0, .null], vm := .none },
  { cls := 6, slots := #[.null, .int 2, .int 0, .null], vm := .none },
  { cls := 6, slots := #[.null, .int 5, .int 0, .null], vm := .none },
  { cls := 6, slots := #[.null, .int 4, .int 0, .null], vm := .none }]
def classes : Array Class := #[k0, k1, k2, k3, k4, k5, k6, k7, k8, k9, k10, k11, k12, k13]
def interned : List (Array UInt16 × Addr) := []
def slotsUsed : Nat := 48
def theMethod : MethodId := ⟨1, 3⟩
def args0 : Array Value := #[.int 5]
def aboutOver (below : List Frame) : State where
  vm := { classes := classes, interned := interned.toArray }
  heap := heap
  slotsUsed := slotsUsed
  threads := #[{ frames := .invoking theMethod args0 :: below }]
def below0 : List Frame := [.native { method := ⟨0, 0⟩, args := #[] }]
def about1 : State := aboutOver below0
def p0 : Program := .bare "" "" ""
def e0 : Env := launch0.env 0 0 0
theorem w_frames : about1.frames = Frame.invoking theMethod args0 :: below0 := rfl
set_option maxRecDepth 65536 in
theorem w_args : argsFit about1.vm theMethod args0 = true := by decide +kernel
set_option maxRecDepth 65536 in
theorem w_heap : heapFits about1 = true := by decide +kernel
set_option maxRecDepth 65536 in
theorem w_runnable : about1.curStatus? = some .runnable := by decide +kernel
set_option maxRecDepth 65536 in
theorem w_alone : about1.alone = true := by decide +kernel
set_option maxRecDepth 65536 in
theorem w_named : about1.methodNamed? x = some theMethod := by decide +kernel
set_option maxRecDepth 65536 in
theorem w_hears : about1.hears theMethod below0 = true := by decide +kernel
set_option maxRecDepth 65536 in
theorem w_ripe : about1.ripe theMethod args0 below0 = true := by decide +kernel
theorem w_running : about1.status = .running := rfl
set_option maxRecDepth 65536 in
theorem w_room : about1.hasRoom e0.platform room_1 = true :=
  launch0.hasRoom_least _ room_1 (by decide +kernel) (by decide +kernel) (by decide +kernel) (by decide +kernel) (by decide +kernel) (by decide +kernel)
theorem allAtoms_all (ts : List Jvm.Cond) (a : Array Jvm.Value) (st : Jvm.State) : (allAtoms ts).before a st = ts.all (fun c => c.before a st) := by
  induction ts with
  | nil => rfl
  | cons c t ih =>
    show (Jvm.Cond.and c (allAtoms t)).before a st = _
    rw [Jvm.Cond.before_and, ih, List.all_cons]
def words1 : List Jvm.Cond := Jvm.Cond.code x code maxLocals ret :: tables_1
/-- a 'code' word, met by the world's own term for the bytes: nothing is compared byte by byte -/
theorem code_word {y : MethodName} {bytes : ByteArray} {mx : Nat} {rt : Option FieldType} {a : Array Value} {s : State} {m : MethodId} {meth : Method} {c : Code} (h1 : s.methodNamed? y = some m) (h2 : s.vm.method? m = some meth) (h3 : meth.code = some c) (h4 : c.code = bytes)
    (h5 : (c.maxLocals == mx && c.exceptionTable.isEmpty && decide (c.maxStack ≤ mostOperands) && decide (meth.sig.returnType = rt) && !meth.locks && decide (parseMethodDescriptor y.desc = some meth.sig)) = true) : (Jvm.Cond.code y bytes mx rt).before a s = true := by
  simp only [Bool.and_eq_true, beq_iff_eq, Bool.not_eq_true', decide_eq_true_eq] at h5
  obtain ⟨⟨⟨⟨⟨g1, g2⟩, g3⟩, g4⟩, g5⟩, g6⟩ := h5
  simp [Cond.before, Cond.holds, Cond.value, h1, h2, h3, h4, g1, g2, g3, g4, g5, g6]
def isCode : Jvm.Cond → Bool
  | .code _ _ _ _ => true
  | _ => false
theorem all_split {L : List Jvm.Cond} {P : Jvm.Cond → Bool} (h1 : L.all (fun c => isCode c || P c) = true) (h2 : ∀ c ∈ L.filter isCode, P c = true) : L.all P = true := by
  refine List.all_eq_true.mpr fun c hc => ?_
  have h := List.all_eq_true.mp h1 c hc
  rcases Bool.eq_false_or_eq_true (isCode c) with hi | hi
  · exact h2 c (List.mem_filter.mpr ⟨hc, hi⟩)
  · simpa [hi] using h
set_option maxRecDepth 65536 in
theorem w_c0 : (Jvm.Cond.code x code maxLocals ret).before args0 about1 = true := code_word (m := ⟨1, 3⟩) (meth := k1m3) (c := k1c3) (by decide +kernel) rfl rfl rfl (by decide +kernel)
set_option maxRecDepth 65536 in
theorem w_c1 : (Jvm.Cond.code ({ cls := "com/example/cordon/cordon/model/EffectOfPinLaw", name := "pick", desc := "(I)Lcom/example/cordon/cordon/model/Decision;" } : Jvm.MethodName) method_2_code (1 : Nat) (Option.some (Jvm.ClassFile.FieldType.object "com/example/cordon/cordon/model/Decision"))).before args0 about1 = true := code_word (m := ⟨1, 1⟩) (meth := k1m1) (c := k1c1) (by decide +kernel) rfl rfl rfl (by decide +kernel)
set_option maxRecDepth 65536 in
theorem w_c2 : (Jvm.Cond.code ({ cls := "com/example/cordon/cordon/model/Effect", name := "of", desc := "(Lcom/example/cordon/cordon/model/Decision;)Lcom/example/cordon/cordon/model/Effect;" } : Jvm.MethodName) prog_28_method_4_code (6 : Nat) (Option.some (Jvm.ClassFile.FieldType.object "com/example/cordon/cordon/model/Effect"))).before args0 about1 = true := code_word (m := ⟨7, 1⟩) (meth := k7m1) (c := k7c1) (by decide +kernel) rfl rfl rfl (by decide +kernel)
set_option maxRecDepth 65536 in
theorem w_c3 : (Jvm.Cond.code ({ cls := "com/example/cordon/cordon/model/Effect", name := "values", desc := "()[Lcom/example/cordon/cordon/model/Effect;" } : Jvm.MethodName) prog_28_method_1_code (0 : Nat) (Option.some (Jvm.ClassFile.FieldType.array (Jvm.ClassFile.FieldType.object "com/example/cordon/cordon/model/Effect")))).before args0 about1 = true := code_word (m := ⟨7, 0⟩) (meth := k7m0) (c := k7c0) (by decide +kernel) rfl rfl rfl (by decide +kernel)
set_option maxRecDepth 65536 in
theorem w_c4 : (Jvm.Cond.code ({ cls := "com/example/cordon/cordon/model/EffectOfPinLaw", name := "expected", desc := "(I)Lcom/example/cordon/cordon/model/Effect;" } : Jvm.MethodName) method_3_code (1 : Nat) (Option.some (Jvm.ClassFile.FieldType.object "com/example/cordon/cordon/model/Effect"))).before args0 about1 = true := code_word (m := ⟨1, 2⟩) (meth := k1m2) (c := k1c2) (by decide +kernel) rfl rfl rfl (by decide +kernel)
def codes1 : List Jvm.Cond := [Jvm.Cond.code x code maxLocals ret, Jvm.Cond.code ({ cls := "com/example/cordon/cordon/model/EffectOfPinLaw", name := "pick", desc := "(I)Lcom/example/cordon/cordon/model/Decision;" } : Jvm.MethodName) method_2_code (1 : Nat) (Option.some (Jvm.ClassFile.FieldType.object "com/example/cordon/cordon/model/Decision")), Jvm.Cond.code ({ cls := "com/example/cordon/cordon/model/Effect", name := "of", desc := "(Lcom/example/cordon/cordon/model/Decision;)Lcom/example/cordon/cordon/model/Effect;" } : Jvm.MethodName) prog_28_method_4_code (6 : Nat) (Option.some (Jvm.ClassFile.FieldType.object "com/example/cordon/cordon/model/Effect")), Jvm.Cond.code ({ cls := "com/example/cordon/cordon/model/Effect", name := "values", desc := "()[Lcom/example/cordon/cordon/model/Effect;" } : Jvm.MethodName) prog_28_method_1_code (0 : Nat) (Option.some (Jvm.ClassFile.FieldType.array (Jvm.ClassFile.FieldType.object "com/example/cordon/cordon/model/Effect"))), Jvm.Cond.code ({ cls := "com/example/cordon/cordon/model/EffectOfPinLaw", name := "expected", desc := "(I)Lcom/example/cordon/cordon/model/Effect;" } : Jvm.MethodName) method_3_code (1 : Nat) (Option.some (Jvm.ClassFile.FieldType.object "com/example/cordon/cordon/model/Effect"))]
set_option maxRecDepth 65536 in
theorem codes_eq : words1.filter isCode = codes1 := rfl
theorem w_codes : ∀ c ∈ words1.filter isCode, c.before args0 about1 = true := by
  rw [codes_eq]
  intro c hc
  simp only [codes1, List.mem_cons, List.not_mem_nil, or_false] at hc
  rcases hc with rfl | rfl | rfl | rfl | rfl
  · exact w_c0
  · exact w_c1
  · exact w_c2
  · exact w_c3
  · exact w_c4
set_option maxRecDepth 65536 in
theorem w_t1 : (words1.take 24).all (fun c => isCode c || c.before args0 about1) = true := by decide +kernel
set_option maxRecDepth 65536 in
theorem w_t2 : (words1.drop 24).all (fun c => isCode c || c.before args0 about1) = true := by decide +kernel
theorem w_tables : (allAtoms (Jvm.Cond.code x code maxLocals ret :: tables_1)).before args0 about1 = true := by
  rw [allAtoms_all]
  show words1.all (fun c => c.before args0 about1) = true
  refine all_split ?_ w_codes
  rw [← List.take_append_drop 24 words1, List.all_append, w_t1, w_t2]
  rfl
set_option maxRecDepth 65536 in
theorem w_case : (Jvm.Cond.and given_1 narrow_1).before args0 about1 = true := by decide +kernel
theorem w_applies : (headSpec (Jvm.Cond.code x code maxLocals ret :: tables_1) room_1).applies x e0.platform about1 = true :=
  (Spec.applies_iff w_frames).mpr ⟨w_running, w_runnable, w_alone, w_named, w_hears, w_ripe, w_room, w_tables⟩
theorem atStart : AtStart classFile x code maxLocals ret World_1 tables_1 room_1 Calls_1 rest_1 Pre_1 launch0 p0 e0 about1 theMethod args0 below0 :=
  ⟨lists_1, trivial, launch0.admits_env _ _ _, launch0.least_env, fairChoices_fair.cas, fairChoices_fair.clock, w_frames, w_args, w_heap, w_applies, trivial, trivial, w_case⟩
end start1
theorem witness_1 : WitnessClaimed_1 := ⟨start1.p0, start1.e0, start1.about1, start1.theMethod, start1.args0, start1.below0, start1.atStart⟩
end Jvm.Pilot.@@N@@
