import JvmDerived
import JvmDerived.Pilot.@@N@@Statement
import JvmDerived.Pilot.@@N@@Code
set_option linter.unusedVariables false
set_option linter.unusedSimpArgs false
namespace Jvm.RoadKit
open Sem ClassFile Op Lib Jvm.Stand Jvm.Free Jvm.LawKit
section New
variable {p : Program} {l : Launch} {e : Env} {R : Room} {s : State} {m : MethodId} {args : Array Value} {below : List Frame} {meth : Method} {c : Code} {T : State} {locs : List Loc} {cells slots : Nat}
theorem retI (X : Stand p l e R s m args below meth c T locs cells slots) (hx : p.tables.exec = Jvm.exec) {pc : Nat} {Ls : Array Slot} {z : Int32} {rest : List Value} (hret : meth.sig.returnType = some .int) (hd : decode c.code pc = .ok (.ireturn, 1)) {fs : List Frame}
    (hl : ∀ (f : JFrame) (acts : List Action), f.method = m → f.locked = none → f.entered = [] → (doReturn e (T.setTop f) acts (some (.int z))).1 = T.setFrames fs) : Steps p.tables e below (T.setTop (mkF m pc Ls (.int z :: rest))) (T.setFrames fs) := by
  have hm' : T.vm.method? m = some meth := X.method'
  have hn : narrow .int (.int z) = .int z := rfl
  show Steps p.tables e below (T.setTop { method := m, pc := pc, locals := Ls, stack := _ :: rest, locked := none }) _
  jvm_step X.here [X.here.top, hx, hd, hm', hret, hn]
  first | (intro acts; rw [hl _ acts rfl rfl rfl]) | rw [hl _ _ rfl rfl rfl]
  exact Steps.refl _
end New
section Own
variable {Z : State} {h0 h h' : Heap} {ws ws' : List (Addr × Nat)} {a : Addr} {sl : Nat} {v : Value} {C n d : String}
/-- own: what a call leaves as it was, by places: every cell is kept in class, kind and size; a place that isn't listed keeps its value -/
def KSx (h h' : Heap) (ws : List (Addr × Nat)) : Prop := h.size ≤ h'.size ∧ ∀ (x : Addr) (c : Cell), h[x]? = some c → ∃ c' : Cell, h'[x]? = some c' ∧ c'.cls = c.cls ∧ c'.vm = c.vm ∧ c'.slots.size = c.slots.size ∧ (∀ j, (∀ p ∈ ws, x ≠ p.1 ∨ j ≠ p.2) → c'.slots[j]? = c.slots[j]?) ∧ ((c.vm.isStatics = true ∨ ∀ p ∈ ws, x ≠ p.1) → c' = c)
theorem ks0 {P : Addr × Nat → Prop} : ∀ p ∈ ([] : List (Addr × Nat)), P p := fun _ q => nomatch q
theorem ksS {P : Addr × Nat → Prop} {y : Addr × Nat} {L : List (Addr × Nat)} (q : P y) (r : ∀ p ∈ L, P p) : ∀ p ∈ y :: L, P p := fun x z => (List.mem_cons.mp z).elim (fun u => u ▸ q) (r x)
theorem KSx.refl (h : Heap) (ws : List (Addr × Nat)) : KSx h h ws := ⟨Nat.le_refl _, fun _ c q => ⟨c, q, rfl, rfl, rfl, fun _ _ => rfl, fun _ => rfl⟩⟩
theorem KSx.ext (K : KSx h0 h ws) (E : Ext h h') : KSx h0 h' ws := ⟨Nat.le_trans K.1 E.1, fun x c q => by obtain ⟨c', q', r⟩ := K.2 x c q; exact ⟨c', E.2 x c' q', r⟩⟩
theorem KSx.trans (K : KSx h0 h ws) (K' : KSx h h' ws') (q : ∀ p ∈ ws', p ∈ ws ∨ h0.size ≤ p.1) : KSx h0 h' ws := by
  refine ⟨Nat.le_trans K.1 K'.1, fun x c hc => ?_⟩
  obtain ⟨c1, a1, a2, a3, a4, a5, a6⟩ := K.2 x c hc
  obtain ⟨c2, b1, b2, b3, b4, b5, b6⟩ := K'.2 x c1 a1
  have hx : x < h0.size := (Array.getElem?_eq_some_iff.mp hc).1
  refine ⟨c2, b1, b2.trans a2, b3.trans a3, b4.trans a4, fun j hj => ?_, fun hs => ?_⟩
  · refine (b5 j fun p hp => ?_).trans (a5 j hj)
    rcases q p hp with w | g
    · exact hj p w
    · exact Or.inl fun e => by subst e; exact absurd hx (Nat.not_lt.mpr g)
  · have e1 : c1 = c := a6 hs
    refine (b6 ?_).trans e1
    rcases hs with w | w
    · exact Or.inl (by rw [e1]; exact w)
    · refine Or.inr fun p hp => ?_
      rcases q p hp with y | g
      · exact w p y
      · exact fun e => by subst e; exact absurd hx (Nat.not_lt.mpr g)
theorem KSx.of_wr (W : Wr h h' a sl v) : KSx h h' [(a, sl)] := by
  refine ⟨Nat.le_of_eq W.size.symm, fun x c hc => ?_⟩
  obtain ⟨c', e1, e2, e3, e4, e5, e6, e7⟩ := wr_at W hc
  refine ⟨c', e1, e2, e3, e4, fun j hj => ?_, fun hs => ?_⟩
  · rcases hj (a, sl) (List.mem_singleton.mpr rfl) with y | y
    · rw [e5 y]
    · exact e6 j y
  · rcases hs with y | y
    · by_cases z : x = a
      · rw [(e7 z).2.2] at y; cases y
      · exact e5 z
    · exact e5 (y (a, sl) (List.mem_singleton.mpr rfl))
theorem KSx.wr (K : KSx h0 h ws) (W : Wr h h' a sl v) (q : (a, sl) ∈ ws ∨ h0.size ≤ a) : KSx h0 h' ws := K.trans (KSx.of_wr W) fun p hp => by cases List.mem_singleton.mp hp; exact q
theorem Fld.ks (F : Fld Z h a C n d v) (K : KSx h h' ws) (q : ∀ p ∈ ws, a ≠ p.1 ∨ slotOf Z C n d ≠ p.2) : Fld Z h' a C n d v := by
  obtain ⟨cell, cf, k, i, f, h1, h2, h3, h4, h5, h6, h7⟩ := F
  obtain ⟨c', e1, e2, e3, -, e5, -⟩ := K.2 _ _ h1
  refine ⟨c', cf, k, i, f, e1, h2, h3, by rw [e3]; exact h4, by rw [e3]; exact h5, by rw [e2]; exact h6, ?_⟩
  refine (e5 _ fun p hp => ?_).trans h7
  simpa [slotOf, h2] using q p hp
theorem Exa.ks (F : Exa Z h a C) (K : KSx h h' ws) : Exa Z h' a C := by
  obtain ⟨cell, k, h1, h2, h3, h4, h5⟩ := F
  obtain ⟨c', e1, e2, e3, e4, -⟩ := K.2 _ _ h1
  exact ⟨c', k, e1, by rw [e2]; exact h2, by rw [e2]; exact h3, by rw [e3]; exact h4, by rw [e4]; exact h5⟩
theorem Sta.ks (F : Sta Z h C n d v) (K : KSx h h' ws) : Sta Z h' C n d v := by
  obtain ⟨cf, i, k, f, st, cell, h1, h2, h3, h4, h5, h6, h7⟩ := F
  obtain ⟨c', e1, -, -, -, -, e6⟩ := K.2 _ _ h5
  exact ⟨cf, i, k, f, st, cell, h1, h2, h3, h4, (e6 (Or.inl h6)) ▸ e1, h6, h7⟩
theorem Arr.ks {c : Cell} {ty : FieldType} (F : Arr Z h a c ty) (K : KSx h h' ws) (q : ∀ p ∈ ws, a ≠ p.1) : Arr Z h' a c ty := by
  obtain ⟨c', e1, -, -, -, -, e6⟩ := K.2 _ _ F.1
  exact ⟨(e6 (Or.inr q)) ▸ e1, F.2⟩
theorem Arv.ks {k : ClassId} {ty : FieldType} {z : Int32} {vs : List Value} {dv : Value} (F : Arv Z h a k ty z vs dv) (K : KSx h h' ws) (q : ∀ p ∈ ws, a ≠ p.1) : Arv Z h' a k ty z vs dv := by obtain ⟨c, A, r⟩ := F; exact ⟨c, A.ks K q, r⟩
theorem own_fi {args : Array Value} {s : State} {t : Term} {k : Int32} (ht : t.eval args s none [] s = some (.ref a)) (hq : (Cond.eq (.field t C n d) (.int k)).value args s none s [] = some true) : Fld s s.heap a C n d (.int k) := by
  have e2 : (Term.int k).eval args s none [] s = some (.int k) := Term.int_eval k
  obtain ⟨x, y, e1, e3, -, k2⟩ := cmp_v (Or.inl hq)
  cases e2.symm.trans e3
  obtain ⟨z, rfl⟩ := k2
  have q : z = k := by simpa [Cond.value, e1, e2] using hq
  subst q
  exact Fld.start (by rw [← fld_at ht]; exact e1)
theorem own_fr {args : Array Value} {s : State} {t u : Term} {b : Addr} (ht : t.eval args s none [] s = some (.ref a)) (hu : u.eval args s none [] s = some (.ref b)) (hq : (Cond.eq (.field t C n d) u).value args s none s [] = some true) : Fld s s.heap a C n d (.ref b) := by
  obtain ⟨x, y, e1, e3, k1, k2⟩ := cmp_v (Or.inl hq)
  cases hu.symm.trans e3
  have hr : x.isRef = true := k2.2
  have q : x = .ref b := gotT (eq_R e1 hu hr rfl) hq
  subst q
  exact Fld.start (by rw [← fld_at ht]; exact e1)
theorem own_len {args : Array Value} {s : State} {t : Term} {k : Int32} {cl : Cell} {ty : FieldType} (ht : t.eval args s none [] s = some (.ref a)) (A : Arr s s.heap a cl ty) (hq : (Cond.eq (.length t) (.int k)).value args s none s [] = some true) : cl.slots.size < 2 ^ 31 ∧ cl.slots.size.toInt32 = k := by
  have e2 : (Term.int k).eval args s none [] s = some (.int k) := Term.int_eval k
  have ha : s.arrayAt? a = some cl := A.fin (Vm.Alike.refl _)
  obtain ⟨x, y, e1, e3, -, k2⟩ := cmp_v (Or.inl hq)
  cases e2.symm.trans e3
  obtain ⟨z, rfl⟩ := k2
  have q : z = k := by simpa [Cond.value, e1, e2] using hq
  subst q
  by_cases hl : cl.slots.size < 2 ^ 31
  · rw [len_f ht ha hl] at e1
    cases e1; exact ⟨hl, rfl⟩
  · simp [Term.eval, ht, ha, hl] at e1
theorem own_el {args : Array Value} {s : State} {t u : Term} {k : Int32} {b : Addr} {cl : Cell} {ty : FieldType} (ht : t.eval args s none [] s = some (.ref a)) (hu : u.eval args s none [] s = some (.ref b)) (A : Arr s s.heap a cl ty) (hq : (Cond.eq (.elem t (.int k)) u).value args s none s [] = some true) : cl.slots[k.toNatClampNeg]? = some (.ref b) := by
  obtain ⟨x, y, e1, e3, k1, k2⟩ := cmp_v (Or.inl hq)
  cases hu.symm.trans e3
  have q : x = .ref b := gotT (eq_R e1 hu k2.2 rfl) hq
  subst q
  exact (elem_in e1 ht (Term.int_eval k) A.1).2
theorem own_sel {s : State} {a0 args : Array Value} {y : MethodName} {k : Nat} (hZ : Z.Warmed39 s.vm) (wi : (Cond.instantiable y.cls k).before a0 Z = true) (wp : (Cond.privateMethod y).before a0 Z = true) (wm : (Cond.instanceMethod y).before a0 Z = true) (hy : y.cls ≠ "java/lang/invoke/MethodHandle" ∧ y.cls ≠ "java/lang/invoke/VarHandle") : (Cond.selects y.cls y y).before args s = true := by
  obtain ⟨c, kc, h1, h2, -, h4, -⟩ := Cond.instantiable_spec (mvT (args := args) hZ wi)
  exact selects_self_of_private h1 h2 (Bool.or_eq_false_iff.mp h4).1 (Cond.privateMethod_at (mvP hZ wp (args := args))) (mvT hZ wm) hy
end Own
end Jvm.RoadKit
namespace Jvm.Pilot.@@N@@
open Jvm Jvm.ClassFile Sem Op Lib Jvm.Free Jvm.Stand Jvm.LawKit Jvm.RoadKit Bundle Jvm.Pilot.@@N@@.Jvm.D
abbrev OMet (l : Launch) (Z : State) (y : MethodName) (bytes : ByteArray) (ml : Nat) (rt : Option FieldType) (ws : List Jvm.Cond) (rm : Room) (h0 : Heap) (as : Array Value) (Q : Option Value → Heap → List Loc → Prop) : Prop :=
  MetFree l y (head1 (Jvm.Cond.code y bytes ml rt :: ws) rm) (fun a U => a = as ∧ Z.Warmed39 U.vm ∧ U.heap = h0) (fun _ _ _ _ _ => True) (fun _ U o U' => ∃ v L, o = .returned v ∧ Q v U'.heap L ∧ FrameEnd U o U' L rm.cells rm.slots)
abbrev OMetS (l : Launch) (Z : State) (y : MethodName) (bytes : ByteArray) (ml : Nat) (rt : Option FieldType) (ws : List Jvm.Cond) (rm : Room) (h0 : Heap) (as : Array Value) (Q : Option Value → Heap → List Loc → Prop) : Prop :=
  MetFree l y (head1 (Jvm.Cond.code y bytes ml rt :: ws) rm) (fun a U => a = as ∧ Z.Warmed39 U.vm ∧ U.heap = h0) (fun _ _ _ _ _ => True) (fun _ U o U' => ∃ v L, o = .returned v ∧ Q v U'.heap L ∧ ReturnedEndW U o U' L rm.cells rm.slots)
def OQp (r : Option Value) (h0 : Heap) (n0 : Nat) (v : Option Value) (h : Heap) (L : List Loc) : Prop := v = r ∧ Fr n0 L ∧ h = h0
def OQl (r : Option Value) (n0 : Nat) (v : Option Value) (h : Heap) (L : List Loc) : Prop := v = r ∧ Fr n0 L
theorem own_rng {k n : Int32} {N : Nat} (h : 0 ≤ k.toInt ∧ k.toInt < N) : ∃ i : Fin N, k = Int32.ofInt i.1 := by
  refine ⟨⟨k.toInt.toNat, by omega⟩, ?_⟩
  show k = Int32.ofInt ((k.toInt.toNat : Nat) : Int)
  rw [Int.toNat_of_nonneg h.1]; exact (Int32.ofInt_toInt k).symm
theorem own_mod (x : Int32) (y : Int32) (hy : 0 < y.toInt) : 0 ≤ ((x &&& (2147483647 : Int32)) % y).toInt ∧ ((x &&& (2147483647 : Int32)) % y).toInt < y.toInt := by
  have h1 := c_mask x 2147483647 31 (by decide) (by decide)
  have h2 := (c_iremV (x &&& (2147483647 : Int32)) y).1 (by rw [h1]; exact Int.emod_nonneg _ (by decide)) hy
  exact ⟨h2.1, h2.2.1⟩
theorem own_b1 (x : Int32) : (x &&& (1 : Int32)) = (0 : Int32) ∨ (x &&& (1 : Int32)) = (1 : Int32) := by
  have h := c_mask x 1 1 (by decide) (by decide)
  have q : (x &&& (1 : Int32)).toInt = 0 ∨ (x &&& (1 : Int32)).toInt = 1 := by rw [h]; omega
  rcases q with q | q <;> simp [← Int32.toInt_inj, q]
theorem d1_0 : decode method_2_code 0 = .ok (.iload_n 0, 1) := by decide +kernel
theorem d1_1 : decode method_2_code 1 = .ok (.ifCond .ne 7, 3) := by decide +kernel
theorem d1_4 : decode method_2_code 4 = .ok (.getstatic 7, 3) := by decide +kernel
theorem d1_7 : decode method_2_code 7 = .ok (.areturn, 1) := by decide +kernel
theorem pn_com_example_transaction_scopes_transactionscopes_PropagationConductPinLaw : plainName "com/example/transaction_scopes/transactionscopes/PropagationConductPinLaw" = true := by first | (simp [plainName, overriddenIn]; done) | decide +kernel
theorem ef_1_v (m : MethodId) (x0 : Int32) : entryFrame m #[(.int x0)] 1 = mkF m 0 #[.val (.int x0)] [] := by first | (simp [entryFrame, mkF, argsToLocals, Value.category]; done) | rfl
set_option maxRecDepth 65536 in
set_option maxHeartbeats 40000000 in
theorem r1_1 (l : Launch) (Z : State) (a0 : Array Value) (hw : ∀ d ∈ tables_1, d.before a0 Z = true) (p3 : Int32) (w4 : Addr) (h0 : Heap) (n0 : Nat) (Z0 : n0 ≤ h0.size) (H0 : p3 = (0 : Int32)) (H1 : Sta Z h0 "com/example/transaction_scopes/transactionscopes/Propagation" "REQUIRED" "Lcom/example/transaction_scopes/transactionscopes/Propagation;" (.ref w4)) :
    OMet l Z (⟨"com/example/transaction_scopes/transactionscopes/PropagationConductPinLaw", "pick", "(I)Lcom/example/transaction_scopes/transactionscopes/Propagation;"⟩ : MethodName) method_2_code 1 (some (.object "com/example/transaction_scopes/transactionscopes/Propagation")) [] ({ frames := 0, cells := 0, slots := 0, locals := 0 } : Room) h0 #[(.int p3)] (OQp (some (.ref w4)) h0 n0) := by
  refine MetFree.of_bodySF (plainFor_of_name pn_com_example_transaction_scopes_transactionscopes_PropagationConductPinLaw) hisR ?_
  intro p e s m args below meth c s₁ Bd hml0 hP hK
  obtain ⟨rfl, hZ, hh⟩ := hP
  have hx := Bd.exec
  have hby := Bd.bytes
  have hml : c.maxLocals = 1 := hml0
  have hown : s.vm.findClass "com/example/transaction_scopes/transactionscopes/PropagationConductPinLaw" = some m.cls := findClass_of_methodNamed Bd.named
  have hnm := (name_of_methodNamed Bd.named Bd.method).1
  have X0 : Stand p l e ({ frames := 0, cells := 0, slots := 0, locals := 0 } : Room) s m #[(.int p3)] below meth c s₁ [] 0 0 := Stand.of_body Bd
  have e0 : s₁.heap = h0 := by rw [← hh, Bd.state]; rfl
  have N0 := Fr.nil n0
  have pre0 : ∀ t, Steps p.tables e below (s₁.setTop (mkF m 0 #[.val (.int p3)] [])) t → Steps p.tables e below (s₁.setTop (entryFrame m #[(.int p3)] 1)) t := fun t k => castTop (ef_1_v m p3) k
  obtain ⟨T5, X5, e5, st5⟩ := getS2 X0 hx hZ hown (host := "") (Or.inl (hw _ (List.mem_of_getElem? (i := 5) rfl))) Via.refl e0 H1 (g := (mkF m 4 #[.val (.int p3)] [])) rfl (hb hby d1_4)
  obtain ⟨fs, hr, hrun, hended, hW, hsame⟩ := X5.leave (v := some (.ref w4)) (fun h => by rw [Bd.returns] at h; cases h)
  refine ⟨_, _, pre0 _ ?_, hrun, hended, _, _, rfl, ?_, ⟨_, rfl⟩, hW, hsame.mono (by decide) (by decide)⟩
  · show Steps p.tables e below (s₁.setTop (mkF m 0 #[.val (.int p3)] [])) _
    refine XS.iloadN X0.here hx rfl (hb hby d1_0) rfl ?_
    show Steps p.tables e below (s₁.setTop (mkF m 1 #[.val (.int p3)] [(.int p3)])) _
    refine XS.ifNo X0.here hx rfl (hb hby d1_1) rfl ((if0 _ _).trans (teq H0).2) ?_
    show Steps p.tables e below (s₁.setTop (mkF m 4 #[.val (.int p3)] [])) _
    refine st5 _ ?_
    show Steps p.tables e below (T5.setTop (mkF m 7 #[.val (.int p3)] [(.ref w4)])) _
    jvm_step X5.here [X5.here.top, hx, (hb hby d1_7), X5.method', Bd.returns, Value.isRef, FieldType.isReference]
    first | (intro acts; rw [hr _ acts rfl rfl rfl]) | rw [hr _ _ rfl rfl rfl]
    exact Steps.refl _
  · show OQp (some (.ref w4)) h0 n0 _ T5.heap _
    rw [e5]
    exact ⟨rfl, N0, rfl⟩
theorem pd_0 : parseMethodDescriptor "(I)Lcom/example/transaction_scopes/transactionscopes/Propagation;" = some ⟨[.int], some (.object "com/example/transaction_scopes/transactionscopes/Propagation")⟩ := by decide +kernel
theorem d2_0 : decode method_3_code 0 = .ok (.iload_n 1, 1) := by decide +kernel
theorem d2_1 : decode method_3_code 1 = .ok (.ifCond .eq 52, 3) := by decide +kernel
theorem d2_53 : decode method_3_code 53 = .ok (.iload_n 0, 1) := by decide +kernel
theorem d2_54 : decode method_3_code 54 = .ok (.ifCond .eq 14, 3) := by decide +kernel
theorem d2_68 : decode method_3_code 68 = .ok (.getstatic 37, 3) := by decide +kernel
theorem d2_71 : decode method_3_code 71 = .ok (.areturn, 1) := by decide +kernel
theorem ef_2_vv (m : MethodId) (x0 : Int32) (x1 : Int32) : entryFrame m #[(.int x0), (.int x1)] 2 = mkF m 0 #[.val (.int x0), .val (.int x1)] [] := by first | (simp [entryFrame, mkF, argsToLocals, Value.category]; done) | rfl
set_option maxRecDepth 65536 in
set_option maxHeartbeats 40000000 in
theorem r2_1 (l : Launch) (Z : State) (a0 : Array Value) (hw : ∀ d ∈ tables_1, d.before a0 Z = true) (p8 : Int32) (p9 : Int32) (w10 : Addr) (h0 : Heap) (n0 : Nat) (Z0 : n0 ≤ h0.size) (H0 : p9 = (0 : Int32)) (H1 : p8 = (0 : Int32)) (H2 : Sta Z h0 "com/example/transaction_scopes/transactionscopes/Propagation$Conduct" "BEGIN" "Lcom/example/transaction_scopes/transactionscopes/Propagation$Conduct;" (.ref w10)) :
    OMet l Z (⟨"com/example/transaction_scopes/transactionscopes/PropagationConductPinLaw", "expected", "(IZ)Lcom/example/transaction_scopes/transactionscopes/Propagation$Conduct;"⟩ : MethodName) method_3_code 2 (some (.object "com/example/transaction_scopes/transactionscopes/Propagation$Conduct")) [] ({ frames := 0, cells := 0, slots := 0, locals := 0 } : Room) h0 #[(.int p8), (.int p9)] (OQp (some (.ref w10)) h0 n0) := by
  refine MetFree.of_bodySF (plainFor_of_name pn_com_example_transaction_scopes_transactionscopes_PropagationConductPinLaw) hisR ?_
  intro p e s m args below meth c s₁ Bd hml0 hP hK
  obtain ⟨rfl, hZ, hh⟩ := hP
  have hx := Bd.exec
  have hby := Bd.bytes
  have hml : c.maxLocals = 2 := hml0
  have hown : s.vm.findClass "com/example/transaction_scopes/transactionscopes/PropagationConductPinLaw" = some m.cls := findClass_of_methodNamed Bd.named
  have hnm := (name_of_methodNamed Bd.named Bd.method).1
  have X0 : Stand p l e ({ frames := 0, cells := 0, slots := 0, locals := 0 } : Room) s m #[(.int p8), (.int p9)] below meth c s₁ [] 0 0 := Stand.of_body Bd
  have e0 : s₁.heap = h0 := by rw [← hh, Bd.state]; rfl
  have N0 := Fr.nil n0
  have pre0 : ∀ t, Steps p.tables e below (s₁.setTop (mkF m 0 #[.val (.int p8), .val (.int p9)] [])) t → Steps p.tables e below (s₁.setTop (entryFrame m #[(.int p8), (.int p9)] 2)) t := fun t k => castTop (ef_2_vv m p8 p9) k
  obtain ⟨T11, X11, e11, st11⟩ := getS2 X0 hx hZ hown (host := "") (Or.inl (hw _ (List.mem_of_getElem? (i := 23) rfl))) Via.refl e0 H2 (g := (mkF m 68 #[.val (.int p8), .val (.int p9)] [])) rfl (hb hby d2_68)
  obtain ⟨fs, hr, hrun, hended, hW, hsame⟩ := X11.leave (v := some (.ref w10)) (fun h => by rw [Bd.returns] at h; cases h)
  refine ⟨_, _, pre0 _ ?_, hrun, hended, _, _, rfl, ?_, ⟨_, rfl⟩, hW, hsame.mono (by decide) (by decide)⟩
  · show Steps p.tables e below (s₁.setTop (mkF m 0 #[.val (.int p8), .val (.int p9)] [])) _
    refine XS.iloadN X0.here hx rfl (hb hby d2_0) rfl ?_
    show Steps p.tables e below (s₁.setTop (mkF m 1 #[.val (.int p8), .val (.int p9)] [(.int p9)])) _
    refine XS.ifYes X0.here hx rfl (pc0 := 1) (pc' := 53) rfl (hb hby d2_1) rfl ((if0 _ _).trans (teq H0).1) (by decide) (by decide) ?_
    show Steps p.tables e below (s₁.setTop (mkF m 53 #[.val (.int p8), .val (.int p9)] [])) _
    refine XS.iloadN X0.here hx rfl (hb hby d2_53) rfl ?_
    show Steps p.tables e below (s₁.setTop (mkF m 54 #[.val (.int p8), .val (.int p9)] [(.int p8)])) _
    refine XS.ifYes X0.here hx rfl (pc0 := 54) (pc' := 68) rfl (hb hby d2_54) rfl ((if0 _ _).trans (teq H1).1) (by decide) (by decide) ?_
    show Steps p.tables e below (s₁.setTop (mkF m 68 #[.val (.int p8), .val (.int p9)] [])) _
    refine st11 _ ?_
    show Steps p.tables e below (T11.setTop (mkF m 71 #[.val (.int p8), .val (.int p9)] [(.ref w10)])) _
    jvm_step X11.here [X11.here.top, hx, (hb hby d2_71), X11.method', Bd.returns, Value.isRef, FieldType.isReference]
    first | (intro acts; rw [hr _ acts rfl rfl rfl]) | rw [hr _ _ rfl rfl rfl]
    exact Steps.refl _
  · show OQp (some (.ref w10)) h0 n0 _ T11.heap _
    rw [e11]
    exact ⟨rfl, N0, rfl⟩
theorem pd_1 : parseMethodDescriptor "(IZ)Lcom/example/transaction_scopes/transactionscopes/Propagation$Conduct;" = some ⟨[.int, .boolean], some (.object "com/example/transaction_scopes/transactionscopes/Propagation$Conduct")⟩ := by decide +kernel
theorem d3_0 : decode prog_6_method_4_code 0 = .ok (.iload_n 1, 1) := by decide +kernel
theorem d3_1 : decode prog_6_method_4_code 1 = .ok (.ifCond .eq 10, 3) := by decide +kernel
theorem d3_11 : decode prog_6_method_4_code 11 = .ok (.aload_n 0, 1) := by decide +kernel
theorem d3_12 : decode prog_6_method_4_code 12 = .ok (.getfield 48, 3) := by decide +kernel
theorem d3_15 : decode prog_6_method_4_code 15 = .ok (.areturn, 1) := by decide +kernel
theorem pn_com_example_transaction_scopes_transactionscopes_Propagation : plainName "com/example/transaction_scopes/transactionscopes/Propagation" = true := by first | (simp [plainName, overriddenIn]; done) | decide +kernel
theorem ef_3_vv (m : MethodId) (x0 : Addr) (x1 : Int32) : entryFrame m #[(.ref x0), (.int x1)] 2 = mkF m 0 #[.val (.ref x0), .val (.int x1)] [] := by first | (simp [entryFrame, mkF, argsToLocals, Value.category]; done) | rfl
set_option maxRecDepth 65536 in
set_option maxHeartbeats 40000000 in
theorem r3_1 (l : Launch) (Z : State) (a0 : Array Value) (hw : ∀ d ∈ tables_1, d.before a0 Z = true) (a14 : Addr) (p15 : Int32) (w16 : Addr) (h0 : Heap) (n0 : Nat) (Z0 : n0 ≤ h0.size) (H0 : p15 = (0 : Int32)) (H1 : Fld Z h0 a14 "com/example/transaction_scopes/transactionscopes/Propagation" "withoutTransaction" "Lcom/example/transaction_scopes/transactionscopes/Propagation$Conduct;" (.ref w16)) :
    OMet l Z (⟨"com/example/transaction_scopes/transactionscopes/Propagation", "conduct", "(Z)Lcom/example/transaction_scopes/transactionscopes/Propagation$Conduct;"⟩ : MethodName) prog_6_method_4_code 2 (some (.object "com/example/transaction_scopes/transactionscopes/Propagation$Conduct")) [] ({ frames := 0, cells := 0, slots := 0, locals := 0 } : Room) h0 #[(.ref a14), (.int p15)] (OQp (some (.ref w16)) h0 n0) := by
  refine MetFree.of_bodySF (plainFor_of_name pn_com_example_transaction_scopes_transactionscopes_Propagation) hisR ?_
  intro p e s m args below meth c s₁ Bd hml0 hP hK
  obtain ⟨rfl, hZ, hh⟩ := hP
  have hx := Bd.exec
  have hby := Bd.bytes
  have hml : c.maxLocals = 2 := hml0
  have hown : s.vm.findClass "com/example/transaction_scopes/transactionscopes/Propagation" = some m.cls := findClass_of_methodNamed Bd.named
  have hnm := (name_of_methodNamed Bd.named Bd.method).1
  have X0 : Stand p l e ({ frames := 0, cells := 0, slots := 0, locals := 0 } : Room) s m #[(.ref a14), (.int p15)] below meth c s₁ [] 0 0 := Stand.of_body Bd
  have e0 : s₁.heap = h0 := by rw [← hh, Bd.state]; rfl
  have N0 := Fr.nil n0
  have pre0 : ∀ t, Steps p.tables e below (s₁.setTop (mkF m 0 #[.val (.ref a14), .val (.int p15)] [])) t → Steps p.tables e below (s₁.setTop (entryFrame m #[(.ref a14), (.int p15)] 2)) t := fun t k => castTop (ef_3_vv m a14 p15) k
  obtain ⟨T17, X17, e17, st17⟩ := getF X0 hx hZ hown (host := "") (Or.inl (hw _ (List.mem_of_getElem? (i := 29) rfl))) Via.refl e0 H1 (g := (mkF m 12 #[.val (.ref a14), .val (.int p15)] [(.ref a14)])) rfl rfl (hb hby d3_12)
  obtain ⟨fs, hr, hrun, hended, hW, hsame⟩ := X17.leave (v := some (.ref w16)) (fun h => by rw [Bd.returns] at h; cases h)
  refine ⟨_, _, pre0 _ ?_, hrun, hended, _, _, rfl, ?_, ⟨_, rfl⟩, hW, hsame.mono (by decide) (by decide)⟩
  · show Steps p.tables e below (s₁.setTop (mkF m 0 #[.val (.ref a14), .val (.int p15)] [])) _
    refine XS.iloadN X0.here hx rfl (hb hby d3_0) rfl ?_
    show Steps p.tables e below (s₁.setTop (mkF m 1 #[.val (.ref a14), .val (.int p15)] [(.int p15)])) _
    refine XS.ifYes X0.here hx rfl (pc0 := 1) (pc' := 11) rfl (hb hby d3_1) rfl ((if0 _ _).trans (teq H0).1) (by decide) (by decide) ?_
    show Steps p.tables e below (s₁.setTop (mkF m 11 #[.val (.ref a14), .val (.int p15)] [])) _
    refine XS.aloadN X0.here hx rfl (hb hby d3_11) rfl rfl ?_
    show Steps p.tables e below (s₁.setTop (mkF m 12 #[.val (.ref a14), .val (.int p15)] [(.ref a14)])) _
    refine st17 _ ?_
    show Steps p.tables e below (T17.setTop (mkF m 15 #[.val (.ref a14), .val (.int p15)] [(.ref w16)])) _
    jvm_step X17.here [X17.here.top, hx, (hb hby d3_15), X17.method', Bd.returns, Value.isRef, FieldType.isReference]
    first | (intro acts; rw [hr _ acts rfl rfl rfl]) | rw [hr _ _ rfl rfl rfl]
    exact Steps.refl _
  · show OQp (some (.ref w16)) h0 n0 _ T17.heap _
    rw [e17]
    exact ⟨rfl, N0, rfl⟩
theorem pd_2 : parseMethodDescriptor "(Z)Lcom/example/transaction_scopes/transactionscopes/Propagation$Conduct;" = some ⟨[.boolean], some (.object "com/example/transaction_scopes/transactionscopes/Propagation$Conduct")⟩ := by decide +kernel
theorem ef_0_vv (m : MethodId) (x0 : Int32) (x1 : Int32) : entryFrame m #[(.int x0), (.int x1)] maxLocals = mkF m 0 #[.val (.int x0), .val (.int x1), .unset, .unset, .unset, .unset] [] := by first | (simp [entryFrame, mkF, argsToLocals, Value.category, maxLocals]; done) | rfl
set_option maxRecDepth 65536 in
set_option maxHeartbeats 40000000 in
theorem r0_1 (l : Launch) (Z : State) (a0 : Array Value) (hw : ∀ d ∈ tables_1, d.before a0 Z = true) (p1 : Int32) (p2 : Int32) (w7 : Addr) (w13 : Addr) (w19 : Addr) (h0 : Heap) (n0 : Nat) (Z0 : n0 ≤ h0.size) (H0 : (p2 &&& (1 : Int32)) = (0 : Int32)) (H1 : ((p1 &&& (2147483647 : Int32)) % (7 : Int32)) = (0 : Int32)) (H2 : Sta Z h0 "com/example/transaction_scopes/transactionscopes/Propagation" "REQUIRED" "Lcom/example/transaction_scopes/transactionscopes/Propagation;" (.ref w7)) (H3 : Sta Z h0 "com/example/transaction_scopes/transactionscopes/Propagation$Conduct" "BEGIN" "Lcom/example/transaction_scopes/transactionscopes/Propagation$Conduct;" (.ref w13)) (H4 : Fld Z h0 w7 "com/example/transaction_scopes/transactionscopes/Propagation" "withoutTransaction" "Lcom/example/transaction_scopes/transactionscopes/Propagation$Conduct;" (.ref w19)) (H5 : Exa Z h0 w7 "com/example/transaction_scopes/transactionscopes/Propagation") (H6 : w19 = w13) :
    OMet l Z x code maxLocals ret tables_1 room_1 h0 #[(.int p1), (.int p2)] (OQl (some (.int (1 : Int32))) n0) := by
  refine MetFree.of_bodySF (plainFor_of_name pn_com_example_transaction_scopes_transactionscopes_PropagationConductPinLaw) hisR ?_
  intro p e s m args below meth c s₁ Bd hml0 hP hK
  obtain ⟨rfl, hZ, hh⟩ := hP
  have hx := Bd.exec
  have hby := Bd.bytes
  have hml : c.maxLocals = 6 := hml0
  have hown : s.vm.findClass "com/example/transaction_scopes/transactionscopes/PropagationConductPinLaw" = some m.cls := findClass_of_methodNamed Bd.named
  have hnm := (name_of_methodNamed Bd.named Bd.method).1
  have X0 : Stand p l e room_1 s m #[(.int p1), (.int p2)] below meth c s₁ [] 0 0 := Stand.of_body Bd
  have e0 : s₁.heap = h0 := by rw [← hh, Bd.state]; rfl
  have N0 := Fr.nil n0
  have pre0 : ∀ t, Steps p.tables e below (s₁.setTop (mkF m 0 #[.val (.int p1), .val (.int p2), .unset, .unset, .unset, .unset] [])) t → Steps p.tables e below (s₁.setTop (entryFrame m #[(.int p1), (.int p2)] maxLocals)) t := fun t k => castTop (ef_0_vv m p1 p2) k
  obtain ⟨_, _, ⟨T6, L6, k6, n6⟩, -, X6, ⟨Lc6, hQ6, l6, y6, z6⟩, st6⟩ := Jvm.LawKit.callS X0 hx (y := (⟨"com/example/transaction_scopes/transactionscopes/PropagationConductPinLaw", "pick", "(I)Lcom/example/transaction_scopes/transactionscopes/Propagation;"⟩ : MethodName)) hown (mvT hZ (hw _ (List.mem_of_getElem? (i := 1) rfl))) (mvT hZ (hw _ (List.mem_of_getElem? (i := 2) rfl))) (mvT hZ (hw _ (List.mem_of_getElem? (i := 3) rfl))) (mvT hZ (hw _ (List.mem_of_getElem? (i := 4) rfl))) (by decide) (backOf (W := 0) (r1_1 l Z a0 hw ((p1 &&& (2147483647 : Int32)) % (7 : Int32)) w7 h0 n0 Z0 H1 H2) hZ (hw _ (List.mem_of_getElem? (i := 4) rfl)) (hw _ (List.mem_of_getElem? (i := 3) rfl)) (by decide) (by decide)) (g := (mkF m 21 #[.val (.int p1), .val (.int p2), .val (.int ((p1 &&& (2147483647 : Int32)) % (7 : Int32))), .val (.int (0 : Int32)), .unset, .unset] [(.int ((p1 &&& (2147483647 : Int32)) % (7 : Int32)))])) rfl (by rw [hml]; rfl) (argsL := [(.int ((p1 &&& (2147483647 : Int32)) % (7 : Int32)))]) (rest := []) (lenOf pd_0 rfl) rfl (by show 2 * 0 + _ ≤ _; exact Nat.le_of_eq rfl) (hb hby at_21) (fun _ _ => ⟨rfl, e0, (by decide : 0 + 0 ≤ _), (by decide : 0 + 0 ≤ _)⟩)
  dsimp only [Pt.U, Pt.locs, Pt.cells, Pt.slots] at X6 l6 y6 z6 st6 hQ6
  subst l6 y6 z6
  obtain ⟨rfl, N6q, e6⟩ := hQ6
  have N6 := Fr.app N0 N6q
  obtain ⟨_, _, ⟨T12, L12, k12, n12⟩, -, X12, ⟨Lc12, hQ12, l12, y12, z12⟩, st12⟩ := Jvm.LawKit.callS X6 hx (y := (⟨"com/example/transaction_scopes/transactionscopes/PropagationConductPinLaw", "expected", "(IZ)Lcom/example/transaction_scopes/transactionscopes/Propagation$Conduct;"⟩ : MethodName)) hown (mvT hZ (hw _ (List.mem_of_getElem? (i := 8) rfl))) (mvT hZ (hw _ (List.mem_of_getElem? (i := 9) rfl))) (mvT hZ (hw _ (List.mem_of_getElem? (i := 3) rfl))) (mvT hZ (hw _ (List.mem_of_getElem? (i := 10) rfl))) (by decide) (backOf (W := 0) (r2_1 l Z a0 hw ((p1 &&& (2147483647 : Int32)) % (7 : Int32)) (0 : Int32) w13 h0 n0 Z0 rfl H1 H3) hZ (hw _ (List.mem_of_getElem? (i := 10) rfl)) (hw _ (List.mem_of_getElem? (i := 3) rfl)) (by decide) (by decide)) (g := (mkF m 28 #[.val (.int p1), .val (.int p2), .val (.int ((p1 &&& (2147483647 : Int32)) % (7 : Int32))), .val (.int (0 : Int32)), .val (.ref w7), .unset] [(.int (0 : Int32)), (.int ((p1 &&& (2147483647 : Int32)) % (7 : Int32)))])) rfl (by rw [hml]; rfl) (argsL := [(.int ((p1 &&& (2147483647 : Int32)) % (7 : Int32))), (.int (0 : Int32))]) (rest := []) (lenOf pd_1 rfl) rfl (by show 2 * 0 + _ ≤ _; exact Nat.le_of_eq rfl) (hb hby at_28) (fun _ _ => ⟨rfl, e6, (by decide : 0 + 0 ≤ _), (by decide : 0 + 0 ≤ _)⟩)
  dsimp only [Pt.U, Pt.locs, Pt.cells, Pt.slots] at X12 l12 y12 z12 st12 hQ12
  subst l12 y12 z12
  obtain ⟨rfl, N12q, e12⟩ := hQ12
  have N12 := Fr.app N6 N12q
  obtain ⟨cq18, kq18, q18a, q18b, q18c⟩ := isOf hZ e12 H5
  obtain ⟨_, _, ⟨T18, L18, k18, n18⟩, -, X18, ⟨Lc18, hQ18, l18, y18, z18⟩, st18⟩ := X12.virtualBack hx (y := (⟨"com/example/transaction_scopes/transactionscopes/Propagation", "conduct", "(Z)Lcom/example/transaction_scopes/transactionscopes/Propagation$Conduct;"⟩ : MethodName)) (z := (⟨"com/example/transaction_scopes/transactionscopes/Propagation", "conduct", "(Z)Lcom/example/transaction_scopes/transactionscopes/Propagation$Conduct;"⟩ : MethodName)) hown (mvT hZ (hw _ (List.mem_of_getElem? (i := 14) rfl))) (mvT hZ (hw _ (List.mem_of_getElem? (i := 15) rfl))) (notFace_of_selects (args := #[]) (mvT hZ (hw _ (List.mem_of_getElem? (i := 17) rfl)))) (mvT hZ (hw _ (List.mem_of_getElem? (i := 17) rfl))) (mvT hZ (hw _ (List.mem_of_getElem? (i := 16) rfl))) (by decide) (backOf (W := 0) (r3_1 l Z a0 hw w7 (0 : Int32) w19 h0 n0 Z0 rfl H4) hZ (hw _ (List.mem_of_getElem? (i := 18) rfl)) (hw _ (List.mem_of_getElem? (i := 6) rfl)) (by decide) (by decide)) q18a q18c (g := (mkF m 36 #[.val (.int p1), .val (.int p2), .val (.int ((p1 &&& (2147483647 : Int32)) % (7 : Int32))), .val (.int (0 : Int32)), .val (.ref w7), .val (.ref w13)] [(.int (0 : Int32)), (.ref w7)])) rfl (by rw [hml]; rfl) (Steps.refl _) (argsL := [(.int (0 : Int32))]) (rest := []) (lenOf pd_2 rfl) rfl (by show 2 * 0 + _ ≤ _; exact Nat.le_of_eq rfl) (hb hby at_36) (fun _ _ => ⟨rfl, e12, (by decide : 0 + 0 ≤ _), (by decide : 0 + 0 ≤ _)⟩)
  dsimp only [Pt.U, Pt.locs, Pt.cells, Pt.slots] at X18 l18 y18 z18 st18 hQ18
  subst l18 y18 z18
  obtain ⟨rfl, N18q, e18⟩ := hQ18
  have N18 := Fr.app N12 N18q
  obtain ⟨fs, hr, hrun, hended, hW, hsame⟩ := X18.leave (v := some (.int (1 : Int32))) (fun h => by rw [Bd.returns] at h; cases h)
  refine ⟨_, _, pre0 _ ?_, hrun, hended, _, _, rfl, ?_, ⟨_, rfl⟩, hW, hsame.mono (by decide) (by decide)⟩
  · show Steps p.tables e below (s₁.setTop (mkF m 0 #[.val (.int p1), .val (.int p2), .unset, .unset, .unset, .unset] [])) _
    refine XS.iloadN X0.here hx rfl (hb hby at_0) rfl ?_
    show Steps p.tables e below (s₁.setTop (mkF m 1 #[.val (.int p1), .val (.int p2), .unset, .unset, .unset, .unset] [(.int p1)])) _
    refine X0.ldcInt hx hown (mvT hZ (hw _ (List.mem_of_getElem? (i := 0) rfl))) (g := (mkF m 1 #[.val (.int p1), .val (.int p2), .unset, .unset, .unset, .unset] [(.int p1)])) rfl (hb hby at_1) _ ?_
    show Steps p.tables e below (s₁.setTop (mkF m 3 #[.val (.int p1), .val (.int p2), .unset, .unset, .unset, .unset] [(.int (2147483647 : Int32)), (.int p1)])) _
    refine XS.iand X0.here hx rfl (hb hby at_3) rfl ?_
    show Steps p.tables e below (s₁.setTop (mkF m 4 #[.val (.int p1), .val (.int p2), .unset, .unset, .unset, .unset] [(.int (p1 &&& (2147483647 : Int32)))])) _
    refine XS.bipush X0.here hx rfl (hb hby at_4) ?_
    show Steps p.tables e below (s₁.setTop (mkF m 6 #[.val (.int p1), .val (.int p2), .unset, .unset, .unset, .unset] [(.int (7 : Int32)), (.int (p1 &&& (2147483647 : Int32)))])) _
    refine iremM X0 hx rfl (hb hby at_6) rfl (by decide) ?_
    show Steps p.tables e below (s₁.setTop (mkF m 7 #[.val (.int p1), .val (.int p2), .unset, .unset, .unset, .unset] [(.int ((p1 &&& (2147483647 : Int32)) % (7 : Int32)))])) _
    refine XS.istoreN X0.here hx rfl (hb hby at_7) rfl (l' := #[.val (.int p1), .val (.int p2), .val (.int ((p1 &&& (2147483647 : Int32)) % (7 : Int32))), .unset, .unset, .unset]) rfl ?_
    show Steps p.tables e below (s₁.setTop (mkF m 8 #[.val (.int p1), .val (.int p2), .val (.int ((p1 &&& (2147483647 : Int32)) % (7 : Int32))), .unset, .unset, .unset] [])) _
    refine XS.iloadN X0.here hx rfl (hb hby at_8) rfl ?_
    show Steps p.tables e below (s₁.setTop (mkF m 9 #[.val (.int p1), .val (.int p2), .val (.int ((p1 &&& (2147483647 : Int32)) % (7 : Int32))), .unset, .unset, .unset] [(.int p2)])) _
    refine XS.iconst X0.here hx rfl (hb hby at_9) ?_
    show Steps p.tables e below (s₁.setTop (mkF m 10 #[.val (.int p1), .val (.int p2), .val (.int ((p1 &&& (2147483647 : Int32)) % (7 : Int32))), .unset, .unset, .unset] [(.int (1 : Int32)), (.int p2)])) _
    refine XS.iand X0.here hx rfl (hb hby at_10) rfl ?_
    show Steps p.tables e below (s₁.setTop (mkF m 11 #[.val (.int p1), .val (.int p2), .val (.int ((p1 &&& (2147483647 : Int32)) % (7 : Int32))), .unset, .unset, .unset] [(.int (p2 &&& (1 : Int32)))])) _
    refine XS.ifYes X0.here hx rfl (pc0 := 11) (pc' := 18) rfl (hb hby at_11) rfl ((if0 _ _).trans (teq H0).1) (by decide) (by decide) ?_
    show Steps p.tables e below (s₁.setTop (mkF m 18 #[.val (.int p1), .val (.int p2), .val (.int ((p1 &&& (2147483647 : Int32)) % (7 : Int32))), .unset, .unset, .unset] [])) _
    refine XS.iconst X0.here hx rfl (hb hby at_18) ?_
    show Steps p.tables e below (s₁.setTop (mkF m 19 #[.val (.int p1), .val (.int p2), .val (.int ((p1 &&& (2147483647 : Int32)) % (7 : Int32))), .unset, .unset, .unset] [(.int (0 : Int32))])) _
    refine XS.istoreN X0.here hx rfl (hb hby at_19) rfl (l' := #[.val (.int p1), .val (.int p2), .val (.int ((p1 &&& (2147483647 : Int32)) % (7 : Int32))), .val (.int (0 : Int32)), .unset, .unset]) rfl ?_
    show Steps p.tables e below (s₁.setTop (mkF m 20 #[.val (.int p1), .val (.int p2), .val (.int ((p1 &&& (2147483647 : Int32)) % (7 : Int32))), .val (.int (0 : Int32)), .unset, .unset] [])) _
    refine XS.iloadN X0.here hx rfl (hb hby at_20) rfl ?_
    show Steps p.tables e below (s₁.setTop (mkF m 21 #[.val (.int p1), .val (.int p2), .val (.int ((p1 &&& (2147483647 : Int32)) % (7 : Int32))), .val (.int (0 : Int32)), .unset, .unset] [(.int ((p1 &&& (2147483647 : Int32)) % (7 : Int32)))])) _
    refine st6 _ ?_
    show Steps p.tables e below (T6.setTop (mkF m 24 #[.val (.int p1), .val (.int p2), .val (.int ((p1 &&& (2147483647 : Int32)) % (7 : Int32))), .val (.int (0 : Int32)), .unset, .unset] [(.ref w7)])) _
    refine XS.astore X6.here hx rfl (hb hby at_24) rfl rfl (l' := #[.val (.int p1), .val (.int p2), .val (.int ((p1 &&& (2147483647 : Int32)) % (7 : Int32))), .val (.int (0 : Int32)), .val (.ref w7), .unset]) rfl ?_
    show Steps p.tables e below (T6.setTop (mkF m 26 #[.val (.int p1), .val (.int p2), .val (.int ((p1 &&& (2147483647 : Int32)) % (7 : Int32))), .val (.int (0 : Int32)), .val (.ref w7), .unset] [])) _
    refine XS.iloadN X6.here hx rfl (hb hby at_26) rfl ?_
    show Steps p.tables e below (T6.setTop (mkF m 27 #[.val (.int p1), .val (.int p2), .val (.int ((p1 &&& (2147483647 : Int32)) % (7 : Int32))), .val (.int (0 : Int32)), .val (.ref w7), .unset] [(.int ((p1 &&& (2147483647 : Int32)) % (7 : Int32)))])) _
    refine XS.iloadN X6.here hx rfl (hb hby at_27) rfl ?_
    show Steps p.tables e below (T6.setTop (mkF m 28 #[.val (.int p1), .val (.int p2), .val (.int ((p1 &&& (2147483647 : Int32)) % (7 : Int32))), .val (.int (0 : Int32)), .val (.ref w7), .unset] [(.int (0 : Int32)), (.int ((p1 &&& (2147483647 : Int32)) % (7 : Int32)))])) _
    refine st12 _ ?_
    show Steps p.tables e below (T12.setTop (mkF m 31 #[.val (.int p1), .val (.int p2), .val (.int ((p1 &&& (2147483647 : Int32)) % (7 : Int32))), .val (.int (0 : Int32)), .val (.ref w7), .unset] [(.ref w13)])) _
    refine XS.astore X12.here hx rfl (hb hby at_31) rfl rfl (l' := #[.val (.int p1), .val (.int p2), .val (.int ((p1 &&& (2147483647 : Int32)) % (7 : Int32))), .val (.int (0 : Int32)), .val (.ref w7), .val (.ref w13)]) rfl ?_
    show Steps p.tables e below (T12.setTop (mkF m 33 #[.val (.int p1), .val (.int p2), .val (.int ((p1 &&& (2147483647 : Int32)) % (7 : Int32))), .val (.int (0 : Int32)), .val (.ref w7), .val (.ref w13)] [])) _
    refine XS.aload X12.here hx rfl (hb hby at_33) rfl rfl ?_
    show Steps p.tables e below (T12.setTop (mkF m 35 #[.val (.int p1), .val (.int p2), .val (.int ((p1 &&& (2147483647 : Int32)) % (7 : Int32))), .val (.int (0 : Int32)), .val (.ref w7), .val (.ref w13)] [(.ref w7)])) _
    refine XS.iloadN X12.here hx rfl (hb hby at_35) rfl ?_
    show Steps p.tables e below (T12.setTop (mkF m 36 #[.val (.int p1), .val (.int p2), .val (.int ((p1 &&& (2147483647 : Int32)) % (7 : Int32))), .val (.int (0 : Int32)), .val (.ref w7), .val (.ref w13)] [(.int (0 : Int32)), (.ref w7)])) _
    refine st18.trans ?_
    show Steps p.tables e below (T18.setTop (mkF m 39 #[.val (.int p1), .val (.int p2), .val (.int ((p1 &&& (2147483647 : Int32)) % (7 : Int32))), .val (.int (0 : Int32)), .val (.ref w7), .val (.ref w13)] [(.ref w19)])) _
    refine XS.aload X18.here hx rfl (hb hby at_39) rfl rfl ?_
    show Steps p.tables e below (T18.setTop (mkF m 41 #[.val (.int p1), .val (.int p2), .val (.int ((p1 &&& (2147483647 : Int32)) % (7 : Int32))), .val (.int (0 : Int32)), .val (.ref w7), .val (.ref w13)] [(.ref w13), (.ref w19)])) _
    refine Jvm.RoadKit.acmp (g := (mkF m 41 #[.val (.int p1), .val (.int p2), .val (.int ((p1 &&& (2147483647 : Int32)) % (7 : Int32))), .val (.int (0 : Int32)), .val (.ref w7), .val (.ref w13)] [(.ref w13), (.ref w19)])) X18 hx rfl rfl rfl (pc0 := 41) (pc' := 44) (same := true) rfl (hb hby at_41) rfl (decide_eq_true (congrArg Value.ref H6)) (by decide) (by decide) ?_
    show Steps p.tables e below (T18.setTop (mkF m 44 #[.val (.int p1), .val (.int p2), .val (.int ((p1 &&& (2147483647 : Int32)) % (7 : Int32))), .val (.int (0 : Int32)), .val (.ref w7), .val (.ref w13)] [])) _
    refine XS.iconst X18.here hx rfl (hb hby at_44) ?_
    show Steps p.tables e below (T18.setTop (mkF m 45 #[.val (.int p1), .val (.int p2), .val (.int ((p1 &&& (2147483647 : Int32)) % (7 : Int32))), .val (.int (0 : Int32)), .val (.ref w7), .val (.ref w13)] [(.int (1 : Int32))])) _
    refine XS.goto X18.here hx rfl (pc0 := 45) (pc' := 49) rfl (hb hby at_45) (by decide) (by decide) ?_
    show Steps p.tables e below (T18.setTop (mkF m 49 #[.val (.int p1), .val (.int p2), .val (.int ((p1 &&& (2147483647 : Int32)) % (7 : Int32))), .val (.int (0 : Int32)), .val (.ref w7), .val (.ref w13)] [(.int (1 : Int32))])) _
    exact retN X18 hx (t := .boolean) Bd.returns (by simp) (hb hby at_49) hr
  · show OQl (some (.int (1 : Int32))) n0 _ T18.heap _
    exact ⟨rfl, N18⟩
theorem d2_4 : decode method_3_code 4 = .ok (.iload_n 0, 1) := by decide +kernel
theorem d2_5 : decode method_3_code 5 = .ok (.ifCond .eq 13, 3) := by decide +kernel
theorem d2_18 : decode method_3_code 18 = .ok (.getstatic 31, 3) := by decide +kernel
theorem d2_21 : decode method_3_code 21 = .ok (.areturn, 1) := by decide +kernel
set_option maxRecDepth 65536 in
set_option maxHeartbeats 40000000 in
theorem r2_2 (l : Launch) (Z : State) (a0 : Array Value) (hw : ∀ d ∈ tables_1, d.before a0 Z = true) (p27 : Int32) (p28 : Int32) (w29 : Addr) (h0 : Heap) (n0 : Nat) (Z0 : n0 ≤ h0.size) (H0 : ¬ (p28 = (0 : Int32))) (H1 : p27 = (0 : Int32)) (H2 : Sta Z h0 "com/example/transaction_scopes/transactionscopes/Propagation$Conduct" "JOIN" "Lcom/example/transaction_scopes/transactionscopes/Propagation$Conduct;" (.ref w29)) :
    OMet l Z (⟨"com/example/transaction_scopes/transactionscopes/PropagationConductPinLaw", "expected", "(IZ)Lcom/example/transaction_scopes/transactionscopes/Propagation$Conduct;"⟩ : MethodName) method_3_code 2 (some (.object "com/example/transaction_scopes/transactionscopes/Propagation$Conduct")) [] ({ frames := 0, cells := 0, slots := 0, locals := 0 } : Room) h0 #[(.int p27), (.int p28)] (OQp (some (.ref w29)) h0 n0) := by
  refine MetFree.of_bodySF (plainFor_of_name pn_com_example_transaction_scopes_transactionscopes_PropagationConductPinLaw) hisR ?_
  intro p e s m args below meth c s₁ Bd hml0 hP hK
  obtain ⟨rfl, hZ, hh⟩ := hP
  have hx := Bd.exec
  have hby := Bd.bytes
  have hml : c.maxLocals = 2 := hml0
  have hown : s.vm.findClass "com/example/transaction_scopes/transactionscopes/PropagationConductPinLaw" = some m.cls := findClass_of_methodNamed Bd.named
  have hnm := (name_of_methodNamed Bd.named Bd.method).1
  have X0 : Stand p l e ({ frames := 0, cells := 0, slots := 0, locals := 0 } : Room) s m #[(.int p27), (.int p28)] below meth c s₁ [] 0 0 := Stand.of_body Bd
  have e0 : s₁.heap = h0 := by rw [← hh, Bd.state]; rfl
  have N0 := Fr.nil n0
  have pre0 : ∀ t, Steps p.tables e below (s₁.setTop (mkF m 0 #[.val (.int p27), .val (.int p28)] [])) t → Steps p.tables e below (s₁.setTop (entryFrame m #[(.int p27), (.int p28)] 2)) t := fun t k => castTop (ef_2_vv m p27 p28) k
  obtain ⟨T30, X30, e30, st30⟩ := getS2 X0 hx hZ hown (host := "") (Or.inl (hw _ (List.mem_of_getElem? (i := 11) rfl))) Via.refl e0 H2 (g := (mkF m 18 #[.val (.int p27), .val (.int p28)] [])) rfl (hb hby d2_18)
  obtain ⟨fs, hr, hrun, hended, hW, hsame⟩ := X30.leave (v := some (.ref w29)) (fun h => by rw [Bd.returns] at h; cases h)
  refine ⟨_, _, pre0 _ ?_, hrun, hended, _, _, rfl, ?_, ⟨_, rfl⟩, hW, hsame.mono (by decide) (by decide)⟩
  · show Steps p.tables e below (s₁.setTop (mkF m 0 #[.val (.int p27), .val (.int p28)] [])) _
    refine XS.iloadN X0.here hx rfl (hb hby d2_0) rfl ?_
    show Steps p.tables e below (s₁.setTop (mkF m 1 #[.val (.int p27), .val (.int p28)] [(.int p28)])) _
    refine XS.ifNo X0.here hx rfl (hb hby d2_1) rfl ((if0 _ _).trans (feq H0).1) ?_
    show Steps p.tables e below (s₁.setTop (mkF m 4 #[.val (.int p27), .val (.int p28)] [])) _
    refine XS.iloadN X0.here hx rfl (hb hby d2_4) rfl ?_
    show Steps p.tables e below (s₁.setTop (mkF m 5 #[.val (.int p27), .val (.int p28)] [(.int p27)])) _
    refine XS.ifYes X0.here hx rfl (pc0 := 5) (pc' := 18) rfl (hb hby d2_5) rfl ((if0 _ _).trans (teq H1).1) (by decide) (by decide) ?_
    show Steps p.tables e below (s₁.setTop (mkF m 18 #[.val (.int p27), .val (.int p28)] [])) _
    refine st30 _ ?_
    show Steps p.tables e below (T30.setTop (mkF m 21 #[.val (.int p27), .val (.int p28)] [(.ref w29)])) _
    jvm_step X30.here [X30.here.top, hx, (hb hby d2_21), X30.method', Bd.returns, Value.isRef, FieldType.isReference]
    first | (intro acts; rw [hr _ acts rfl rfl rfl]) | rw [hr _ _ rfl rfl rfl]
    exact Steps.refl _
  · show OQp (some (.ref w29)) h0 n0 _ T30.heap _
    rw [e30]
    exact ⟨rfl, N0, rfl⟩
theorem d3_4 : decode prog_6_method_4_code 4 = .ok (.aload_n 0, 1) := by decide +kernel
theorem d3_5 : decode prog_6_method_4_code 5 = .ok (.getfield 44, 3) := by decide +kernel
theorem d3_8 : decode prog_6_method_4_code 8 = .ok (.goto 7, 3) := by decide +kernel
set_option maxRecDepth 65536 in
set_option maxHeartbeats 40000000 in
theorem r3_2 (l : Launch) (Z : State) (a0 : Array Value) (hw : ∀ d ∈ tables_1, d.before a0 Z = true) (a33 : Addr) (p34 : Int32) (w35 : Addr) (h0 : Heap) (n0 : Nat) (Z0 : n0 ≤ h0.size) (H0 : ¬ (p34 = (0 : Int32))) (H1 : Fld Z h0 a33 "com/example/transaction_scopes/transactionscopes/Propagation" "withTransaction" "Lcom/example/transaction_scopes/transactionscopes/Propagation$Conduct;" (.ref w35)) :
    OMet l Z (⟨"com/example/transaction_scopes/transactionscopes/Propagation", "conduct", "(Z)Lcom/example/transaction_scopes/transactionscopes/Propagation$Conduct;"⟩ : MethodName) prog_6_method_4_code 2 (some (.object "com/example/transaction_scopes/transactionscopes/Propagation$Conduct")) [] ({ frames := 0, cells := 0, slots := 0, locals := 0 } : Room) h0 #[(.ref a33), (.int p34)] (OQp (some (.ref w35)) h0 n0) := by
  refine MetFree.of_bodySF (plainFor_of_name pn_com_example_transaction_scopes_transactionscopes_Propagation) hisR ?_
  intro p e s m args below meth c s₁ Bd hml0 hP hK
  obtain ⟨rfl, hZ, hh⟩ := hP
  have hx := Bd.exec
  have hby := Bd.bytes
  have hml : c.maxLocals = 2 := hml0
  have hown : s.vm.findClass "com/example/transaction_scopes/transactionscopes/Propagation" = some m.cls := findClass_of_methodNamed Bd.named
  have hnm := (name_of_methodNamed Bd.named Bd.method).1
  have X0 : Stand p l e ({ frames := 0, cells := 0, slots := 0, locals := 0 } : Room) s m #[(.ref a33), (.int p34)] below meth c s₁ [] 0 0 := Stand.of_body Bd
  have e0 : s₁.heap = h0 := by rw [← hh, Bd.state]; rfl
  have N0 := Fr.nil n0
  have pre0 : ∀ t, Steps p.tables e below (s₁.setTop (mkF m 0 #[.val (.ref a33), .val (.int p34)] [])) t → Steps p.tables e below (s₁.setTop (entryFrame m #[(.ref a33), (.int p34)] 2)) t := fun t k => castTop (ef_3_vv m a33 p34) k
  obtain ⟨T36, X36, e36, st36⟩ := getF X0 hx hZ hown (host := "") (Or.inl (hw _ (List.mem_of_getElem? (i := 19) rfl))) Via.refl e0 H1 (g := (mkF m 5 #[.val (.ref a33), .val (.int p34)] [(.ref a33)])) rfl rfl (hb hby d3_5)
  obtain ⟨fs, hr, hrun, hended, hW, hsame⟩ := X36.leave (v := some (.ref w35)) (fun h => by rw [Bd.returns] at h; cases h)
  refine ⟨_, _, pre0 _ ?_, hrun, hended, _, _, rfl, ?_, ⟨_, rfl⟩, hW, hsame.mono (by decide) (by decide)⟩
  · show Steps p.tables e below (s₁.setTop (mkF m 0 #[.val (.ref a33), .val (.int p34)] [])) _
    refine XS.iloadN X0.here hx rfl (hb hby d3_0) rfl ?_
    show Steps p.tables e below (s₁.setTop (mkF m 1 #[.val (.ref a33), .val (.int p34)] [(.int p34)])) _
    refine XS.ifNo X0.here hx rfl (hb hby d3_1) rfl ((if0 _ _).trans (feq H0).1) ?_
    show Steps p.tables e below (s₁.setTop (mkF m 4 #[.val (.ref a33), .val (.int p34)] [])) _
    refine XS.aloadN X0.here hx rfl (hb hby d3_4) rfl rfl ?_
    show Steps p.tables e below (s₁.setTop (mkF m 5 #[.val (.ref a33), .val (.int p34)] [(.ref a33)])) _
    refine st36 _ ?_
    show Steps p.tables e below (T36.setTop (mkF m 8 #[.val (.ref a33), .val (.int p34)] [(.ref w35)])) _
    refine XS.goto X36.here hx rfl (pc0 := 8) (pc' := 15) rfl (hb hby d3_8) (by decide) (by decide) ?_
    show Steps p.tables e below (T36.setTop (mkF m 15 #[.val (.ref a33), .val (.int p34)] [(.ref w35)])) _
    jvm_step X36.here [X36.here.top, hx, (hb hby d3_15), X36.method', Bd.returns, Value.isRef, FieldType.isReference]
    first | (intro acts; rw [hr _ acts rfl rfl rfl]) | rw [hr _ _ rfl rfl rfl]
    exact Steps.refl _
  · show OQp (some (.ref w35)) h0 n0 _ T36.heap _
    rw [e36]
    exact ⟨rfl, N0, rfl⟩
set_option maxRecDepth 65536 in
set_option maxHeartbeats 40000000 in
theorem r0_2 (l : Launch) (Z : State) (a0 : Array Value) (hw : ∀ d ∈ tables_1, d.before a0 Z = true) (p20 : Int32) (p21 : Int32) (w26 : Addr) (w32 : Addr) (w38 : Addr) (h0 : Heap) (n0 : Nat) (Z0 : n0 ≤ h0.size) (H0 : ¬ ((p21 &&& (1 : Int32)) = (0 : Int32))) (H1 : ((p20 &&& (2147483647 : Int32)) % (7 : Int32)) = (0 : Int32)) (H2 : Sta Z h0 "com/example/transaction_scopes/transactionscopes/Propagation" "REQUIRED" "Lcom/example/transaction_scopes/transactionscopes/Propagation;" (.ref w26)) (H3 : Sta Z h0 "com/example/transaction_scopes/transactionscopes/Propagation$Conduct" "JOIN" "Lcom/example/transaction_scopes/transactionscopes/Propagation$Conduct;" (.ref w32)) (H4 : Fld Z h0 w26 "com/example/transaction_scopes/transactionscopes/Propagation" "withTransaction" "Lcom/example/transaction_scopes/transactionscopes/Propagation$Conduct;" (.ref w38)) (H5 : Exa Z h0 w26 "com/example/transaction_scopes/transactionscopes/Propagation") (H6 : w38 = w32) :
    OMet l Z x code maxLocals ret tables_1 room_1 h0 #[(.int p20), (.int p21)] (OQl (some (.int (1 : Int32))) n0) := by
  refine MetFree.of_bodySF (plainFor_of_name pn_com_example_transaction_scopes_transactionscopes_PropagationConductPinLaw) hisR ?_
  intro p e s m args below meth c s₁ Bd hml0 hP hK
  obtain ⟨rfl, hZ, hh⟩ := hP
  have hx := Bd.exec
  have hby := Bd.bytes
  have hml : c.maxLocals = 6 := hml0
  have hown : s.vm.findClass "com/example/transaction_scopes/transactionscopes/PropagationConductPinLaw" = some m.cls := findClass_of_methodNamed Bd.named
  have hnm := (name_of_methodNamed Bd.named Bd.method).1
  have X0 : Stand p l e room_1 s m #[(.int p20), (.int p21)] below meth c s₁ [] 0 0 := Stand.of_body Bd
  have e0 : s₁.heap = h0 := by rw [← hh, Bd.state]; rfl
  have N0 := Fr.nil n0
  have pre0 : ∀ t, Steps p.tables e below (s₁.setTop (mkF m 0 #[.val (.int p20), .val (.int p21), .unset, .unset, .unset, .unset] [])) t → Steps p.tables e below (s₁.setTop (entryFrame m #[(.int p20), (.int p21)] maxLocals)) t := fun t k => castTop (ef_0_vv m p20 p21) k
  obtain ⟨_, _, ⟨T25, L25, k25, n25⟩, -, X25, ⟨Lc25, hQ25, l25, y25, z25⟩, st25⟩ := Jvm.LawKit.callS X0 hx (y := (⟨"com/example/transaction_scopes/transactionscopes/PropagationConductPinLaw", "pick", "(I)Lcom/example/transaction_scopes/transactionscopes/Propagation;"⟩ : MethodName)) hown (mvT hZ (hw _ (List.mem_of_getElem? (i := 1) rfl))) (mvT hZ (hw _ (List.mem_of_getElem? (i := 2) rfl))) (mvT hZ (hw _ (List.mem_of_getElem? (i := 3) rfl))) (mvT hZ (hw _ (List.mem_of_getElem? (i := 4) rfl))) (by decide) (backOf (W := 0) (r1_1 l Z a0 hw ((p20 &&& (2147483647 : Int32)) % (7 : Int32)) w26 h0 n0 Z0 H1 H2) hZ (hw _ (List.mem_of_getElem? (i := 4) rfl)) (hw _ (List.mem_of_getElem? (i := 3) rfl)) (by decide) (by decide)) (g := (mkF m 21 #[.val (.int p20), .val (.int p21), .val (.int ((p20 &&& (2147483647 : Int32)) % (7 : Int32))), .val (.int (1 : Int32)), .unset, .unset] [(.int ((p20 &&& (2147483647 : Int32)) % (7 : Int32)))])) rfl (by rw [hml]; rfl) (argsL := [(.int ((p20 &&& (2147483647 : Int32)) % (7 : Int32)))]) (rest := []) (lenOf pd_0 rfl) rfl (by show 2 * 0 + _ ≤ _; exact Nat.le_of_eq rfl) (hb hby at_21) (fun _ _ => ⟨rfl, e0, (by decide : 0 + 0 ≤ _), (by decide : 0 + 0 ≤ _)⟩)
  dsimp only [Pt.U, Pt.locs, Pt.cells, Pt.slots] at X25 l25 y25 z25 st25 hQ25
  subst l25 y25 z25
  obtain ⟨rfl, N25q, e25⟩ := hQ25
  have N25 := Fr.app N0 N25q
  obtain ⟨_, _, ⟨T31, L31, k31, n31⟩, -, X31, ⟨Lc31, hQ31, l31, y31, z31⟩, st31⟩ := Jvm.LawKit.callS X25 hx (y := (⟨"com/example/transaction_scopes/transactionscopes/PropagationConductPinLaw", "expected", "(IZ)Lcom/example/transaction_scopes/transactionscopes/Propagation$Conduct;"⟩ : MethodName)) hown (mvT hZ (hw _ (List.mem_of_getElem? (i := 8) rfl))) (mvT hZ (hw _ (List.mem_of_getElem? (i := 9) rfl))) (mvT hZ (hw _ (List.mem_of_getElem? (i := 3) rfl))) (mvT hZ (hw _ (List.mem_of_getElem? (i := 10) rfl))) (by decide) (backOf (W := 0) (r2_2 l Z a0 hw ((p20 &&& (2147483647 : Int32)) % (7 : Int32)) (1 : Int32) w32 h0 n0 Z0 (by decide) H1 H3) hZ (hw _ (List.mem_of_getElem? (i := 10) rfl)) (hw _ (List.mem_of_getElem? (i := 3) rfl)) (by decide) (by decide)) (g := (mkF m 28 #[.val (.int p20), .val (.int p21), .val (.int ((p20 &&& (2147483647 : Int32)) % (7 : Int32))), .val (.int (1 : Int32)), .val (.ref w26), .unset] [(.int (1 : Int32)), (.int ((p20 &&& (2147483647 : Int32)) % (7 : Int32)))])) rfl (by rw [hml]; rfl) (argsL := [(.int ((p20 &&& (2147483647 : Int32)) % (7 : Int32))), (.int (1 : Int32))]) (rest := []) (lenOf pd_1 rfl) rfl (by show 2 * 0 + _ ≤ _; exact Nat.le_of_eq rfl) (hb hby at_28) (fun _ _ => ⟨rfl, e25, (by decide : 0 + 0 ≤ _), (by decide : 0 + 0 ≤ _)⟩)
  dsimp only [Pt.U, Pt.locs, Pt.cells, Pt.slots] at X31 l31 y31 z31 st31 hQ31
  subst l31 y31 z31
  obtain ⟨rfl, N31q, e31⟩ := hQ31
  have N31 := Fr.app N25 N31q
  obtain ⟨cq37, kq37, q37a, q37b, q37c⟩ := isOf hZ e31 H5
  obtain ⟨_, _, ⟨T37, L37, k37, n37⟩, -, X37, ⟨Lc37, hQ37, l37, y37, z37⟩, st37⟩ := X31.virtualBack hx (y := (⟨"com/example/transaction_scopes/transactionscopes/Propagation", "conduct", "(Z)Lcom/example/transaction_scopes/transactionscopes/Propagation$Conduct;"⟩ : MethodName)) (z := (⟨"com/example/transaction_scopes/transactionscopes/Propagation", "conduct", "(Z)Lcom/example/transaction_scopes/transactionscopes/Propagation$Conduct;"⟩ : MethodName)) hown (mvT hZ (hw _ (List.mem_of_getElem? (i := 14) rfl))) (mvT hZ (hw _ (List.mem_of_getElem? (i := 15) rfl))) (notFace_of_selects (args := #[]) (mvT hZ (hw _ (List.mem_of_getElem? (i := 17) rfl)))) (mvT hZ (hw _ (List.mem_of_getElem? (i := 17) rfl))) (mvT hZ (hw _ (List.mem_of_getElem? (i := 16) rfl))) (by decide) (backOf (W := 0) (r3_2 l Z a0 hw w26 (1 : Int32) w38 h0 n0 Z0 (by decide) H4) hZ (hw _ (List.mem_of_getElem? (i := 18) rfl)) (hw _ (List.mem_of_getElem? (i := 6) rfl)) (by decide) (by decide)) q37a q37c (g := (mkF m 36 #[.val (.int p20), .val (.int p21), .val (.int ((p20 &&& (2147483647 : Int32)) % (7 : Int32))), .val (.int (1 : Int32)), .val (.ref w26), .val (.ref w32)] [(.int (1 : Int32)), (.ref w26)])) rfl (by rw [hml]; rfl) (Steps.refl _) (argsL := [(.int (1 : Int32))]) (rest := []) (lenOf pd_2 rfl) rfl (by show 2 * 0 + _ ≤ _; exact Nat.le_of_eq rfl) (hb hby at_36) (fun _ _ => ⟨rfl, e31, (by decide : 0 + 0 ≤ _), (by decide : 0 + 0 ≤ _)⟩)
  dsimp only [Pt.U, Pt.locs, Pt.cells, Pt.slots] at X37 l37 y37 z37 st37 hQ37
  subst l37 y37 z37
  obtain ⟨rfl, N37q, e37⟩ := hQ37
  have N37 := Fr.app N31 N37q
  obtain ⟨fs, hr, hrun, hended, hW, hsame⟩ := X37.leave (v := some (.int (1 : Int32))) (fun h => by rw [Bd.returns] at h; cases h)
  refine ⟨_, _, pre0 _ ?_, hrun, hended, _, _, rfl, ?_, ⟨_, rfl⟩, hW, hsame.mono (by decide) (by decide)⟩
  · show Steps p.tables e below (s₁.setTop (mkF m 0 #[.val (.int p20), .val (.int p21), .unset, .unset, .unset, .unset] [])) _
    refine XS.iloadN X0.here hx rfl (hb hby at_0) rfl ?_
    show Steps p.tables e below (s₁.setTop (mkF m 1 #[.val (.int p20), .val (.int p21), .unset, .unset, .unset, .unset] [(.int p20)])) _
    refine X0.ldcInt hx hown (mvT hZ (hw _ (List.mem_of_getElem? (i := 0) rfl))) (g := (mkF m 1 #[.val (.int p20), .val (.int p21), .unset, .unset, .unset, .unset] [(.int p20)])) rfl (hb hby at_1) _ ?_
    show Steps p.tables e below (s₁.setTop (mkF m 3 #[.val (.int p20), .val (.int p21), .unset, .unset, .unset, .unset] [(.int (2147483647 : Int32)), (.int p20)])) _
    refine XS.iand X0.here hx rfl (hb hby at_3) rfl ?_
    show Steps p.tables e below (s₁.setTop (mkF m 4 #[.val (.int p20), .val (.int p21), .unset, .unset, .unset, .unset] [(.int (p20 &&& (2147483647 : Int32)))])) _
    refine XS.bipush X0.here hx rfl (hb hby at_4) ?_
    show Steps p.tables e below (s₁.setTop (mkF m 6 #[.val (.int p20), .val (.int p21), .unset, .unset, .unset, .unset] [(.int (7 : Int32)), (.int (p20 &&& (2147483647 : Int32)))])) _
    refine iremM X0 hx rfl (hb hby at_6) rfl (by decide) ?_
    show Steps p.tables e below (s₁.setTop (mkF m 7 #[.val (.int p20), .val (.int p21), .unset, .unset, .unset, .unset] [(.int ((p20 &&& (2147483647 : Int32)) % (7 : Int32)))])) _
    refine XS.istoreN X0.here hx rfl (hb hby at_7) rfl (l' := #[.val (.int p20), .val (.int p21), .val (.int ((p20 &&& (2147483647 : Int32)) % (7 : Int32))), .unset, .unset, .unset]) rfl ?_
    show Steps p.tables e below (s₁.setTop (mkF m 8 #[.val (.int p20), .val (.int p21), .val (.int ((p20 &&& (2147483647 : Int32)) % (7 : Int32))), .unset, .unset, .unset] [])) _
    refine XS.iloadN X0.here hx rfl (hb hby at_8) rfl ?_
    show Steps p.tables e below (s₁.setTop (mkF m 9 #[.val (.int p20), .val (.int p21), .val (.int ((p20 &&& (2147483647 : Int32)) % (7 : Int32))), .unset, .unset, .unset] [(.int p21)])) _
    refine XS.iconst X0.here hx rfl (hb hby at_9) ?_
    show Steps p.tables e below (s₁.setTop (mkF m 10 #[.val (.int p20), .val (.int p21), .val (.int ((p20 &&& (2147483647 : Int32)) % (7 : Int32))), .unset, .unset, .unset] [(.int (1 : Int32)), (.int p21)])) _
    refine XS.iand X0.here hx rfl (hb hby at_10) rfl ?_
    show Steps p.tables e below (s₁.setTop (mkF m 11 #[.val (.int p20), .val (.int p21), .val (.int ((p20 &&& (2147483647 : Int32)) % (7 : Int32))), .unset, .unset, .unset] [(.int (p21 &&& (1 : Int32)))])) _
    refine XS.ifNo X0.here hx rfl (hb hby at_11) rfl ((if0 _ _).trans (feq H0).1) ?_
    show Steps p.tables e below (s₁.setTop (mkF m 14 #[.val (.int p20), .val (.int p21), .val (.int ((p20 &&& (2147483647 : Int32)) % (7 : Int32))), .unset, .unset, .unset] [])) _
    refine XS.iconst X0.here hx rfl (hb hby at_14) ?_
    show Steps p.tables e below (s₁.setTop (mkF m 15 #[.val (.int p20), .val (.int p21), .val (.int ((p20 &&& (2147483647 : Int32)) % (7 : Int32))), .unset, .unset, .unset] [(.int (1 : Int32))])) _
    refine XS.goto X0.here hx rfl (pc0 := 15) (pc' := 19) rfl (hb hby at_15) (by decide) (by decide) ?_
    show Steps p.tables e below (s₁.setTop (mkF m 19 #[.val (.int p20), .val (.int p21), .val (.int ((p20 &&& (2147483647 : Int32)) % (7 : Int32))), .unset, .unset, .unset] [(.int (1 : Int32))])) _
    refine XS.istoreN X0.here hx rfl (hb hby at_19) rfl (l' := #[.val (.int p20), .val (.int p21), .val (.int ((p20 &&& (2147483647 : Int32)) % (7 : Int32))), .val (.int (1 : Int32)), .unset, .unset]) rfl ?_
    show Steps p.tables e below (s₁.setTop (mkF m 20 #[.val (.int p20), .val (.int p21), .val (.int ((p20 &&& (2147483647 : Int32)) % (7 : Int32))), .val (.int (1 : Int32)), .unset, .unset] [])) _
    refine XS.iloadN X0.here hx rfl (hb hby at_20) rfl ?_
    show Steps p.tables e below (s₁.setTop (mkF m 21 #[.val (.int p20), .val (.int p21), .val (.int ((p20 &&& (2147483647 : Int32)) % (7 : Int32))), .val (.int (1 : Int32)), .unset, .unset] [(.int ((p20 &&& (2147483647 : Int32)) % (7 : Int32)))])) _
    refine st25 _ ?_
    show Steps p.tables e below (T25.setTop (mkF m 24 #[.val (.int p20), .val (.int p21), .val (.int ((p20 &&& (2147483647 : Int32)) % (7 : Int32))), .val (.int (1 : Int32)), .unset, .unset] [(.ref w26)])) _
    refine XS.astore X25.here hx rfl (hb hby at_24) rfl rfl (l' := #[.val (.int p20), .val (.int p21), .val (.int ((p20 &&& (2147483647 : Int32)) % (7 : Int32))), .val (.int (1 : Int32)), .val (.ref w26), .unset]) rfl ?_
    show Steps p.tables e below (T25.setTop (mkF m 26 #[.val (.int p20), .val (.int p21), .val (.int ((p20 &&& (2147483647 : Int32)) % (7 : Int32))), .val (.int (1 : Int32)), .val (.ref w26), .unset] [])) _
    refine XS.iloadN X25.here hx rfl (hb hby at_26) rfl ?_
    show Steps p.tables e below (T25.setTop (mkF m 27 #[.val (.int p20), .val (.int p21), .val (.int ((p20 &&& (2147483647 : Int32)) % (7 : Int32))), .val (.int (1 : Int32)), .val (.ref w26), .unset] [(.int ((p20 &&& (2147483647 : Int32)) % (7 : Int32)))])) _
    refine XS.iloadN X25.here hx rfl (hb hby at_27) rfl ?_
    show Steps p.tables e below (T25.setTop (mkF m 28 #[.val (.int p20), .val (.int p21), .val (.int ((p20 &&& (2147483647 : Int32)) % (7 : Int32))), .val (.int (1 : Int32)), .val (.ref w26), .unset] [(.int (1 : Int32)), (.int ((p20 &&& (2147483647 : Int32)) % (7 : Int32)))])) _
    refine st31 _ ?_
    show Steps p.tables e below (T31.setTop (mkF m 31 #[.val (.int p20), .val (.int p21), .val (.int ((p20 &&& (2147483647 : Int32)) % (7 : Int32))), .val (.int (1 : Int32)), .val (.ref w26), .unset] [(.ref w32)])) _
    refine XS.astore X31.here hx rfl (hb hby at_31) rfl rfl (l' := #[.val (.int p20), .val (.int p21), .val (.int ((p20 &&& (2147483647 : Int32)) % (7 : Int32))), .val (.int (1 : Int32)), .val (.ref w26), .val (.ref w32)]) rfl ?_
    show Steps p.tables e below (T31.setTop (mkF m 33 #[.val (.int p20), .val (.int p21), .val (.int ((p20 &&& (2147483647 : Int32)) % (7 : Int32))), .val (.int (1 : Int32)), .val (.ref w26), .val (.ref w32)] [])) _
    refine XS.aload X31.here hx rfl (hb hby at_33) rfl rfl ?_
    show Steps p.tables e below (T31.setTop (mkF m 35 #[.val (.int p20), .val (.int p21), .val (.int ((p20 &&& (2147483647 : Int32)) % (7 : Int32))), .val (.int (1 : Int32)), .val (.ref w26), .val (.ref w32)] [(.ref w26)])) _
    refine XS.iloadN X31.here hx rfl (hb hby at_35) rfl ?_
    show Steps p.tables e below (T31.setTop (mkF m 36 #[.val (.int p20), .val (.int p21), .val (.int ((p20 &&& (2147483647 : Int32)) % (7 : Int32))), .val (.int (1 : Int32)), .val (.ref w26), .val (.ref w32)] [(.int (1 : Int32)), (.ref w26)])) _
    refine st37.trans ?_
    show Steps p.tables e below (T37.setTop (mkF m 39 #[.val (.int p20), .val (.int p21), .val (.int ((p20 &&& (2147483647 : Int32)) % (7 : Int32))), .val (.int (1 : Int32)), .val (.ref w26), .val (.ref w32)] [(.ref w38)])) _
    refine XS.aload X37.here hx rfl (hb hby at_39) rfl rfl ?_
    show Steps p.tables e below (T37.setTop (mkF m 41 #[.val (.int p20), .val (.int p21), .val (.int ((p20 &&& (2147483647 : Int32)) % (7 : Int32))), .val (.int (1 : Int32)), .val (.ref w26), .val (.ref w32)] [(.ref w32), (.ref w38)])) _
    refine Jvm.RoadKit.acmp (g := (mkF m 41 #[.val (.int p20), .val (.int p21), .val (.int ((p20 &&& (2147483647 : Int32)) % (7 : Int32))), .val (.int (1 : Int32)), .val (.ref w26), .val (.ref w32)] [(.ref w32), (.ref w38)])) X37 hx rfl rfl rfl (pc0 := 41) (pc' := 44) (same := true) rfl (hb hby at_41) rfl (decide_eq_true (congrArg Value.ref H6)) (by decide) (by decide) ?_
    show Steps p.tables e below (T37.setTop (mkF m 44 #[.val (.int p20), .val (.int p21), .val (.int ((p20 &&& (2147483647 : Int32)) % (7 : Int32))), .val (.int (1 : Int32)), .val (.ref w26), .val (.ref w32)] [])) _
    refine XS.iconst X37.here hx rfl (hb hby at_44) ?_
    show Steps p.tables e below (T37.setTop (mkF m 45 #[.val (.int p20), .val (.int p21), .val (.int ((p20 &&& (2147483647 : Int32)) % (7 : Int32))), .val (.int (1 : Int32)), .val (.ref w26), .val (.ref w32)] [(.int (1 : Int32))])) _
    refine XS.goto X37.here hx rfl (pc0 := 45) (pc' := 49) rfl (hb hby at_45) (by decide) (by decide) ?_
    show Steps p.tables e below (T37.setTop (mkF m 49 #[.val (.int p20), .val (.int p21), .val (.int ((p20 &&& (2147483647 : Int32)) % (7 : Int32))), .val (.int (1 : Int32)), .val (.ref w26), .val (.ref w32)] [(.int (1 : Int32))])) _
    exact retN X37 hx (t := .boolean) Bd.returns (by simp) (hb hby at_49) hr
  · show OQl (some (.int (1 : Int32))) n0 _ T37.heap _
    exact ⟨rfl, N37⟩
theorem d1_8 : decode method_2_code 8 = .ok (.iload_n 0, 1) := by decide +kernel
theorem d1_9 : decode method_2_code 9 = .ok (.iconst 1, 1) := by decide +kernel
theorem d1_10 : decode method_2_code 10 = .ok (.if_icmp .ne 7, 3) := by decide +kernel
theorem d1_13 : decode method_2_code 13 = .ok (.getstatic 13, 3) := by decide +kernel
theorem d1_16 : decode method_2_code 16 = .ok (.areturn, 1) := by decide +kernel
set_option maxRecDepth 65536 in
set_option maxHeartbeats 40000000 in
theorem r1_2 (l : Launch) (Z : State) (a0 : Array Value) (hw : ∀ d ∈ tables_1, d.before a0 Z = true) (p41 : Int32) (w42 : Addr) (h0 : Heap) (n0 : Nat) (Z0 : n0 ≤ h0.size) (H0 : ¬ (p41 = (0 : Int32))) (H1 : p41 = (1 : Int32)) (H2 : Sta Z h0 "com/example/transaction_scopes/transactionscopes/Propagation" "SUPPORTS" "Lcom/example/transaction_scopes/transactionscopes/Propagation;" (.ref w42)) :
    OMet l Z (⟨"com/example/transaction_scopes/transactionscopes/PropagationConductPinLaw", "pick", "(I)Lcom/example/transaction_scopes/transactionscopes/Propagation;"⟩ : MethodName) method_2_code 1 (some (.object "com/example/transaction_scopes/transactionscopes/Propagation")) [] ({ frames := 0, cells := 0, slots := 0, locals := 0 } : Room) h0 #[(.int p41)] (OQp (some (.ref w42)) h0 n0) := by
  refine MetFree.of_bodySF (plainFor_of_name pn_com_example_transaction_scopes_transactionscopes_PropagationConductPinLaw) hisR ?_
  intro p e s m args below meth c s₁ Bd hml0 hP hK
  obtain ⟨rfl, hZ, hh⟩ := hP
  have hx := Bd.exec
  have hby := Bd.bytes
  have hml : c.maxLocals = 1 := hml0
  have hown : s.vm.findClass "com/example/transaction_scopes/transactionscopes/PropagationConductPinLaw" = some m.cls := findClass_of_methodNamed Bd.named
  have hnm := (name_of_methodNamed Bd.named Bd.method).1
  have X0 : Stand p l e ({ frames := 0, cells := 0, slots := 0, locals := 0 } : Room) s m #[(.int p41)] below meth c s₁ [] 0 0 := Stand.of_body Bd
  have e0 : s₁.heap = h0 := by rw [← hh, Bd.state]; rfl
  have N0 := Fr.nil n0
  have pre0 : ∀ t, Steps p.tables e below (s₁.setTop (mkF m 0 #[.val (.int p41)] [])) t → Steps p.tables e below (s₁.setTop (entryFrame m #[(.int p41)] 1)) t := fun t k => castTop (ef_1_v m p41) k
  obtain ⟨T43, X43, e43, st43⟩ := getS2 X0 hx hZ hown (host := "") (Or.inl (hw _ (List.mem_of_getElem? (i := 25) rfl))) Via.refl e0 H2 (g := (mkF m 13 #[.val (.int p41)] [])) rfl (hb hby d1_13)
  obtain ⟨fs, hr, hrun, hended, hW, hsame⟩ := X43.leave (v := some (.ref w42)) (fun h => by rw [Bd.returns] at h; cases h)
  refine ⟨_, _, pre0 _ ?_, hrun, hended, _, _, rfl, ?_, ⟨_, rfl⟩, hW, hsame.mono (by decide) (by decide)⟩
  · show Steps p.tables e below (s₁.setTop (mkF m 0 #[.val (.int p41)] [])) _
    refine XS.iloadN X0.here hx rfl (hb hby d1_0) rfl ?_
    show Steps p.tables e below (s₁.setTop (mkF m 1 #[.val (.int p41)] [(.int p41)])) _
    refine XS.ifYes X0.here hx rfl (pc0 := 1) (pc' := 8) rfl (hb hby d1_1) rfl ((if0 _ _).trans (feq H0).2) (by decide) (by decide) ?_
    show Steps p.tables e below (s₁.setTop (mkF m 8 #[.val (.int p41)] [])) _
    refine XS.iloadN X0.here hx rfl (hb hby d1_8) rfl ?_
    show Steps p.tables e below (s₁.setTop (mkF m 9 #[.val (.int p41)] [(.int p41)])) _
    refine XS.iconst X0.here hx rfl (hb hby d1_9) ?_
    show Steps p.tables e below (s₁.setTop (mkF m 10 #[.val (.int p41)] [(.int (1 : Int32)), (.int p41)])) _
    refine XS.icmpNo X0.here hx rfl (hb hby d1_10) rfl (teq H1).2 ?_
    show Steps p.tables e below (s₁.setTop (mkF m 13 #[.val (.int p41)] [])) _
    refine st43 _ ?_
    show Steps p.tables e below (T43.setTop (mkF m 16 #[.val (.int p41)] [(.ref w42)])) _
    jvm_step X43.here [X43.here.top, hx, (hb hby d1_16), X43.method', Bd.returns, Value.isRef, FieldType.isReference]
    first | (intro acts; rw [hr _ acts rfl rfl rfl]) | rw [hr _ _ rfl rfl rfl]
    exact Steps.refl _
  · show OQp (some (.ref w42)) h0 n0 _ T43.heap _
    rw [e43]
    exact ⟨rfl, N0, rfl⟩
theorem d2_57 : decode method_3_code 57 = .ok (.iload_n 0, 1) := by decide +kernel
theorem d2_58 : decode method_3_code 58 = .ok (.iconst 3, 1) := by decide +kernel
theorem d2_59 : decode method_3_code 59 = .ok (.if_icmp .eq 9, 3) := by decide +kernel
theorem d2_62 : decode method_3_code 62 = .ok (.iload_n 0, 1) := by decide +kernel
theorem d2_63 : decode method_3_code 63 = .ok (.bipush 6, 2) := by decide +kernel
theorem d2_65 : decode method_3_code 65 = .ok (.if_icmp .ne 7, 3) := by decide +kernel
theorem d2_72 : decode method_3_code 72 = .ok (.iload_n 0, 1) := by decide +kernel
theorem d2_73 : decode method_3_code 73 = .ok (.iconst 2, 1) := by decide +kernel
theorem d2_74 : decode method_3_code 74 = .ok (.if_icmp .ne 7, 3) := by decide +kernel
theorem d2_81 : decode method_3_code 81 = .ok (.getstatic 40, 3) := by decide +kernel
theorem d2_84 : decode method_3_code 84 = .ok (.areturn, 1) := by decide +kernel
set_option maxRecDepth 65536 in
set_option maxHeartbeats 40000000 in
theorem r2_3 (l : Launch) (Z : State) (a0 : Array Value) (hw : ∀ d ∈ tables_1, d.before a0 Z = true) (p46 : Int32) (p47 : Int32) (w48 : Addr) (h0 : Heap) (n0 : Nat) (Z0 : n0 ≤ h0.size) (H0 : p47 = (0 : Int32)) (H1 : ¬ (p46 = (0 : Int32))) (H2 : ¬ (p46 = (3 : Int32))) (H3 : ¬ (p46 = (6 : Int32))) (H4 : ¬ (p46 = (2 : Int32))) (H5 : Sta Z h0 "com/example/transaction_scopes/transactionscopes/Propagation$Conduct" "RUN_WITHOUT" "Lcom/example/transaction_scopes/transactionscopes/Propagation$Conduct;" (.ref w48)) :
    OMet l Z (⟨"com/example/transaction_scopes/transactionscopes/PropagationConductPinLaw", "expected", "(IZ)Lcom/example/transaction_scopes/transactionscopes/Propagation$Conduct;"⟩ : MethodName) method_3_code 2 (some (.object "com/example/transaction_scopes/transactionscopes/Propagation$Conduct")) [] ({ frames := 0, cells := 0, slots := 0, locals := 0 } : Room) h0 #[(.int p46), (.int p47)] (OQp (some (.ref w48)) h0 n0) := by
  refine MetFree.of_bodySF (plainFor_of_name pn_com_example_transaction_scopes_transactionscopes_PropagationConductPinLaw) hisR ?_
  intro p e s m args below meth c s₁ Bd hml0 hP hK
  obtain ⟨rfl, hZ, hh⟩ := hP
  have hx := Bd.exec
  have hby := Bd.bytes
  have hml : c.maxLocals = 2 := hml0
  have hown : s.vm.findClass "com/example/transaction_scopes/transactionscopes/PropagationConductPinLaw" = some m.cls := findClass_of_methodNamed Bd.named
  have hnm := (name_of_methodNamed Bd.named Bd.method).1
  have X0 : Stand p l e ({ frames := 0, cells := 0, slots := 0, locals := 0 } : Room) s m #[(.int p46), (.int p47)] below meth c s₁ [] 0 0 := Stand.of_body Bd
  have e0 : s₁.heap = h0 := by rw [← hh, Bd.state]; rfl
  have N0 := Fr.nil n0
  have pre0 : ∀ t, Steps p.tables e below (s₁.setTop (mkF m 0 #[.val (.int p46), .val (.int p47)] [])) t → Steps p.tables e below (s₁.setTop (entryFrame m #[(.int p46), (.int p47)] 2)) t := fun t k => castTop (ef_2_vv m p46 p47) k
  obtain ⟨T49, X49, e49, st49⟩ := getS2 X0 hx hZ hown (host := "") (Or.inl (hw _ (List.mem_of_getElem? (i := 27) rfl))) Via.refl e0 H5 (g := (mkF m 81 #[.val (.int p46), .val (.int p47)] [])) rfl (hb hby d2_81)
  obtain ⟨fs, hr, hrun, hended, hW, hsame⟩ := X49.leave (v := some (.ref w48)) (fun h => by rw [Bd.returns] at h; cases h)
  refine ⟨_, _, pre0 _ ?_, hrun, hended, _, _, rfl, ?_, ⟨_, rfl⟩, hW, hsame.mono (by decide) (by decide)⟩
  · show Steps p.tables e below (s₁.setTop (mkF m 0 #[.val (.int p46), .val (.int p47)] [])) _
    refine XS.iloadN X0.here hx rfl (hb hby d2_0) rfl ?_
    show Steps p.tables e below (s₁.setTop (mkF m 1 #[.val (.int p46), .val (.int p47)] [(.int p47)])) _
    refine XS.ifYes X0.here hx rfl (pc0 := 1) (pc' := 53) rfl (hb hby d2_1) rfl ((if0 _ _).trans (teq H0).1) (by decide) (by decide) ?_
    show Steps p.tables e below (s₁.setTop (mkF m 53 #[.val (.int p46), .val (.int p47)] [])) _
    refine XS.iloadN X0.here hx rfl (hb hby d2_53) rfl ?_
    show Steps p.tables e below (s₁.setTop (mkF m 54 #[.val (.int p46), .val (.int p47)] [(.int p46)])) _
    refine XS.ifNo X0.here hx rfl (hb hby d2_54) rfl ((if0 _ _).trans (feq H1).1) ?_
    show Steps p.tables e below (s₁.setTop (mkF m 57 #[.val (.int p46), .val (.int p47)] [])) _
    refine XS.iloadN X0.here hx rfl (hb hby d2_57) rfl ?_
    show Steps p.tables e below (s₁.setTop (mkF m 58 #[.val (.int p46), .val (.int p47)] [(.int p46)])) _
    refine XS.iconst X0.here hx rfl (hb hby d2_58) ?_
    show Steps p.tables e below (s₁.setTop (mkF m 59 #[.val (.int p46), .val (.int p47)] [(.int (3 : Int32)), (.int p46)])) _
    refine XS.icmpNo X0.here hx rfl (hb hby d2_59) rfl (feq H2).1 ?_
    show Steps p.tables e below (s₁.setTop (mkF m 62 #[.val (.int p46), .val (.int p47)] [])) _
    refine XS.iloadN X0.here hx rfl (hb hby d2_62) rfl ?_
    show Steps p.tables e below (s₁.setTop (mkF m 63 #[.val (.int p46), .val (.int p47)] [(.int p46)])) _
    refine XS.bipush X0.here hx rfl (hb hby d2_63) ?_
    show Steps p.tables e below (s₁.setTop (mkF m 65 #[.val (.int p46), .val (.int p47)] [(.int (6 : Int32)), (.int p46)])) _
    refine XS.icmpYes X0.here hx rfl (pc0 := 65) (pc' := 72) rfl (hb hby d2_65) rfl (feq H3).2 (by decide) (by decide) ?_
    show Steps p.tables e below (s₁.setTop (mkF m 72 #[.val (.int p46), .val (.int p47)] [])) _
    refine XS.iloadN X0.here hx rfl (hb hby d2_72) rfl ?_
    show Steps p.tables e below (s₁.setTop (mkF m 73 #[.val (.int p46), .val (.int p47)] [(.int p46)])) _
    refine XS.iconst X0.here hx rfl (hb hby d2_73) ?_
    show Steps p.tables e below (s₁.setTop (mkF m 74 #[.val (.int p46), .val (.int p47)] [(.int (2 : Int32)), (.int p46)])) _
    refine XS.icmpYes X0.here hx rfl (pc0 := 74) (pc' := 81) rfl (hb hby d2_74) rfl (feq H4).2 (by decide) (by decide) ?_
    show Steps p.tables e below (s₁.setTop (mkF m 81 #[.val (.int p46), .val (.int p47)] [])) _
    refine st49 _ ?_
    show Steps p.tables e below (T49.setTop (mkF m 84 #[.val (.int p46), .val (.int p47)] [(.ref w48)])) _
    jvm_step X49.here [X49.here.top, hx, (hb hby d2_84), X49.method', Bd.returns, Value.isRef, FieldType.isReference]
    first | (intro acts; rw [hr _ acts rfl rfl rfl]) | rw [hr _ _ rfl rfl rfl]
    exact Steps.refl _
  · show OQp (some (.ref w48)) h0 n0 _ T49.heap _
    rw [e49]
    exact ⟨rfl, N0, rfl⟩
set_option maxRecDepth 65536 in
set_option maxHeartbeats 40000000 in
theorem r0_3 (l : Launch) (Z : State) (a0 : Array Value) (hw : ∀ d ∈ tables_1, d.before a0 Z = true) (p39 : Int32) (p40 : Int32) (w45 : Addr) (w51 : Addr) (w57 : Addr) (h0 : Heap) (n0 : Nat) (Z0 : n0 ≤ h0.size) (H0 : (p40 &&& (1 : Int32)) = (0 : Int32)) (H1 : ¬ (((p39 &&& (2147483647 : Int32)) % (7 : Int32)) = (0 : Int32))) (H2 : ((p39 &&& (2147483647 : Int32)) % (7 : Int32)) = (1 : Int32)) (H3 : Sta Z h0 "com/example/transaction_scopes/transactionscopes/Propagation" "SUPPORTS" "Lcom/example/transaction_scopes/transactionscopes/Propagation;" (.ref w45)) (H4 : ¬ (((p39 &&& (2147483647 : Int32)) % (7 : Int32)) = (3 : Int32))) (H5 : ¬ (((p39 &&& (2147483647 : Int32)) % (7 : Int32)) = (6 : Int32))) (H6 : ¬ (((p39 &&& (2147483647 : Int32)) % (7 : Int32)) = (2 : Int32))) (H7 : Sta Z h0 "com/example/transaction_scopes/transactionscopes/Propagation$Conduct" "RUN_WITHOUT" "Lcom/example/transaction_scopes/transactionscopes/Propagation$Conduct;" (.ref w51)) (H8 : Fld Z h0 w45 "com/example/transaction_scopes/transactionscopes/Propagation" "withoutTransaction" "Lcom/example/transaction_scopes/transactionscopes/Propagation$Conduct;" (.ref w57)) (H9 : Exa Z h0 w45 "com/example/transaction_scopes/transactionscopes/Propagation") (H10 : w57 = w51) :
    OMet l Z x code maxLocals ret tables_1 room_1 h0 #[(.int p39), (.int p40)] (OQl (some (.int (1 : Int32))) n0) := by
  refine MetFree.of_bodySF (plainFor_of_name pn_com_example_transaction_scopes_transactionscopes_PropagationConductPinLaw) hisR ?_
  intro p e s m args below meth c s₁ Bd hml0 hP hK
  obtain ⟨rfl, hZ, hh⟩ := hP
  have hx := Bd.exec
  have hby := Bd.bytes
  have hml : c.maxLocals = 6 := hml0
  have hown : s.vm.findClass "com/example/transaction_scopes/transactionscopes/PropagationConductPinLaw" = some m.cls := findClass_of_methodNamed Bd.named
  have hnm := (name_of_methodNamed Bd.named Bd.method).1
  have X0 : Stand p l e room_1 s m #[(.int p39), (.int p40)] below meth c s₁ [] 0 0 := Stand.of_body Bd
  have e0 : s₁.heap = h0 := by rw [← hh, Bd.state]; rfl
  have N0 := Fr.nil n0
  have pre0 : ∀ t, Steps p.tables e below (s₁.setTop (mkF m 0 #[.val (.int p39), .val (.int p40), .unset, .unset, .unset, .unset] [])) t → Steps p.tables e below (s₁.setTop (entryFrame m #[(.int p39), (.int p40)] maxLocals)) t := fun t k => castTop (ef_0_vv m p39 p40) k
  obtain ⟨_, _, ⟨T44, L44, k44, n44⟩, -, X44, ⟨Lc44, hQ44, l44, y44, z44⟩, st44⟩ := Jvm.LawKit.callS X0 hx (y := (⟨"com/example/transaction_scopes/transactionscopes/PropagationConductPinLaw", "pick", "(I)Lcom/example/transaction_scopes/transactionscopes/Propagation;"⟩ : MethodName)) hown (mvT hZ (hw _ (List.mem_of_getElem? (i := 1) rfl))) (mvT hZ (hw _ (List.mem_of_getElem? (i := 2) rfl))) (mvT hZ (hw _ (List.mem_of_getElem? (i := 3) rfl))) (mvT hZ (hw _ (List.mem_of_getElem? (i := 4) rfl))) (by decide) (backOf (W := 0) (r1_2 l Z a0 hw ((p39 &&& (2147483647 : Int32)) % (7 : Int32)) w45 h0 n0 Z0 H1 H2 H3) hZ (hw _ (List.mem_of_getElem? (i := 4) rfl)) (hw _ (List.mem_of_getElem? (i := 3) rfl)) (by decide) (by decide)) (g := (mkF m 21 #[.val (.int p39), .val (.int p40), .val (.int ((p39 &&& (2147483647 : Int32)) % (7 : Int32))), .val (.int (0 : Int32)), .unset, .unset] [(.int ((p39 &&& (2147483647 : Int32)) % (7 : Int32)))])) rfl (by rw [hml]; rfl) (argsL := [(.int ((p39 &&& (2147483647 : Int32)) % (7 : Int32)))]) (rest := []) (lenOf pd_0 rfl) rfl (by show 2 * 0 + _ ≤ _; exact Nat.le_of_eq rfl) (hb hby at_21) (fun _ _ => ⟨rfl, e0, (by decide : 0 + 0 ≤ _), (by decide : 0 + 0 ≤ _)⟩)
  dsimp only [Pt.U, Pt.locs, Pt.cells, Pt.slots] at X44 l44 y44 z44 st44 hQ44
  subst l44 y44 z44
  obtain ⟨rfl, N44q, e44⟩ := hQ44
  have N44 := Fr.app N0 N44q
  obtain ⟨_, _, ⟨T50, L50, k50, n50⟩, -, X50, ⟨Lc50, hQ50, l50, y50, z50⟩, st50⟩ := Jvm.LawKit.callS X44 hx (y := (⟨"com/example/transaction_scopes/transactionscopes/PropagationConductPinLaw", "expected", "(IZ)Lcom/example/transaction_scopes/transactionscopes/Propagation$Conduct;"⟩ : MethodName)) hown (mvT hZ (hw _ (List.mem_of_getElem? (i := 8) rfl))) (mvT hZ (hw _ (List.mem_of_getElem? (i := 9) rfl))) (mvT hZ (hw _ (List.mem_of_getElem? (i := 3) rfl))) (mvT hZ (hw _ (List.mem_of_getElem? (i := 10) rfl))) (by decide) (backOf (W := 0) (r2_3 l Z a0 hw ((p39 &&& (2147483647 : Int32)) % (7 : Int32)) (0 : Int32) w51 h0 n0 Z0 rfl H1 H4 H5 H6 H7) hZ (hw _ (List.mem_of_getElem? (i := 10) rfl)) (hw _ (List.mem_of_getElem? (i := 3) rfl)) (by decide) (by decide)) (g := (mkF m 28 #[.val (.int p39), .val (.int p40), .val (.int ((p39 &&& (2147483647 : Int32)) % (7 : Int32))), .val (.int (0 : Int32)), .val (.ref w45), .unset] [(.int (0 : Int32)), (.int ((p39 &&& (2147483647 : Int32)) % (7 : Int32)))])) rfl (by rw [hml]; rfl) (argsL := [(.int ((p39 &&& (2147483647 : Int32)) % (7 : Int32))), (.int (0 : Int32))]) (rest := []) (lenOf pd_1 rfl) rfl (by show 2 * 0 + _ ≤ _; exact Nat.le_of_eq rfl) (hb hby at_28) (fun _ _ => ⟨rfl, e44, (by decide : 0 + 0 ≤ _), (by decide : 0 + 0 ≤ _)⟩)
  dsimp only [Pt.U, Pt.locs, Pt.cells, Pt.slots] at X50 l50 y50 z50 st50 hQ50
  subst l50 y50 z50
  obtain ⟨rfl, N50q, e50⟩ := hQ50
  have N50 := Fr.app N44 N50q
  obtain ⟨cq56, kq56, q56a, q56b, q56c⟩ := isOf hZ e50 H9
  obtain ⟨_, _, ⟨T56, L56, k56, n56⟩, -, X56, ⟨Lc56, hQ56, l56, y56, z56⟩, st56⟩ := X50.virtualBack hx (y := (⟨"com/example/transaction_scopes/transactionscopes/Propagation", "conduct", "(Z)Lcom/example/transaction_scopes/transactionscopes/Propagation$Conduct;"⟩ : MethodName)) (z := (⟨"com/example/transaction_scopes/transactionscopes/Propagation", "conduct", "(Z)Lcom/example/transaction_scopes/transactionscopes/Propagation$Conduct;"⟩ : MethodName)) hown (mvT hZ (hw _ (List.mem_of_getElem? (i := 14) rfl))) (mvT hZ (hw _ (List.mem_of_getElem? (i := 15) rfl))) (notFace_of_selects (args := #[]) (mvT hZ (hw _ (List.mem_of_getElem? (i := 17) rfl)))) (mvT hZ (hw _ (List.mem_of_getElem? (i := 17) rfl))) (mvT hZ (hw _ (List.mem_of_getElem? (i := 16) rfl))) (by decide) (backOf (W := 0) (r3_1 l Z a0 hw w45 (0 : Int32) w57 h0 n0 Z0 rfl H8) hZ (hw _ (List.mem_of_getElem? (i := 18) rfl)) (hw _ (List.mem_of_getElem? (i := 6) rfl)) (by decide) (by decide)) q56a q56c (g := (mkF m 36 #[.val (.int p39), .val (.int p40), .val (.int ((p39 &&& (2147483647 : Int32)) % (7 : Int32))), .val (.int (0 : Int32)), .val (.ref w45), .val (.ref w51)] [(.int (0 : Int32)), (.ref w45)])) rfl (by rw [hml]; rfl) (Steps.refl _) (argsL := [(.int (0 : Int32))]) (rest := []) (lenOf pd_2 rfl) rfl (by show 2 * 0 + _ ≤ _; exact Nat.le_of_eq rfl) (hb hby at_36) (fun _ _ => ⟨rfl, e50, (by decide : 0 + 0 ≤ _), (by decide : 0 + 0 ≤ _)⟩)
  dsimp only [Pt.U, Pt.locs, Pt.cells, Pt.slots] at X56 l56 y56 z56 st56 hQ56
  subst l56 y56 z56
  obtain ⟨rfl, N56q, e56⟩ := hQ56
  have N56 := Fr.app N50 N56q
  obtain ⟨fs, hr, hrun, hended, hW, hsame⟩ := X56.leave (v := some (.int (1 : Int32))) (fun h => by rw [Bd.returns] at h; cases h)
  refine ⟨_, _, pre0 _ ?_, hrun, hended, _, _, rfl, ?_, ⟨_, rfl⟩, hW, hsame.mono (by decide) (by decide)⟩
  · show Steps p.tables e below (s₁.setTop (mkF m 0 #[.val (.int p39), .val (.int p40), .unset, .unset, .unset, .unset] [])) _
    refine XS.iloadN X0.here hx rfl (hb hby at_0) rfl ?_
    show Steps p.tables e below (s₁.setTop (mkF m 1 #[.val (.int p39), .val (.int p40), .unset, .unset, .unset, .unset] [(.int p39)])) _
    refine X0.ldcInt hx hown (mvT hZ (hw _ (List.mem_of_getElem? (i := 0) rfl))) (g := (mkF m 1 #[.val (.int p39), .val (.int p40), .unset, .unset, .unset, .unset] [(.int p39)])) rfl (hb hby at_1) _ ?_
    show Steps p.tables e below (s₁.setTop (mkF m 3 #[.val (.int p39), .val (.int p40), .unset, .unset, .unset, .unset] [(.int (2147483647 : Int32)), (.int p39)])) _
    refine XS.iand X0.here hx rfl (hb hby at_3) rfl ?_
    show Steps p.tables e below (s₁.setTop (mkF m 4 #[.val (.int p39), .val (.int p40), .unset, .unset, .unset, .unset] [(.int (p39 &&& (2147483647 : Int32)))])) _
    refine XS.bipush X0.here hx rfl (hb hby at_4) ?_
    show Steps p.tables e below (s₁.setTop (mkF m 6 #[.val (.int p39), .val (.int p40), .unset, .unset, .unset, .unset] [(.int (7 : Int32)), (.int (p39 &&& (2147483647 : Int32)))])) _
    refine iremM X0 hx rfl (hb hby at_6) rfl (by decide) ?_
    show Steps p.tables e below (s₁.setTop (mkF m 7 #[.val (.int p39), .val (.int p40), .unset, .unset, .unset, .unset] [(.int ((p39 &&& (2147483647 : Int32)) % (7 : Int32)))])) _
    refine XS.istoreN X0.here hx rfl (hb hby at_7) rfl (l' := #[.val (.int p39), .val (.int p40), .val (.int ((p39 &&& (2147483647 : Int32)) % (7 : Int32))), .unset, .unset, .unset]) rfl ?_
    show Steps p.tables e below (s₁.setTop (mkF m 8 #[.val (.int p39), .val (.int p40), .val (.int ((p39 &&& (2147483647 : Int32)) % (7 : Int32))), .unset, .unset, .unset] [])) _
    refine XS.iloadN X0.here hx rfl (hb hby at_8) rfl ?_
    show Steps p.tables e below (s₁.setTop (mkF m 9 #[.val (.int p39), .val (.int p40), .val (.int ((p39 &&& (2147483647 : Int32)) % (7 : Int32))), .unset, .unset, .unset] [(.int p40)])) _
    refine XS.iconst X0.here hx rfl (hb hby at_9) ?_
    show Steps p.tables e below (s₁.setTop (mkF m 10 #[.val (.int p39), .val (.int p40), .val (.int ((p39 &&& (2147483647 : Int32)) % (7 : Int32))), .unset, .unset, .unset] [(.int (1 : Int32)), (.int p40)])) _
    refine XS.iand X0.here hx rfl (hb hby at_10) rfl ?_
    show Steps p.tables e below (s₁.setTop (mkF m 11 #[.val (.int p39), .val (.int p40), .val (.int ((p39 &&& (2147483647 : Int32)) % (7 : Int32))), .unset, .unset, .unset] [(.int (p40 &&& (1 : Int32)))])) _
    refine XS.ifYes X0.here hx rfl (pc0 := 11) (pc' := 18) rfl (hb hby at_11) rfl ((if0 _ _).trans (teq H0).1) (by decide) (by decide) ?_
    show Steps p.tables e below (s₁.setTop (mkF m 18 #[.val (.int p39), .val (.int p40), .val (.int ((p39 &&& (2147483647 : Int32)) % (7 : Int32))), .unset, .unset, .unset] [])) _
    refine XS.iconst X0.here hx rfl (hb hby at_18) ?_
    show Steps p.tables e below (s₁.setTop (mkF m 19 #[.val (.int p39), .val (.int p40), .val (.int ((p39 &&& (2147483647 : Int32)) % (7 : Int32))), .unset, .unset, .unset] [(.int (0 : Int32))])) _
    refine XS.istoreN X0.here hx rfl (hb hby at_19) rfl (l' := #[.val (.int p39), .val (.int p40), .val (.int ((p39 &&& (2147483647 : Int32)) % (7 : Int32))), .val (.int (0 : Int32)), .unset, .unset]) rfl ?_
    show Steps p.tables e below (s₁.setTop (mkF m 20 #[.val (.int p39), .val (.int p40), .val (.int ((p39 &&& (2147483647 : Int32)) % (7 : Int32))), .val (.int (0 : Int32)), .unset, .unset] [])) _
    refine XS.iloadN X0.here hx rfl (hb hby at_20) rfl ?_
    show Steps p.tables e below (s₁.setTop (mkF m 21 #[.val (.int p39), .val (.int p40), .val (.int ((p39 &&& (2147483647 : Int32)) % (7 : Int32))), .val (.int (0 : Int32)), .unset, .unset] [(.int ((p39 &&& (2147483647 : Int32)) % (7 : Int32)))])) _
    refine st44 _ ?_
    show Steps p.tables e below (T44.setTop (mkF m 24 #[.val (.int p39), .val (.int p40), .val (.int ((p39 &&& (2147483647 : Int32)) % (7 : Int32))), .val (.int (0 : Int32)), .unset, .unset] [(.ref w45)])) _
    refine XS.astore X44.here hx rfl (hb hby at_24) rfl rfl (l' := #[.val (.int p39), .val (.int p40), .val (.int ((p39 &&& (2147483647 : Int32)) % (7 : Int32))), .val (.int (0 : Int32)), .val (.ref w45), .unset]) rfl ?_
    show Steps p.tables e below (T44.setTop (mkF m 26 #[.val (.int p39), .val (.int p40), .val (.int ((p39 &&& (2147483647 : Int32)) % (7 : Int32))), .val (.int (0 : Int32)), .val (.ref w45), .unset] [])) _
    refine XS.iloadN X44.here hx rfl (hb hby at_26) rfl ?_
    show Steps p.tables e below (T44.setTop (mkF m 27 #[.val (.int p39), .val (.int p40), .val (.int ((p39 &&& (2147483647 : Int32)) % (7 : Int32))), .val (.int (0 : Int32)), .val (.ref w45), .unset] [(.int ((p39 &&& (2147483647 : Int32)) % (7 : Int32)))])) _
    refine XS.iloadN X44.here hx rfl (hb hby at_27) rfl ?_
    show Steps p.tables e below (T44.setTop (mkF m 28 #[.val (.int p39), .val (.int p40), .val (.int ((p39 &&& (2147483647 : Int32)) % (7 : Int32))), .val (.int (0 : Int32)), .val (.ref w45), .unset] [(.int (0 : Int32)), (.int ((p39 &&& (2147483647 : Int32)) % (7 : Int32)))])) _
    refine st50 _ ?_
    show Steps p.tables e below (T50.setTop (mkF m 31 #[.val (.int p39), .val (.int p40), .val (.int ((p39 &&& (2147483647 : Int32)) % (7 : Int32))), .val (.int (0 : Int32)), .val (.ref w45), .unset] [(.ref w51)])) _
    refine XS.astore X50.here hx rfl (hb hby at_31) rfl rfl (l' := #[.val (.int p39), .val (.int p40), .val (.int ((p39 &&& (2147483647 : Int32)) % (7 : Int32))), .val (.int (0 : Int32)), .val (.ref w45), .val (.ref w51)]) rfl ?_
    show Steps p.tables e below (T50.setTop (mkF m 33 #[.val (.int p39), .val (.int p40), .val (.int ((p39 &&& (2147483647 : Int32)) % (7 : Int32))), .val (.int (0 : Int32)), .val (.ref w45), .val (.ref w51)] [])) _
    refine XS.aload X50.here hx rfl (hb hby at_33) rfl rfl ?_
    show Steps p.tables e below (T50.setTop (mkF m 35 #[.val (.int p39), .val (.int p40), .val (.int ((p39 &&& (2147483647 : Int32)) % (7 : Int32))), .val (.int (0 : Int32)), .val (.ref w45), .val (.ref w51)] [(.ref w45)])) _
    refine XS.iloadN X50.here hx rfl (hb hby at_35) rfl ?_
    show Steps p.tables e below (T50.setTop (mkF m 36 #[.val (.int p39), .val (.int p40), .val (.int ((p39 &&& (2147483647 : Int32)) % (7 : Int32))), .val (.int (0 : Int32)), .val (.ref w45), .val (.ref w51)] [(.int (0 : Int32)), (.ref w45)])) _
    refine st56.trans ?_
    show Steps p.tables e below (T56.setTop (mkF m 39 #[.val (.int p39), .val (.int p40), .val (.int ((p39 &&& (2147483647 : Int32)) % (7 : Int32))), .val (.int (0 : Int32)), .val (.ref w45), .val (.ref w51)] [(.ref w57)])) _
    refine XS.aload X56.here hx rfl (hb hby at_39) rfl rfl ?_
    show Steps p.tables e below (T56.setTop (mkF m 41 #[.val (.int p39), .val (.int p40), .val (.int ((p39 &&& (2147483647 : Int32)) % (7 : Int32))), .val (.int (0 : Int32)), .val (.ref w45), .val (.ref w51)] [(.ref w51), (.ref w57)])) _
    refine Jvm.RoadKit.acmp (g := (mkF m 41 #[.val (.int p39), .val (.int p40), .val (.int ((p39 &&& (2147483647 : Int32)) % (7 : Int32))), .val (.int (0 : Int32)), .val (.ref w45), .val (.ref w51)] [(.ref w51), (.ref w57)])) X56 hx rfl rfl rfl (pc0 := 41) (pc' := 44) (same := true) rfl (hb hby at_41) rfl (decide_eq_true (congrArg Value.ref H10)) (by decide) (by decide) ?_
    show Steps p.tables e below (T56.setTop (mkF m 44 #[.val (.int p39), .val (.int p40), .val (.int ((p39 &&& (2147483647 : Int32)) % (7 : Int32))), .val (.int (0 : Int32)), .val (.ref w45), .val (.ref w51)] [])) _
    refine XS.iconst X56.here hx rfl (hb hby at_44) ?_
    show Steps p.tables e below (T56.setTop (mkF m 45 #[.val (.int p39), .val (.int p40), .val (.int ((p39 &&& (2147483647 : Int32)) % (7 : Int32))), .val (.int (0 : Int32)), .val (.ref w45), .val (.ref w51)] [(.int (1 : Int32))])) _
    refine XS.goto X56.here hx rfl (pc0 := 45) (pc' := 49) rfl (hb hby at_45) (by decide) (by decide) ?_
    show Steps p.tables e below (T56.setTop (mkF m 49 #[.val (.int p39), .val (.int p40), .val (.int ((p39 &&& (2147483647 : Int32)) % (7 : Int32))), .val (.int (0 : Int32)), .val (.ref w45), .val (.ref w51)] [(.int (1 : Int32))])) _
    exact retN X56 hx (t := .boolean) Bd.returns (by simp) (hb hby at_49) hr
  · show OQl (some (.int (1 : Int32))) n0 _ T56.heap _
    exact ⟨rfl, N56⟩
theorem d2_8 : decode method_3_code 8 = .ok (.iload_n 0, 1) := by decide +kernel
theorem d2_9 : decode method_3_code 9 = .ok (.iconst 1, 1) := by decide +kernel
theorem d2_10 : decode method_3_code 10 = .ok (.if_icmp .eq 8, 3) := by decide +kernel
set_option maxRecDepth 65536 in
set_option maxHeartbeats 40000000 in
theorem r2_4 (l : Launch) (Z : State) (a0 : Array Value) (hw : ∀ d ∈ tables_1, d.before a0 Z = true) (p65 : Int32) (p66 : Int32) (w67 : Addr) (h0 : Heap) (n0 : Nat) (Z0 : n0 ≤ h0.size) (H0 : ¬ (p66 = (0 : Int32))) (H1 : ¬ (p65 = (0 : Int32))) (H2 : p65 = (1 : Int32)) (H3 : Sta Z h0 "com/example/transaction_scopes/transactionscopes/Propagation$Conduct" "JOIN" "Lcom/example/transaction_scopes/transactionscopes/Propagation$Conduct;" (.ref w67)) :
    OMet l Z (⟨"com/example/transaction_scopes/transactionscopes/PropagationConductPinLaw", "expected", "(IZ)Lcom/example/transaction_scopes/transactionscopes/Propagation$Conduct;"⟩ : MethodName) method_3_code 2 (some (.object "com/example/transaction_scopes/transactionscopes/Propagation$Conduct")) [] ({ frames := 0, cells := 0, slots := 0, locals := 0 } : Room) h0 #[(.int p65), (.int p66)] (OQp (some (.ref w67)) h0 n0) := by
  refine MetFree.of_bodySF (plainFor_of_name pn_com_example_transaction_scopes_transactionscopes_PropagationConductPinLaw) hisR ?_
  intro p e s m args below meth c s₁ Bd hml0 hP hK
  obtain ⟨rfl, hZ, hh⟩ := hP
  have hx := Bd.exec
  have hby := Bd.bytes
  have hml : c.maxLocals = 2 := hml0
  have hown : s.vm.findClass "com/example/transaction_scopes/transactionscopes/PropagationConductPinLaw" = some m.cls := findClass_of_methodNamed Bd.named
  have hnm := (name_of_methodNamed Bd.named Bd.method).1
  have X0 : Stand p l e ({ frames := 0, cells := 0, slots := 0, locals := 0 } : Room) s m #[(.int p65), (.int p66)] below meth c s₁ [] 0 0 := Stand.of_body Bd
  have e0 : s₁.heap = h0 := by rw [← hh, Bd.state]; rfl
  have N0 := Fr.nil n0
  have pre0 : ∀ t, Steps p.tables e below (s₁.setTop (mkF m 0 #[.val (.int p65), .val (.int p66)] [])) t → Steps p.tables e below (s₁.setTop (entryFrame m #[(.int p65), (.int p66)] 2)) t := fun t k => castTop (ef_2_vv m p65 p66) k
  obtain ⟨T68, X68, e68, st68⟩ := getS2 X0 hx hZ hown (host := "") (Or.inl (hw _ (List.mem_of_getElem? (i := 11) rfl))) Via.refl e0 H3 (g := (mkF m 18 #[.val (.int p65), .val (.int p66)] [])) rfl (hb hby d2_18)
  obtain ⟨fs, hr, hrun, hended, hW, hsame⟩ := X68.leave (v := some (.ref w67)) (fun h => by rw [Bd.returns] at h; cases h)
  refine ⟨_, _, pre0 _ ?_, hrun, hended, _, _, rfl, ?_, ⟨_, rfl⟩, hW, hsame.mono (by decide) (by decide)⟩
  · show Steps p.tables e below (s₁.setTop (mkF m 0 #[.val (.int p65), .val (.int p66)] [])) _
    refine XS.iloadN X0.here hx rfl (hb hby d2_0) rfl ?_
    show Steps p.tables e below (s₁.setTop (mkF m 1 #[.val (.int p65), .val (.int p66)] [(.int p66)])) _
    refine XS.ifNo X0.here hx rfl (hb hby d2_1) rfl ((if0 _ _).trans (feq H0).1) ?_
    show Steps p.tables e below (s₁.setTop (mkF m 4 #[.val (.int p65), .val (.int p66)] [])) _
    refine XS.iloadN X0.here hx rfl (hb hby d2_4) rfl ?_
    show Steps p.tables e below (s₁.setTop (mkF m 5 #[.val (.int p65), .val (.int p66)] [(.int p65)])) _
    refine XS.ifNo X0.here hx rfl (hb hby d2_5) rfl ((if0 _ _).trans (feq H1).1) ?_
    show Steps p.tables e below (s₁.setTop (mkF m 8 #[.val (.int p65), .val (.int p66)] [])) _
    refine XS.iloadN X0.here hx rfl (hb hby d2_8) rfl ?_
    show Steps p.tables e below (s₁.setTop (mkF m 9 #[.val (.int p65), .val (.int p66)] [(.int p65)])) _
    refine XS.iconst X0.here hx rfl (hb hby d2_9) ?_
    show Steps p.tables e below (s₁.setTop (mkF m 10 #[.val (.int p65), .val (.int p66)] [(.int (1 : Int32)), (.int p65)])) _
    refine XS.icmpYes X0.here hx rfl (pc0 := 10) (pc' := 18) rfl (hb hby d2_10) rfl (teq H2).1 (by decide) (by decide) ?_
    show Steps p.tables e below (s₁.setTop (mkF m 18 #[.val (.int p65), .val (.int p66)] [])) _
    refine st68 _ ?_
    show Steps p.tables e below (T68.setTop (mkF m 21 #[.val (.int p65), .val (.int p66)] [(.ref w67)])) _
    jvm_step X68.here [X68.here.top, hx, (hb hby d2_21), X68.method', Bd.returns, Value.isRef, FieldType.isReference]
    first | (intro acts; rw [hr _ acts rfl rfl rfl]) | rw [hr _ _ rfl rfl rfl]
    exact Steps.refl _
  · show OQp (some (.ref w67)) h0 n0 _ T68.heap _
    rw [e68]
    exact ⟨rfl, N0, rfl⟩
set_option maxRecDepth 65536 in
set_option maxHeartbeats 40000000 in
theorem r0_4 (l : Launch) (Z : State) (a0 : Array Value) (hw : ∀ d ∈ tables_1, d.before a0 Z = true) (p58 : Int32) (p59 : Int32) (w64 : Addr) (w70 : Addr) (w76 : Addr) (h0 : Heap) (n0 : Nat) (Z0 : n0 ≤ h0.size) (H0 : ¬ ((p59 &&& (1 : Int32)) = (0 : Int32))) (H1 : ¬ (((p58 &&& (2147483647 : Int32)) % (7 : Int32)) = (0 : Int32))) (H2 : ((p58 &&& (2147483647 : Int32)) % (7 : Int32)) = (1 : Int32)) (H3 : Sta Z h0 "com/example/transaction_scopes/transactionscopes/Propagation" "SUPPORTS" "Lcom/example/transaction_scopes/transactionscopes/Propagation;" (.ref w64)) (H4 : Sta Z h0 "com/example/transaction_scopes/transactionscopes/Propagation$Conduct" "JOIN" "Lcom/example/transaction_scopes/transactionscopes/Propagation$Conduct;" (.ref w70)) (H5 : Fld Z h0 w64 "com/example/transaction_scopes/transactionscopes/Propagation" "withTransaction" "Lcom/example/transaction_scopes/transactionscopes/Propagation$Conduct;" (.ref w76)) (H6 : Exa Z h0 w64 "com/example/transaction_scopes/transactionscopes/Propagation") (H7 : w76 = w70) :
    OMet l Z x code maxLocals ret tables_1 room_1 h0 #[(.int p58), (.int p59)] (OQl (some (.int (1 : Int32))) n0) := by
  refine MetFree.of_bodySF (plainFor_of_name pn_com_example_transaction_scopes_transactionscopes_PropagationConductPinLaw) hisR ?_
  intro p e s m args below meth c s₁ Bd hml0 hP hK
  obtain ⟨rfl, hZ, hh⟩ := hP
  have hx := Bd.exec
  have hby := Bd.bytes
  have hml : c.maxLocals = 6 := hml0
  have hown : s.vm.findClass "com/example/transaction_scopes/transactionscopes/PropagationConductPinLaw" = some m.cls := findClass_of_methodNamed Bd.named
  have hnm := (name_of_methodNamed Bd.named Bd.method).1
  have X0 : Stand p l e room_1 s m #[(.int p58), (.int p59)] below meth c s₁ [] 0 0 := Stand.of_body Bd
  have e0 : s₁.heap = h0 := by rw [← hh, Bd.state]; rfl
  have N0 := Fr.nil n0
  have pre0 : ∀ t, Steps p.tables e below (s₁.setTop (mkF m 0 #[.val (.int p58), .val (.int p59), .unset, .unset, .unset, .unset] [])) t → Steps p.tables e below (s₁.setTop (entryFrame m #[(.int p58), (.int p59)] maxLocals)) t := fun t k => castTop (ef_0_vv m p58 p59) k
  obtain ⟨_, _, ⟨T63, L63, k63, n63⟩, -, X63, ⟨Lc63, hQ63, l63, y63, z63⟩, st63⟩ := Jvm.LawKit.callS X0 hx (y := (⟨"com/example/transaction_scopes/transactionscopes/PropagationConductPinLaw", "pick", "(I)Lcom/example/transaction_scopes/transactionscopes/Propagation;"⟩ : MethodName)) hown (mvT hZ (hw _ (List.mem_of_getElem? (i := 1) rfl))) (mvT hZ (hw _ (List.mem_of_getElem? (i := 2) rfl))) (mvT hZ (hw _ (List.mem_of_getElem? (i := 3) rfl))) (mvT hZ (hw _ (List.mem_of_getElem? (i := 4) rfl))) (by decide) (backOf (W := 0) (r1_2 l Z a0 hw ((p58 &&& (2147483647 : Int32)) % (7 : Int32)) w64 h0 n0 Z0 H1 H2 H3) hZ (hw _ (List.mem_of_getElem? (i := 4) rfl)) (hw _ (List.mem_of_getElem? (i := 3) rfl)) (by decide) (by decide)) (g := (mkF m 21 #[.val (.int p58), .val (.int p59), .val (.int ((p58 &&& (2147483647 : Int32)) % (7 : Int32))), .val (.int (1 : Int32)), .unset, .unset] [(.int ((p58 &&& (2147483647 : Int32)) % (7 : Int32)))])) rfl (by rw [hml]; rfl) (argsL := [(.int ((p58 &&& (2147483647 : Int32)) % (7 : Int32)))]) (rest := []) (lenOf pd_0 rfl) rfl (by show 2 * 0 + _ ≤ _; exact Nat.le_of_eq rfl) (hb hby at_21) (fun _ _ => ⟨rfl, e0, (by decide : 0 + 0 ≤ _), (by decide : 0 + 0 ≤ _)⟩)
  dsimp only [Pt.U, Pt.locs, Pt.cells, Pt.slots] at X63 l63 y63 z63 st63 hQ63
  subst l63 y63 z63
  obtain ⟨rfl, N63q, e63⟩ := hQ63
  have N63 := Fr.app N0 N63q
  obtain ⟨_, _, ⟨T69, L69, k69, n69⟩, -, X69, ⟨Lc69, hQ69, l69, y69, z69⟩, st69⟩ := Jvm.LawKit.callS X63 hx (y := (⟨"com/example/transaction_scopes/transactionscopes/PropagationConductPinLaw", "expected", "(IZ)Lcom/example/transaction_scopes/transactionscopes/Propagation$Conduct;"⟩ : MethodName)) hown (mvT hZ (hw _ (List.mem_of_getElem? (i := 8) rfl))) (mvT hZ (hw _ (List.mem_of_getElem? (i := 9) rfl))) (mvT hZ (hw _ (List.mem_of_getElem? (i := 3) rfl))) (mvT hZ (hw _ (List.mem_of_getElem? (i := 10) rfl))) (by decide) (backOf (W := 0) (r2_4 l Z a0 hw ((p58 &&& (2147483647 : Int32)) % (7 : Int32)) (1 : Int32) w70 h0 n0 Z0 (by decide) H1 H2 H4) hZ (hw _ (List.mem_of_getElem? (i := 10) rfl)) (hw _ (List.mem_of_getElem? (i := 3) rfl)) (by decide) (by decide)) (g := (mkF m 28 #[.val (.int p58), .val (.int p59), .val (.int ((p58 &&& (2147483647 : Int32)) % (7 : Int32))), .val (.int (1 : Int32)), .val (.ref w64), .unset] [(.int (1 : Int32)), (.int ((p58 &&& (2147483647 : Int32)) % (7 : Int32)))])) rfl (by rw [hml]; rfl) (argsL := [(.int ((p58 &&& (2147483647 : Int32)) % (7 : Int32))), (.int (1 : Int32))]) (rest := []) (lenOf pd_1 rfl) rfl (by show 2 * 0 + _ ≤ _; exact Nat.le_of_eq rfl) (hb hby at_28) (fun _ _ => ⟨rfl, e63, (by decide : 0 + 0 ≤ _), (by decide : 0 + 0 ≤ _)⟩)
  dsimp only [Pt.U, Pt.locs, Pt.cells, Pt.slots] at X69 l69 y69 z69 st69 hQ69
  subst l69 y69 z69
  obtain ⟨rfl, N69q, e69⟩ := hQ69
  have N69 := Fr.app N63 N69q
  obtain ⟨cq75, kq75, q75a, q75b, q75c⟩ := isOf hZ e69 H6
  obtain ⟨_, _, ⟨T75, L75, k75, n75⟩, -, X75, ⟨Lc75, hQ75, l75, y75, z75⟩, st75⟩ := X69.virtualBack hx (y := (⟨"com/example/transaction_scopes/transactionscopes/Propagation", "conduct", "(Z)Lcom/example/transaction_scopes/transactionscopes/Propagation$Conduct;"⟩ : MethodName)) (z := (⟨"com/example/transaction_scopes/transactionscopes/Propagation", "conduct", "(Z)Lcom/example/transaction_scopes/transactionscopes/Propagation$Conduct;"⟩ : MethodName)) hown (mvT hZ (hw _ (List.mem_of_getElem? (i := 14) rfl))) (mvT hZ (hw _ (List.mem_of_getElem? (i := 15) rfl))) (notFace_of_selects (args := #[]) (mvT hZ (hw _ (List.mem_of_getElem? (i := 17) rfl)))) (mvT hZ (hw _ (List.mem_of_getElem? (i := 17) rfl))) (mvT hZ (hw _ (List.mem_of_getElem? (i := 16) rfl))) (by decide) (backOf (W := 0) (r3_2 l Z a0 hw w64 (1 : Int32) w76 h0 n0 Z0 (by decide) H5) hZ (hw _ (List.mem_of_getElem? (i := 18) rfl)) (hw _ (List.mem_of_getElem? (i := 6) rfl)) (by decide) (by decide)) q75a q75c (g := (mkF m 36 #[.val (.int p58), .val (.int p59), .val (.int ((p58 &&& (2147483647 : Int32)) % (7 : Int32))), .val (.int (1 : Int32)), .val (.ref w64), .val (.ref w70)] [(.int (1 : Int32)), (.ref w64)])) rfl (by rw [hml]; rfl) (Steps.refl _) (argsL := [(.int (1 : Int32))]) (rest := []) (lenOf pd_2 rfl) rfl (by show 2 * 0 + _ ≤ _; exact Nat.le_of_eq rfl) (hb hby at_36) (fun _ _ => ⟨rfl, e69, (by decide : 0 + 0 ≤ _), (by decide : 0 + 0 ≤ _)⟩)
  dsimp only [Pt.U, Pt.locs, Pt.cells, Pt.slots] at X75 l75 y75 z75 st75 hQ75
  subst l75 y75 z75
  obtain ⟨rfl, N75q, e75⟩ := hQ75
  have N75 := Fr.app N69 N75q
  obtain ⟨fs, hr, hrun, hended, hW, hsame⟩ := X75.leave (v := some (.int (1 : Int32))) (fun h => by rw [Bd.returns] at h; cases h)
  refine ⟨_, _, pre0 _ ?_, hrun, hended, _, _, rfl, ?_, ⟨_, rfl⟩, hW, hsame.mono (by decide) (by decide)⟩
  · show Steps p.tables e below (s₁.setTop (mkF m 0 #[.val (.int p58), .val (.int p59), .unset, .unset, .unset, .unset] [])) _
    refine XS.iloadN X0.here hx rfl (hb hby at_0) rfl ?_
    show Steps p.tables e below (s₁.setTop (mkF m 1 #[.val (.int p58), .val (.int p59), .unset, .unset, .unset, .unset] [(.int p58)])) _
    refine X0.ldcInt hx hown (mvT hZ (hw _ (List.mem_of_getElem? (i := 0) rfl))) (g := (mkF m 1 #[.val (.int p58), .val (.int p59), .unset, .unset, .unset, .unset] [(.int p58)])) rfl (hb hby at_1) _ ?_
    show Steps p.tables e below (s₁.setTop (mkF m 3 #[.val (.int p58), .val (.int p59), .unset, .unset, .unset, .unset] [(.int (2147483647 : Int32)), (.int p58)])) _
    refine XS.iand X0.here hx rfl (hb hby at_3) rfl ?_
    show Steps p.tables e below (s₁.setTop (mkF m 4 #[.val (.int p58), .val (.int p59), .unset, .unset, .unset, .unset] [(.int (p58 &&& (2147483647 : Int32)))])) _
    refine XS.bipush X0.here hx rfl (hb hby at_4) ?_
    show Steps p.tables e below (s₁.setTop (mkF m 6 #[.val (.int p58), .val (.int p59), .unset, .unset, .unset, .unset] [(.int (7 : Int32)), (.int (p58 &&& (2147483647 : Int32)))])) _
    refine iremM X0 hx rfl (hb hby at_6) rfl (by decide) ?_
    show Steps p.tables e below (s₁.setTop (mkF m 7 #[.val (.int p58), .val (.int p59), .unset, .unset, .unset, .unset] [(.int ((p58 &&& (2147483647 : Int32)) % (7 : Int32)))])) _
    refine XS.istoreN X0.here hx rfl (hb hby at_7) rfl (l' := #[.val (.int p58), .val (.int p59), .val (.int ((p58 &&& (2147483647 : Int32)) % (7 : Int32))), .unset, .unset, .unset]) rfl ?_
    show Steps p.tables e below (s₁.setTop (mkF m 8 #[.val (.int p58), .val (.int p59), .val (.int ((p58 &&& (2147483647 : Int32)) % (7 : Int32))), .unset, .unset, .unset] [])) _
    refine XS.iloadN X0.here hx rfl (hb hby at_8) rfl ?_
    show Steps p.tables e below (s₁.setTop (mkF m 9 #[.val (.int p58), .val (.int p59), .val (.int ((p58 &&& (2147483647 : Int32)) % (7 : Int32))), .unset, .unset, .unset] [(.int p59)])) _
    refine XS.iconst X0.here hx rfl (hb hby at_9) ?_
    show Steps p.tables e below (s₁.setTop (mkF m 10 #[.val (.int p58), .val (.int p59), .val (.int ((p58 &&& (2147483647 : Int32)) % (7 : Int32))), .unset, .unset, .unset] [(.int (1 : Int32)), (.int p59)])) _
    refine XS.iand X0.here hx rfl (hb hby at_10) rfl ?_
    show Steps p.tables e below (s₁.setTop (mkF m 11 #[.val (.int p58), .val (.int p59), .val (.int ((p58 &&& (2147483647 : Int32)) % (7 : Int32))), .unset, .unset, .unset] [(.int (p59 &&& (1 : Int32)))])) _
    refine XS.ifNo X0.here hx rfl (hb hby at_11) rfl ((if0 _ _).trans (feq H0).1) ?_
    show Steps p.tables e below (s₁.setTop (mkF m 14 #[.val (.int p58), .val (.int p59), .val (.int ((p58 &&& (2147483647 : Int32)) % (7 : Int32))), .unset, .unset, .unset] [])) _
    refine XS.iconst X0.here hx rfl (hb hby at_14) ?_
    show Steps p.tables e below (s₁.setTop (mkF m 15 #[.val (.int p58), .val (.int p59), .val (.int ((p58 &&& (2147483647 : Int32)) % (7 : Int32))), .unset, .unset, .unset] [(.int (1 : Int32))])) _
    refine XS.goto X0.here hx rfl (pc0 := 15) (pc' := 19) rfl (hb hby at_15) (by decide) (by decide) ?_
    show Steps p.tables e below (s₁.setTop (mkF m 19 #[.val (.int p58), .val (.int p59), .val (.int ((p58 &&& (2147483647 : Int32)) % (7 : Int32))), .unset, .unset, .unset] [(.int (1 : Int32))])) _
    refine XS.istoreN X0.here hx rfl (hb hby at_19) rfl (l' := #[.val (.int p58), .val (.int p59), .val (.int ((p58 &&& (2147483647 : Int32)) % (7 : Int32))), .val (.int (1 : Int32)), .unset, .unset]) rfl ?_
    show Steps p.tables e below (s₁.setTop (mkF m 20 #[.val (.int p58), .val (.int p59), .val (.int ((p58 &&& (2147483647 : Int32)) % (7 : Int32))), .val (.int (1 : Int32)), .unset, .unset] [])) _
    refine XS.iloadN X0.here hx rfl (hb hby at_20) rfl ?_
    show Steps p.tables e below (s₁.setTop (mkF m 21 #[.val (.int p58), .val (.int p59), .val (.int ((p58 &&& (2147483647 : Int32)) % (7 : Int32))), .val (.int (1 : Int32)), .unset, .unset] [(.int ((p58 &&& (2147483647 : Int32)) % (7 : Int32)))])) _
    refine st63 _ ?_
    show Steps p.tables e below (T63.setTop (mkF m 24 #[.val (.int p58), .val (.int p59), .val (.int ((p58 &&& (2147483647 : Int32)) % (7 : Int32))), .val (.int (1 : Int32)), .unset, .unset] [(.ref w64)])) _
    refine XS.astore X63.here hx rfl (hb hby at_24) rfl rfl (l' := #[.val (.int p58), .val (.int p59), .val (.int ((p58 &&& (2147483647 : Int32)) % (7 : Int32))), .val (.int (1 : Int32)), .val (.ref w64), .unset]) rfl ?_
    show Steps p.tables e below (T63.setTop (mkF m 26 #[.val (.int p58), .val (.int p59), .val (.int ((p58 &&& (2147483647 : Int32)) % (7 : Int32))), .val (.int (1 : Int32)), .val (.ref w64), .unset] [])) _
    refine XS.iloadN X63.here hx rfl (hb hby at_26) rfl ?_
    show Steps p.tables e below (T63.setTop (mkF m 27 #[.val (.int p58), .val (.int p59), .val (.int ((p58 &&& (2147483647 : Int32)) % (7 : Int32))), .val (.int (1 : Int32)), .val (.ref w64), .unset] [(.int ((p58 &&& (2147483647 : Int32)) % (7 : Int32)))])) _
    refine XS.iloadN X63.here hx rfl (hb hby at_27) rfl ?_
    show Steps p.tables e below (T63.setTop (mkF m 28 #[.val (.int p58), .val (.int p59), .val (.int ((p58 &&& (2147483647 : Int32)) % (7 : Int32))), .val (.int (1 : Int32)), .val (.ref w64), .unset] [(.int (1 : Int32)), (.int ((p58 &&& (2147483647 : Int32)) % (7 : Int32)))])) _
    refine st69 _ ?_
    show Steps p.tables e below (T69.setTop (mkF m 31 #[.val (.int p58), .val (.int p59), .val (.int ((p58 &&& (2147483647 : Int32)) % (7 : Int32))), .val (.int (1 : Int32)), .val (.ref w64), .unset] [(.ref w70)])) _
    refine XS.astore X69.here hx rfl (hb hby at_31) rfl rfl (l' := #[.val (.int p58), .val (.int p59), .val (.int ((p58 &&& (2147483647 : Int32)) % (7 : Int32))), .val (.int (1 : Int32)), .val (.ref w64), .val (.ref w70)]) rfl ?_
    show Steps p.tables e below (T69.setTop (mkF m 33 #[.val (.int p58), .val (.int p59), .val (.int ((p58 &&& (2147483647 : Int32)) % (7 : Int32))), .val (.int (1 : Int32)), .val (.ref w64), .val (.ref w70)] [])) _
    refine XS.aload X69.here hx rfl (hb hby at_33) rfl rfl ?_
    show Steps p.tables e below (T69.setTop (mkF m 35 #[.val (.int p58), .val (.int p59), .val (.int ((p58 &&& (2147483647 : Int32)) % (7 : Int32))), .val (.int (1 : Int32)), .val (.ref w64), .val (.ref w70)] [(.ref w64)])) _
    refine XS.iloadN X69.here hx rfl (hb hby at_35) rfl ?_
    show Steps p.tables e below (T69.setTop (mkF m 36 #[.val (.int p58), .val (.int p59), .val (.int ((p58 &&& (2147483647 : Int32)) % (7 : Int32))), .val (.int (1 : Int32)), .val (.ref w64), .val (.ref w70)] [(.int (1 : Int32)), (.ref w64)])) _
    refine st75.trans ?_
    show Steps p.tables e below (T75.setTop (mkF m 39 #[.val (.int p58), .val (.int p59), .val (.int ((p58 &&& (2147483647 : Int32)) % (7 : Int32))), .val (.int (1 : Int32)), .val (.ref w64), .val (.ref w70)] [(.ref w76)])) _
    refine XS.aload X75.here hx rfl (hb hby at_39) rfl rfl ?_
    show Steps p.tables e below (T75.setTop (mkF m 41 #[.val (.int p58), .val (.int p59), .val (.int ((p58 &&& (2147483647 : Int32)) % (7 : Int32))), .val (.int (1 : Int32)), .val (.ref w64), .val (.ref w70)] [(.ref w70), (.ref w76)])) _
    refine Jvm.RoadKit.acmp (g := (mkF m 41 #[.val (.int p58), .val (.int p59), .val (.int ((p58 &&& (2147483647 : Int32)) % (7 : Int32))), .val (.int (1 : Int32)), .val (.ref w64), .val (.ref w70)] [(.ref w70), (.ref w76)])) X75 hx rfl rfl rfl (pc0 := 41) (pc' := 44) (same := true) rfl (hb hby at_41) rfl (decide_eq_true (congrArg Value.ref H7)) (by decide) (by decide) ?_
    show Steps p.tables e below (T75.setTop (mkF m 44 #[.val (.int p58), .val (.int p59), .val (.int ((p58 &&& (2147483647 : Int32)) % (7 : Int32))), .val (.int (1 : Int32)), .val (.ref w64), .val (.ref w70)] [])) _
    refine XS.iconst X75.here hx rfl (hb hby at_44) ?_
    show Steps p.tables e below (T75.setTop (mkF m 45 #[.val (.int p58), .val (.int p59), .val (.int ((p58 &&& (2147483647 : Int32)) % (7 : Int32))), .val (.int (1 : Int32)), .val (.ref w64), .val (.ref w70)] [(.int (1 : Int32))])) _
    refine XS.goto X75.here hx rfl (pc0 := 45) (pc' := 49) rfl (hb hby at_45) (by decide) (by decide) ?_
    show Steps p.tables e below (T75.setTop (mkF m 49 #[.val (.int p58), .val (.int p59), .val (.int ((p58 &&& (2147483647 : Int32)) % (7 : Int32))), .val (.int (1 : Int32)), .val (.ref w64), .val (.ref w70)] [(.int (1 : Int32))])) _
    exact retN X75 hx (t := .boolean) Bd.returns (by simp) (hb hby at_49) hr
  · show OQl (some (.int (1 : Int32))) n0 _ T75.heap _
    exact ⟨rfl, N75⟩
theorem d1_17 : decode method_2_code 17 = .ok (.iload_n 0, 1) := by decide +kernel
theorem d1_18 : decode method_2_code 18 = .ok (.iconst 2, 1) := by decide +kernel
theorem d1_19 : decode method_2_code 19 = .ok (.if_icmp .ne 7, 3) := by decide +kernel
theorem d1_22 : decode method_2_code 22 = .ok (.getstatic 16, 3) := by decide +kernel
theorem d1_25 : decode method_2_code 25 = .ok (.areturn, 1) := by decide +kernel
set_option maxRecDepth 65536 in
set_option maxHeartbeats 40000000 in
theorem r1_3 (l : Launch) (Z : State) (a0 : Array Value) (hw : ∀ d ∈ tables_1, d.before a0 Z = true) (p79 : Int32) (w80 : Addr) (h0 : Heap) (n0 : Nat) (Z0 : n0 ≤ h0.size) (H0 : ¬ (p79 = (0 : Int32))) (H1 : ¬ (p79 = (1 : Int32))) (H2 : p79 = (2 : Int32)) (H3 : Sta Z h0 "com/example/transaction_scopes/transactionscopes/Propagation" "MANDATORY" "Lcom/example/transaction_scopes/transactionscopes/Propagation;" (.ref w80)) :
    OMet l Z (⟨"com/example/transaction_scopes/transactionscopes/PropagationConductPinLaw", "pick", "(I)Lcom/example/transaction_scopes/transactionscopes/Propagation;"⟩ : MethodName) method_2_code 1 (some (.object "com/example/transaction_scopes/transactionscopes/Propagation")) [] ({ frames := 0, cells := 0, slots := 0, locals := 0 } : Room) h0 #[(.int p79)] (OQp (some (.ref w80)) h0 n0) := by
  refine MetFree.of_bodySF (plainFor_of_name pn_com_example_transaction_scopes_transactionscopes_PropagationConductPinLaw) hisR ?_
  intro p e s m args below meth c s₁ Bd hml0 hP hK
  obtain ⟨rfl, hZ, hh⟩ := hP
  have hx := Bd.exec
  have hby := Bd.bytes
  have hml : c.maxLocals = 1 := hml0
  have hown : s.vm.findClass "com/example/transaction_scopes/transactionscopes/PropagationConductPinLaw" = some m.cls := findClass_of_methodNamed Bd.named
  have hnm := (name_of_methodNamed Bd.named Bd.method).1
  have X0 : Stand p l e ({ frames := 0, cells := 0, slots := 0, locals := 0 } : Room) s m #[(.int p79)] below meth c s₁ [] 0 0 := Stand.of_body Bd
  have e0 : s₁.heap = h0 := by rw [← hh, Bd.state]; rfl
  have N0 := Fr.nil n0
  have pre0 : ∀ t, Steps p.tables e below (s₁.setTop (mkF m 0 #[.val (.int p79)] [])) t → Steps p.tables e below (s₁.setTop (entryFrame m #[(.int p79)] 1)) t := fun t k => castTop (ef_1_v m p79) k
  obtain ⟨T81, X81, e81, st81⟩ := getS2 X0 hx hZ hown (host := "") (Or.inl (hw _ (List.mem_of_getElem? (i := 39) rfl))) Via.refl e0 H3 (g := (mkF m 22 #[.val (.int p79)] [])) rfl (hb hby d1_22)
  obtain ⟨fs, hr, hrun, hended, hW, hsame⟩ := X81.leave (v := some (.ref w80)) (fun h => by rw [Bd.returns] at h; cases h)
  refine ⟨_, _, pre0 _ ?_, hrun, hended, _, _, rfl, ?_, ⟨_, rfl⟩, hW, hsame.mono (by decide) (by decide)⟩
  · show Steps p.tables e below (s₁.setTop (mkF m 0 #[.val (.int p79)] [])) _
    refine XS.iloadN X0.here hx rfl (hb hby d1_0) rfl ?_
    show Steps p.tables e below (s₁.setTop (mkF m 1 #[.val (.int p79)] [(.int p79)])) _
    refine XS.ifYes X0.here hx rfl (pc0 := 1) (pc' := 8) rfl (hb hby d1_1) rfl ((if0 _ _).trans (feq H0).2) (by decide) (by decide) ?_
    show Steps p.tables e below (s₁.setTop (mkF m 8 #[.val (.int p79)] [])) _
    refine XS.iloadN X0.here hx rfl (hb hby d1_8) rfl ?_
    show Steps p.tables e below (s₁.setTop (mkF m 9 #[.val (.int p79)] [(.int p79)])) _
    refine XS.iconst X0.here hx rfl (hb hby d1_9) ?_
    show Steps p.tables e below (s₁.setTop (mkF m 10 #[.val (.int p79)] [(.int (1 : Int32)), (.int p79)])) _
    refine XS.icmpYes X0.here hx rfl (pc0 := 10) (pc' := 17) rfl (hb hby d1_10) rfl (feq H1).2 (by decide) (by decide) ?_
    show Steps p.tables e below (s₁.setTop (mkF m 17 #[.val (.int p79)] [])) _
    refine XS.iloadN X0.here hx rfl (hb hby d1_17) rfl ?_
    show Steps p.tables e below (s₁.setTop (mkF m 18 #[.val (.int p79)] [(.int p79)])) _
    refine XS.iconst X0.here hx rfl (hb hby d1_18) ?_
    show Steps p.tables e below (s₁.setTop (mkF m 19 #[.val (.int p79)] [(.int (2 : Int32)), (.int p79)])) _
    refine XS.icmpNo X0.here hx rfl (hb hby d1_19) rfl (teq H2).2 ?_
    show Steps p.tables e below (s₁.setTop (mkF m 22 #[.val (.int p79)] [])) _
    refine st81 _ ?_
    show Steps p.tables e below (T81.setTop (mkF m 25 #[.val (.int p79)] [(.ref w80)])) _
    jvm_step X81.here [X81.here.top, hx, (hb hby d1_25), X81.method', Bd.returns, Value.isRef, FieldType.isReference]
    first | (intro acts; rw [hr _ acts rfl rfl rfl]) | rw [hr _ _ rfl rfl rfl]
    exact Steps.refl _
  · show OQp (some (.ref w80)) h0 n0 _ T81.heap _
    rw [e81]
    exact ⟨rfl, N0, rfl⟩
theorem d2_77 : decode method_3_code 77 = .ok (.getstatic 43, 3) := by decide +kernel
theorem d2_80 : decode method_3_code 80 = .ok (.areturn, 1) := by decide +kernel
set_option maxRecDepth 65536 in
set_option maxHeartbeats 40000000 in
theorem r2_5 (l : Launch) (Z : State) (a0 : Array Value) (hw : ∀ d ∈ tables_1, d.before a0 Z = true) (p84 : Int32) (p85 : Int32) (w86 : Addr) (h0 : Heap) (n0 : Nat) (Z0 : n0 ≤ h0.size) (H0 : p85 = (0 : Int32)) (H1 : ¬ (p84 = (0 : Int32))) (H2 : ¬ (p84 = (3 : Int32))) (H3 : ¬ (p84 = (6 : Int32))) (H4 : p84 = (2 : Int32)) (H5 : Sta Z h0 "com/example/transaction_scopes/transactionscopes/Propagation$Conduct" "REFUSE" "Lcom/example/transaction_scopes/transactionscopes/Propagation$Conduct;" (.ref w86)) :
    OMet l Z (⟨"com/example/transaction_scopes/transactionscopes/PropagationConductPinLaw", "expected", "(IZ)Lcom/example/transaction_scopes/transactionscopes/Propagation$Conduct;"⟩ : MethodName) method_3_code 2 (some (.object "com/example/transaction_scopes/transactionscopes/Propagation$Conduct")) [] ({ frames := 0, cells := 0, slots := 0, locals := 0 } : Room) h0 #[(.int p84), (.int p85)] (OQp (some (.ref w86)) h0 n0) := by
  refine MetFree.of_bodySF (plainFor_of_name pn_com_example_transaction_scopes_transactionscopes_PropagationConductPinLaw) hisR ?_
  intro p e s m args below meth c s₁ Bd hml0 hP hK
  obtain ⟨rfl, hZ, hh⟩ := hP
  have hx := Bd.exec
  have hby := Bd.bytes
  have hml : c.maxLocals = 2 := hml0
  have hown : s.vm.findClass "com/example/transaction_scopes/transactionscopes/PropagationConductPinLaw" = some m.cls := findClass_of_methodNamed Bd.named
  have hnm := (name_of_methodNamed Bd.named Bd.method).1
  have X0 : Stand p l e ({ frames := 0, cells := 0, slots := 0, locals := 0 } : Room) s m #[(.int p84), (.int p85)] below meth c s₁ [] 0 0 := Stand.of_body Bd
  have e0 : s₁.heap = h0 := by rw [← hh, Bd.state]; rfl
  have N0 := Fr.nil n0
  have pre0 : ∀ t, Steps p.tables e below (s₁.setTop (mkF m 0 #[.val (.int p84), .val (.int p85)] [])) t → Steps p.tables e below (s₁.setTop (entryFrame m #[(.int p84), (.int p85)] 2)) t := fun t k => castTop (ef_2_vv m p84 p85) k
  obtain ⟨T87, X87, e87, st87⟩ := getS2 X0 hx hZ hown (host := "") (Or.inl (hw _ (List.mem_of_getElem? (i := 37) rfl))) Via.refl e0 H5 (g := (mkF m 77 #[.val (.int p84), .val (.int p85)] [])) rfl (hb hby d2_77)
  obtain ⟨fs, hr, hrun, hended, hW, hsame⟩ := X87.leave (v := some (.ref w86)) (fun h => by rw [Bd.returns] at h; cases h)
  refine ⟨_, _, pre0 _ ?_, hrun, hended, _, _, rfl, ?_, ⟨_, rfl⟩, hW, hsame.mono (by decide) (by decide)⟩
  · show Steps p.tables e below (s₁.setTop (mkF m 0 #[.val (.int p84), .val (.int p85)] [])) _
    refine XS.iloadN X0.here hx rfl (hb hby d2_0) rfl ?_
    show Steps p.tables e below (s₁.setTop (mkF m 1 #[.val (.int p84), .val (.int p85)] [(.int p85)])) _
    refine XS.ifYes X0.here hx rfl (pc0 := 1) (pc' := 53) rfl (hb hby d2_1) rfl ((if0 _ _).trans (teq H0).1) (by decide) (by decide) ?_
    show Steps p.tables e below (s₁.setTop (mkF m 53 #[.val (.int p84), .val (.int p85)] [])) _
    refine XS.iloadN X0.here hx rfl (hb hby d2_53) rfl ?_
    show Steps p.tables e below (s₁.setTop (mkF m 54 #[.val (.int p84), .val (.int p85)] [(.int p84)])) _
    refine XS.ifNo X0.here hx rfl (hb hby d2_54) rfl ((if0 _ _).trans (feq H1).1) ?_
    show Steps p.tables e below (s₁.setTop (mkF m 57 #[.val (.int p84), .val (.int p85)] [])) _
    refine XS.iloadN X0.here hx rfl (hb hby d2_57) rfl ?_
    show Steps p.tables e below (s₁.setTop (mkF m 58 #[.val (.int p84), .val (.int p85)] [(.int p84)])) _
    refine XS.iconst X0.here hx rfl (hb hby d2_58) ?_
    show Steps p.tables e below (s₁.setTop (mkF m 59 #[.val (.int p84), .val (.int p85)] [(.int (3 : Int32)), (.int p84)])) _
    refine XS.icmpNo X0.here hx rfl (hb hby d2_59) rfl (feq H2).1 ?_
    show Steps p.tables e below (s₁.setTop (mkF m 62 #[.val (.int p84), .val (.int p85)] [])) _
    refine XS.iloadN X0.here hx rfl (hb hby d2_62) rfl ?_
    show Steps p.tables e below (s₁.setTop (mkF m 63 #[.val (.int p84), .val (.int p85)] [(.int p84)])) _
    refine XS.bipush X0.here hx rfl (hb hby d2_63) ?_
    show Steps p.tables e below (s₁.setTop (mkF m 65 #[.val (.int p84), .val (.int p85)] [(.int (6 : Int32)), (.int p84)])) _
    refine XS.icmpYes X0.here hx rfl (pc0 := 65) (pc' := 72) rfl (hb hby d2_65) rfl (feq H3).2 (by decide) (by decide) ?_
    show Steps p.tables e below (s₁.setTop (mkF m 72 #[.val (.int p84), .val (.int p85)] [])) _
    refine XS.iloadN X0.here hx rfl (hb hby d2_72) rfl ?_
    show Steps p.tables e below (s₁.setTop (mkF m 73 #[.val (.int p84), .val (.int p85)] [(.int p84)])) _
    refine XS.iconst X0.here hx rfl (hb hby d2_73) ?_
    show Steps p.tables e below (s₁.setTop (mkF m 74 #[.val (.int p84), .val (.int p85)] [(.int (2 : Int32)), (.int p84)])) _
    refine XS.icmpNo X0.here hx rfl (hb hby d2_74) rfl (teq H4).2 ?_
    show Steps p.tables e below (s₁.setTop (mkF m 77 #[.val (.int p84), .val (.int p85)] [])) _
    refine st87 _ ?_
    show Steps p.tables e below (T87.setTop (mkF m 80 #[.val (.int p84), .val (.int p85)] [(.ref w86)])) _
    jvm_step X87.here [X87.here.top, hx, (hb hby d2_80), X87.method', Bd.returns, Value.isRef, FieldType.isReference]
    first | (intro acts; rw [hr _ acts rfl rfl rfl]) | rw [hr _ _ rfl rfl rfl]
    exact Steps.refl _
  · show OQp (some (.ref w86)) h0 n0 _ T87.heap _
    rw [e87]
    exact ⟨rfl, N0, rfl⟩
set_option maxRecDepth 65536 in
set_option maxHeartbeats 40000000 in
theorem r0_5 (l : Launch) (Z : State) (a0 : Array Value) (hw : ∀ d ∈ tables_1, d.before a0 Z = true) (p77 : Int32) (p78 : Int32) (w83 : Addr) (w89 : Addr) (w95 : Addr) (h0 : Heap) (n0 : Nat) (Z0 : n0 ≤ h0.size) (H0 : (p78 &&& (1 : Int32)) = (0 : Int32)) (H1 : ¬ (((p77 &&& (2147483647 : Int32)) % (7 : Int32)) = (0 : Int32))) (H2 : ¬ (((p77 &&& (2147483647 : Int32)) % (7 : Int32)) = (1 : Int32))) (H3 : ((p77 &&& (2147483647 : Int32)) % (7 : Int32)) = (2 : Int32)) (H4 : Sta Z h0 "com/example/transaction_scopes/transactionscopes/Propagation" "MANDATORY" "Lcom/example/transaction_scopes/transactionscopes/Propagation;" (.ref w83)) (H5 : ¬ (((p77 &&& (2147483647 : Int32)) % (7 : Int32)) = (3 : Int32))) (H6 : ¬ (((p77 &&& (2147483647 : Int32)) % (7 : Int32)) = (6 : Int32))) (H7 : Sta Z h0 "com/example/transaction_scopes/transactionscopes/Propagation$Conduct" "REFUSE" "Lcom/example/transaction_scopes/transactionscopes/Propagation$Conduct;" (.ref w89)) (H8 : Fld Z h0 w83 "com/example/transaction_scopes/transactionscopes/Propagation" "withoutTransaction" "Lcom/example/transaction_scopes/transactionscopes/Propagation$Conduct;" (.ref w95)) (H9 : Exa Z h0 w83 "com/example/transaction_scopes/transactionscopes/Propagation") (H10 : w95 = w89) :
    OMet l Z x code maxLocals ret tables_1 room_1 h0 #[(.int p77), (.int p78)] (OQl (some (.int (1 : Int32))) n0) := by
  refine MetFree.of_bodySF (plainFor_of_name pn_com_example_transaction_scopes_transactionscopes_PropagationConductPinLaw) hisR ?_
  intro p e s m args below meth c s₁ Bd hml0 hP hK
  obtain ⟨rfl, hZ, hh⟩ := hP
  have hx := Bd.exec
  have hby := Bd.bytes
  have hml : c.maxLocals = 6 := hml0
  have hown : s.vm.findClass "com/example/transaction_scopes/transactionscopes/PropagationConductPinLaw" = some m.cls := findClass_of_methodNamed Bd.named
  have hnm := (name_of_methodNamed Bd.named Bd.method).1
  have X0 : Stand p l e room_1 s m #[(.int p77), (.int p78)] below meth c s₁ [] 0 0 := Stand.of_body Bd
  have e0 : s₁.heap = h0 := by rw [← hh, Bd.state]; rfl
  have N0 := Fr.nil n0
  have pre0 : ∀ t, Steps p.tables e below (s₁.setTop (mkF m 0 #[.val (.int p77), .val (.int p78), .unset, .unset, .unset, .unset] [])) t → Steps p.tables e below (s₁.setTop (entryFrame m #[(.int p77), (.int p78)] maxLocals)) t := fun t k => castTop (ef_0_vv m p77 p78) k
  obtain ⟨_, _, ⟨T82, L82, k82, n82⟩, -, X82, ⟨Lc82, hQ82, l82, y82, z82⟩, st82⟩ := Jvm.LawKit.callS X0 hx (y := (⟨"com/example/transaction_scopes/transactionscopes/PropagationConductPinLaw", "pick", "(I)Lcom/example/transaction_scopes/transactionscopes/Propagation;"⟩ : MethodName)) hown (mvT hZ (hw _ (List.mem_of_getElem? (i := 1) rfl))) (mvT hZ (hw _ (List.mem_of_getElem? (i := 2) rfl))) (mvT hZ (hw _ (List.mem_of_getElem? (i := 3) rfl))) (mvT hZ (hw _ (List.mem_of_getElem? (i := 4) rfl))) (by decide) (backOf (W := 0) (r1_3 l Z a0 hw ((p77 &&& (2147483647 : Int32)) % (7 : Int32)) w83 h0 n0 Z0 H1 H2 H3 H4) hZ (hw _ (List.mem_of_getElem? (i := 4) rfl)) (hw _ (List.mem_of_getElem? (i := 3) rfl)) (by decide) (by decide)) (g := (mkF m 21 #[.val (.int p77), .val (.int p78), .val (.int ((p77 &&& (2147483647 : Int32)) % (7 : Int32))), .val (.int (0 : Int32)), .unset, .unset] [(.int ((p77 &&& (2147483647 : Int32)) % (7 : Int32)))])) rfl (by rw [hml]; rfl) (argsL := [(.int ((p77 &&& (2147483647 : Int32)) % (7 : Int32)))]) (rest := []) (lenOf pd_0 rfl) rfl (by show 2 * 0 + _ ≤ _; exact Nat.le_of_eq rfl) (hb hby at_21) (fun _ _ => ⟨rfl, e0, (by decide : 0 + 0 ≤ _), (by decide : 0 + 0 ≤ _)⟩)
  dsimp only [Pt.U, Pt.locs, Pt.cells, Pt.slots] at X82 l82 y82 z82 st82 hQ82
  subst l82 y82 z82
  obtain ⟨rfl, N82q, e82⟩ := hQ82
  have N82 := Fr.app N0 N82q
  obtain ⟨_, _, ⟨T88, L88, k88, n88⟩, -, X88, ⟨Lc88, hQ88, l88, y88, z88⟩, st88⟩ := Jvm.LawKit.callS X82 hx (y := (⟨"com/example/transaction_scopes/transactionscopes/PropagationConductPinLaw", "expected", "(IZ)Lcom/example/transaction_scopes/transactionscopes/Propagation$Conduct;"⟩ : MethodName)) hown (mvT hZ (hw _ (List.mem_of_getElem? (i := 8) rfl))) (mvT hZ (hw _ (List.mem_of_getElem? (i := 9) rfl))) (mvT hZ (hw _ (List.mem_of_getElem? (i := 3) rfl))) (mvT hZ (hw _ (List.mem_of_getElem? (i := 10) rfl))) (by decide) (backOf (W := 0) (r2_5 l Z a0 hw ((p77 &&& (2147483647 : Int32)) % (7 : Int32)) (0 : Int32) w89 h0 n0 Z0 rfl H1 H5 H6 H3 H7) hZ (hw _ (List.mem_of_getElem? (i := 10) rfl)) (hw _ (List.mem_of_getElem? (i := 3) rfl)) (by decide) (by decide)) (g := (mkF m 28 #[.val (.int p77), .val (.int p78), .val (.int ((p77 &&& (2147483647 : Int32)) % (7 : Int32))), .val (.int (0 : Int32)), .val (.ref w83), .unset] [(.int (0 : Int32)), (.int ((p77 &&& (2147483647 : Int32)) % (7 : Int32)))])) rfl (by rw [hml]; rfl) (argsL := [(.int ((p77 &&& (2147483647 : Int32)) % (7 : Int32))), (.int (0 : Int32))]) (rest := []) (lenOf pd_1 rfl) rfl (by show 2 * 0 + _ ≤ _; exact Nat.le_of_eq rfl) (hb hby at_28) (fun _ _ => ⟨rfl, e82, (by decide : 0 + 0 ≤ _), (by decide : 0 + 0 ≤ _)⟩)
  dsimp only [Pt.U, Pt.locs, Pt.cells, Pt.slots] at X88 l88 y88 z88 st88 hQ88
  subst l88 y88 z88
  obtain ⟨rfl, N88q, e88⟩ := hQ88
  have N88 := Fr.app N82 N88q
  obtain ⟨cq94, kq94, q94a, q94b, q94c⟩ := isOf hZ e88 H9
  obtain ⟨_, _, ⟨T94, L94, k94, n94⟩, -, X94, ⟨Lc94, hQ94, l94, y94, z94⟩, st94⟩ := X88.virtualBack hx (y := (⟨"com/example/transaction_scopes/transactionscopes/Propagation", "conduct", "(Z)Lcom/example/transaction_scopes/transactionscopes/Propagation$Conduct;"⟩ : MethodName)) (z := (⟨"com/example/transaction_scopes/transactionscopes/Propagation", "conduct", "(Z)Lcom/example/transaction_scopes/transactionscopes/Propagation$Conduct;"⟩ : MethodName)) hown (mvT hZ (hw _ (List.mem_of_getElem? (i := 14) rfl))) (mvT hZ (hw _ (List.mem_of_getElem? (i := 15) rfl))) (notFace_of_selects (args := #[]) (mvT hZ (hw _ (List.mem_of_getElem? (i := 17) rfl)))) (mvT hZ (hw _ (List.mem_of_getElem? (i := 17) rfl))) (mvT hZ (hw _ (List.mem_of_getElem? (i := 16) rfl))) (by decide) (backOf (W := 0) (r3_1 l Z a0 hw w83 (0 : Int32) w95 h0 n0 Z0 rfl H8) hZ (hw _ (List.mem_of_getElem? (i := 18) rfl)) (hw _ (List.mem_of_getElem? (i := 6) rfl)) (by decide) (by decide)) q94a q94c (g := (mkF m 36 #[.val (.int p77), .val (.int p78), .val (.int ((p77 &&& (2147483647 : Int32)) % (7 : Int32))), .val (.int (0 : Int32)), .val (.ref w83), .val (.ref w89)] [(.int (0 : Int32)), (.ref w83)])) rfl (by rw [hml]; rfl) (Steps.refl _) (argsL := [(.int (0 : Int32))]) (rest := []) (lenOf pd_2 rfl) rfl (by show 2 * 0 + _ ≤ _; exact Nat.le_of_eq rfl) (hb hby at_36) (fun _ _ => ⟨rfl, e88, (by decide : 0 + 0 ≤ _), (by decide : 0 + 0 ≤ _)⟩)
  dsimp only [Pt.U, Pt.locs, Pt.cells, Pt.slots] at X94 l94 y94 z94 st94 hQ94
  subst l94 y94 z94
  obtain ⟨rfl, N94q, e94⟩ := hQ94
  have N94 := Fr.app N88 N94q
  obtain ⟨fs, hr, hrun, hended, hW, hsame⟩ := X94.leave (v := some (.int (1 : Int32))) (fun h => by rw [Bd.returns] at h; cases h)
  refine ⟨_, _, pre0 _ ?_, hrun, hended, _, _, rfl, ?_, ⟨_, rfl⟩, hW, hsame.mono (by decide) (by decide)⟩
  · show Steps p.tables e below (s₁.setTop (mkF m 0 #[.val (.int p77), .val (.int p78), .unset, .unset, .unset, .unset] [])) _
    refine XS.iloadN X0.here hx rfl (hb hby at_0) rfl ?_
    show Steps p.tables e below (s₁.setTop (mkF m 1 #[.val (.int p77), .val (.int p78), .unset, .unset, .unset, .unset] [(.int p77)])) _
    refine X0.ldcInt hx hown (mvT hZ (hw _ (List.mem_of_getElem? (i := 0) rfl))) (g := (mkF m 1 #[.val (.int p77), .val (.int p78), .unset, .unset, .unset, .unset] [(.int p77)])) rfl (hb hby at_1) _ ?_
    show Steps p.tables e below (s₁.setTop (mkF m 3 #[.val (.int p77), .val (.int p78), .unset, .unset, .unset, .unset] [(.int (2147483647 : Int32)), (.int p77)])) _
    refine XS.iand X0.here hx rfl (hb hby at_3) rfl ?_
    show Steps p.tables e below (s₁.setTop (mkF m 4 #[.val (.int p77), .val (.int p78), .unset, .unset, .unset, .unset] [(.int (p77 &&& (2147483647 : Int32)))])) _
    refine XS.bipush X0.here hx rfl (hb hby at_4) ?_
    show Steps p.tables e below (s₁.setTop (mkF m 6 #[.val (.int p77), .val (.int p78), .unset, .unset, .unset, .unset] [(.int (7 : Int32)), (.int (p77 &&& (2147483647 : Int32)))])) _
    refine iremM X0 hx rfl (hb hby at_6) rfl (by decide) ?_
    show Steps p.tables e below (s₁.setTop (mkF m 7 #[.val (.int p77), .val (.int p78), .unset, .unset, .unset, .unset] [(.int ((p77 &&& (2147483647 : Int32)) % (7 : Int32)))])) _
    refine XS.istoreN X0.here hx rfl (hb hby at_7) rfl (l' := #[.val (.int p77), .val (.int p78), .val (.int ((p77 &&& (2147483647 : Int32)) % (7 : Int32))), .unset, .unset, .unset]) rfl ?_
    show Steps p.tables e below (s₁.setTop (mkF m 8 #[.val (.int p77), .val (.int p78), .val (.int ((p77 &&& (2147483647 : Int32)) % (7 : Int32))), .unset, .unset, .unset] [])) _
    refine XS.iloadN X0.here hx rfl (hb hby at_8) rfl ?_
    show Steps p.tables e below (s₁.setTop (mkF m 9 #[.val (.int p77), .val (.int p78), .val (.int ((p77 &&& (2147483647 : Int32)) % (7 : Int32))), .unset, .unset, .unset] [(.int p78)])) _
    refine XS.iconst X0.here hx rfl (hb hby at_9) ?_
    show Steps p.tables e below (s₁.setTop (mkF m 10 #[.val (.int p77), .val (.int p78), .val (.int ((p77 &&& (2147483647 : Int32)) % (7 : Int32))), .unset, .unset, .unset] [(.int (1 : Int32)), (.int p78)])) _
    refine XS.iand X0.here hx rfl (hb hby at_10) rfl ?_
    show Steps p.tables e below (s₁.setTop (mkF m 11 #[.val (.int p77), .val (.int p78), .val (.int ((p77 &&& (2147483647 : Int32)) % (7 : Int32))), .unset, .unset, .unset] [(.int (p78 &&& (1 : Int32)))])) _
    refine XS.ifYes X0.here hx rfl (pc0 := 11) (pc' := 18) rfl (hb hby at_11) rfl ((if0 _ _).trans (teq H0).1) (by decide) (by decide) ?_
    show Steps p.tables e below (s₁.setTop (mkF m 18 #[.val (.int p77), .val (.int p78), .val (.int ((p77 &&& (2147483647 : Int32)) % (7 : Int32))), .unset, .unset, .unset] [])) _
    refine XS.iconst X0.here hx rfl (hb hby at_18) ?_
    show Steps p.tables e below (s₁.setTop (mkF m 19 #[.val (.int p77), .val (.int p78), .val (.int ((p77 &&& (2147483647 : Int32)) % (7 : Int32))), .unset, .unset, .unset] [(.int (0 : Int32))])) _
    refine XS.istoreN X0.here hx rfl (hb hby at_19) rfl (l' := #[.val (.int p77), .val (.int p78), .val (.int ((p77 &&& (2147483647 : Int32)) % (7 : Int32))), .val (.int (0 : Int32)), .unset, .unset]) rfl ?_
    show Steps p.tables e below (s₁.setTop (mkF m 20 #[.val (.int p77), .val (.int p78), .val (.int ((p77 &&& (2147483647 : Int32)) % (7 : Int32))), .val (.int (0 : Int32)), .unset, .unset] [])) _
    refine XS.iloadN X0.here hx rfl (hb hby at_20) rfl ?_
    show Steps p.tables e below (s₁.setTop (mkF m 21 #[.val (.int p77), .val (.int p78), .val (.int ((p77 &&& (2147483647 : Int32)) % (7 : Int32))), .val (.int (0 : Int32)), .unset, .unset] [(.int ((p77 &&& (2147483647 : Int32)) % (7 : Int32)))])) _
    refine st82 _ ?_
    show Steps p.tables e below (T82.setTop (mkF m 24 #[.val (.int p77), .val (.int p78), .val (.int ((p77 &&& (2147483647 : Int32)) % (7 : Int32))), .val (.int (0 : Int32)), .unset, .unset] [(.ref w83)])) _
    refine XS.astore X82.here hx rfl (hb hby at_24) rfl rfl (l' := #[.val (.int p77), .val (.int p78), .val (.int ((p77 &&& (2147483647 : Int32)) % (7 : Int32))), .val (.int (0 : Int32)), .val (.ref w83), .unset]) rfl ?_
    show Steps p.tables e below (T82.setTop (mkF m 26 #[.val (.int p77), .val (.int p78), .val (.int ((p77 &&& (2147483647 : Int32)) % (7 : Int32))), .val (.int (0 : Int32)), .val (.ref w83), .unset] [])) _
    refine XS.iloadN X82.here hx rfl (hb hby at_26) rfl ?_
    show Steps p.tables e below (T82.setTop (mkF m 27 #[.val (.int p77), .val (.int p78), .val (.int ((p77 &&& (2147483647 : Int32)) % (7 : Int32))), .val (.int (0 : Int32)), .val (.ref w83), .unset] [(.int ((p77 &&& (2147483647 : Int32)) % (7 : Int32)))])) _
    refine XS.iloadN X82.here hx rfl (hb hby at_27) rfl ?_
    show Steps p.tables e below (T82.setTop (mkF m 28 #[.val (.int p77), .val (.int p78), .val (.int ((p77 &&& (2147483647 : Int32)) % (7 : Int32))), .val (.int (0 : Int32)), .val (.ref w83), .unset] [(.int (0 : Int32)), (.int ((p77 &&& (2147483647 : Int32)) % (7 : Int32)))])) _
    refine st88 _ ?_
    show Steps p.tables e below (T88.setTop (mkF m 31 #[.val (.int p77), .val (.int p78), .val (.int ((p77 &&& (2147483647 : Int32)) % (7 : Int32))), .val (.int (0 : Int32)), .val (.ref w83), .unset] [(.ref w89)])) _
    refine XS.astore X88.here hx rfl (hb hby at_31) rfl rfl (l' := #[.val (.int p77), .val (.int p78), .val (.int ((p77 &&& (2147483647 : Int32)) % (7 : Int32))), .val (.int (0 : Int32)), .val (.ref w83), .val (.ref w89)]) rfl ?_
    show Steps p.tables e below (T88.setTop (mkF m 33 #[.val (.int p77), .val (.int p78), .val (.int ((p77 &&& (2147483647 : Int32)) % (7 : Int32))), .val (.int (0 : Int32)), .val (.ref w83), .val (.ref w89)] [])) _
    refine XS.aload X88.here hx rfl (hb hby at_33) rfl rfl ?_
    show Steps p.tables e below (T88.setTop (mkF m 35 #[.val (.int p77), .val (.int p78), .val (.int ((p77 &&& (2147483647 : Int32)) % (7 : Int32))), .val (.int (0 : Int32)), .val (.ref w83), .val (.ref w89)] [(.ref w83)])) _
    refine XS.iloadN X88.here hx rfl (hb hby at_35) rfl ?_
    show Steps p.tables e below (T88.setTop (mkF m 36 #[.val (.int p77), .val (.int p78), .val (.int ((p77 &&& (2147483647 : Int32)) % (7 : Int32))), .val (.int (0 : Int32)), .val (.ref w83), .val (.ref w89)] [(.int (0 : Int32)), (.ref w83)])) _
    refine st94.trans ?_
    show Steps p.tables e below (T94.setTop (mkF m 39 #[.val (.int p77), .val (.int p78), .val (.int ((p77 &&& (2147483647 : Int32)) % (7 : Int32))), .val (.int (0 : Int32)), .val (.ref w83), .val (.ref w89)] [(.ref w95)])) _
    refine XS.aload X94.here hx rfl (hb hby at_39) rfl rfl ?_
    show Steps p.tables e below (T94.setTop (mkF m 41 #[.val (.int p77), .val (.int p78), .val (.int ((p77 &&& (2147483647 : Int32)) % (7 : Int32))), .val (.int (0 : Int32)), .val (.ref w83), .val (.ref w89)] [(.ref w89), (.ref w95)])) _
    refine Jvm.RoadKit.acmp (g := (mkF m 41 #[.val (.int p77), .val (.int p78), .val (.int ((p77 &&& (2147483647 : Int32)) % (7 : Int32))), .val (.int (0 : Int32)), .val (.ref w83), .val (.ref w89)] [(.ref w89), (.ref w95)])) X94 hx rfl rfl rfl (pc0 := 41) (pc' := 44) (same := true) rfl (hb hby at_41) rfl (decide_eq_true (congrArg Value.ref H10)) (by decide) (by decide) ?_
    show Steps p.tables e below (T94.setTop (mkF m 44 #[.val (.int p77), .val (.int p78), .val (.int ((p77 &&& (2147483647 : Int32)) % (7 : Int32))), .val (.int (0 : Int32)), .val (.ref w83), .val (.ref w89)] [])) _
    refine XS.iconst X94.here hx rfl (hb hby at_44) ?_
    show Steps p.tables e below (T94.setTop (mkF m 45 #[.val (.int p77), .val (.int p78), .val (.int ((p77 &&& (2147483647 : Int32)) % (7 : Int32))), .val (.int (0 : Int32)), .val (.ref w83), .val (.ref w89)] [(.int (1 : Int32))])) _
    refine XS.goto X94.here hx rfl (pc0 := 45) (pc' := 49) rfl (hb hby at_45) (by decide) (by decide) ?_
    show Steps p.tables e below (T94.setTop (mkF m 49 #[.val (.int p77), .val (.int p78), .val (.int ((p77 &&& (2147483647 : Int32)) % (7 : Int32))), .val (.int (0 : Int32)), .val (.ref w83), .val (.ref w89)] [(.int (1 : Int32))])) _
    exact retN X94 hx (t := .boolean) Bd.returns (by simp) (hb hby at_49) hr
  · show OQl (some (.int (1 : Int32))) n0 _ T94.heap _
    exact ⟨rfl, N94⟩
theorem d2_13 : decode method_3_code 13 = .ok (.iload_n 0, 1) := by decide +kernel
theorem d2_14 : decode method_3_code 14 = .ok (.iconst 2, 1) := by decide +kernel
theorem d2_15 : decode method_3_code 15 = .ok (.if_icmp .ne 7, 3) := by decide +kernel
set_option maxRecDepth 65536 in
set_option maxHeartbeats 40000000 in
theorem r2_6 (l : Launch) (Z : State) (a0 : Array Value) (hw : ∀ d ∈ tables_1, d.before a0 Z = true) (p103 : Int32) (p104 : Int32) (w105 : Addr) (h0 : Heap) (n0 : Nat) (Z0 : n0 ≤ h0.size) (H0 : ¬ (p104 = (0 : Int32))) (H1 : ¬ (p103 = (0 : Int32))) (H2 : ¬ (p103 = (1 : Int32))) (H3 : p103 = (2 : Int32)) (H4 : Sta Z h0 "com/example/transaction_scopes/transactionscopes/Propagation$Conduct" "JOIN" "Lcom/example/transaction_scopes/transactionscopes/Propagation$Conduct;" (.ref w105)) :
    OMet l Z (⟨"com/example/transaction_scopes/transactionscopes/PropagationConductPinLaw", "expected", "(IZ)Lcom/example/transaction_scopes/transactionscopes/Propagation$Conduct;"⟩ : MethodName) method_3_code 2 (some (.object "com/example/transaction_scopes/transactionscopes/Propagation$Conduct")) [] ({ frames := 0, cells := 0, slots := 0, locals := 0 } : Room) h0 #[(.int p103), (.int p104)] (OQp (some (.ref w105)) h0 n0) := by
  refine MetFree.of_bodySF (plainFor_of_name pn_com_example_transaction_scopes_transactionscopes_PropagationConductPinLaw) hisR ?_
  intro p e s m args below meth c s₁ Bd hml0 hP hK
  obtain ⟨rfl, hZ, hh⟩ := hP
  have hx := Bd.exec
  have hby := Bd.bytes
  have hml : c.maxLocals = 2 := hml0
  have hown : s.vm.findClass "com/example/transaction_scopes/transactionscopes/PropagationConductPinLaw" = some m.cls := findClass_of_methodNamed Bd.named
  have hnm := (name_of_methodNamed Bd.named Bd.method).1
  have X0 : Stand p l e ({ frames := 0, cells := 0, slots := 0, locals := 0 } : Room) s m #[(.int p103), (.int p104)] below meth c s₁ [] 0 0 := Stand.of_body Bd
  have e0 : s₁.heap = h0 := by rw [← hh, Bd.state]; rfl
  have N0 := Fr.nil n0
  have pre0 : ∀ t, Steps p.tables e below (s₁.setTop (mkF m 0 #[.val (.int p103), .val (.int p104)] [])) t → Steps p.tables e below (s₁.setTop (entryFrame m #[(.int p103), (.int p104)] 2)) t := fun t k => castTop (ef_2_vv m p103 p104) k
  obtain ⟨T106, X106, e106, st106⟩ := getS2 X0 hx hZ hown (host := "") (Or.inl (hw _ (List.mem_of_getElem? (i := 11) rfl))) Via.refl e0 H4 (g := (mkF m 18 #[.val (.int p103), .val (.int p104)] [])) rfl (hb hby d2_18)
  obtain ⟨fs, hr, hrun, hended, hW, hsame⟩ := X106.leave (v := some (.ref w105)) (fun h => by rw [Bd.returns] at h; cases h)
  refine ⟨_, _, pre0 _ ?_, hrun, hended, _, _, rfl, ?_, ⟨_, rfl⟩, hW, hsame.mono (by decide) (by decide)⟩
  · show Steps p.tables e below (s₁.setTop (mkF m 0 #[.val (.int p103), .val (.int p104)] [])) _
    refine XS.iloadN X0.here hx rfl (hb hby d2_0) rfl ?_
    show Steps p.tables e below (s₁.setTop (mkF m 1 #[.val (.int p103), .val (.int p104)] [(.int p104)])) _
    refine XS.ifNo X0.here hx rfl (hb hby d2_1) rfl ((if0 _ _).trans (feq H0).1) ?_
    show Steps p.tables e below (s₁.setTop (mkF m 4 #[.val (.int p103), .val (.int p104)] [])) _
    refine XS.iloadN X0.here hx rfl (hb hby d2_4) rfl ?_
    show Steps p.tables e below (s₁.setTop (mkF m 5 #[.val (.int p103), .val (.int p104)] [(.int p103)])) _
    refine XS.ifNo X0.here hx rfl (hb hby d2_5) rfl ((if0 _ _).trans (feq H1).1) ?_
    show Steps p.tables e below (s₁.setTop (mkF m 8 #[.val (.int p103), .val (.int p104)] [])) _
    refine XS.iloadN X0.here hx rfl (hb hby d2_8) rfl ?_
    show Steps p.tables e below (s₁.setTop (mkF m 9 #[.val (.int p103), .val (.int p104)] [(.int p103)])) _
    refine XS.iconst X0.here hx rfl (hb hby d2_9) ?_
    show Steps p.tables e below (s₁.setTop (mkF m 10 #[.val (.int p103), .val (.int p104)] [(.int (1 : Int32)), (.int p103)])) _
    refine XS.icmpNo X0.here hx rfl (hb hby d2_10) rfl (feq H2).1 ?_
    show Steps p.tables e below (s₁.setTop (mkF m 13 #[.val (.int p103), .val (.int p104)] [])) _
    refine XS.iloadN X0.here hx rfl (hb hby d2_13) rfl ?_
    show Steps p.tables e below (s₁.setTop (mkF m 14 #[.val (.int p103), .val (.int p104)] [(.int p103)])) _
    refine XS.iconst X0.here hx rfl (hb hby d2_14) ?_
    show Steps p.tables e below (s₁.setTop (mkF m 15 #[.val (.int p103), .val (.int p104)] [(.int (2 : Int32)), (.int p103)])) _
    refine XS.icmpNo X0.here hx rfl (hb hby d2_15) rfl (teq H3).2 ?_
    show Steps p.tables e below (s₁.setTop (mkF m 18 #[.val (.int p103), .val (.int p104)] [])) _
    refine st106 _ ?_
    show Steps p.tables e below (T106.setTop (mkF m 21 #[.val (.int p103), .val (.int p104)] [(.ref w105)])) _
    jvm_step X106.here [X106.here.top, hx, (hb hby d2_21), X106.method', Bd.returns, Value.isRef, FieldType.isReference]
    first | (intro acts; rw [hr _ acts rfl rfl rfl]) | rw [hr _ _ rfl rfl rfl]
    exact Steps.refl _
  · show OQp (some (.ref w105)) h0 n0 _ T106.heap _
    rw [e106]
    exact ⟨rfl, N0, rfl⟩
set_option maxRecDepth 65536 in
set_option maxHeartbeats 40000000 in
theorem r0_6 (l : Launch) (Z : State) (a0 : Array Value) (hw : ∀ d ∈ tables_1, d.before a0 Z = true) (p96 : Int32) (p97 : Int32) (w102 : Addr) (w108 : Addr) (w114 : Addr) (h0 : Heap) (n0 : Nat) (Z0 : n0 ≤ h0.size) (H0 : ¬ ((p97 &&& (1 : Int32)) = (0 : Int32))) (H1 : ¬ (((p96 &&& (2147483647 : Int32)) % (7 : Int32)) = (0 : Int32))) (H2 : ¬ (((p96 &&& (2147483647 : Int32)) % (7 : Int32)) = (1 : Int32))) (H3 : ((p96 &&& (2147483647 : Int32)) % (7 : Int32)) = (2 : Int32)) (H4 : Sta Z h0 "com/example/transaction_scopes/transactionscopes/Propagation" "MANDATORY" "Lcom/example/transaction_scopes/transactionscopes/Propagation;" (.ref w102)) (H5 : Sta Z h0 "com/example/transaction_scopes/transactionscopes/Propagation$Conduct" "JOIN" "Lcom/example/transaction_scopes/transactionscopes/Propagation$Conduct;" (.ref w108)) (H6 : Fld Z h0 w102 "com/example/transaction_scopes/transactionscopes/Propagation" "withTransaction" "Lcom/example/transaction_scopes/transactionscopes/Propagation$Conduct;" (.ref w114)) (H7 : Exa Z h0 w102 "com/example/transaction_scopes/transactionscopes/Propagation") (H8 : w114 = w108) :
    OMet l Z x code maxLocals ret tables_1 room_1 h0 #[(.int p96), (.int p97)] (OQl (some (.int (1 : Int32))) n0) := by
  refine MetFree.of_bodySF (plainFor_of_name pn_com_example_transaction_scopes_transactionscopes_PropagationConductPinLaw) hisR ?_
  intro p e s m args below meth c s₁ Bd hml0 hP hK
  obtain ⟨rfl, hZ, hh⟩ := hP
  have hx := Bd.exec
  have hby := Bd.bytes
  have hml : c.maxLocals = 6 := hml0
  have hown : s.vm.findClass "com/example/transaction_scopes/transactionscopes/PropagationConductPinLaw" = some m.cls := findClass_of_methodNamed Bd.named
  have hnm := (name_of_methodNamed Bd.named Bd.method).1
  have X0 : Stand p l e room_1 s m #[(.int p96), (.int p97)] below meth c s₁ [] 0 0 := Stand.of_body Bd
  have e0 : s₁.heap = h0 := by rw [← hh, Bd.state]; rfl
  have N0 := Fr.nil n0
  have pre0 : ∀ t, Steps p.tables e below (s₁.setTop (mkF m 0 #[.val (.int p96), .val (.int p97), .unset, .unset, .unset, .unset] [])) t → Steps p.tables e below (s₁.setTop (entryFrame m #[(.int p96), (.int p97)] maxLocals)) t := fun t k => castTop (ef_0_vv m p96 p97) k
  obtain ⟨_, _, ⟨T101, L101, k101, n101⟩, -, X101, ⟨Lc101, hQ101, l101, y101, z101⟩, st101⟩ := Jvm.LawKit.callS X0 hx (y := (⟨"com/example/transaction_scopes/transactionscopes/PropagationConductPinLaw", "pick", "(I)Lcom/example/transaction_scopes/transactionscopes/Propagation;"⟩ : MethodName)) hown (mvT hZ (hw _ (List.mem_of_getElem? (i := 1) rfl))) (mvT hZ (hw _ (List.mem_of_getElem? (i := 2) rfl))) (mvT hZ (hw _ (List.mem_of_getElem? (i := 3) rfl))) (mvT hZ (hw _ (List.mem_of_getElem? (i := 4) rfl))) (by decide) (backOf (W := 0) (r1_3 l Z a0 hw ((p96 &&& (2147483647 : Int32)) % (7 : Int32)) w102 h0 n0 Z0 H1 H2 H3 H4) hZ (hw _ (List.mem_of_getElem? (i := 4) rfl)) (hw _ (List.mem_of_getElem? (i := 3) rfl)) (by decide) (by decide)) (g := (mkF m 21 #[.val (.int p96), .val (.int p97), .val (.int ((p96 &&& (2147483647 : Int32)) % (7 : Int32))), .val (.int (1 : Int32)), .unset, .unset] [(.int ((p96 &&& (2147483647 : Int32)) % (7 : Int32)))])) rfl (by rw [hml]; rfl) (argsL := [(.int ((p96 &&& (2147483647 : Int32)) % (7 : Int32)))]) (rest := []) (lenOf pd_0 rfl) rfl (by show 2 * 0 + _ ≤ _; exact Nat.le_of_eq rfl) (hb hby at_21) (fun _ _ => ⟨rfl, e0, (by decide : 0 + 0 ≤ _), (by decide : 0 + 0 ≤ _)⟩)
  dsimp only [Pt.U, Pt.locs, Pt.cells, Pt.slots] at X101 l101 y101 z101 st101 hQ101
  subst l101 y101 z101
  obtain ⟨rfl, N101q, e101⟩ := hQ101
  have N101 := Fr.app N0 N101q
  obtain ⟨_, _, ⟨T107, L107, k107, n107⟩, -, X107, ⟨Lc107, hQ107, l107, y107, z107⟩, st107⟩ := Jvm.LawKit.callS X101 hx (y := (⟨"com/example/transaction_scopes/transactionscopes/PropagationConductPinLaw", "expected", "(IZ)Lcom/example/transaction_scopes/transactionscopes/Propagation$Conduct;"⟩ : MethodName)) hown (mvT hZ (hw _ (List.mem_of_getElem? (i := 8) rfl))) (mvT hZ (hw _ (List.mem_of_getElem? (i := 9) rfl))) (mvT hZ (hw _ (List.mem_of_getElem? (i := 3) rfl))) (mvT hZ (hw _ (List.mem_of_getElem? (i := 10) rfl))) (by decide) (backOf (W := 0) (r2_6 l Z a0 hw ((p96 &&& (2147483647 : Int32)) % (7 : Int32)) (1 : Int32) w108 h0 n0 Z0 (by decide) H1 H2 H3 H5) hZ (hw _ (List.mem_of_getElem? (i := 10) rfl)) (hw _ (List.mem_of_getElem? (i := 3) rfl)) (by decide) (by decide)) (g := (mkF m 28 #[.val (.int p96), .val (.int p97), .val (.int ((p96 &&& (2147483647 : Int32)) % (7 : Int32))), .val (.int (1 : Int32)), .val (.ref w102), .unset] [(.int (1 : Int32)), (.int ((p96 &&& (2147483647 : Int32)) % (7 : Int32)))])) rfl (by rw [hml]; rfl) (argsL := [(.int ((p96 &&& (2147483647 : Int32)) % (7 : Int32))), (.int (1 : Int32))]) (rest := []) (lenOf pd_1 rfl) rfl (by show 2 * 0 + _ ≤ _; exact Nat.le_of_eq rfl) (hb hby at_28) (fun _ _ => ⟨rfl, e101, (by decide : 0 + 0 ≤ _), (by decide : 0 + 0 ≤ _)⟩)
  dsimp only [Pt.U, Pt.locs, Pt.cells, Pt.slots] at X107 l107 y107 z107 st107 hQ107
  subst l107 y107 z107
  obtain ⟨rfl, N107q, e107⟩ := hQ107
  have N107 := Fr.app N101 N107q
  obtain ⟨cq113, kq113, q113a, q113b, q113c⟩ := isOf hZ e107 H7
  obtain ⟨_, _, ⟨T113, L113, k113, n113⟩, -, X113, ⟨Lc113, hQ113, l113, y113, z113⟩, st113⟩ := X107.virtualBack hx (y := (⟨"com/example/transaction_scopes/transactionscopes/Propagation", "conduct", "(Z)Lcom/example/transaction_scopes/transactionscopes/Propagation$Conduct;"⟩ : MethodName)) (z := (⟨"com/example/transaction_scopes/transactionscopes/Propagation", "conduct", "(Z)Lcom/example/transaction_scopes/transactionscopes/Propagation$Conduct;"⟩ : MethodName)) hown (mvT hZ (hw _ (List.mem_of_getElem? (i := 14) rfl))) (mvT hZ (hw _ (List.mem_of_getElem? (i := 15) rfl))) (notFace_of_selects (args := #[]) (mvT hZ (hw _ (List.mem_of_getElem? (i := 17) rfl)))) (mvT hZ (hw _ (List.mem_of_getElem? (i := 17) rfl))) (mvT hZ (hw _ (List.mem_of_getElem? (i := 16) rfl))) (by decide) (backOf (W := 0) (r3_2 l Z a0 hw w102 (1 : Int32) w114 h0 n0 Z0 (by decide) H6) hZ (hw _ (List.mem_of_getElem? (i := 18) rfl)) (hw _ (List.mem_of_getElem? (i := 6) rfl)) (by decide) (by decide)) q113a q113c (g := (mkF m 36 #[.val (.int p96), .val (.int p97), .val (.int ((p96 &&& (2147483647 : Int32)) % (7 : Int32))), .val (.int (1 : Int32)), .val (.ref w102), .val (.ref w108)] [(.int (1 : Int32)), (.ref w102)])) rfl (by rw [hml]; rfl) (Steps.refl _) (argsL := [(.int (1 : Int32))]) (rest := []) (lenOf pd_2 rfl) rfl (by show 2 * 0 + _ ≤ _; exact Nat.le_of_eq rfl) (hb hby at_36) (fun _ _ => ⟨rfl, e107, (by decide : 0 + 0 ≤ _), (by decide : 0 + 0 ≤ _)⟩)
  dsimp only [Pt.U, Pt.locs, Pt.cells, Pt.slots] at X113 l113 y113 z113 st113 hQ113
  subst l113 y113 z113
  obtain ⟨rfl, N113q, e113⟩ := hQ113
  have N113 := Fr.app N107 N113q
  obtain ⟨fs, hr, hrun, hended, hW, hsame⟩ := X113.leave (v := some (.int (1 : Int32))) (fun h => by rw [Bd.returns] at h; cases h)
  refine ⟨_, _, pre0 _ ?_, hrun, hended, _, _, rfl, ?_, ⟨_, rfl⟩, hW, hsame.mono (by decide) (by decide)⟩
  · show Steps p.tables e below (s₁.setTop (mkF m 0 #[.val (.int p96), .val (.int p97), .unset, .unset, .unset, .unset] [])) _
    refine XS.iloadN X0.here hx rfl (hb hby at_0) rfl ?_
    show Steps p.tables e below (s₁.setTop (mkF m 1 #[.val (.int p96), .val (.int p97), .unset, .unset, .unset, .unset] [(.int p96)])) _
    refine X0.ldcInt hx hown (mvT hZ (hw _ (List.mem_of_getElem? (i := 0) rfl))) (g := (mkF m 1 #[.val (.int p96), .val (.int p97), .unset, .unset, .unset, .unset] [(.int p96)])) rfl (hb hby at_1) _ ?_
    show Steps p.tables e below (s₁.setTop (mkF m 3 #[.val (.int p96), .val (.int p97), .unset, .unset, .unset, .unset] [(.int (2147483647 : Int32)), (.int p96)])) _
    refine XS.iand X0.here hx rfl (hb hby at_3) rfl ?_
    show Steps p.tables e below (s₁.setTop (mkF m 4 #[.val (.int p96), .val (.int p97), .unset, .unset, .unset, .unset] [(.int (p96 &&& (2147483647 : Int32)))])) _
    refine XS.bipush X0.here hx rfl (hb hby at_4) ?_
    show Steps p.tables e below (s₁.setTop (mkF m 6 #[.val (.int p96), .val (.int p97), .unset, .unset, .unset, .unset] [(.int (7 : Int32)), (.int (p96 &&& (2147483647 : Int32)))])) _
    refine iremM X0 hx rfl (hb hby at_6) rfl (by decide) ?_
    show Steps p.tables e below (s₁.setTop (mkF m 7 #[.val (.int p96), .val (.int p97), .unset, .unset, .unset, .unset] [(.int ((p96 &&& (2147483647 : Int32)) % (7 : Int32)))])) _
    refine XS.istoreN X0.here hx rfl (hb hby at_7) rfl (l' := #[.val (.int p96), .val (.int p97), .val (.int ((p96 &&& (2147483647 : Int32)) % (7 : Int32))), .unset, .unset, .unset]) rfl ?_
    show Steps p.tables e below (s₁.setTop (mkF m 8 #[.val (.int p96), .val (.int p97), .val (.int ((p96 &&& (2147483647 : Int32)) % (7 : Int32))), .unset, .unset, .unset] [])) _
    refine XS.iloadN X0.here hx rfl (hb hby at_8) rfl ?_
    show Steps p.tables e below (s₁.setTop (mkF m 9 #[.val (.int p96), .val (.int p97), .val (.int ((p96 &&& (2147483647 : Int32)) % (7 : Int32))), .unset, .unset, .unset] [(.int p97)])) _
    refine XS.iconst X0.here hx rfl (hb hby at_9) ?_
    show Steps p.tables e below (s₁.setTop (mkF m 10 #[.val (.int p96), .val (.int p97), .val (.int ((p96 &&& (2147483647 : Int32)) % (7 : Int32))), .unset, .unset, .unset] [(.int (1 : Int32)), (.int p97)])) _
    refine XS.iand X0.here hx rfl (hb hby at_10) rfl ?_
    show Steps p.tables e below (s₁.setTop (mkF m 11 #[.val (.int p96), .val (.int p97), .val (.int ((p96 &&& (2147483647 : Int32)) % (7 : Int32))), .unset, .unset, .unset] [(.int (p97 &&& (1 : Int32)))])) _
    refine XS.ifNo X0.here hx rfl (hb hby at_11) rfl ((if0 _ _).trans (feq H0).1) ?_
    show Steps p.tables e below (s₁.setTop (mkF m 14 #[.val (.int p96), .val (.int p97), .val (.int ((p96 &&& (2147483647 : Int32)) % (7 : Int32))), .unset, .unset, .unset] [])) _
    refine XS.iconst X0.here hx rfl (hb hby at_14) ?_
    show Steps p.tables e below (s₁.setTop (mkF m 15 #[.val (.int p96), .val (.int p97), .val (.int ((p96 &&& (2147483647 : Int32)) % (7 : Int32))), .unset, .unset, .unset] [(.int (1 : Int32))])) _
    refine XS.goto X0.here hx rfl (pc0 := 15) (pc' := 19) rfl (hb hby at_15) (by decide) (by decide) ?_
    show Steps p.tables e below (s₁.setTop (mkF m 19 #[.val (.int p96), .val (.int p97), .val (.int ((p96 &&& (2147483647 : Int32)) % (7 : Int32))), .unset, .unset, .unset] [(.int (1 : Int32))])) _
    refine XS.istoreN X0.here hx rfl (hb hby at_19) rfl (l' := #[.val (.int p96), .val (.int p97), .val (.int ((p96 &&& (2147483647 : Int32)) % (7 : Int32))), .val (.int (1 : Int32)), .unset, .unset]) rfl ?_
    show Steps p.tables e below (s₁.setTop (mkF m 20 #[.val (.int p96), .val (.int p97), .val (.int ((p96 &&& (2147483647 : Int32)) % (7 : Int32))), .val (.int (1 : Int32)), .unset, .unset] [])) _
    refine XS.iloadN X0.here hx rfl (hb hby at_20) rfl ?_
    show Steps p.tables e below (s₁.setTop (mkF m 21 #[.val (.int p96), .val (.int p97), .val (.int ((p96 &&& (2147483647 : Int32)) % (7 : Int32))), .val (.int (1 : Int32)), .unset, .unset] [(.int ((p96 &&& (2147483647 : Int32)) % (7 : Int32)))])) _
    refine st101 _ ?_
    show Steps p.tables e below (T101.setTop (mkF m 24 #[.val (.int p96), .val (.int p97), .val (.int ((p96 &&& (2147483647 : Int32)) % (7 : Int32))), .val (.int (1 : Int32)), .unset, .unset] [(.ref w102)])) _
    refine XS.astore X101.here hx rfl (hb hby at_24) rfl rfl (l' := #[.val (.int p96), .val (.int p97), .val (.int ((p96 &&& (2147483647 : Int32)) % (7 : Int32))), .val (.int (1 : Int32)), .val (.ref w102), .unset]) rfl ?_
    show Steps p.tables e below (T101.setTop (mkF m 26 #[.val (.int p96), .val (.int p97), .val (.int ((p96 &&& (2147483647 : Int32)) % (7 : Int32))), .val (.int (1 : Int32)), .val (.ref w102), .unset] [])) _
    refine XS.iloadN X101.here hx rfl (hb hby at_26) rfl ?_
    show Steps p.tables e below (T101.setTop (mkF m 27 #[.val (.int p96), .val (.int p97), .val (.int ((p96 &&& (2147483647 : Int32)) % (7 : Int32))), .val (.int (1 : Int32)), .val (.ref w102), .unset] [(.int ((p96 &&& (2147483647 : Int32)) % (7 : Int32)))])) _
    refine XS.iloadN X101.here hx rfl (hb hby at_27) rfl ?_
    show Steps p.tables e below (T101.setTop (mkF m 28 #[.val (.int p96), .val (.int p97), .val (.int ((p96 &&& (2147483647 : Int32)) % (7 : Int32))), .val (.int (1 : Int32)), .val (.ref w102), .unset] [(.int (1 : Int32)), (.int ((p96 &&& (2147483647 : Int32)) % (7 : Int32)))])) _
    refine st107 _ ?_
    show Steps p.tables e below (T107.setTop (mkF m 31 #[.val (.int p96), .val (.int p97), .val (.int ((p96 &&& (2147483647 : Int32)) % (7 : Int32))), .val (.int (1 : Int32)), .val (.ref w102), .unset] [(.ref w108)])) _
    refine XS.astore X107.here hx rfl (hb hby at_31) rfl rfl (l' := #[.val (.int p96), .val (.int p97), .val (.int ((p96 &&& (2147483647 : Int32)) % (7 : Int32))), .val (.int (1 : Int32)), .val (.ref w102), .val (.ref w108)]) rfl ?_
    show Steps p.tables e below (T107.setTop (mkF m 33 #[.val (.int p96), .val (.int p97), .val (.int ((p96 &&& (2147483647 : Int32)) % (7 : Int32))), .val (.int (1 : Int32)), .val (.ref w102), .val (.ref w108)] [])) _
    refine XS.aload X107.here hx rfl (hb hby at_33) rfl rfl ?_
    show Steps p.tables e below (T107.setTop (mkF m 35 #[.val (.int p96), .val (.int p97), .val (.int ((p96 &&& (2147483647 : Int32)) % (7 : Int32))), .val (.int (1 : Int32)), .val (.ref w102), .val (.ref w108)] [(.ref w102)])) _
    refine XS.iloadN X107.here hx rfl (hb hby at_35) rfl ?_
    show Steps p.tables e below (T107.setTop (mkF m 36 #[.val (.int p96), .val (.int p97), .val (.int ((p96 &&& (2147483647 : Int32)) % (7 : Int32))), .val (.int (1 : Int32)), .val (.ref w102), .val (.ref w108)] [(.int (1 : Int32)), (.ref w102)])) _
    refine st113.trans ?_
    show Steps p.tables e below (T113.setTop (mkF m 39 #[.val (.int p96), .val (.int p97), .val (.int ((p96 &&& (2147483647 : Int32)) % (7 : Int32))), .val (.int (1 : Int32)), .val (.ref w102), .val (.ref w108)] [(.ref w114)])) _
    refine XS.aload X113.here hx rfl (hb hby at_39) rfl rfl ?_
    show Steps p.tables e below (T113.setTop (mkF m 41 #[.val (.int p96), .val (.int p97), .val (.int ((p96 &&& (2147483647 : Int32)) % (7 : Int32))), .val (.int (1 : Int32)), .val (.ref w102), .val (.ref w108)] [(.ref w108), (.ref w114)])) _
    refine Jvm.RoadKit.acmp (g := (mkF m 41 #[.val (.int p96), .val (.int p97), .val (.int ((p96 &&& (2147483647 : Int32)) % (7 : Int32))), .val (.int (1 : Int32)), .val (.ref w102), .val (.ref w108)] [(.ref w108), (.ref w114)])) X113 hx rfl rfl rfl (pc0 := 41) (pc' := 44) (same := true) rfl (hb hby at_41) rfl (decide_eq_true (congrArg Value.ref H8)) (by decide) (by decide) ?_
    show Steps p.tables e below (T113.setTop (mkF m 44 #[.val (.int p96), .val (.int p97), .val (.int ((p96 &&& (2147483647 : Int32)) % (7 : Int32))), .val (.int (1 : Int32)), .val (.ref w102), .val (.ref w108)] [])) _
    refine XS.iconst X113.here hx rfl (hb hby at_44) ?_
    show Steps p.tables e below (T113.setTop (mkF m 45 #[.val (.int p96), .val (.int p97), .val (.int ((p96 &&& (2147483647 : Int32)) % (7 : Int32))), .val (.int (1 : Int32)), .val (.ref w102), .val (.ref w108)] [(.int (1 : Int32))])) _
    refine XS.goto X113.here hx rfl (pc0 := 45) (pc' := 49) rfl (hb hby at_45) (by decide) (by decide) ?_
    show Steps p.tables e below (T113.setTop (mkF m 49 #[.val (.int p96), .val (.int p97), .val (.int ((p96 &&& (2147483647 : Int32)) % (7 : Int32))), .val (.int (1 : Int32)), .val (.ref w102), .val (.ref w108)] [(.int (1 : Int32))])) _
    exact retN X113 hx (t := .boolean) Bd.returns (by simp) (hb hby at_49) hr
  · show OQl (some (.int (1 : Int32))) n0 _ T113.heap _
    exact ⟨rfl, N113⟩
theorem d1_26 : decode method_2_code 26 = .ok (.iload_n 0, 1) := by decide +kernel
theorem d1_27 : decode method_2_code 27 = .ok (.iconst 3, 1) := by decide +kernel
theorem d1_28 : decode method_2_code 28 = .ok (.if_icmp .ne 7, 3) := by decide +kernel
theorem d1_31 : decode method_2_code 31 = .ok (.getstatic 19, 3) := by decide +kernel
theorem d1_34 : decode method_2_code 34 = .ok (.areturn, 1) := by decide +kernel
set_option maxRecDepth 65536 in
set_option maxHeartbeats 40000000 in
theorem r1_4 (l : Launch) (Z : State) (a0 : Array Value) (hw : ∀ d ∈ tables_1, d.before a0 Z = true) (p117 : Int32) (w118 : Addr) (h0 : Heap) (n0 : Nat) (Z0 : n0 ≤ h0.size) (H0 : ¬ (p117 = (0 : Int32))) (H1 : ¬ (p117 = (1 : Int32))) (H2 : ¬ (p117 = (2 : Int32))) (H3 : p117 = (3 : Int32)) (H4 : Sta Z h0 "com/example/transaction_scopes/transactionscopes/Propagation" "REQUIRES_NEW" "Lcom/example/transaction_scopes/transactionscopes/Propagation;" (.ref w118)) :
    OMet l Z (⟨"com/example/transaction_scopes/transactionscopes/PropagationConductPinLaw", "pick", "(I)Lcom/example/transaction_scopes/transactionscopes/Propagation;"⟩ : MethodName) method_2_code 1 (some (.object "com/example/transaction_scopes/transactionscopes/Propagation")) [] ({ frames := 0, cells := 0, slots := 0, locals := 0 } : Room) h0 #[(.int p117)] (OQp (some (.ref w118)) h0 n0) := by
  refine MetFree.of_bodySF (plainFor_of_name pn_com_example_transaction_scopes_transactionscopes_PropagationConductPinLaw) hisR ?_
  intro p e s m args below meth c s₁ Bd hml0 hP hK
  obtain ⟨rfl, hZ, hh⟩ := hP
  have hx := Bd.exec
  have hby := Bd.bytes
  have hml : c.maxLocals = 1 := hml0
  have hown : s.vm.findClass "com/example/transaction_scopes/transactionscopes/PropagationConductPinLaw" = some m.cls := findClass_of_methodNamed Bd.named
  have hnm := (name_of_methodNamed Bd.named Bd.method).1
  have X0 : Stand p l e ({ frames := 0, cells := 0, slots := 0, locals := 0 } : Room) s m #[(.int p117)] below meth c s₁ [] 0 0 := Stand.of_body Bd
  have e0 : s₁.heap = h0 := by rw [← hh, Bd.state]; rfl
  have N0 := Fr.nil n0
  have pre0 : ∀ t, Steps p.tables e below (s₁.setTop (mkF m 0 #[.val (.int p117)] [])) t → Steps p.tables e below (s₁.setTop (entryFrame m #[(.int p117)] 1)) t := fun t k => castTop (ef_1_v m p117) k
  obtain ⟨T119, X119, e119, st119⟩ := getS2 X0 hx hZ hown (host := "") (Or.inl (hw _ (List.mem_of_getElem? (i := 21) rfl))) Via.refl e0 H4 (g := (mkF m 31 #[.val (.int p117)] [])) rfl (hb hby d1_31)
  obtain ⟨fs, hr, hrun, hended, hW, hsame⟩ := X119.leave (v := some (.ref w118)) (fun h => by rw [Bd.returns] at h; cases h)
  refine ⟨_, _, pre0 _ ?_, hrun, hended, _, _, rfl, ?_, ⟨_, rfl⟩, hW, hsame.mono (by decide) (by decide)⟩
  · show Steps p.tables e below (s₁.setTop (mkF m 0 #[.val (.int p117)] [])) _
    refine XS.iloadN X0.here hx rfl (hb hby d1_0) rfl ?_
    show Steps p.tables e below (s₁.setTop (mkF m 1 #[.val (.int p117)] [(.int p117)])) _
    refine XS.ifYes X0.here hx rfl (pc0 := 1) (pc' := 8) rfl (hb hby d1_1) rfl ((if0 _ _).trans (feq H0).2) (by decide) (by decide) ?_
    show Steps p.tables e below (s₁.setTop (mkF m 8 #[.val (.int p117)] [])) _
    refine XS.iloadN X0.here hx rfl (hb hby d1_8) rfl ?_
    show Steps p.tables e below (s₁.setTop (mkF m 9 #[.val (.int p117)] [(.int p117)])) _
    refine XS.iconst X0.here hx rfl (hb hby d1_9) ?_
    show Steps p.tables e below (s₁.setTop (mkF m 10 #[.val (.int p117)] [(.int (1 : Int32)), (.int p117)])) _
    refine XS.icmpYes X0.here hx rfl (pc0 := 10) (pc' := 17) rfl (hb hby d1_10) rfl (feq H1).2 (by decide) (by decide) ?_
    show Steps p.tables e below (s₁.setTop (mkF m 17 #[.val (.int p117)] [])) _
    refine XS.iloadN X0.here hx rfl (hb hby d1_17) rfl ?_
    show Steps p.tables e below (s₁.setTop (mkF m 18 #[.val (.int p117)] [(.int p117)])) _
    refine XS.iconst X0.here hx rfl (hb hby d1_18) ?_
    show Steps p.tables e below (s₁.setTop (mkF m 19 #[.val (.int p117)] [(.int (2 : Int32)), (.int p117)])) _
    refine XS.icmpYes X0.here hx rfl (pc0 := 19) (pc' := 26) rfl (hb hby d1_19) rfl (feq H2).2 (by decide) (by decide) ?_
    show Steps p.tables e below (s₁.setTop (mkF m 26 #[.val (.int p117)] [])) _
    refine XS.iloadN X0.here hx rfl (hb hby d1_26) rfl ?_
    show Steps p.tables e below (s₁.setTop (mkF m 27 #[.val (.int p117)] [(.int p117)])) _
    refine XS.iconst X0.here hx rfl (hb hby d1_27) ?_
    show Steps p.tables e below (s₁.setTop (mkF m 28 #[.val (.int p117)] [(.int (3 : Int32)), (.int p117)])) _
    refine XS.icmpNo X0.here hx rfl (hb hby d1_28) rfl (teq H3).2 ?_
    show Steps p.tables e below (s₁.setTop (mkF m 31 #[.val (.int p117)] [])) _
    refine st119 _ ?_
    show Steps p.tables e below (T119.setTop (mkF m 34 #[.val (.int p117)] [(.ref w118)])) _
    jvm_step X119.here [X119.here.top, hx, (hb hby d1_34), X119.method', Bd.returns, Value.isRef, FieldType.isReference]
    first | (intro acts; rw [hr _ acts rfl rfl rfl]) | rw [hr _ _ rfl rfl rfl]
    exact Steps.refl _
  · show OQp (some (.ref w118)) h0 n0 _ T119.heap _
    rw [e119]
    exact ⟨rfl, N0, rfl⟩
set_option maxRecDepth 65536 in
set_option maxHeartbeats 40000000 in
theorem r2_7 (l : Launch) (Z : State) (a0 : Array Value) (hw : ∀ d ∈ tables_1, d.before a0 Z = true) (p122 : Int32) (p123 : Int32) (w124 : Addr) (h0 : Heap) (n0 : Nat) (Z0 : n0 ≤ h0.size) (H0 : p123 = (0 : Int32)) (H1 : ¬ (p122 = (0 : Int32))) (H2 : p122 = (3 : Int32)) (H3 : Sta Z h0 "com/example/transaction_scopes/transactionscopes/Propagation$Conduct" "BEGIN" "Lcom/example/transaction_scopes/transactionscopes/Propagation$Conduct;" (.ref w124)) :
    OMet l Z (⟨"com/example/transaction_scopes/transactionscopes/PropagationConductPinLaw", "expected", "(IZ)Lcom/example/transaction_scopes/transactionscopes/Propagation$Conduct;"⟩ : MethodName) method_3_code 2 (some (.object "com/example/transaction_scopes/transactionscopes/Propagation$Conduct")) [] ({ frames := 0, cells := 0, slots := 0, locals := 0 } : Room) h0 #[(.int p122), (.int p123)] (OQp (some (.ref w124)) h0 n0) := by
  refine MetFree.of_bodySF (plainFor_of_name pn_com_example_transaction_scopes_transactionscopes_PropagationConductPinLaw) hisR ?_
  intro p e s m args below meth c s₁ Bd hml0 hP hK
  obtain ⟨rfl, hZ, hh⟩ := hP
  have hx := Bd.exec
  have hby := Bd.bytes
  have hml : c.maxLocals = 2 := hml0
  have hown : s.vm.findClass "com/example/transaction_scopes/transactionscopes/PropagationConductPinLaw" = some m.cls := findClass_of_methodNamed Bd.named
  have hnm := (name_of_methodNamed Bd.named Bd.method).1
  have X0 : Stand p l e ({ frames := 0, cells := 0, slots := 0, locals := 0 } : Room) s m #[(.int p122), (.int p123)] below meth c s₁ [] 0 0 := Stand.of_body Bd
  have e0 : s₁.heap = h0 := by rw [← hh, Bd.state]; rfl
  have N0 := Fr.nil n0
  have pre0 : ∀ t, Steps p.tables e below (s₁.setTop (mkF m 0 #[.val (.int p122), .val (.int p123)] [])) t → Steps p.tables e below (s₁.setTop (entryFrame m #[(.int p122), (.int p123)] 2)) t := fun t k => castTop (ef_2_vv m p122 p123) k
  obtain ⟨T125, X125, e125, st125⟩ := getS2 X0 hx hZ hown (host := "") (Or.inl (hw _ (List.mem_of_getElem? (i := 23) rfl))) Via.refl e0 H3 (g := (mkF m 68 #[.val (.int p122), .val (.int p123)] [])) rfl (hb hby d2_68)
  obtain ⟨fs, hr, hrun, hended, hW, hsame⟩ := X125.leave (v := some (.ref w124)) (fun h => by rw [Bd.returns] at h; cases h)
  refine ⟨_, _, pre0 _ ?_, hrun, hended, _, _, rfl, ?_, ⟨_, rfl⟩, hW, hsame.mono (by decide) (by decide)⟩
  · show Steps p.tables e below (s₁.setTop (mkF m 0 #[.val (.int p122), .val (.int p123)] [])) _
    refine XS.iloadN X0.here hx rfl (hb hby d2_0) rfl ?_
    show Steps p.tables e below (s₁.setTop (mkF m 1 #[.val (.int p122), .val (.int p123)] [(.int p123)])) _
    refine XS.ifYes X0.here hx rfl (pc0 := 1) (pc' := 53) rfl (hb hby d2_1) rfl ((if0 _ _).trans (teq H0).1) (by decide) (by decide) ?_
    show Steps p.tables e below (s₁.setTop (mkF m 53 #[.val (.int p122), .val (.int p123)] [])) _
    refine XS.iloadN X0.here hx rfl (hb hby d2_53) rfl ?_
    show Steps p.tables e below (s₁.setTop (mkF m 54 #[.val (.int p122), .val (.int p123)] [(.int p122)])) _
    refine XS.ifNo X0.here hx rfl (hb hby d2_54) rfl ((if0 _ _).trans (feq H1).1) ?_
    show Steps p.tables e below (s₁.setTop (mkF m 57 #[.val (.int p122), .val (.int p123)] [])) _
    refine XS.iloadN X0.here hx rfl (hb hby d2_57) rfl ?_
    show Steps p.tables e below (s₁.setTop (mkF m 58 #[.val (.int p122), .val (.int p123)] [(.int p122)])) _
    refine XS.iconst X0.here hx rfl (hb hby d2_58) ?_
    show Steps p.tables e below (s₁.setTop (mkF m 59 #[.val (.int p122), .val (.int p123)] [(.int (3 : Int32)), (.int p122)])) _
    refine XS.icmpYes X0.here hx rfl (pc0 := 59) (pc' := 68) rfl (hb hby d2_59) rfl (teq H2).1 (by decide) (by decide) ?_
    show Steps p.tables e below (s₁.setTop (mkF m 68 #[.val (.int p122), .val (.int p123)] [])) _
    refine st125 _ ?_
    show Steps p.tables e below (T125.setTop (mkF m 71 #[.val (.int p122), .val (.int p123)] [(.ref w124)])) _
    jvm_step X125.here [X125.here.top, hx, (hb hby d2_71), X125.method', Bd.returns, Value.isRef, FieldType.isReference]
    first | (intro acts; rw [hr _ acts rfl rfl rfl]) | rw [hr _ _ rfl rfl rfl]
    exact Steps.refl _
  · show OQp (some (.ref w124)) h0 n0 _ T125.heap _
    rw [e125]
    exact ⟨rfl, N0, rfl⟩
set_option maxRecDepth 65536 in
set_option maxHeartbeats 40000000 in
theorem r0_7 (l : Launch) (Z : State) (a0 : Array Value) (hw : ∀ d ∈ tables_1, d.before a0 Z = true) (p115 : Int32) (p116 : Int32) (w121 : Addr) (w127 : Addr) (w133 : Addr) (h0 : Heap) (n0 : Nat) (Z0 : n0 ≤ h0.size) (H0 : (p116 &&& (1 : Int32)) = (0 : Int32)) (H1 : ¬ (((p115 &&& (2147483647 : Int32)) % (7 : Int32)) = (0 : Int32))) (H2 : ¬ (((p115 &&& (2147483647 : Int32)) % (7 : Int32)) = (1 : Int32))) (H3 : ¬ (((p115 &&& (2147483647 : Int32)) % (7 : Int32)) = (2 : Int32))) (H4 : ((p115 &&& (2147483647 : Int32)) % (7 : Int32)) = (3 : Int32)) (H5 : Sta Z h0 "com/example/transaction_scopes/transactionscopes/Propagation" "REQUIRES_NEW" "Lcom/example/transaction_scopes/transactionscopes/Propagation;" (.ref w121)) (H6 : Sta Z h0 "com/example/transaction_scopes/transactionscopes/Propagation$Conduct" "BEGIN" "Lcom/example/transaction_scopes/transactionscopes/Propagation$Conduct;" (.ref w127)) (H7 : Fld Z h0 w121 "com/example/transaction_scopes/transactionscopes/Propagation" "withoutTransaction" "Lcom/example/transaction_scopes/transactionscopes/Propagation$Conduct;" (.ref w133)) (H8 : Exa Z h0 w121 "com/example/transaction_scopes/transactionscopes/Propagation") (H9 : w133 = w127) :
    OMet l Z x code maxLocals ret tables_1 room_1 h0 #[(.int p115), (.int p116)] (OQl (some (.int (1 : Int32))) n0) := by
  refine MetFree.of_bodySF (plainFor_of_name pn_com_example_transaction_scopes_transactionscopes_PropagationConductPinLaw) hisR ?_
  intro p e s m args below meth c s₁ Bd hml0 hP hK
  obtain ⟨rfl, hZ, hh⟩ := hP
  have hx := Bd.exec
  have hby := Bd.bytes
  have hml : c.maxLocals = 6 := hml0
  have hown : s.vm.findClass "com/example/transaction_scopes/transactionscopes/PropagationConductPinLaw" = some m.cls := findClass_of_methodNamed Bd.named
  have hnm := (name_of_methodNamed Bd.named Bd.method).1
  have X0 : Stand p l e room_1 s m #[(.int p115), (.int p116)] below meth c s₁ [] 0 0 := Stand.of_body Bd
  have e0 : s₁.heap = h0 := by rw [← hh, Bd.state]; rfl
  have N0 := Fr.nil n0
  have pre0 : ∀ t, Steps p.tables e below (s₁.setTop (mkF m 0 #[.val (.int p115), .val (.int p116), .unset, .unset, .unset, .unset] [])) t → Steps p.tables e below (s₁.setTop (entryFrame m #[(.int p115), (.int p116)] maxLocals)) t := fun t k => castTop (ef_0_vv m p115 p116) k
  obtain ⟨_, _, ⟨T120, L120, k120, n120⟩, -, X120, ⟨Lc120, hQ120, l120, y120, z120⟩, st120⟩ := Jvm.LawKit.callS X0 hx (y := (⟨"com/example/transaction_scopes/transactionscopes/PropagationConductPinLaw", "pick", "(I)Lcom/example/transaction_scopes/transactionscopes/Propagation;"⟩ : MethodName)) hown (mvT hZ (hw _ (List.mem_of_getElem? (i := 1) rfl))) (mvT hZ (hw _ (List.mem_of_getElem? (i := 2) rfl))) (mvT hZ (hw _ (List.mem_of_getElem? (i := 3) rfl))) (mvT hZ (hw _ (List.mem_of_getElem? (i := 4) rfl))) (by decide) (backOf (W := 0) (r1_4 l Z a0 hw ((p115 &&& (2147483647 : Int32)) % (7 : Int32)) w121 h0 n0 Z0 H1 H2 H3 H4 H5) hZ (hw _ (List.mem_of_getElem? (i := 4) rfl)) (hw _ (List.mem_of_getElem? (i := 3) rfl)) (by decide) (by decide)) (g := (mkF m 21 #[.val (.int p115), .val (.int p116), .val (.int ((p115 &&& (2147483647 : Int32)) % (7 : Int32))), .val (.int (0 : Int32)), .unset, .unset] [(.int ((p115 &&& (2147483647 : Int32)) % (7 : Int32)))])) rfl (by rw [hml]; rfl) (argsL := [(.int ((p115 &&& (2147483647 : Int32)) % (7 : Int32)))]) (rest := []) (lenOf pd_0 rfl) rfl (by show 2 * 0 + _ ≤ _; exact Nat.le_of_eq rfl) (hb hby at_21) (fun _ _ => ⟨rfl, e0, (by decide : 0 + 0 ≤ _), (by decide : 0 + 0 ≤ _)⟩)
  dsimp only [Pt.U, Pt.locs, Pt.cells, Pt.slots] at X120 l120 y120 z120 st120 hQ120
  subst l120 y120 z120
  obtain ⟨rfl, N120q, e120⟩ := hQ120
  have N120 := Fr.app N0 N120q
  obtain ⟨_, _, ⟨T126, L126, k126, n126⟩, -, X126, ⟨Lc126, hQ126, l126, y126, z126⟩, st126⟩ := Jvm.LawKit.callS X120 hx (y := (⟨"com/example/transaction_scopes/transactionscopes/PropagationConductPinLaw", "expected", "(IZ)Lcom/example/transaction_scopes/transactionscopes/Propagation$Conduct;"⟩ : MethodName)) hown (mvT hZ (hw _ (List.mem_of_getElem? (i := 8) rfl))) (mvT hZ (hw _ (List.mem_of_getElem? (i := 9) rfl))) (mvT hZ (hw _ (List.mem_of_getElem? (i := 3) rfl))) (mvT hZ (hw _ (List.mem_of_getElem? (i := 10) rfl))) (by decide) (backOf (W := 0) (r2_7 l Z a0 hw ((p115 &&& (2147483647 : Int32)) % (7 : Int32)) (0 : Int32) w127 h0 n0 Z0 rfl H1 H4 H6) hZ (hw _ (List.mem_of_getElem? (i := 10) rfl)) (hw _ (List.mem_of_getElem? (i := 3) rfl)) (by decide) (by decide)) (g := (mkF m 28 #[.val (.int p115), .val (.int p116), .val (.int ((p115 &&& (2147483647 : Int32)) % (7 : Int32))), .val (.int (0 : Int32)), .val (.ref w121), .unset] [(.int (0 : Int32)), (.int ((p115 &&& (2147483647 : Int32)) % (7 : Int32)))])) rfl (by rw [hml]; rfl) (argsL := [(.int ((p115 &&& (2147483647 : Int32)) % (7 : Int32))), (.int (0 : Int32))]) (rest := []) (lenOf pd_1 rfl) rfl (by show 2 * 0 + _ ≤ _; exact Nat.le_of_eq rfl) (hb hby at_28) (fun _ _ => ⟨rfl, e120, (by decide : 0 + 0 ≤ _), (by decide : 0 + 0 ≤ _)⟩)
  dsimp only [Pt.U, Pt.locs, Pt.cells, Pt.slots] at X126 l126 y126 z126 st126 hQ126
  subst l126 y126 z126
  obtain ⟨rfl, N126q, e126⟩ := hQ126
  have N126 := Fr.app N120 N126q
  obtain ⟨cq132, kq132, q132a, q132b, q132c⟩ := isOf hZ e126 H8
  obtain ⟨_, _, ⟨T132, L132, k132, n132⟩, -, X132, ⟨Lc132, hQ132, l132, y132, z132⟩, st132⟩ := X126.virtualBack hx (y := (⟨"com/example/transaction_scopes/transactionscopes/Propagation", "conduct", "(Z)Lcom/example/transaction_scopes/transactionscopes/Propagation$Conduct;"⟩ : MethodName)) (z := (⟨"com/example/transaction_scopes/transactionscopes/Propagation", "conduct", "(Z)Lcom/example/transaction_scopes/transactionscopes/Propagation$Conduct;"⟩ : MethodName)) hown (mvT hZ (hw _ (List.mem_of_getElem? (i := 14) rfl))) (mvT hZ (hw _ (List.mem_of_getElem? (i := 15) rfl))) (notFace_of_selects (args := #[]) (mvT hZ (hw _ (List.mem_of_getElem? (i := 17) rfl)))) (mvT hZ (hw _ (List.mem_of_getElem? (i := 17) rfl))) (mvT hZ (hw _ (List.mem_of_getElem? (i := 16) rfl))) (by decide) (backOf (W := 0) (r3_1 l Z a0 hw w121 (0 : Int32) w133 h0 n0 Z0 rfl H7) hZ (hw _ (List.mem_of_getElem? (i := 18) rfl)) (hw _ (List.mem_of_getElem? (i := 6) rfl)) (by decide) (by decide)) q132a q132c (g := (mkF m 36 #[.val (.int p115), .val (.int p116), .val (.int ((p115 &&& (2147483647 : Int32)) % (7 : Int32))), .val (.int (0 : Int32)), .val (.ref w121), .val (.ref w127)] [(.int (0 : Int32)), (.ref w121)])) rfl (by rw [hml]; rfl) (Steps.refl _) (argsL := [(.int (0 : Int32))]) (rest := []) (lenOf pd_2 rfl) rfl (by show 2 * 0 + _ ≤ _; exact Nat.le_of_eq rfl) (hb hby at_36) (fun _ _ => ⟨rfl, e126, (by decide : 0 + 0 ≤ _), (by decide : 0 + 0 ≤ _)⟩)
  dsimp only [Pt.U, Pt.locs, Pt.cells, Pt.slots] at X132 l132 y132 z132 st132 hQ132
  subst l132 y132 z132
  obtain ⟨rfl, N132q, e132⟩ := hQ132
  have N132 := Fr.app N126 N132q
  obtain ⟨fs, hr, hrun, hended, hW, hsame⟩ := X132.leave (v := some (.int (1 : Int32))) (fun h => by rw [Bd.returns] at h; cases h)
  refine ⟨_, _, pre0 _ ?_, hrun, hended, _, _, rfl, ?_, ⟨_, rfl⟩, hW, hsame.mono (by decide) (by decide)⟩
  · show Steps p.tables e below (s₁.setTop (mkF m 0 #[.val (.int p115), .val (.int p116), .unset, .unset, .unset, .unset] [])) _
    refine XS.iloadN X0.here hx rfl (hb hby at_0) rfl ?_
    show Steps p.tables e below (s₁.setTop (mkF m 1 #[.val (.int p115), .val (.int p116), .unset, .unset, .unset, .unset] [(.int p115)])) _
    refine X0.ldcInt hx hown (mvT hZ (hw _ (List.mem_of_getElem? (i := 0) rfl))) (g := (mkF m 1 #[.val (.int p115), .val (.int p116), .unset, .unset, .unset, .unset] [(.int p115)])) rfl (hb hby at_1) _ ?_
    show Steps p.tables e below (s₁.setTop (mkF m 3 #[.val (.int p115), .val (.int p116), .unset, .unset, .unset, .unset] [(.int (2147483647 : Int32)), (.int p115)])) _
    refine XS.iand X0.here hx rfl (hb hby at_3) rfl ?_
    show Steps p.tables e below (s₁.setTop (mkF m 4 #[.val (.int p115), .val (.int p116), .unset, .unset, .unset, .unset] [(.int (p115 &&& (2147483647 : Int32)))])) _
    refine XS.bipush X0.here hx rfl (hb hby at_4) ?_
    show Steps p.tables e below (s₁.setTop (mkF m 6 #[.val (.int p115), .val (.int p116), .unset, .unset, .unset, .unset] [(.int (7 : Int32)), (.int (p115 &&& (2147483647 : Int32)))])) _
    refine iremM X0 hx rfl (hb hby at_6) rfl (by decide) ?_
    show Steps p.tables e below (s₁.setTop (mkF m 7 #[.val (.int p115), .val (.int p116), .unset, .unset, .unset, .unset] [(.int ((p115 &&& (2147483647 : Int32)) % (7 : Int32)))])) _
    refine XS.istoreN X0.here hx rfl (hb hby at_7) rfl (l' := #[.val (.int p115), .val (.int p116), .val (.int ((p115 &&& (2147483647 : Int32)) % (7 : Int32))), .unset, .unset, .unset]) rfl ?_
    show Steps p.tables e below (s₁.setTop (mkF m 8 #[.val (.int p115), .val (.int p116), .val (.int ((p115 &&& (2147483647 : Int32)) % (7 : Int32))), .unset, .unset, .unset] [])) _
    refine XS.iloadN X0.here hx rfl (hb hby at_8) rfl ?_
    show Steps p.tables e below (s₁.setTop (mkF m 9 #[.val (.int p115), .val (.int p116), .val (.int ((p115 &&& (2147483647 : Int32)) % (7 : Int32))), .unset, .unset, .unset] [(.int p116)])) _
    refine XS.iconst X0.here hx rfl (hb hby at_9) ?_
    show Steps p.tables e below (s₁.setTop (mkF m 10 #[.val (.int p115), .val (.int p116), .val (.int ((p115 &&& (2147483647 : Int32)) % (7 : Int32))), .unset, .unset, .unset] [(.int (1 : Int32)), (.int p116)])) _
    refine XS.iand X0.here hx rfl (hb hby at_10) rfl ?_
    show Steps p.tables e below (s₁.setTop (mkF m 11 #[.val (.int p115), .val (.int p116), .val (.int ((p115 &&& (2147483647 : Int32)) % (7 : Int32))), .unset, .unset, .unset] [(.int (p116 &&& (1 : Int32)))])) _
    refine XS.ifYes X0.here hx rfl (pc0 := 11) (pc' := 18) rfl (hb hby at_11) rfl ((if0 _ _).trans (teq H0).1) (by decide) (by decide) ?_
    show Steps p.tables e below (s₁.setTop (mkF m 18 #[.val (.int p115), .val (.int p116), .val (.int ((p115 &&& (2147483647 : Int32)) % (7 : Int32))), .unset, .unset, .unset] [])) _
    refine XS.iconst X0.here hx rfl (hb hby at_18) ?_
    show Steps p.tables e below (s₁.setTop (mkF m 19 #[.val (.int p115), .val (.int p116), .val (.int ((p115 &&& (2147483647 : Int32)) % (7 : Int32))), .unset, .unset, .unset] [(.int (0 : Int32))])) _
    refine XS.istoreN X0.here hx rfl (hb hby at_19) rfl (l' := #[.val (.int p115), .val (.int p116), .val (.int ((p115 &&& (2147483647 : Int32)) % (7 : Int32))), .val (.int (0 : Int32)), .unset, .unset]) rfl ?_
    show Steps p.tables e below (s₁.setTop (mkF m 20 #[.val (.int p115), .val (.int p116), .val (.int ((p115 &&& (2147483647 : Int32)) % (7 : Int32))), .val (.int (0 : Int32)), .unset, .unset] [])) _
    refine XS.iloadN X0.here hx rfl (hb hby at_20) rfl ?_
    show Steps p.tables e below (s₁.setTop (mkF m 21 #[.val (.int p115), .val (.int p116), .val (.int ((p115 &&& (2147483647 : Int32)) % (7 : Int32))), .val (.int (0 : Int32)), .unset, .unset] [(.int ((p115 &&& (2147483647 : Int32)) % (7 : Int32)))])) _
    refine st120 _ ?_
    show Steps p.tables e below (T120.setTop (mkF m 24 #[.val (.int p115), .val (.int p116), .val (.int ((p115 &&& (2147483647 : Int32)) % (7 : Int32))), .val (.int (0 : Int32)), .unset, .unset] [(.ref w121)])) _
    refine XS.astore X120.here hx rfl (hb hby at_24) rfl rfl (l' := #[.val (.int p115), .val (.int p116), .val (.int ((p115 &&& (2147483647 : Int32)) % (7 : Int32))), .val (.int (0 : Int32)), .val (.ref w121), .unset]) rfl ?_
    show Steps p.tables e below (T120.setTop (mkF m 26 #[.val (.int p115), .val (.int p116), .val (.int ((p115 &&& (2147483647 : Int32)) % (7 : Int32))), .val (.int (0 : Int32)), .val (.ref w121), .unset] [])) _
    refine XS.iloadN X120.here hx rfl (hb hby at_26) rfl ?_
    show Steps p.tables e below (T120.setTop (mkF m 27 #[.val (.int p115), .val (.int p116), .val (.int ((p115 &&& (2147483647 : Int32)) % (7 : Int32))), .val (.int (0 : Int32)), .val (.ref w121), .unset] [(.int ((p115 &&& (2147483647 : Int32)) % (7 : Int32)))])) _
    refine XS.iloadN X120.here hx rfl (hb hby at_27) rfl ?_
    show Steps p.tables e below (T120.setTop (mkF m 28 #[.val (.int p115), .val (.int p116), .val (.int ((p115 &&& (2147483647 : Int32)) % (7 : Int32))), .val (.int (0 : Int32)), .val (.ref w121), .unset] [(.int (0 : Int32)), (.int ((p115 &&& (2147483647 : Int32)) % (7 : Int32)))])) _
    refine st126 _ ?_
    show Steps p.tables e below (T126.setTop (mkF m 31 #[.val (.int p115), .val (.int p116), .val (.int ((p115 &&& (2147483647 : Int32)) % (7 : Int32))), .val (.int (0 : Int32)), .val (.ref w121), .unset] [(.ref w127)])) _
    refine XS.astore X126.here hx rfl (hb hby at_31) rfl rfl (l' := #[.val (.int p115), .val (.int p116), .val (.int ((p115 &&& (2147483647 : Int32)) % (7 : Int32))), .val (.int (0 : Int32)), .val (.ref w121), .val (.ref w127)]) rfl ?_
    show Steps p.tables e below (T126.setTop (mkF m 33 #[.val (.int p115), .val (.int p116), .val (.int ((p115 &&& (2147483647 : Int32)) % (7 : Int32))), .val (.int (0 : Int32)), .val (.ref w121), .val (.ref w127)] [])) _
    refine XS.aload X126.here hx rfl (hb hby at_33) rfl rfl ?_
    show Steps p.tables e below (T126.setTop (mkF m 35 #[.val (.int p115), .val (.int p116), .val (.int ((p115 &&& (2147483647 : Int32)) % (7 : Int32))), .val (.int (0 : Int32)), .val (.ref w121), .val (.ref w127)] [(.ref w121)])) _
    refine XS.iloadN X126.here hx rfl (hb hby at_35) rfl ?_
    show Steps p.tables e below (T126.setTop (mkF m 36 #[.val (.int p115), .val (.int p116), .val (.int ((p115 &&& (2147483647 : Int32)) % (7 : Int32))), .val (.int (0 : Int32)), .val (.ref w121), .val (.ref w127)] [(.int (0 : Int32)), (.ref w121)])) _
    refine st132.trans ?_
    show Steps p.tables e below (T132.setTop (mkF m 39 #[.val (.int p115), .val (.int p116), .val (.int ((p115 &&& (2147483647 : Int32)) % (7 : Int32))), .val (.int (0 : Int32)), .val (.ref w121), .val (.ref w127)] [(.ref w133)])) _
    refine XS.aload X132.here hx rfl (hb hby at_39) rfl rfl ?_
    show Steps p.tables e below (T132.setTop (mkF m 41 #[.val (.int p115), .val (.int p116), .val (.int ((p115 &&& (2147483647 : Int32)) % (7 : Int32))), .val (.int (0 : Int32)), .val (.ref w121), .val (.ref w127)] [(.ref w127), (.ref w133)])) _
    refine Jvm.RoadKit.acmp (g := (mkF m 41 #[.val (.int p115), .val (.int p116), .val (.int ((p115 &&& (2147483647 : Int32)) % (7 : Int32))), .val (.int (0 : Int32)), .val (.ref w121), .val (.ref w127)] [(.ref w127), (.ref w133)])) X132 hx rfl rfl rfl (pc0 := 41) (pc' := 44) (same := true) rfl (hb hby at_41) rfl (decide_eq_true (congrArg Value.ref H9)) (by decide) (by decide) ?_
    show Steps p.tables e below (T132.setTop (mkF m 44 #[.val (.int p115), .val (.int p116), .val (.int ((p115 &&& (2147483647 : Int32)) % (7 : Int32))), .val (.int (0 : Int32)), .val (.ref w121), .val (.ref w127)] [])) _
    refine XS.iconst X132.here hx rfl (hb hby at_44) ?_
    show Steps p.tables e below (T132.setTop (mkF m 45 #[.val (.int p115), .val (.int p116), .val (.int ((p115 &&& (2147483647 : Int32)) % (7 : Int32))), .val (.int (0 : Int32)), .val (.ref w121), .val (.ref w127)] [(.int (1 : Int32))])) _
    refine XS.goto X132.here hx rfl (pc0 := 45) (pc' := 49) rfl (hb hby at_45) (by decide) (by decide) ?_
    show Steps p.tables e below (T132.setTop (mkF m 49 #[.val (.int p115), .val (.int p116), .val (.int ((p115 &&& (2147483647 : Int32)) % (7 : Int32))), .val (.int (0 : Int32)), .val (.ref w121), .val (.ref w127)] [(.int (1 : Int32))])) _
    exact retN X132 hx (t := .boolean) Bd.returns (by simp) (hb hby at_49) hr
  · show OQl (some (.int (1 : Int32))) n0 _ T132.heap _
    exact ⟨rfl, N132⟩
theorem d2_22 : decode method_3_code 22 = .ok (.iload_n 0, 1) := by decide +kernel
theorem d2_23 : decode method_3_code 23 = .ok (.iconst 3, 1) := by decide +kernel
theorem d2_24 : decode method_3_code 24 = .ok (.if_icmp .ne 7, 3) := by decide +kernel
theorem d2_27 : decode method_3_code 27 = .ok (.getstatic 37, 3) := by decide +kernel
theorem d2_30 : decode method_3_code 30 = .ok (.areturn, 1) := by decide +kernel
set_option maxRecDepth 65536 in
set_option maxHeartbeats 40000000 in
theorem r2_8 (l : Launch) (Z : State) (a0 : Array Value) (hw : ∀ d ∈ tables_1, d.before a0 Z = true) (p141 : Int32) (p142 : Int32) (w143 : Addr) (h0 : Heap) (n0 : Nat) (Z0 : n0 ≤ h0.size) (H0 : ¬ (p142 = (0 : Int32))) (H1 : ¬ (p141 = (0 : Int32))) (H2 : ¬ (p141 = (1 : Int32))) (H3 : ¬ (p141 = (2 : Int32))) (H4 : p141 = (3 : Int32)) (H5 : Sta Z h0 "com/example/transaction_scopes/transactionscopes/Propagation$Conduct" "BEGIN" "Lcom/example/transaction_scopes/transactionscopes/Propagation$Conduct;" (.ref w143)) :
    OMet l Z (⟨"com/example/transaction_scopes/transactionscopes/PropagationConductPinLaw", "expected", "(IZ)Lcom/example/transaction_scopes/transactionscopes/Propagation$Conduct;"⟩ : MethodName) method_3_code 2 (some (.object "com/example/transaction_scopes/transactionscopes/Propagation$Conduct")) [] ({ frames := 0, cells := 0, slots := 0, locals := 0 } : Room) h0 #[(.int p141), (.int p142)] (OQp (some (.ref w143)) h0 n0) := by
  refine MetFree.of_bodySF (plainFor_of_name pn_com_example_transaction_scopes_transactionscopes_PropagationConductPinLaw) hisR ?_
  intro p e s m args below meth c s₁ Bd hml0 hP hK
  obtain ⟨rfl, hZ, hh⟩ := hP
  have hx := Bd.exec
  have hby := Bd.bytes
  have hml : c.maxLocals = 2 := hml0
  have hown : s.vm.findClass "com/example/transaction_scopes/transactionscopes/PropagationConductPinLaw" = some m.cls := findClass_of_methodNamed Bd.named
  have hnm := (name_of_methodNamed Bd.named Bd.method).1
  have X0 : Stand p l e ({ frames := 0, cells := 0, slots := 0, locals := 0 } : Room) s m #[(.int p141), (.int p142)] below meth c s₁ [] 0 0 := Stand.of_body Bd
  have e0 : s₁.heap = h0 := by rw [← hh, Bd.state]; rfl
  have N0 := Fr.nil n0
  have pre0 : ∀ t, Steps p.tables e below (s₁.setTop (mkF m 0 #[.val (.int p141), .val (.int p142)] [])) t → Steps p.tables e below (s₁.setTop (entryFrame m #[(.int p141), (.int p142)] 2)) t := fun t k => castTop (ef_2_vv m p141 p142) k
  obtain ⟨T144, X144, e144, st144⟩ := getS2 X0 hx hZ hown (host := "") (Or.inl (hw _ (List.mem_of_getElem? (i := 23) rfl))) Via.refl e0 H5 (g := (mkF m 27 #[.val (.int p141), .val (.int p142)] [])) rfl (hb hby d2_27)
  obtain ⟨fs, hr, hrun, hended, hW, hsame⟩ := X144.leave (v := some (.ref w143)) (fun h => by rw [Bd.returns] at h; cases h)
  refine ⟨_, _, pre0 _ ?_, hrun, hended, _, _, rfl, ?_, ⟨_, rfl⟩, hW, hsame.mono (by decide) (by decide)⟩
  · show Steps p.tables e below (s₁.setTop (mkF m 0 #[.val (.int p141), .val (.int p142)] [])) _
    refine XS.iloadN X0.here hx rfl (hb hby d2_0) rfl ?_
    show Steps p.tables e below (s₁.setTop (mkF m 1 #[.val (.int p141), .val (.int p142)] [(.int p142)])) _
    refine XS.ifNo X0.here hx rfl (hb hby d2_1) rfl ((if0 _ _).trans (feq H0).1) ?_
    show Steps p.tables e below (s₁.setTop (mkF m 4 #[.val (.int p141), .val (.int p142)] [])) _
    refine XS.iloadN X0.here hx rfl (hb hby d2_4) rfl ?_
    show Steps p.tables e below (s₁.setTop (mkF m 5 #[.val (.int p141), .val (.int p142)] [(.int p141)])) _
    refine XS.ifNo X0.here hx rfl (hb hby d2_5) rfl ((if0 _ _).trans (feq H1).1) ?_
    show Steps p.tables e below (s₁.setTop (mkF m 8 #[.val (.int p141), .val (.int p142)] [])) _
    refine XS.iloadN X0.here hx rfl (hb hby d2_8) rfl ?_
    show Steps p.tables e below (s₁.setTop (mkF m 9 #[.val (.int p141), .val (.int p142)] [(.int p141)])) _
    refine XS.iconst X0.here hx rfl (hb hby d2_9) ?_
    show Steps p.tables e below (s₁.setTop (mkF m 10 #[.val (.int p141), .val (.int p142)] [(.int (1 : Int32)), (.int p141)])) _
    refine XS.icmpNo X0.here hx rfl (hb hby d2_10) rfl (feq H2).1 ?_
    show Steps p.tables e below (s₁.setTop (mkF m 13 #[.val (.int p141), .val (.int p142)] [])) _
    refine XS.iloadN X0.here hx rfl (hb hby d2_13) rfl ?_
    show Steps p.tables e below (s₁.setTop (mkF m 14 #[.val (.int p141), .val (.int p142)] [(.int p141)])) _
    refine XS.iconst X0.here hx rfl (hb hby d2_14) ?_
    show Steps p.tables e below (s₁.setTop (mkF m 15 #[.val (.int p141), .val (.int p142)] [(.int (2 : Int32)), (.int p141)])) _
    refine XS.icmpYes X0.here hx rfl (pc0 := 15) (pc' := 22) rfl (hb hby d2_15) rfl (feq H3).2 (by decide) (by decide) ?_
    show Steps p.tables e below (s₁.setTop (mkF m 22 #[.val (.int p141), .val (.int p142)] [])) _
    refine XS.iloadN X0.here hx rfl (hb hby d2_22) rfl ?_
    show Steps p.tables e below (s₁.setTop (mkF m 23 #[.val (.int p141), .val (.int p142)] [(.int p141)])) _
    refine XS.iconst X0.here hx rfl (hb hby d2_23) ?_
    show Steps p.tables e below (s₁.setTop (mkF m 24 #[.val (.int p141), .val (.int p142)] [(.int (3 : Int32)), (.int p141)])) _
    refine XS.icmpNo X0.here hx rfl (hb hby d2_24) rfl (teq H4).2 ?_
    show Steps p.tables e below (s₁.setTop (mkF m 27 #[.val (.int p141), .val (.int p142)] [])) _
    refine st144 _ ?_
    show Steps p.tables e below (T144.setTop (mkF m 30 #[.val (.int p141), .val (.int p142)] [(.ref w143)])) _
    jvm_step X144.here [X144.here.top, hx, (hb hby d2_30), X144.method', Bd.returns, Value.isRef, FieldType.isReference]
    first | (intro acts; rw [hr _ acts rfl rfl rfl]) | rw [hr _ _ rfl rfl rfl]
    exact Steps.refl _
  · show OQp (some (.ref w143)) h0 n0 _ T144.heap _
    rw [e144]
    exact ⟨rfl, N0, rfl⟩
set_option maxRecDepth 65536 in
set_option maxHeartbeats 40000000 in
theorem r0_8 (l : Launch) (Z : State) (a0 : Array Value) (hw : ∀ d ∈ tables_1, d.before a0 Z = true) (p134 : Int32) (p135 : Int32) (w140 : Addr) (w146 : Addr) (w152 : Addr) (h0 : Heap) (n0 : Nat) (Z0 : n0 ≤ h0.size) (H0 : ¬ ((p135 &&& (1 : Int32)) = (0 : Int32))) (H1 : ¬ (((p134 &&& (2147483647 : Int32)) % (7 : Int32)) = (0 : Int32))) (H2 : ¬ (((p134 &&& (2147483647 : Int32)) % (7 : Int32)) = (1 : Int32))) (H3 : ¬ (((p134 &&& (2147483647 : Int32)) % (7 : Int32)) = (2 : Int32))) (H4 : ((p134 &&& (2147483647 : Int32)) % (7 : Int32)) = (3 : Int32)) (H5 : Sta Z h0 "com/example/transaction_scopes/transactionscopes/Propagation" "REQUIRES_NEW" "Lcom/example/transaction_scopes/transactionscopes/Propagation;" (.ref w140)) (H6 : Sta Z h0 "com/example/transaction_scopes/transactionscopes/Propagation$Conduct" "BEGIN" "Lcom/example/transaction_scopes/transactionscopes/Propagation$Conduct;" (.ref w146)) (H7 : Fld Z h0 w140 "com/example/transaction_scopes/transactionscopes/Propagation" "withTransaction" "Lcom/example/transaction_scopes/transactionscopes/Propagation$Conduct;" (.ref w152)) (H8 : Exa Z h0 w140 "com/example/transaction_scopes/transactionscopes/Propagation") (H9 : w152 = w146) :
    OMet l Z x code maxLocals ret tables_1 room_1 h0 #[(.int p134), (.int p135)] (OQl (some (.int (1 : Int32))) n0) := by
  refine MetFree.of_bodySF (plainFor_of_name pn_com_example_transaction_scopes_transactionscopes_PropagationConductPinLaw) hisR ?_
  intro p e s m args below meth c s₁ Bd hml0 hP hK
  obtain ⟨rfl, hZ, hh⟩ := hP
  have hx := Bd.exec
  have hby := Bd.bytes
  have hml : c.maxLocals = 6 := hml0
  have hown : s.vm.findClass "com/example/transaction_scopes/transactionscopes/PropagationConductPinLaw" = some m.cls := findClass_of_methodNamed Bd.named
  have hnm := (name_of_methodNamed Bd.named Bd.method).1
  have X0 : Stand p l e room_1 s m #[(.int p134), (.int p135)] below meth c s₁ [] 0 0 := Stand.of_body Bd
  have e0 : s₁.heap = h0 := by rw [← hh, Bd.state]; rfl
  have N0 := Fr.nil n0
  have pre0 : ∀ t, Steps p.tables e below (s₁.setTop (mkF m 0 #[.val (.int p134), .val (.int p135), .unset, .unset, .unset, .unset] [])) t → Steps p.tables e below (s₁.setTop (entryFrame m #[(.int p134), (.int p135)] maxLocals)) t := fun t k => castTop (ef_0_vv m p134 p135) k
  obtain ⟨_, _, ⟨T139, L139, k139, n139⟩, -, X139, ⟨Lc139, hQ139, l139, y139, z139⟩, st139⟩ := Jvm.LawKit.callS X0 hx (y := (⟨"com/example/transaction_scopes/transactionscopes/PropagationConductPinLaw", "pick", "(I)Lcom/example/transaction_scopes/transactionscopes/Propagation;"⟩ : MethodName)) hown (mvT hZ (hw _ (List.mem_of_getElem? (i := 1) rfl))) (mvT hZ (hw _ (List.mem_of_getElem? (i := 2) rfl))) (mvT hZ (hw _ (List.mem_of_getElem? (i := 3) rfl))) (mvT hZ (hw _ (List.mem_of_getElem? (i := 4) rfl))) (by decide) (backOf (W := 0) (r1_4 l Z a0 hw ((p134 &&& (2147483647 : Int32)) % (7 : Int32)) w140 h0 n0 Z0 H1 H2 H3 H4 H5) hZ (hw _ (List.mem_of_getElem? (i := 4) rfl)) (hw _ (List.mem_of_getElem? (i := 3) rfl)) (by decide) (by decide)) (g := (mkF m 21 #[.val (.int p134), .val (.int p135), .val (.int ((p134 &&& (2147483647 : Int32)) % (7 : Int32))), .val (.int (1 : Int32)), .unset, .unset] [(.int ((p134 &&& (2147483647 : Int32)) % (7 : Int32)))])) rfl (by rw [hml]; rfl) (argsL := [(.int ((p134 &&& (2147483647 : Int32)) % (7 : Int32)))]) (rest := []) (lenOf pd_0 rfl) rfl (by show 2 * 0 + _ ≤ _; exact Nat.le_of_eq rfl) (hb hby at_21) (fun _ _ => ⟨rfl, e0, (by decide : 0 + 0 ≤ _), (by decide : 0 + 0 ≤ _)⟩)
  dsimp only [Pt.U, Pt.locs, Pt.cells, Pt.slots] at X139 l139 y139 z139 st139 hQ139
  subst l139 y139 z139
  obtain ⟨rfl, N139q, e139⟩ := hQ139
  have N139 := Fr.app N0 N139q
  obtain ⟨_, _, ⟨T145, L145, k145, n145⟩, -, X145, ⟨Lc145, hQ145, l145, y145, z145⟩, st145⟩ := Jvm.LawKit.callS X139 hx (y := (⟨"com/example/transaction_scopes/transactionscopes/PropagationConductPinLaw", "expected", "(IZ)Lcom/example/transaction_scopes/transactionscopes/Propagation$Conduct;"⟩ : MethodName)) hown (mvT hZ (hw _ (List.mem_of_getElem? (i := 8) rfl))) (mvT hZ (hw _ (List.mem_of_getElem? (i := 9) rfl))) (mvT hZ (hw _ (List.mem_of_getElem? (i := 3) rfl))) (mvT hZ (hw _ (List.mem_of_getElem? (i := 10) rfl))) (by decide) (backOf (W := 0) (r2_8 l Z a0 hw ((p134 &&& (2147483647 : Int32)) % (7 : Int32)) (1 : Int32) w146 h0 n0 Z0 (by decide) H1 H2 H3 H4 H6) hZ (hw _ (List.mem_of_getElem? (i := 10) rfl)) (hw _ (List.mem_of_getElem? (i := 3) rfl)) (by decide) (by decide)) (g := (mkF m 28 #[.val (.int p134), .val (.int p135), .val (.int ((p134 &&& (2147483647 : Int32)) % (7 : Int32))), .val (.int (1 : Int32)), .val (.ref w140), .unset] [(.int (1 : Int32)), (.int ((p134 &&& (2147483647 : Int32)) % (7 : Int32)))])) rfl (by rw [hml]; rfl) (argsL := [(.int ((p134 &&& (2147483647 : Int32)) % (7 : Int32))), (.int (1 : Int32))]) (rest := []) (lenOf pd_1 rfl) rfl (by show 2 * 0 + _ ≤ _; exact Nat.le_of_eq rfl) (hb hby at_28) (fun _ _ => ⟨rfl, e139, (by decide : 0 + 0 ≤ _), (by decide : 0 + 0 ≤ _)⟩)
  dsimp only [Pt.U, Pt.locs, Pt.cells, Pt.slots] at X145 l145 y145 z145 st145 hQ145
  subst l145 y145 z145
  obtain ⟨rfl, N145q, e145⟩ := hQ145
  have N145 := Fr.app N139 N145q
  obtain ⟨cq151, kq151, q151a, q151b, q151c⟩ := isOf hZ e145 H8
  obtain ⟨_, _, ⟨T151, L151, k151, n151⟩, -, X151, ⟨Lc151, hQ151, l151, y151, z151⟩, st151⟩ := X145.virtualBack hx (y := (⟨"com/example/transaction_scopes/transactionscopes/Propagation", "conduct", "(Z)Lcom/example/transaction_scopes/transactionscopes/Propagation$Conduct;"⟩ : MethodName)) (z := (⟨"com/example/transaction_scopes/transactionscopes/Propagation", "conduct", "(Z)Lcom/example/transaction_scopes/transactionscopes/Propagation$Conduct;"⟩ : MethodName)) hown (mvT hZ (hw _ (List.mem_of_getElem? (i := 14) rfl))) (mvT hZ (hw _ (List.mem_of_getElem? (i := 15) rfl))) (notFace_of_selects (args := #[]) (mvT hZ (hw _ (List.mem_of_getElem? (i := 17) rfl)))) (mvT hZ (hw _ (List.mem_of_getElem? (i := 17) rfl))) (mvT hZ (hw _ (List.mem_of_getElem? (i := 16) rfl))) (by decide) (backOf (W := 0) (r3_2 l Z a0 hw w140 (1 : Int32) w152 h0 n0 Z0 (by decide) H7) hZ (hw _ (List.mem_of_getElem? (i := 18) rfl)) (hw _ (List.mem_of_getElem? (i := 6) rfl)) (by decide) (by decide)) q151a q151c (g := (mkF m 36 #[.val (.int p134), .val (.int p135), .val (.int ((p134 &&& (2147483647 : Int32)) % (7 : Int32))), .val (.int (1 : Int32)), .val (.ref w140), .val (.ref w146)] [(.int (1 : Int32)), (.ref w140)])) rfl (by rw [hml]; rfl) (Steps.refl _) (argsL := [(.int (1 : Int32))]) (rest := []) (lenOf pd_2 rfl) rfl (by show 2 * 0 + _ ≤ _; exact Nat.le_of_eq rfl) (hb hby at_36) (fun _ _ => ⟨rfl, e145, (by decide : 0 + 0 ≤ _), (by decide : 0 + 0 ≤ _)⟩)
  dsimp only [Pt.U, Pt.locs, Pt.cells, Pt.slots] at X151 l151 y151 z151 st151 hQ151
  subst l151 y151 z151
  obtain ⟨rfl, N151q, e151⟩ := hQ151
  have N151 := Fr.app N145 N151q
  obtain ⟨fs, hr, hrun, hended, hW, hsame⟩ := X151.leave (v := some (.int (1 : Int32))) (fun h => by rw [Bd.returns] at h; cases h)
  refine ⟨_, _, pre0 _ ?_, hrun, hended, _, _, rfl, ?_, ⟨_, rfl⟩, hW, hsame.mono (by decide) (by decide)⟩
  · show Steps p.tables e below (s₁.setTop (mkF m 0 #[.val (.int p134), .val (.int p135), .unset, .unset, .unset, .unset] [])) _
    refine XS.iloadN X0.here hx rfl (hb hby at_0) rfl ?_
    show Steps p.tables e below (s₁.setTop (mkF m 1 #[.val (.int p134), .val (.int p135), .unset, .unset, .unset, .unset] [(.int p134)])) _
    refine X0.ldcInt hx hown (mvT hZ (hw _ (List.mem_of_getElem? (i := 0) rfl))) (g := (mkF m 1 #[.val (.int p134), .val (.int p135), .unset, .unset, .unset, .unset] [(.int p134)])) rfl (hb hby at_1) _ ?_
    show Steps p.tables e below (s₁.setTop (mkF m 3 #[.val (.int p134), .val (.int p135), .unset, .unset, .unset, .unset] [(.int (2147483647 : Int32)), (.int p134)])) _
    refine XS.iand X0.here hx rfl (hb hby at_3) rfl ?_
    show Steps p.tables e below (s₁.setTop (mkF m 4 #[.val (.int p134), .val (.int p135), .unset, .unset, .unset, .unset] [(.int (p134 &&& (2147483647 : Int32)))])) _
    refine XS.bipush X0.here hx rfl (hb hby at_4) ?_
    show Steps p.tables e below (s₁.setTop (mkF m 6 #[.val (.int p134), .val (.int p135), .unset, .unset, .unset, .unset] [(.int (7 : Int32)), (.int (p134 &&& (2147483647 : Int32)))])) _
    refine iremM X0 hx rfl (hb hby at_6) rfl (by decide) ?_
    show Steps p.tables e below (s₁.setTop (mkF m 7 #[.val (.int p134), .val (.int p135), .unset, .unset, .unset, .unset] [(.int ((p134 &&& (2147483647 : Int32)) % (7 : Int32)))])) _
    refine XS.istoreN X0.here hx rfl (hb hby at_7) rfl (l' := #[.val (.int p134), .val (.int p135), .val (.int ((p134 &&& (2147483647 : Int32)) % (7 : Int32))), .unset, .unset, .unset]) rfl ?_
    show Steps p.tables e below (s₁.setTop (mkF m 8 #[.val (.int p134), .val (.int p135), .val (.int ((p134 &&& (2147483647 : Int32)) % (7 : Int32))), .unset, .unset, .unset] [])) _
    refine XS.iloadN X0.here hx rfl (hb hby at_8) rfl ?_
    show Steps p.tables e below (s₁.setTop (mkF m 9 #[.val (.int p134), .val (.int p135), .val (.int ((p134 &&& (2147483647 : Int32)) % (7 : Int32))), .unset, .unset, .unset] [(.int p135)])) _
    refine XS.iconst X0.here hx rfl (hb hby at_9) ?_
    show Steps p.tables e below (s₁.setTop (mkF m 10 #[.val (.int p134), .val (.int p135), .val (.int ((p134 &&& (2147483647 : Int32)) % (7 : Int32))), .unset, .unset, .unset] [(.int (1 : Int32)), (.int p135)])) _
    refine XS.iand X0.here hx rfl (hb hby at_10) rfl ?_
    show Steps p.tables e below (s₁.setTop (mkF m 11 #[.val (.int p134), .val (.int p135), .val (.int ((p134 &&& (2147483647 : Int32)) % (7 : Int32))), .unset, .unset, .unset] [(.int (p135 &&& (1 : Int32)))])) _
    refine XS.ifNo X0.here hx rfl (hb hby at_11) rfl ((if0 _ _).trans (feq H0).1) ?_
    show Steps p.tables e below (s₁.setTop (mkF m 14 #[.val (.int p134), .val (.int p135), .val (.int ((p134 &&& (2147483647 : Int32)) % (7 : Int32))), .unset, .unset, .unset] [])) _
    refine XS.iconst X0.here hx rfl (hb hby at_14) ?_
    show Steps p.tables e below (s₁.setTop (mkF m 15 #[.val (.int p134), .val (.int p135), .val (.int ((p134 &&& (2147483647 : Int32)) % (7 : Int32))), .unset, .unset, .unset] [(.int (1 : Int32))])) _
    refine XS.goto X0.here hx rfl (pc0 := 15) (pc' := 19) rfl (hb hby at_15) (by decide) (by decide) ?_
    show Steps p.tables e below (s₁.setTop (mkF m 19 #[.val (.int p134), .val (.int p135), .val (.int ((p134 &&& (2147483647 : Int32)) % (7 : Int32))), .unset, .unset, .unset] [(.int (1 : Int32))])) _
    refine XS.istoreN X0.here hx rfl (hb hby at_19) rfl (l' := #[.val (.int p134), .val (.int p135), .val (.int ((p134 &&& (2147483647 : Int32)) % (7 : Int32))), .val (.int (1 : Int32)), .unset, .unset]) rfl ?_
    show Steps p.tables e below (s₁.setTop (mkF m 20 #[.val (.int p134), .val (.int p135), .val (.int ((p134 &&& (2147483647 : Int32)) % (7 : Int32))), .val (.int (1 : Int32)), .unset, .unset] [])) _
    refine XS.iloadN X0.here hx rfl (hb hby at_20) rfl ?_
    show Steps p.tables e below (s₁.setTop (mkF m 21 #[.val (.int p134), .val (.int p135), .val (.int ((p134 &&& (2147483647 : Int32)) % (7 : Int32))), .val (.int (1 : Int32)), .unset, .unset] [(.int ((p134 &&& (2147483647 : Int32)) % (7 : Int32)))])) _
    refine st139 _ ?_
    show Steps p.tables e below (T139.setTop (mkF m 24 #[.val (.int p134), .val (.int p135), .val (.int ((p134 &&& (2147483647 : Int32)) % (7 : Int32))), .val (.int (1 : Int32)), .unset, .unset] [(.ref w140)])) _
    refine XS.astore X139.here hx rfl (hb hby at_24) rfl rfl (l' := #[.val (.int p134), .val (.int p135), .val (.int ((p134 &&& (2147483647 : Int32)) % (7 : Int32))), .val (.int (1 : Int32)), .val (.ref w140), .unset]) rfl ?_
    show Steps p.tables e below (T139.setTop (mkF m 26 #[.val (.int p134), .val (.int p135), .val (.int ((p134 &&& (2147483647 : Int32)) % (7 : Int32))), .val (.int (1 : Int32)), .val (.ref w140), .unset] [])) _
    refine XS.iloadN X139.here hx rfl (hb hby at_26) rfl ?_
    show Steps p.tables e below (T139.setTop (mkF m 27 #[.val (.int p134), .val (.int p135), .val (.int ((p134 &&& (2147483647 : Int32)) % (7 : Int32))), .val (.int (1 : Int32)), .val (.ref w140), .unset] [(.int ((p134 &&& (2147483647 : Int32)) % (7 : Int32)))])) _
    refine XS.iloadN X139.here hx rfl (hb hby at_27) rfl ?_
    show Steps p.tables e below (T139.setTop (mkF m 28 #[.val (.int p134), .val (.int p135), .val (.int ((p134 &&& (2147483647 : Int32)) % (7 : Int32))), .val (.int (1 : Int32)), .val (.ref w140), .unset] [(.int (1 : Int32)), (.int ((p134 &&& (2147483647 : Int32)) % (7 : Int32)))])) _
    refine st145 _ ?_
    show Steps p.tables e below (T145.setTop (mkF m 31 #[.val (.int p134), .val (.int p135), .val (.int ((p134 &&& (2147483647 : Int32)) % (7 : Int32))), .val (.int (1 : Int32)), .val (.ref w140), .unset] [(.ref w146)])) _
    refine XS.astore X145.here hx rfl (hb hby at_31) rfl rfl (l' := #[.val (.int p134), .val (.int p135), .val (.int ((p134 &&& (2147483647 : Int32)) % (7 : Int32))), .val (.int (1 : Int32)), .val (.ref w140), .val (.ref w146)]) rfl ?_
    show Steps p.tables e below (T145.setTop (mkF m 33 #[.val (.int p134), .val (.int p135), .val (.int ((p134 &&& (2147483647 : Int32)) % (7 : Int32))), .val (.int (1 : Int32)), .val (.ref w140), .val (.ref w146)] [])) _
    refine XS.aload X145.here hx rfl (hb hby at_33) rfl rfl ?_
    show Steps p.tables e below (T145.setTop (mkF m 35 #[.val (.int p134), .val (.int p135), .val (.int ((p134 &&& (2147483647 : Int32)) % (7 : Int32))), .val (.int (1 : Int32)), .val (.ref w140), .val (.ref w146)] [(.ref w140)])) _
    refine XS.iloadN X145.here hx rfl (hb hby at_35) rfl ?_
    show Steps p.tables e below (T145.setTop (mkF m 36 #[.val (.int p134), .val (.int p135), .val (.int ((p134 &&& (2147483647 : Int32)) % (7 : Int32))), .val (.int (1 : Int32)), .val (.ref w140), .val (.ref w146)] [(.int (1 : Int32)), (.ref w140)])) _
    refine st151.trans ?_
    show Steps p.tables e below (T151.setTop (mkF m 39 #[.val (.int p134), .val (.int p135), .val (.int ((p134 &&& (2147483647 : Int32)) % (7 : Int32))), .val (.int (1 : Int32)), .val (.ref w140), .val (.ref w146)] [(.ref w152)])) _
    refine XS.aload X151.here hx rfl (hb hby at_39) rfl rfl ?_
    show Steps p.tables e below (T151.setTop (mkF m 41 #[.val (.int p134), .val (.int p135), .val (.int ((p134 &&& (2147483647 : Int32)) % (7 : Int32))), .val (.int (1 : Int32)), .val (.ref w140), .val (.ref w146)] [(.ref w146), (.ref w152)])) _
    refine Jvm.RoadKit.acmp (g := (mkF m 41 #[.val (.int p134), .val (.int p135), .val (.int ((p134 &&& (2147483647 : Int32)) % (7 : Int32))), .val (.int (1 : Int32)), .val (.ref w140), .val (.ref w146)] [(.ref w146), (.ref w152)])) X151 hx rfl rfl rfl (pc0 := 41) (pc' := 44) (same := true) rfl (hb hby at_41) rfl (decide_eq_true (congrArg Value.ref H9)) (by decide) (by decide) ?_
    show Steps p.tables e below (T151.setTop (mkF m 44 #[.val (.int p134), .val (.int p135), .val (.int ((p134 &&& (2147483647 : Int32)) % (7 : Int32))), .val (.int (1 : Int32)), .val (.ref w140), .val (.ref w146)] [])) _
    refine XS.iconst X151.here hx rfl (hb hby at_44) ?_
    show Steps p.tables e below (T151.setTop (mkF m 45 #[.val (.int p134), .val (.int p135), .val (.int ((p134 &&& (2147483647 : Int32)) % (7 : Int32))), .val (.int (1 : Int32)), .val (.ref w140), .val (.ref w146)] [(.int (1 : Int32))])) _
    refine XS.goto X151.here hx rfl (pc0 := 45) (pc' := 49) rfl (hb hby at_45) (by decide) (by decide) ?_
    show Steps p.tables e below (T151.setTop (mkF m 49 #[.val (.int p134), .val (.int p135), .val (.int ((p134 &&& (2147483647 : Int32)) % (7 : Int32))), .val (.int (1 : Int32)), .val (.ref w140), .val (.ref w146)] [(.int (1 : Int32))])) _
    exact retN X151 hx (t := .boolean) Bd.returns (by simp) (hb hby at_49) hr
  · show OQl (some (.int (1 : Int32))) n0 _ T151.heap _
    exact ⟨rfl, N151⟩
theorem d1_35 : decode method_2_code 35 = .ok (.iload_n 0, 1) := by decide +kernel
theorem d1_36 : decode method_2_code 36 = .ok (.iconst 4, 1) := by decide +kernel
theorem d1_37 : decode method_2_code 37 = .ok (.if_icmp .ne 7, 3) := by decide +kernel
theorem d1_40 : decode method_2_code 40 = .ok (.getstatic 22, 3) := by decide +kernel
theorem d1_43 : decode method_2_code 43 = .ok (.areturn, 1) := by decide +kernel
set_option maxRecDepth 65536 in
set_option maxHeartbeats 40000000 in
theorem r1_5 (l : Launch) (Z : State) (a0 : Array Value) (hw : ∀ d ∈ tables_1, d.before a0 Z = true) (p155 : Int32) (w156 : Addr) (h0 : Heap) (n0 : Nat) (Z0 : n0 ≤ h0.size) (H0 : ¬ (p155 = (0 : Int32))) (H1 : ¬ (p155 = (1 : Int32))) (H2 : ¬ (p155 = (2 : Int32))) (H3 : ¬ (p155 = (3 : Int32))) (H4 : p155 = (4 : Int32)) (H5 : Sta Z h0 "com/example/transaction_scopes/transactionscopes/Propagation" "NOT_SUPPORTED" "Lcom/example/transaction_scopes/transactionscopes/Propagation;" (.ref w156)) :
    OMet l Z (⟨"com/example/transaction_scopes/transactionscopes/PropagationConductPinLaw", "pick", "(I)Lcom/example/transaction_scopes/transactionscopes/Propagation;"⟩ : MethodName) method_2_code 1 (some (.object "com/example/transaction_scopes/transactionscopes/Propagation")) [] ({ frames := 0, cells := 0, slots := 0, locals := 0 } : Room) h0 #[(.int p155)] (OQp (some (.ref w156)) h0 n0) := by
  refine MetFree.of_bodySF (plainFor_of_name pn_com_example_transaction_scopes_transactionscopes_PropagationConductPinLaw) hisR ?_
  intro p e s m args below meth c s₁ Bd hml0 hP hK
  obtain ⟨rfl, hZ, hh⟩ := hP
  have hx := Bd.exec
  have hby := Bd.bytes
  have hml : c.maxLocals = 1 := hml0
  have hown : s.vm.findClass "com/example/transaction_scopes/transactionscopes/PropagationConductPinLaw" = some m.cls := findClass_of_methodNamed Bd.named
  have hnm := (name_of_methodNamed Bd.named Bd.method).1
  have X0 : Stand p l e ({ frames := 0, cells := 0, slots := 0, locals := 0 } : Room) s m #[(.int p155)] below meth c s₁ [] 0 0 := Stand.of_body Bd
  have e0 : s₁.heap = h0 := by rw [← hh, Bd.state]; rfl
  have N0 := Fr.nil n0
  have pre0 : ∀ t, Steps p.tables e below (s₁.setTop (mkF m 0 #[.val (.int p155)] [])) t → Steps p.tables e below (s₁.setTop (entryFrame m #[(.int p155)] 1)) t := fun t k => castTop (ef_1_v m p155) k
  obtain ⟨T157, X157, e157, st157⟩ := getS2 X0 hx hZ hown (host := "") (Or.inl (hw _ (List.mem_of_getElem? (i := 31) rfl))) Via.refl e0 H5 (g := (mkF m 40 #[.val (.int p155)] [])) rfl (hb hby d1_40)
  obtain ⟨fs, hr, hrun, hended, hW, hsame⟩ := X157.leave (v := some (.ref w156)) (fun h => by rw [Bd.returns] at h; cases h)
  refine ⟨_, _, pre0 _ ?_, hrun, hended, _, _, rfl, ?_, ⟨_, rfl⟩, hW, hsame.mono (by decide) (by decide)⟩
  · show Steps p.tables e below (s₁.setTop (mkF m 0 #[.val (.int p155)] [])) _
    refine XS.iloadN X0.here hx rfl (hb hby d1_0) rfl ?_
    show Steps p.tables e below (s₁.setTop (mkF m 1 #[.val (.int p155)] [(.int p155)])) _
    refine XS.ifYes X0.here hx rfl (pc0 := 1) (pc' := 8) rfl (hb hby d1_1) rfl ((if0 _ _).trans (feq H0).2) (by decide) (by decide) ?_
    show Steps p.tables e below (s₁.setTop (mkF m 8 #[.val (.int p155)] [])) _
    refine XS.iloadN X0.here hx rfl (hb hby d1_8) rfl ?_
    show Steps p.tables e below (s₁.setTop (mkF m 9 #[.val (.int p155)] [(.int p155)])) _
    refine XS.iconst X0.here hx rfl (hb hby d1_9) ?_
    show Steps p.tables e below (s₁.setTop (mkF m 10 #[.val (.int p155)] [(.int (1 : Int32)), (.int p155)])) _
    refine XS.icmpYes X0.here hx rfl (pc0 := 10) (pc' := 17) rfl (hb hby d1_10) rfl (feq H1).2 (by decide) (by decide) ?_
    show Steps p.tables e below (s₁.setTop (mkF m 17 #[.val (.int p155)] [])) _
    refine XS.iloadN X0.here hx rfl (hb hby d1_17) rfl ?_
    show Steps p.tables e below (s₁.setTop (mkF m 18 #[.val (.int p155)] [(.int p155)])) _
    refine XS.iconst X0.here hx rfl (hb hby d1_18) ?_
    show Steps p.tables e below (s₁.setTop (mkF m 19 #[.val (.int p155)] [(.int (2 : Int32)), (.int p155)])) _
    refine XS.icmpYes X0.here hx rfl (pc0 := 19) (pc' := 26) rfl (hb hby d1_19) rfl (feq H2).2 (by decide) (by decide) ?_
    show Steps p.tables e below (s₁.setTop (mkF m 26 #[.val (.int p155)] [])) _
    refine XS.iloadN X0.here hx rfl (hb hby d1_26) rfl ?_
    show Steps p.tables e below (s₁.setTop (mkF m 27 #[.val (.int p155)] [(.int p155)])) _
    refine XS.iconst X0.here hx rfl (hb hby d1_27) ?_
    show Steps p.tables e below (s₁.setTop (mkF m 28 #[.val (.int p155)] [(.int (3 : Int32)), (.int p155)])) _
    refine XS.icmpYes X0.here hx rfl (pc0 := 28) (pc' := 35) rfl (hb hby d1_28) rfl (feq H3).2 (by decide) (by decide) ?_
    show Steps p.tables e below (s₁.setTop (mkF m 35 #[.val (.int p155)] [])) _
    refine XS.iloadN X0.here hx rfl (hb hby d1_35) rfl ?_
    show Steps p.tables e below (s₁.setTop (mkF m 36 #[.val (.int p155)] [(.int p155)])) _
    refine XS.iconst X0.here hx rfl (hb hby d1_36) ?_
    show Steps p.tables e below (s₁.setTop (mkF m 37 #[.val (.int p155)] [(.int (4 : Int32)), (.int p155)])) _
    refine XS.icmpNo X0.here hx rfl (hb hby d1_37) rfl (teq H4).2 ?_
    show Steps p.tables e below (s₁.setTop (mkF m 40 #[.val (.int p155)] [])) _
    refine st157 _ ?_
    show Steps p.tables e below (T157.setTop (mkF m 43 #[.val (.int p155)] [(.ref w156)])) _
    jvm_step X157.here [X157.here.top, hx, (hb hby d1_43), X157.method', Bd.returns, Value.isRef, FieldType.isReference]
    first | (intro acts; rw [hr _ acts rfl rfl rfl]) | rw [hr _ _ rfl rfl rfl]
    exact Steps.refl _
  · show OQp (some (.ref w156)) h0 n0 _ T157.heap _
    rw [e157]
    exact ⟨rfl, N0, rfl⟩
set_option maxRecDepth 65536 in
set_option maxHeartbeats 40000000 in
theorem r0_9 (l : Launch) (Z : State) (a0 : Array Value) (hw : ∀ d ∈ tables_1, d.before a0 Z = true) (p153 : Int32) (p154 : Int32) (w159 : Addr) (w165 : Addr) (w171 : Addr) (h0 : Heap) (n0 : Nat) (Z0 : n0 ≤ h0.size) (H0 : (p154 &&& (1 : Int32)) = (0 : Int32)) (H1 : ¬ (((p153 &&& (2147483647 : Int32)) % (7 : Int32)) = (0 : Int32))) (H2 : ¬ (((p153 &&& (2147483647 : Int32)) % (7 : Int32)) = (1 : Int32))) (H3 : ¬ (((p153 &&& (2147483647 : Int32)) % (7 : Int32)) = (2 : Int32))) (H4 : ¬ (((p153 &&& (2147483647 : Int32)) % (7 : Int32)) = (3 : Int32))) (H5 : ((p153 &&& (2147483647 : Int32)) % (7 : Int32)) = (4 : Int32)) (H6 : Sta Z h0 "com/example/transaction_scopes/transactionscopes/Propagation" "NOT_SUPPORTED" "Lcom/example/transaction_scopes/transactionscopes/Propagation;" (.ref w159)) (H7 : ¬ (((p153 &&& (2147483647 : Int32)) % (7 : Int32)) = (6 : Int32))) (H8 : Sta Z h0 "com/example/transaction_scopes/transactionscopes/Propagation$Conduct" "RUN_WITHOUT" "Lcom/example/transaction_scopes/transactionscopes/Propagation$Conduct;" (.ref w165)) (H9 : Fld Z h0 w159 "com/example/transaction_scopes/transactionscopes/Propagation" "withoutTransaction" "Lcom/example/transaction_scopes/transactionscopes/Propagation$Conduct;" (.ref w171)) (H10 : Exa Z h0 w159 "com/example/transaction_scopes/transactionscopes/Propagation") (H11 : w171 = w165) :
    OMet l Z x code maxLocals ret tables_1 room_1 h0 #[(.int p153), (.int p154)] (OQl (some (.int (1 : Int32))) n0) := by
  refine MetFree.of_bodySF (plainFor_of_name pn_com_example_transaction_scopes_transactionscopes_PropagationConductPinLaw) hisR ?_
  intro p e s m args below meth c s₁ Bd hml0 hP hK
  obtain ⟨rfl, hZ, hh⟩ := hP
  have hx := Bd.exec
  have hby := Bd.bytes
  have hml : c.maxLocals = 6 := hml0
  have hown : s.vm.findClass "com/example/transaction_scopes/transactionscopes/PropagationConductPinLaw" = some m.cls := findClass_of_methodNamed Bd.named
  have hnm := (name_of_methodNamed Bd.named Bd.method).1
  have X0 : Stand p l e room_1 s m #[(.int p153), (.int p154)] below meth c s₁ [] 0 0 := Stand.of_body Bd
  have e0 : s₁.heap = h0 := by rw [← hh, Bd.state]; rfl
  have N0 := Fr.nil n0
  have pre0 : ∀ t, Steps p.tables e below (s₁.setTop (mkF m 0 #[.val (.int p153), .val (.int p154), .unset, .unset, .unset, .unset] [])) t → Steps p.tables e below (s₁.setTop (entryFrame m #[(.int p153), (.int p154)] maxLocals)) t := fun t k => castTop (ef_0_vv m p153 p154) k
  obtain ⟨_, _, ⟨T158, L158, k158, n158⟩, -, X158, ⟨Lc158, hQ158, l158, y158, z158⟩, st158⟩ := Jvm.LawKit.callS X0 hx (y := (⟨"com/example/transaction_scopes/transactionscopes/PropagationConductPinLaw", "pick", "(I)Lcom/example/transaction_scopes/transactionscopes/Propagation;"⟩ : MethodName)) hown (mvT hZ (hw _ (List.mem_of_getElem? (i := 1) rfl))) (mvT hZ (hw _ (List.mem_of_getElem? (i := 2) rfl))) (mvT hZ (hw _ (List.mem_of_getElem? (i := 3) rfl))) (mvT hZ (hw _ (List.mem_of_getElem? (i := 4) rfl))) (by decide) (backOf (W := 0) (r1_5 l Z a0 hw ((p153 &&& (2147483647 : Int32)) % (7 : Int32)) w159 h0 n0 Z0 H1 H2 H3 H4 H5 H6) hZ (hw _ (List.mem_of_getElem? (i := 4) rfl)) (hw _ (List.mem_of_getElem? (i := 3) rfl)) (by decide) (by decide)) (g := (mkF m 21 #[.val (.int p153), .val (.int p154), .val (.int ((p153 &&& (2147483647 : Int32)) % (7 : Int32))), .val (.int (0 : Int32)), .unset, .unset] [(.int ((p153 &&& (2147483647 : Int32)) % (7 : Int32)))])) rfl (by rw [hml]; rfl) (argsL := [(.int ((p153 &&& (2147483647 : Int32)) % (7 : Int32)))]) (rest := []) (lenOf pd_0 rfl) rfl (by show 2 * 0 + _ ≤ _; exact Nat.le_of_eq rfl) (hb hby at_21) (fun _ _ => ⟨rfl, e0, (by decide : 0 + 0 ≤ _), (by decide : 0 + 0 ≤ _)⟩)
  dsimp only [Pt.U, Pt.locs, Pt.cells, Pt.slots] at X158 l158 y158 z158 st158 hQ158
  subst l158 y158 z158
  obtain ⟨rfl, N158q, e158⟩ := hQ158
  have N158 := Fr.app N0 N158q
  obtain ⟨_, _, ⟨T164, L164, k164, n164⟩, -, X164, ⟨Lc164, hQ164, l164, y164, z164⟩, st164⟩ := Jvm.LawKit.callS X158 hx (y := (⟨"com/example/transaction_scopes/transactionscopes/PropagationConductPinLaw", "expected", "(IZ)Lcom/example/transaction_scopes/transactionscopes/Propagation$Conduct;"⟩ : MethodName)) hown (mvT hZ (hw _ (List.mem_of_getElem? (i := 8) rfl))) (mvT hZ (hw _ (List.mem_of_getElem? (i := 9) rfl))) (mvT hZ (hw _ (List.mem_of_getElem? (i := 3) rfl))) (mvT hZ (hw _ (List.mem_of_getElem? (i := 10) rfl))) (by decide) (backOf (W := 0) (r2_3 l Z a0 hw ((p153 &&& (2147483647 : Int32)) % (7 : Int32)) (0 : Int32) w165 h0 n0 Z0 rfl H1 H4 H7 H3 H8) hZ (hw _ (List.mem_of_getElem? (i := 10) rfl)) (hw _ (List.mem_of_getElem? (i := 3) rfl)) (by decide) (by decide)) (g := (mkF m 28 #[.val (.int p153), .val (.int p154), .val (.int ((p153 &&& (2147483647 : Int32)) % (7 : Int32))), .val (.int (0 : Int32)), .val (.ref w159), .unset] [(.int (0 : Int32)), (.int ((p153 &&& (2147483647 : Int32)) % (7 : Int32)))])) rfl (by rw [hml]; rfl) (argsL := [(.int ((p153 &&& (2147483647 : Int32)) % (7 : Int32))), (.int (0 : Int32))]) (rest := []) (lenOf pd_1 rfl) rfl (by show 2 * 0 + _ ≤ _; exact Nat.le_of_eq rfl) (hb hby at_28) (fun _ _ => ⟨rfl, e158, (by decide : 0 + 0 ≤ _), (by decide : 0 + 0 ≤ _)⟩)
  dsimp only [Pt.U, Pt.locs, Pt.cells, Pt.slots] at X164 l164 y164 z164 st164 hQ164
  subst l164 y164 z164
  obtain ⟨rfl, N164q, e164⟩ := hQ164
  have N164 := Fr.app N158 N164q
  obtain ⟨cq170, kq170, q170a, q170b, q170c⟩ := isOf hZ e164 H10
  obtain ⟨_, _, ⟨T170, L170, k170, n170⟩, -, X170, ⟨Lc170, hQ170, l170, y170, z170⟩, st170⟩ := X164.virtualBack hx (y := (⟨"com/example/transaction_scopes/transactionscopes/Propagation", "conduct", "(Z)Lcom/example/transaction_scopes/transactionscopes/Propagation$Conduct;"⟩ : MethodName)) (z := (⟨"com/example/transaction_scopes/transactionscopes/Propagation", "conduct", "(Z)Lcom/example/transaction_scopes/transactionscopes/Propagation$Conduct;"⟩ : MethodName)) hown (mvT hZ (hw _ (List.mem_of_getElem? (i := 14) rfl))) (mvT hZ (hw _ (List.mem_of_getElem? (i := 15) rfl))) (notFace_of_selects (args := #[]) (mvT hZ (hw _ (List.mem_of_getElem? (i := 17) rfl)))) (mvT hZ (hw _ (List.mem_of_getElem? (i := 17) rfl))) (mvT hZ (hw _ (List.mem_of_getElem? (i := 16) rfl))) (by decide) (backOf (W := 0) (r3_1 l Z a0 hw w159 (0 : Int32) w171 h0 n0 Z0 rfl H9) hZ (hw _ (List.mem_of_getElem? (i := 18) rfl)) (hw _ (List.mem_of_getElem? (i := 6) rfl)) (by decide) (by decide)) q170a q170c (g := (mkF m 36 #[.val (.int p153), .val (.int p154), .val (.int ((p153 &&& (2147483647 : Int32)) % (7 : Int32))), .val (.int (0 : Int32)), .val (.ref w159), .val (.ref w165)] [(.int (0 : Int32)), (.ref w159)])) rfl (by rw [hml]; rfl) (Steps.refl _) (argsL := [(.int (0 : Int32))]) (rest := []) (lenOf pd_2 rfl) rfl (by show 2 * 0 + _ ≤ _; exact Nat.le_of_eq rfl) (hb hby at_36) (fun _ _ => ⟨rfl, e164, (by decide : 0 + 0 ≤ _), (by decide : 0 + 0 ≤ _)⟩)
  dsimp only [Pt.U, Pt.locs, Pt.cells, Pt.slots] at X170 l170 y170 z170 st170 hQ170
  subst l170 y170 z170
  obtain ⟨rfl, N170q, e170⟩ := hQ170
  have N170 := Fr.app N164 N170q
  obtain ⟨fs, hr, hrun, hended, hW, hsame⟩ := X170.leave (v := some (.int (1 : Int32))) (fun h => by rw [Bd.returns] at h; cases h)
  refine ⟨_, _, pre0 _ ?_, hrun, hended, _, _, rfl, ?_, ⟨_, rfl⟩, hW, hsame.mono (by decide) (by decide)⟩
  · show Steps p.tables e below (s₁.setTop (mkF m 0 #[.val (.int p153), .val (.int p154), .unset, .unset, .unset, .unset] [])) _
    refine XS.iloadN X0.here hx rfl (hb hby at_0) rfl ?_
    show Steps p.tables e below (s₁.setTop (mkF m 1 #[.val (.int p153), .val (.int p154), .unset, .unset, .unset, .unset] [(.int p153)])) _
    refine X0.ldcInt hx hown (mvT hZ (hw _ (List.mem_of_getElem? (i := 0) rfl))) (g := (mkF m 1 #[.val (.int p153), .val (.int p154), .unset, .unset, .unset, .unset] [(.int p153)])) rfl (hb hby at_1) _ ?_
    show Steps p.tables e below (s₁.setTop (mkF m 3 #[.val (.int p153), .val (.int p154), .unset, .unset, .unset, .unset] [(.int (2147483647 : Int32)), (.int p153)])) _
    refine XS.iand X0.here hx rfl (hb hby at_3) rfl ?_
    show Steps p.tables e below (s₁.setTop (mkF m 4 #[.val (.int p153), .val (.int p154), .unset, .unset, .unset, .unset] [(.int (p153 &&& (2147483647 : Int32)))])) _
    refine XS.bipush X0.here hx rfl (hb hby at_4) ?_
    show Steps p.tables e below (s₁.setTop (mkF m 6 #[.val (.int p153), .val (.int p154), .unset, .unset, .unset, .unset] [(.int (7 : Int32)), (.int (p153 &&& (2147483647 : Int32)))])) _
    refine iremM X0 hx rfl (hb hby at_6) rfl (by decide) ?_
    show Steps p.tables e below (s₁.setTop (mkF m 7 #[.val (.int p153), .val (.int p154), .unset, .unset, .unset, .unset] [(.int ((p153 &&& (2147483647 : Int32)) % (7 : Int32)))])) _
    refine XS.istoreN X0.here hx rfl (hb hby at_7) rfl (l' := #[.val (.int p153), .val (.int p154), .val (.int ((p153 &&& (2147483647 : Int32)) % (7 : Int32))), .unset, .unset, .unset]) rfl ?_
    show Steps p.tables e below (s₁.setTop (mkF m 8 #[.val (.int p153), .val (.int p154), .val (.int ((p153 &&& (2147483647 : Int32)) % (7 : Int32))), .unset, .unset, .unset] [])) _
    refine XS.iloadN X0.here hx rfl (hb hby at_8) rfl ?_
    show Steps p.tables e below (s₁.setTop (mkF m 9 #[.val (.int p153), .val (.int p154), .val (.int ((p153 &&& (2147483647 : Int32)) % (7 : Int32))), .unset, .unset, .unset] [(.int p154)])) _
    refine XS.iconst X0.here hx rfl (hb hby at_9) ?_
    show Steps p.tables e below (s₁.setTop (mkF m 10 #[.val (.int p153), .val (.int p154), .val (.int ((p153 &&& (2147483647 : Int32)) % (7 : Int32))), .unset, .unset, .unset] [(.int (1 : Int32)), (.int p154)])) _
    refine XS.iand X0.here hx rfl (hb hby at_10) rfl ?_
    show Steps p.tables e below (s₁.setTop (mkF m 11 #[.val (.int p153), .val (.int p154), .val (.int ((p153 &&& (2147483647 : Int32)) % (7 : Int32))), .unset, .unset, .unset] [(.int (p154 &&& (1 : Int32)))])) _
    refine XS.ifYes X0.here hx rfl (pc0 := 11) (pc' := 18) rfl (hb hby at_11) rfl ((if0 _ _).trans (teq H0).1) (by decide) (by decide) ?_
    show Steps p.tables e below (s₁.setTop (mkF m 18 #[.val (.int p153), .val (.int p154), .val (.int ((p153 &&& (2147483647 : Int32)) % (7 : Int32))), .unset, .unset, .unset] [])) _
    refine XS.iconst X0.here hx rfl (hb hby at_18) ?_
    show Steps p.tables e below (s₁.setTop (mkF m 19 #[.val (.int p153), .val (.int p154), .val (.int ((p153 &&& (2147483647 : Int32)) % (7 : Int32))), .unset, .unset, .unset] [(.int (0 : Int32))])) _
    refine XS.istoreN X0.here hx rfl (hb hby at_19) rfl (l' := #[.val (.int p153), .val (.int p154), .val (.int ((p153 &&& (2147483647 : Int32)) % (7 : Int32))), .val (.int (0 : Int32)), .unset, .unset]) rfl ?_
    show Steps p.tables e below (s₁.setTop (mkF m 20 #[.val (.int p153), .val (.int p154), .val (.int ((p153 &&& (2147483647 : Int32)) % (7 : Int32))), .val (.int (0 : Int32)), .unset, .unset] [])) _
    refine XS.iloadN X0.here hx rfl (hb hby at_20) rfl ?_
    show Steps p.tables e below (s₁.setTop (mkF m 21 #[.val (.int p153), .val (.int p154), .val (.int ((p153 &&& (2147483647 : Int32)) % (7 : Int32))), .val (.int (0 : Int32)), .unset, .unset] [(.int ((p153 &&& (2147483647 : Int32)) % (7 : Int32)))])) _
    refine st158 _ ?_
    show Steps p.tables e below (T158.setTop (mkF m 24 #[.val (.int p153), .val (.int p154), .val (.int ((p153 &&& (2147483647 : Int32)) % (7 : Int32))), .val (.int (0 : Int32)), .unset, .unset] [(.ref w159)])) _
    refine XS.astore X158.here hx rfl (hb hby at_24) rfl rfl (l' := #[.val (.int p153), .val (.int p154), .val (.int ((p153 &&& (2147483647 : Int32)) % (7 : Int32))), .val (.int (0 : Int32)), .val (.ref w159), .unset]) rfl ?_
    show Steps p.tables e below (T158.setTop (mkF m 26 #[.val (.int p153), .val (.int p154), .val (.int ((p153 &&& (2147483647 : Int32)) % (7 : Int32))), .val (.int (0 : Int32)), .val (.ref w159), .unset] [])) _
    refine XS.iloadN X158.here hx rfl (hb hby at_26) rfl ?_
    show Steps p.tables e below (T158.setTop (mkF m 27 #[.val (.int p153), .val (.int p154), .val (.int ((p153 &&& (2147483647 : Int32)) % (7 : Int32))), .val (.int (0 : Int32)), .val (.ref w159), .unset] [(.int ((p153 &&& (2147483647 : Int32)) % (7 : Int32)))])) _
    refine XS.iloadN X158.here hx rfl (hb hby at_27) rfl ?_
    show Steps p.tables e below (T158.setTop (mkF m 28 #[.val (.int p153), .val (.int p154), .val (.int ((p153 &&& (2147483647 : Int32)) % (7 : Int32))), .val (.int (0 : Int32)), .val (.ref w159), .unset] [(.int (0 : Int32)), (.int ((p153 &&& (2147483647 : Int32)) % (7 : Int32)))])) _
    refine st164 _ ?_
    show Steps p.tables e below (T164.setTop (mkF m 31 #[.val (.int p153), .val (.int p154), .val (.int ((p153 &&& (2147483647 : Int32)) % (7 : Int32))), .val (.int (0 : Int32)), .val (.ref w159), .unset] [(.ref w165)])) _
    refine XS.astore X164.here hx rfl (hb hby at_31) rfl rfl (l' := #[.val (.int p153), .val (.int p154), .val (.int ((p153 &&& (2147483647 : Int32)) % (7 : Int32))), .val (.int (0 : Int32)), .val (.ref w159), .val (.ref w165)]) rfl ?_
    show Steps p.tables e below (T164.setTop (mkF m 33 #[.val (.int p153), .val (.int p154), .val (.int ((p153 &&& (2147483647 : Int32)) % (7 : Int32))), .val (.int (0 : Int32)), .val (.ref w159), .val (.ref w165)] [])) _
    refine XS.aload X164.here hx rfl (hb hby at_33) rfl rfl ?_
    show Steps p.tables e below (T164.setTop (mkF m 35 #[.val (.int p153), .val (.int p154), .val (.int ((p153 &&& (2147483647 : Int32)) % (7 : Int32))), .val (.int (0 : Int32)), .val (.ref w159), .val (.ref w165)] [(.ref w159)])) _
    refine XS.iloadN X164.here hx rfl (hb hby at_35) rfl ?_
    show Steps p.tables e below (T164.setTop (mkF m 36 #[.val (.int p153), .val (.int p154), .val (.int ((p153 &&& (2147483647 : Int32)) % (7 : Int32))), .val (.int (0 : Int32)), .val (.ref w159), .val (.ref w165)] [(.int (0 : Int32)), (.ref w159)])) _
    refine st170.trans ?_
    show Steps p.tables e below (T170.setTop (mkF m 39 #[.val (.int p153), .val (.int p154), .val (.int ((p153 &&& (2147483647 : Int32)) % (7 : Int32))), .val (.int (0 : Int32)), .val (.ref w159), .val (.ref w165)] [(.ref w171)])) _
    refine XS.aload X170.here hx rfl (hb hby at_39) rfl rfl ?_
    show Steps p.tables e below (T170.setTop (mkF m 41 #[.val (.int p153), .val (.int p154), .val (.int ((p153 &&& (2147483647 : Int32)) % (7 : Int32))), .val (.int (0 : Int32)), .val (.ref w159), .val (.ref w165)] [(.ref w165), (.ref w171)])) _
    refine Jvm.RoadKit.acmp (g := (mkF m 41 #[.val (.int p153), .val (.int p154), .val (.int ((p153 &&& (2147483647 : Int32)) % (7 : Int32))), .val (.int (0 : Int32)), .val (.ref w159), .val (.ref w165)] [(.ref w165), (.ref w171)])) X170 hx rfl rfl rfl (pc0 := 41) (pc' := 44) (same := true) rfl (hb hby at_41) rfl (decide_eq_true (congrArg Value.ref H11)) (by decide) (by decide) ?_
    show Steps p.tables e below (T170.setTop (mkF m 44 #[.val (.int p153), .val (.int p154), .val (.int ((p153 &&& (2147483647 : Int32)) % (7 : Int32))), .val (.int (0 : Int32)), .val (.ref w159), .val (.ref w165)] [])) _
    refine XS.iconst X170.here hx rfl (hb hby at_44) ?_
    show Steps p.tables e below (T170.setTop (mkF m 45 #[.val (.int p153), .val (.int p154), .val (.int ((p153 &&& (2147483647 : Int32)) % (7 : Int32))), .val (.int (0 : Int32)), .val (.ref w159), .val (.ref w165)] [(.int (1 : Int32))])) _
    refine XS.goto X170.here hx rfl (pc0 := 45) (pc' := 49) rfl (hb hby at_45) (by decide) (by decide) ?_
    show Steps p.tables e below (T170.setTop (mkF m 49 #[.val (.int p153), .val (.int p154), .val (.int ((p153 &&& (2147483647 : Int32)) % (7 : Int32))), .val (.int (0 : Int32)), .val (.ref w159), .val (.ref w165)] [(.int (1 : Int32))])) _
    exact retN X170 hx (t := .boolean) Bd.returns (by simp) (hb hby at_49) hr
  · show OQl (some (.int (1 : Int32))) n0 _ T170.heap _
    exact ⟨rfl, N170⟩
theorem d2_31 : decode method_3_code 31 = .ok (.iload_n 0, 1) := by decide +kernel
theorem d2_32 : decode method_3_code 32 = .ok (.iconst 4, 1) := by decide +kernel
theorem d2_33 : decode method_3_code 33 = .ok (.if_icmp .ne 7, 3) := by decide +kernel
theorem d2_36 : decode method_3_code 36 = .ok (.getstatic 40, 3) := by decide +kernel
theorem d2_39 : decode method_3_code 39 = .ok (.areturn, 1) := by decide +kernel
set_option maxRecDepth 65536 in
set_option maxHeartbeats 40000000 in
theorem r2_9 (l : Launch) (Z : State) (a0 : Array Value) (hw : ∀ d ∈ tables_1, d.before a0 Z = true) (p179 : Int32) (p180 : Int32) (w181 : Addr) (h0 : Heap) (n0 : Nat) (Z0 : n0 ≤ h0.size) (H0 : ¬ (p180 = (0 : Int32))) (H1 : ¬ (p179 = (0 : Int32))) (H2 : ¬ (p179 = (1 : Int32))) (H3 : ¬ (p179 = (2 : Int32))) (H4 : ¬ (p179 = (3 : Int32))) (H5 : p179 = (4 : Int32)) (H6 : Sta Z h0 "com/example/transaction_scopes/transactionscopes/Propagation$Conduct" "RUN_WITHOUT" "Lcom/example/transaction_scopes/transactionscopes/Propagation$Conduct;" (.ref w181)) :
    OMet l Z (⟨"com/example/transaction_scopes/transactionscopes/PropagationConductPinLaw", "expected", "(IZ)Lcom/example/transaction_scopes/transactionscopes/Propagation$Conduct;"⟩ : MethodName) method_3_code 2 (some (.object "com/example/transaction_scopes/transactionscopes/Propagation$Conduct")) [] ({ frames := 0, cells := 0, slots := 0, locals := 0 } : Room) h0 #[(.int p179), (.int p180)] (OQp (some (.ref w181)) h0 n0) := by
  refine MetFree.of_bodySF (plainFor_of_name pn_com_example_transaction_scopes_transactionscopes_PropagationConductPinLaw) hisR ?_
  intro p e s m args below meth c s₁ Bd hml0 hP hK
  obtain ⟨rfl, hZ, hh⟩ := hP
  have hx := Bd.exec
  have hby := Bd.bytes
  have hml : c.maxLocals = 2 := hml0
  have hown : s.vm.findClass "com/example/transaction_scopes/transactionscopes/PropagationConductPinLaw" = some m.cls := findClass_of_methodNamed Bd.named
  have hnm := (name_of_methodNamed Bd.named Bd.method).1
  have X0 : Stand p l e ({ frames := 0, cells := 0, slots := 0, locals := 0 } : Room) s m #[(.int p179), (.int p180)] below meth c s₁ [] 0 0 := Stand.of_body Bd
  have e0 : s₁.heap = h0 := by rw [← hh, Bd.state]; rfl
  have N0 := Fr.nil n0
  have pre0 : ∀ t, Steps p.tables e below (s₁.setTop (mkF m 0 #[.val (.int p179), .val (.int p180)] [])) t → Steps p.tables e below (s₁.setTop (entryFrame m #[(.int p179), (.int p180)] 2)) t := fun t k => castTop (ef_2_vv m p179 p180) k
  obtain ⟨T182, X182, e182, st182⟩ := getS2 X0 hx hZ hown (host := "") (Or.inl (hw _ (List.mem_of_getElem? (i := 27) rfl))) Via.refl e0 H6 (g := (mkF m 36 #[.val (.int p179), .val (.int p180)] [])) rfl (hb hby d2_36)
  obtain ⟨fs, hr, hrun, hended, hW, hsame⟩ := X182.leave (v := some (.ref w181)) (fun h => by rw [Bd.returns] at h; cases h)
  refine ⟨_, _, pre0 _ ?_, hrun, hended, _, _, rfl, ?_, ⟨_, rfl⟩, hW, hsame.mono (by decide) (by decide)⟩
  · show Steps p.tables e below (s₁.setTop (mkF m 0 #[.val (.int p179), .val (.int p180)] [])) _
    refine XS.iloadN X0.here hx rfl (hb hby d2_0) rfl ?_
    show Steps p.tables e below (s₁.setTop (mkF m 1 #[.val (.int p179), .val (.int p180)] [(.int p180)])) _
    refine XS.ifNo X0.here hx rfl (hb hby d2_1) rfl ((if0 _ _).trans (feq H0).1) ?_
    show Steps p.tables e below (s₁.setTop (mkF m 4 #[.val (.int p179), .val (.int p180)] [])) _
    refine XS.iloadN X0.here hx rfl (hb hby d2_4) rfl ?_
    show Steps p.tables e below (s₁.setTop (mkF m 5 #[.val (.int p179), .val (.int p180)] [(.int p179)])) _
    refine XS.ifNo X0.here hx rfl (hb hby d2_5) rfl ((if0 _ _).trans (feq H1).1) ?_
    show Steps p.tables e below (s₁.setTop (mkF m 8 #[.val (.int p179), .val (.int p180)] [])) _
    refine XS.iloadN X0.here hx rfl (hb hby d2_8) rfl ?_
    show Steps p.tables e below (s₁.setTop (mkF m 9 #[.val (.int p179), .val (.int p180)] [(.int p179)])) _
    refine XS.iconst X0.here hx rfl (hb hby d2_9) ?_
    show Steps p.tables e below (s₁.setTop (mkF m 10 #[.val (.int p179), .val (.int p180)] [(.int (1 : Int32)), (.int p179)])) _
    refine XS.icmpNo X0.here hx rfl (hb hby d2_10) rfl (feq H2).1 ?_
    show Steps p.tables e below (s₁.setTop (mkF m 13 #[.val (.int p179), .val (.int p180)] [])) _
    refine XS.iloadN X0.here hx rfl (hb hby d2_13) rfl ?_
    show Steps p.tables e below (s₁.setTop (mkF m 14 #[.val (.int p179), .val (.int p180)] [(.int p179)])) _
    refine XS.iconst X0.here hx rfl (hb hby d2_14) ?_
    show Steps p.tables e below (s₁.setTop (mkF m 15 #[.val (.int p179), .val (.int p180)] [(.int (2 : Int32)), (.int p179)])) _
    refine XS.icmpYes X0.here hx rfl (pc0 := 15) (pc' := 22) rfl (hb hby d2_15) rfl (feq H3).2 (by decide) (by decide) ?_
    show Steps p.tables e below (s₁.setTop (mkF m 22 #[.val (.int p179), .val (.int p180)] [])) _
    refine XS.iloadN X0.here hx rfl (hb hby d2_22) rfl ?_
    show Steps p.tables e below (s₁.setTop (mkF m 23 #[.val (.int p179), .val (.int p180)] [(.int p179)])) _
    refine XS.iconst X0.here hx rfl (hb hby d2_23) ?_
    show Steps p.tables e below (s₁.setTop (mkF m 24 #[.val (.int p179), .val (.int p180)] [(.int (3 : Int32)), (.int p179)])) _
    refine XS.icmpYes X0.here hx rfl (pc0 := 24) (pc' := 31) rfl (hb hby d2_24) rfl (feq H4).2 (by decide) (by decide) ?_
    show Steps p.tables e below (s₁.setTop (mkF m 31 #[.val (.int p179), .val (.int p180)] [])) _
    refine XS.iloadN X0.here hx rfl (hb hby d2_31) rfl ?_
    show Steps p.tables e below (s₁.setTop (mkF m 32 #[.val (.int p179), .val (.int p180)] [(.int p179)])) _
    refine XS.iconst X0.here hx rfl (hb hby d2_32) ?_
    show Steps p.tables e below (s₁.setTop (mkF m 33 #[.val (.int p179), .val (.int p180)] [(.int (4 : Int32)), (.int p179)])) _
    refine XS.icmpNo X0.here hx rfl (hb hby d2_33) rfl (teq H5).2 ?_
    show Steps p.tables e below (s₁.setTop (mkF m 36 #[.val (.int p179), .val (.int p180)] [])) _
    refine st182 _ ?_
    show Steps p.tables e below (T182.setTop (mkF m 39 #[.val (.int p179), .val (.int p180)] [(.ref w181)])) _
    jvm_step X182.here [X182.here.top, hx, (hb hby d2_39), X182.method', Bd.returns, Value.isRef, FieldType.isReference]
    first | (intro acts; rw [hr _ acts rfl rfl rfl]) | rw [hr _ _ rfl rfl rfl]
    exact Steps.refl _
  · show OQp (some (.ref w181)) h0 n0 _ T182.heap _
    rw [e182]
    exact ⟨rfl, N0, rfl⟩
set_option maxRecDepth 65536 in
set_option maxHeartbeats 40000000 in
theorem r0_10 (l : Launch) (Z : State) (a0 : Array Value) (hw : ∀ d ∈ tables_1, d.before a0 Z = true) (p172 : Int32) (p173 : Int32) (w178 : Addr) (w184 : Addr) (w190 : Addr) (h0 : Heap) (n0 : Nat) (Z0 : n0 ≤ h0.size) (H0 : ¬ ((p173 &&& (1 : Int32)) = (0 : Int32))) (H1 : ¬ (((p172 &&& (2147483647 : Int32)) % (7 : Int32)) = (0 : Int32))) (H2 : ¬ (((p172 &&& (2147483647 : Int32)) % (7 : Int32)) = (1 : Int32))) (H3 : ¬ (((p172 &&& (2147483647 : Int32)) % (7 : Int32)) = (2 : Int32))) (H4 : ¬ (((p172 &&& (2147483647 : Int32)) % (7 : Int32)) = (3 : Int32))) (H5 : ((p172 &&& (2147483647 : Int32)) % (7 : Int32)) = (4 : Int32)) (H6 : Sta Z h0 "com/example/transaction_scopes/transactionscopes/Propagation" "NOT_SUPPORTED" "Lcom/example/transaction_scopes/transactionscopes/Propagation;" (.ref w178)) (H7 : Sta Z h0 "com/example/transaction_scopes/transactionscopes/Propagation$Conduct" "RUN_WITHOUT" "Lcom/example/transaction_scopes/transactionscopes/Propagation$Conduct;" (.ref w184)) (H8 : Fld Z h0 w178 "com/example/transaction_scopes/transactionscopes/Propagation" "withTransaction" "Lcom/example/transaction_scopes/transactionscopes/Propagation$Conduct;" (.ref w190)) (H9 : Exa Z h0 w178 "com/example/transaction_scopes/transactionscopes/Propagation") (H10 : w190 = w184) :
    OMet l Z x code maxLocals ret tables_1 room_1 h0 #[(.int p172), (.int p173)] (OQl (some (.int (1 : Int32))) n0) := by
  refine MetFree.of_bodySF (plainFor_of_name pn_com_example_transaction_scopes_transactionscopes_PropagationConductPinLaw) hisR ?_
  intro p e s m args below meth c s₁ Bd hml0 hP hK
  obtain ⟨rfl, hZ, hh⟩ := hP
  have hx := Bd.exec
  have hby := Bd.bytes
  have hml : c.maxLocals = 6 := hml0
  have hown : s.vm.findClass "com/example/transaction_scopes/transactionscopes/PropagationConductPinLaw" = some m.cls := findClass_of_methodNamed Bd.named
  have hnm := (name_of_methodNamed Bd.named Bd.method).1
  have X0 : Stand p l e room_1 s m #[(.int p172), (.int p173)] below meth c s₁ [] 0 0 := Stand.of_body Bd
  have e0 : s₁.heap = h0 := by rw [← hh, Bd.state]; rfl
  have N0 := Fr.nil n0
  have pre0 : ∀ t, Steps p.tables e below (s₁.setTop (mkF m 0 #[.val (.int p172), .val (.int p173), .unset, .unset, .unset, .unset] [])) t → Steps p.tables e below (s₁.setTop (entryFrame m #[(.int p172), (.int p173)] maxLocals)) t := fun t k => castTop (ef_0_vv m p172 p173) k
  obtain ⟨_, _, ⟨T177, L177, k177, n177⟩, -, X177, ⟨Lc177, hQ177, l177, y177, z177⟩, st177⟩ := Jvm.LawKit.callS X0 hx (y := (⟨"com/example/transaction_scopes/transactionscopes/PropagationConductPinLaw", "pick", "(I)Lcom/example/transaction_scopes/transactionscopes/Propagation;"⟩ : MethodName)) hown (mvT hZ (hw _ (List.mem_of_getElem? (i := 1) rfl))) (mvT hZ (hw _ (List.mem_of_getElem? (i := 2) rfl))) (mvT hZ (hw _ (List.mem_of_getElem? (i := 3) rfl))) (mvT hZ (hw _ (List.mem_of_getElem? (i := 4) rfl))) (by decide) (backOf (W := 0) (r1_5 l Z a0 hw ((p172 &&& (2147483647 : Int32)) % (7 : Int32)) w178 h0 n0 Z0 H1 H2 H3 H4 H5 H6) hZ (hw _ (List.mem_of_getElem? (i := 4) rfl)) (hw _ (List.mem_of_getElem? (i := 3) rfl)) (by decide) (by decide)) (g := (mkF m 21 #[.val (.int p172), .val (.int p173), .val (.int ((p172 &&& (2147483647 : Int32)) % (7 : Int32))), .val (.int (1 : Int32)), .unset, .unset] [(.int ((p172 &&& (2147483647 : Int32)) % (7 : Int32)))])) rfl (by rw [hml]; rfl) (argsL := [(.int ((p172 &&& (2147483647 : Int32)) % (7 : Int32)))]) (rest := []) (lenOf pd_0 rfl) rfl (by show 2 * 0 + _ ≤ _; exact Nat.le_of_eq rfl) (hb hby at_21) (fun _ _ => ⟨rfl, e0, (by decide : 0 + 0 ≤ _), (by decide : 0 + 0 ≤ _)⟩)
  dsimp only [Pt.U, Pt.locs, Pt.cells, Pt.slots] at X177 l177 y177 z177 st177 hQ177
  subst l177 y177 z177
  obtain ⟨rfl, N177q, e177⟩ := hQ177
  have N177 := Fr.app N0 N177q
  obtain ⟨_, _, ⟨T183, L183, k183, n183⟩, -, X183, ⟨Lc183, hQ183, l183, y183, z183⟩, st183⟩ := Jvm.LawKit.callS X177 hx (y := (⟨"com/example/transaction_scopes/transactionscopes/PropagationConductPinLaw", "expected", "(IZ)Lcom/example/transaction_scopes/transactionscopes/Propagation$Conduct;"⟩ : MethodName)) hown (mvT hZ (hw _ (List.mem_of_getElem? (i := 8) rfl))) (mvT hZ (hw _ (List.mem_of_getElem? (i := 9) rfl))) (mvT hZ (hw _ (List.mem_of_getElem? (i := 3) rfl))) (mvT hZ (hw _ (List.mem_of_getElem? (i := 10) rfl))) (by decide) (backOf (W := 0) (r2_9 l Z a0 hw ((p172 &&& (2147483647 : Int32)) % (7 : Int32)) (1 : Int32) w184 h0 n0 Z0 (by decide) H1 H2 H3 H4 H5 H7) hZ (hw _ (List.mem_of_getElem? (i := 10) rfl)) (hw _ (List.mem_of_getElem? (i := 3) rfl)) (by decide) (by decide)) (g := (mkF m 28 #[.val (.int p172), .val (.int p173), .val (.int ((p172 &&& (2147483647 : Int32)) % (7 : Int32))), .val (.int (1 : Int32)), .val (.ref w178), .unset] [(.int (1 : Int32)), (.int ((p172 &&& (2147483647 : Int32)) % (7 : Int32)))])) rfl (by rw [hml]; rfl) (argsL := [(.int ((p172 &&& (2147483647 : Int32)) % (7 : Int32))), (.int (1 : Int32))]) (rest := []) (lenOf pd_1 rfl) rfl (by show 2 * 0 + _ ≤ _; exact Nat.le_of_eq rfl) (hb hby at_28) (fun _ _ => ⟨rfl, e177, (by decide : 0 + 0 ≤ _), (by decide : 0 + 0 ≤ _)⟩)
  dsimp only [Pt.U, Pt.locs, Pt.cells, Pt.slots] at X183 l183 y183 z183 st183 hQ183
  subst l183 y183 z183
  obtain ⟨rfl, N183q, e183⟩ := hQ183
  have N183 := Fr.app N177 N183q
  obtain ⟨cq189, kq189, q189a, q189b, q189c⟩ := isOf hZ e183 H9
  obtain ⟨_, _, ⟨T189, L189, k189, n189⟩, -, X189, ⟨Lc189, hQ189, l189, y189, z189⟩, st189⟩ := X183.virtualBack hx (y := (⟨"com/example/transaction_scopes/transactionscopes/Propagation", "conduct", "(Z)Lcom/example/transaction_scopes/transactionscopes/Propagation$Conduct;"⟩ : MethodName)) (z := (⟨"com/example/transaction_scopes/transactionscopes/Propagation", "conduct", "(Z)Lcom/example/transaction_scopes/transactionscopes/Propagation$Conduct;"⟩ : MethodName)) hown (mvT hZ (hw _ (List.mem_of_getElem? (i := 14) rfl))) (mvT hZ (hw _ (List.mem_of_getElem? (i := 15) rfl))) (notFace_of_selects (args := #[]) (mvT hZ (hw _ (List.mem_of_getElem? (i := 17) rfl)))) (mvT hZ (hw _ (List.mem_of_getElem? (i := 17) rfl))) (mvT hZ (hw _ (List.mem_of_getElem? (i := 16) rfl))) (by decide) (backOf (W := 0) (r3_2 l Z a0 hw w178 (1 : Int32) w190 h0 n0 Z0 (by decide) H8) hZ (hw _ (List.mem_of_getElem? (i := 18) rfl)) (hw _ (List.mem_of_getElem? (i := 6) rfl)) (by decide) (by decide)) q189a q189c (g := (mkF m 36 #[.val (.int p172), .val (.int p173), .val (.int ((p172 &&& (2147483647 : Int32)) % (7 : Int32))), .val (.int (1 : Int32)), .val (.ref w178), .val (.ref w184)] [(.int (1 : Int32)), (.ref w178)])) rfl (by rw [hml]; rfl) (Steps.refl _) (argsL := [(.int (1 : Int32))]) (rest := []) (lenOf pd_2 rfl) rfl (by show 2 * 0 + _ ≤ _; exact Nat.le_of_eq rfl) (hb hby at_36) (fun _ _ => ⟨rfl, e183, (by decide : 0 + 0 ≤ _), (by decide : 0 + 0 ≤ _)⟩)
  dsimp only [Pt.U, Pt.locs, Pt.cells, Pt.slots] at X189 l189 y189 z189 st189 hQ189
  subst l189 y189 z189
  obtain ⟨rfl, N189q, e189⟩ := hQ189
  have N189 := Fr.app N183 N189q
  obtain ⟨fs, hr, hrun, hended, hW, hsame⟩ := X189.leave (v := some (.int (1 : Int32))) (fun h => by rw [Bd.returns] at h; cases h)
  refine ⟨_, _, pre0 _ ?_, hrun, hended, _, _, rfl, ?_, ⟨_, rfl⟩, hW, hsame.mono (by decide) (by decide)⟩
  · show Steps p.tables e below (s₁.setTop (mkF m 0 #[.val (.int p172), .val (.int p173), .unset, .unset, .unset, .unset] [])) _
    refine XS.iloadN X0.here hx rfl (hb hby at_0) rfl ?_
    show Steps p.tables e below (s₁.setTop (mkF m 1 #[.val (.int p172), .val (.int p173), .unset, .unset, .unset, .unset] [(.int p172)])) _
    refine X0.ldcInt hx hown (mvT hZ (hw _ (List.mem_of_getElem? (i := 0) rfl))) (g := (mkF m 1 #[.val (.int p172), .val (.int p173), .unset, .unset, .unset, .unset] [(.int p172)])) rfl (hb hby at_1) _ ?_
    show Steps p.tables e below (s₁.setTop (mkF m 3 #[.val (.int p172), .val (.int p173), .unset, .unset, .unset, .unset] [(.int (2147483647 : Int32)), (.int p172)])) _
    refine XS.iand X0.here hx rfl (hb hby at_3) rfl ?_
    show Steps p.tables e below (s₁.setTop (mkF m 4 #[.val (.int p172), .val (.int p173), .unset, .unset, .unset, .unset] [(.int (p172 &&& (2147483647 : Int32)))])) _
    refine XS.bipush X0.here hx rfl (hb hby at_4) ?_
    show Steps p.tables e below (s₁.setTop (mkF m 6 #[.val (.int p172), .val (.int p173), .unset, .unset, .unset, .unset] [(.int (7 : Int32)), (.int (p172 &&& (2147483647 : Int32)))])) _
    refine iremM X0 hx rfl (hb hby at_6) rfl (by decide) ?_
    show Steps p.tables e below (s₁.setTop (mkF m 7 #[.val (.int p172), .val (.int p173), .unset, .unset, .unset, .unset] [(.int ((p172 &&& (2147483647 : Int32)) % (7 : Int32)))])) _
    refine XS.istoreN X0.here hx rfl (hb hby at_7) rfl (l' := #[.val (.int p172), .val (.int p173), .val (.int ((p172 &&& (2147483647 : Int32)) % (7 : Int32))), .unset, .unset, .unset]) rfl ?_
    show Steps p.tables e below (s₁.setTop (mkF m 8 #[.val (.int p172), .val (.int p173), .val (.int ((p172 &&& (2147483647 : Int32)) % (7 : Int32))), .unset, .unset, .unset] [])) _
    refine XS.iloadN X0.here hx rfl (hb hby at_8) rfl ?_
    show Steps p.tables e below (s₁.setTop (mkF m 9 #[.val (.int p172), .val (.int p173), .val (.int ((p172 &&& (2147483647 : Int32)) % (7 : Int32))), .unset, .unset, .unset] [(.int p173)])) _
    refine XS.iconst X0.here hx rfl (hb hby at_9) ?_
    show Steps p.tables e below (s₁.setTop (mkF m 10 #[.val (.int p172), .val (.int p173), .val (.int ((p172 &&& (2147483647 : Int32)) % (7 : Int32))), .unset, .unset, .unset] [(.int (1 : Int32)), (.int p173)])) _
    refine XS.iand X0.here hx rfl (hb hby at_10) rfl ?_
    show Steps p.tables e below (s₁.setTop (mkF m 11 #[.val (.int p172), .val (.int p173), .val (.int ((p172 &&& (2147483647 : Int32)) % (7 : Int32))), .unset, .unset, .unset] [(.int (p173 &&& (1 : Int32)))])) _
    refine XS.ifNo X0.here hx rfl (hb hby at_11) rfl ((if0 _ _).trans (feq H0).1) ?_
    show Steps p.tables e below (s₁.setTop (mkF m 14 #[.val (.int p172), .val (.int p173), .val (.int ((p172 &&& (2147483647 : Int32)) % (7 : Int32))), .unset, .unset, .unset] [])) _
    refine XS.iconst X0.here hx rfl (hb hby at_14) ?_
    show Steps p.tables e below (s₁.setTop (mkF m 15 #[.val (.int p172), .val (.int p173), .val (.int ((p172 &&& (2147483647 : Int32)) % (7 : Int32))), .unset, .unset, .unset] [(.int (1 : Int32))])) _
    refine XS.goto X0.here hx rfl (pc0 := 15) (pc' := 19) rfl (hb hby at_15) (by decide) (by decide) ?_
    show Steps p.tables e below (s₁.setTop (mkF m 19 #[.val (.int p172), .val (.int p173), .val (.int ((p172 &&& (2147483647 : Int32)) % (7 : Int32))), .unset, .unset, .unset] [(.int (1 : Int32))])) _
    refine XS.istoreN X0.here hx rfl (hb hby at_19) rfl (l' := #[.val (.int p172), .val (.int p173), .val (.int ((p172 &&& (2147483647 : Int32)) % (7 : Int32))), .val (.int (1 : Int32)), .unset, .unset]) rfl ?_
    show Steps p.tables e below (s₁.setTop (mkF m 20 #[.val (.int p172), .val (.int p173), .val (.int ((p172 &&& (2147483647 : Int32)) % (7 : Int32))), .val (.int (1 : Int32)), .unset, .unset] [])) _
    refine XS.iloadN X0.here hx rfl (hb hby at_20) rfl ?_
    show Steps p.tables e below (s₁.setTop (mkF m 21 #[.val (.int p172), .val (.int p173), .val (.int ((p172 &&& (2147483647 : Int32)) % (7 : Int32))), .val (.int (1 : Int32)), .unset, .unset] [(.int ((p172 &&& (2147483647 : Int32)) % (7 : Int32)))])) _
    refine st177 _ ?_
    show Steps p.tables e below (T177.setTop (mkF m 24 #[.val (.int p172), .val (.int p173), .val (.int ((p172 &&& (2147483647 : Int32)) % (7 : Int32))), .val (.int (1 : Int32)), .unset, .unset] [(.ref w178)])) _
    refine XS.astore X177.here hx rfl (hb hby at_24) rfl rfl (l' := #[.val (.int p172), .val (.int p173), .val (.int ((p172 &&& (2147483647 : Int32)) % (7 : Int32))), .val (.int (1 : Int32)), .val (.ref w178), .unset]) rfl ?_
    show Steps p.tables e below (T177.setTop (mkF m 26 #[.val (.int p172), .val (.int p173), .val (.int ((p172 &&& (2147483647 : Int32)) % (7 : Int32))), .val (.int (1 : Int32)), .val (.ref w178), .unset] [])) _
    refine XS.iloadN X177.here hx rfl (hb hby at_26) rfl ?_
    show Steps p.tables e below (T177.setTop (mkF m 27 #[.val (.int p172), .val (.int p173), .val (.int ((p172 &&& (2147483647 : Int32)) % (7 : Int32))), .val (.int (1 : Int32)), .val (.ref w178), .unset] [(.int ((p172 &&& (2147483647 : Int32)) % (7 : Int32)))])) _
    refine XS.iloadN X177.here hx rfl (hb hby at_27) rfl ?_
    show Steps p.tables e below (T177.setTop (mkF m 28 #[.val (.int p172), .val (.int p173), .val (.int ((p172 &&& (2147483647 : Int32)) % (7 : Int32))), .val (.int (1 : Int32)), .val (.ref w178), .unset] [(.int (1 : Int32)), (.int ((p172 &&& (2147483647 : Int32)) % (7 : Int32)))])) _
    refine st183 _ ?_
    show Steps p.tables e below (T183.setTop (mkF m 31 #[.val (.int p172), .val (.int p173), .val (.int ((p172 &&& (2147483647 : Int32)) % (7 : Int32))), .val (.int (1 : Int32)), .val (.ref w178), .unset] [(.ref w184)])) _
    refine XS.astore X183.here hx rfl (hb hby at_31) rfl rfl (l' := #[.val (.int p172), .val (.int p173), .val (.int ((p172 &&& (2147483647 : Int32)) % (7 : Int32))), .val (.int (1 : Int32)), .val (.ref w178), .val (.ref w184)]) rfl ?_
    show Steps p.tables e below (T183.setTop (mkF m 33 #[.val (.int p172), .val (.int p173), .val (.int ((p172 &&& (2147483647 : Int32)) % (7 : Int32))), .val (.int (1 : Int32)), .val (.ref w178), .val (.ref w184)] [])) _
    refine XS.aload X183.here hx rfl (hb hby at_33) rfl rfl ?_
    show Steps p.tables e below (T183.setTop (mkF m 35 #[.val (.int p172), .val (.int p173), .val (.int ((p172 &&& (2147483647 : Int32)) % (7 : Int32))), .val (.int (1 : Int32)), .val (.ref w178), .val (.ref w184)] [(.ref w178)])) _
    refine XS.iloadN X183.here hx rfl (hb hby at_35) rfl ?_
    show Steps p.tables e below (T183.setTop (mkF m 36 #[.val (.int p172), .val (.int p173), .val (.int ((p172 &&& (2147483647 : Int32)) % (7 : Int32))), .val (.int (1 : Int32)), .val (.ref w178), .val (.ref w184)] [(.int (1 : Int32)), (.ref w178)])) _
    refine st189.trans ?_
    show Steps p.tables e below (T189.setTop (mkF m 39 #[.val (.int p172), .val (.int p173), .val (.int ((p172 &&& (2147483647 : Int32)) % (7 : Int32))), .val (.int (1 : Int32)), .val (.ref w178), .val (.ref w184)] [(.ref w190)])) _
    refine XS.aload X189.here hx rfl (hb hby at_39) rfl rfl ?_
    show Steps p.tables e below (T189.setTop (mkF m 41 #[.val (.int p172), .val (.int p173), .val (.int ((p172 &&& (2147483647 : Int32)) % (7 : Int32))), .val (.int (1 : Int32)), .val (.ref w178), .val (.ref w184)] [(.ref w184), (.ref w190)])) _
    refine Jvm.RoadKit.acmp (g := (mkF m 41 #[.val (.int p172), .val (.int p173), .val (.int ((p172 &&& (2147483647 : Int32)) % (7 : Int32))), .val (.int (1 : Int32)), .val (.ref w178), .val (.ref w184)] [(.ref w184), (.ref w190)])) X189 hx rfl rfl rfl (pc0 := 41) (pc' := 44) (same := true) rfl (hb hby at_41) rfl (decide_eq_true (congrArg Value.ref H10)) (by decide) (by decide) ?_
    show Steps p.tables e below (T189.setTop (mkF m 44 #[.val (.int p172), .val (.int p173), .val (.int ((p172 &&& (2147483647 : Int32)) % (7 : Int32))), .val (.int (1 : Int32)), .val (.ref w178), .val (.ref w184)] [])) _
    refine XS.iconst X189.here hx rfl (hb hby at_44) ?_
    show Steps p.tables e below (T189.setTop (mkF m 45 #[.val (.int p172), .val (.int p173), .val (.int ((p172 &&& (2147483647 : Int32)) % (7 : Int32))), .val (.int (1 : Int32)), .val (.ref w178), .val (.ref w184)] [(.int (1 : Int32))])) _
    refine XS.goto X189.here hx rfl (pc0 := 45) (pc' := 49) rfl (hb hby at_45) (by decide) (by decide) ?_
    show Steps p.tables e below (T189.setTop (mkF m 49 #[.val (.int p172), .val (.int p173), .val (.int ((p172 &&& (2147483647 : Int32)) % (7 : Int32))), .val (.int (1 : Int32)), .val (.ref w178), .val (.ref w184)] [(.int (1 : Int32))])) _
    exact retN X189 hx (t := .boolean) Bd.returns (by simp) (hb hby at_49) hr
  · show OQl (some (.int (1 : Int32))) n0 _ T189.heap _
    exact ⟨rfl, N189⟩
theorem d1_44 : decode method_2_code 44 = .ok (.iload_n 0, 1) := by decide +kernel
theorem d1_45 : decode method_2_code 45 = .ok (.iconst 5, 1) := by decide +kernel
theorem d1_46 : decode method_2_code 46 = .ok (.if_icmp .ne 7, 3) := by decide +kernel
theorem d1_49 : decode method_2_code 49 = .ok (.getstatic 25, 3) := by decide +kernel
theorem d1_52 : decode method_2_code 52 = .ok (.areturn, 1) := by decide +kernel
set_option maxRecDepth 65536 in
set_option maxHeartbeats 40000000 in
theorem r1_6 (l : Launch) (Z : State) (a0 : Array Value) (hw : ∀ d ∈ tables_1, d.before a0 Z = true) (p193 : Int32) (w194 : Addr) (h0 : Heap) (n0 : Nat) (Z0 : n0 ≤ h0.size) (H0 : ¬ (p193 = (0 : Int32))) (H1 : ¬ (p193 = (1 : Int32))) (H2 : ¬ (p193 = (2 : Int32))) (H3 : ¬ (p193 = (3 : Int32))) (H4 : ¬ (p193 = (4 : Int32))) (H5 : p193 = (5 : Int32)) (H6 : Sta Z h0 "com/example/transaction_scopes/transactionscopes/Propagation" "NEVER" "Lcom/example/transaction_scopes/transactionscopes/Propagation;" (.ref w194)) :
    OMet l Z (⟨"com/example/transaction_scopes/transactionscopes/PropagationConductPinLaw", "pick", "(I)Lcom/example/transaction_scopes/transactionscopes/Propagation;"⟩ : MethodName) method_2_code 1 (some (.object "com/example/transaction_scopes/transactionscopes/Propagation")) [] ({ frames := 0, cells := 0, slots := 0, locals := 0 } : Room) h0 #[(.int p193)] (OQp (some (.ref w194)) h0 n0) := by
  refine MetFree.of_bodySF (plainFor_of_name pn_com_example_transaction_scopes_transactionscopes_PropagationConductPinLaw) hisR ?_
  intro p e s m args below meth c s₁ Bd hml0 hP hK
  obtain ⟨rfl, hZ, hh⟩ := hP
  have hx := Bd.exec
  have hby := Bd.bytes
  have hml : c.maxLocals = 1 := hml0
  have hown : s.vm.findClass "com/example/transaction_scopes/transactionscopes/PropagationConductPinLaw" = some m.cls := findClass_of_methodNamed Bd.named
  have hnm := (name_of_methodNamed Bd.named Bd.method).1
  have X0 : Stand p l e ({ frames := 0, cells := 0, slots := 0, locals := 0 } : Room) s m #[(.int p193)] below meth c s₁ [] 0 0 := Stand.of_body Bd
  have e0 : s₁.heap = h0 := by rw [← hh, Bd.state]; rfl
  have N0 := Fr.nil n0
  have pre0 : ∀ t, Steps p.tables e below (s₁.setTop (mkF m 0 #[.val (.int p193)] [])) t → Steps p.tables e below (s₁.setTop (entryFrame m #[(.int p193)] 1)) t := fun t k => castTop (ef_1_v m p193) k
  obtain ⟨T195, X195, e195, st195⟩ := getS2 X0 hx hZ hown (host := "") (Or.inl (hw _ (List.mem_of_getElem? (i := 35) rfl))) Via.refl e0 H6 (g := (mkF m 49 #[.val (.int p193)] [])) rfl (hb hby d1_49)
  obtain ⟨fs, hr, hrun, hended, hW, hsame⟩ := X195.leave (v := some (.ref w194)) (fun h => by rw [Bd.returns] at h; cases h)
  refine ⟨_, _, pre0 _ ?_, hrun, hended, _, _, rfl, ?_, ⟨_, rfl⟩, hW, hsame.mono (by decide) (by decide)⟩
  · show Steps p.tables e below (s₁.setTop (mkF m 0 #[.val (.int p193)] [])) _
    refine XS.iloadN X0.here hx rfl (hb hby d1_0) rfl ?_
    show Steps p.tables e below (s₁.setTop (mkF m 1 #[.val (.int p193)] [(.int p193)])) _
    refine XS.ifYes X0.here hx rfl (pc0 := 1) (pc' := 8) rfl (hb hby d1_1) rfl ((if0 _ _).trans (feq H0).2) (by decide) (by decide) ?_
    show Steps p.tables e below (s₁.setTop (mkF m 8 #[.val (.int p193)] [])) _
    refine XS.iloadN X0.here hx rfl (hb hby d1_8) rfl ?_
    show Steps p.tables e below (s₁.setTop (mkF m 9 #[.val (.int p193)] [(.int p193)])) _
    refine XS.iconst X0.here hx rfl (hb hby d1_9) ?_
    show Steps p.tables e below (s₁.setTop (mkF m 10 #[.val (.int p193)] [(.int (1 : Int32)), (.int p193)])) _
    refine XS.icmpYes X0.here hx rfl (pc0 := 10) (pc' := 17) rfl (hb hby d1_10) rfl (feq H1).2 (by decide) (by decide) ?_
    show Steps p.tables e below (s₁.setTop (mkF m 17 #[.val (.int p193)] [])) _
    refine XS.iloadN X0.here hx rfl (hb hby d1_17) rfl ?_
    show Steps p.tables e below (s₁.setTop (mkF m 18 #[.val (.int p193)] [(.int p193)])) _
    refine XS.iconst X0.here hx rfl (hb hby d1_18) ?_
    show Steps p.tables e below (s₁.setTop (mkF m 19 #[.val (.int p193)] [(.int (2 : Int32)), (.int p193)])) _
    refine XS.icmpYes X0.here hx rfl (pc0 := 19) (pc' := 26) rfl (hb hby d1_19) rfl (feq H2).2 (by decide) (by decide) ?_
    show Steps p.tables e below (s₁.setTop (mkF m 26 #[.val (.int p193)] [])) _
    refine XS.iloadN X0.here hx rfl (hb hby d1_26) rfl ?_
    show Steps p.tables e below (s₁.setTop (mkF m 27 #[.val (.int p193)] [(.int p193)])) _
    refine XS.iconst X0.here hx rfl (hb hby d1_27) ?_
    show Steps p.tables e below (s₁.setTop (mkF m 28 #[.val (.int p193)] [(.int (3 : Int32)), (.int p193)])) _
    refine XS.icmpYes X0.here hx rfl (pc0 := 28) (pc' := 35) rfl (hb hby d1_28) rfl (feq H3).2 (by decide) (by decide) ?_
    show Steps p.tables e below (s₁.setTop (mkF m 35 #[.val (.int p193)] [])) _
    refine XS.iloadN X0.here hx rfl (hb hby d1_35) rfl ?_
    show Steps p.tables e below (s₁.setTop (mkF m 36 #[.val (.int p193)] [(.int p193)])) _
    refine XS.iconst X0.here hx rfl (hb hby d1_36) ?_
    show Steps p.tables e below (s₁.setTop (mkF m 37 #[.val (.int p193)] [(.int (4 : Int32)), (.int p193)])) _
    refine XS.icmpYes X0.here hx rfl (pc0 := 37) (pc' := 44) rfl (hb hby d1_37) rfl (feq H4).2 (by decide) (by decide) ?_
    show Steps p.tables e below (s₁.setTop (mkF m 44 #[.val (.int p193)] [])) _
    refine XS.iloadN X0.here hx rfl (hb hby d1_44) rfl ?_
    show Steps p.tables e below (s₁.setTop (mkF m 45 #[.val (.int p193)] [(.int p193)])) _
    refine XS.iconst X0.here hx rfl (hb hby d1_45) ?_
    show Steps p.tables e below (s₁.setTop (mkF m 46 #[.val (.int p193)] [(.int (5 : Int32)), (.int p193)])) _
    refine XS.icmpNo X0.here hx rfl (hb hby d1_46) rfl (teq H5).2 ?_
    show Steps p.tables e below (s₁.setTop (mkF m 49 #[.val (.int p193)] [])) _
    refine st195 _ ?_
    show Steps p.tables e below (T195.setTop (mkF m 52 #[.val (.int p193)] [(.ref w194)])) _
    jvm_step X195.here [X195.here.top, hx, (hb hby d1_52), X195.method', Bd.returns, Value.isRef, FieldType.isReference]
    first | (intro acts; rw [hr _ acts rfl rfl rfl]) | rw [hr _ _ rfl rfl rfl]
    exact Steps.refl _
  · show OQp (some (.ref w194)) h0 n0 _ T195.heap _
    rw [e195]
    exact ⟨rfl, N0, rfl⟩
set_option maxRecDepth 65536 in
set_option maxHeartbeats 40000000 in
theorem r0_11 (l : Launch) (Z : State) (a0 : Array Value) (hw : ∀ d ∈ tables_1, d.before a0 Z = true) (p191 : Int32) (p192 : Int32) (w197 : Addr) (w203 : Addr) (w209 : Addr) (h0 : Heap) (n0 : Nat) (Z0 : n0 ≤ h0.size) (H0 : (p192 &&& (1 : Int32)) = (0 : Int32)) (H1 : ¬ (((p191 &&& (2147483647 : Int32)) % (7 : Int32)) = (0 : Int32))) (H2 : ¬ (((p191 &&& (2147483647 : Int32)) % (7 : Int32)) = (1 : Int32))) (H3 : ¬ (((p191 &&& (2147483647 : Int32)) % (7 : Int32)) = (2 : Int32))) (H4 : ¬ (((p191 &&& (2147483647 : Int32)) % (7 : Int32)) = (3 : Int32))) (H5 : ¬ (((p191 &&& (2147483647 : Int32)) % (7 : Int32)) = (4 : Int32))) (H6 : ((p191 &&& (2147483647 : Int32)) % (7 : Int32)) = (5 : Int32)) (H7 : Sta Z h0 "com/example/transaction_scopes/transactionscopes/Propagation" "NEVER" "Lcom/example/transaction_scopes/transactionscopes/Propagation;" (.ref w197)) (H8 : ¬ (((p191 &&& (2147483647 : Int32)) % (7 : Int32)) = (6 : Int32))) (H9 : Sta Z h0 "com/example/transaction_scopes/transactionscopes/Propagation$Conduct" "RUN_WITHOUT" "Lcom/example/transaction_scopes/transactionscopes/Propagation$Conduct;" (.ref w203)) (H10 : Fld Z h0 w197 "com/example/transaction_scopes/transactionscopes/Propagation" "withoutTransaction" "Lcom/example/transaction_scopes/transactionscopes/Propagation$Conduct;" (.ref w209)) (H11 : Exa Z h0 w197 "com/example/transaction_scopes/transactionscopes/Propagation") (H12 : w209 = w203) :
    OMet l Z x code maxLocals ret tables_1 room_1 h0 #[(.int p191), (.int p192)] (OQl (some (.int (1 : Int32))) n0) := by
  refine MetFree.of_bodySF (plainFor_of_name pn_com_example_transaction_scopes_transactionscopes_PropagationConductPinLaw) hisR ?_
  intro p e s m args below meth c s₁ Bd hml0 hP hK
  obtain ⟨rfl, hZ, hh⟩ := hP
  have hx := Bd.exec
  have hby := Bd.bytes
  have hml : c.maxLocals = 6 := hml0
  have hown : s.vm.findClass "com/example/transaction_scopes/transactionscopes/PropagationConductPinLaw" = some m.cls := findClass_of_methodNamed Bd.named
  have hnm := (name_of_methodNamed Bd.named Bd.method).1
  have X0 : Stand p l e room_1 s m #[(.int p191), (.int p192)] below meth c s₁ [] 0 0 := Stand.of_body Bd
  have e0 : s₁.heap = h0 := by rw [← hh, Bd.state]; rfl
  have N0 := Fr.nil n0
  have pre0 : ∀ t, Steps p.tables e below (s₁.setTop (mkF m 0 #[.val (.int p191), .val (.int p192), .unset, .unset, .unset, .unset] [])) t → Steps p.tables e below (s₁.setTop (entryFrame m #[(.int p191), (.int p192)] maxLocals)) t := fun t k => castTop (ef_0_vv m p191 p192) k
  obtain ⟨_, _, ⟨T196, L196, k196, n196⟩, -, X196, ⟨Lc196, hQ196, l196, y196, z196⟩, st196⟩ := Jvm.LawKit.callS X0 hx (y := (⟨"com/example/transaction_scopes/transactionscopes/PropagationConductPinLaw", "pick", "(I)Lcom/example/transaction_scopes/transactionscopes/Propagation;"⟩ : MethodName)) hown (mvT hZ (hw _ (List.mem_of_getElem? (i := 1) rfl))) (mvT hZ (hw _ (List.mem_of_getElem? (i := 2) rfl))) (mvT hZ (hw _ (List.mem_of_getElem? (i := 3) rfl))) (mvT hZ (hw _ (List.mem_of_getElem? (i := 4) rfl))) (by decide) (backOf (W := 0) (r1_6 l Z a0 hw ((p191 &&& (2147483647 : Int32)) % (7 : Int32)) w197 h0 n0 Z0 H1 H2 H3 H4 H5 H6 H7) hZ (hw _ (List.mem_of_getElem? (i := 4) rfl)) (hw _ (List.mem_of_getElem? (i := 3) rfl)) (by decide) (by decide)) (g := (mkF m 21 #[.val (.int p191), .val (.int p192), .val (.int ((p191 &&& (2147483647 : Int32)) % (7 : Int32))), .val (.int (0 : Int32)), .unset, .unset] [(.int ((p191 &&& (2147483647 : Int32)) % (7 : Int32)))])) rfl (by rw [hml]; rfl) (argsL := [(.int ((p191 &&& (2147483647 : Int32)) % (7 : Int32)))]) (rest := []) (lenOf pd_0 rfl) rfl (by show 2 * 0 + _ ≤ _; exact Nat.le_of_eq rfl) (hb hby at_21) (fun _ _ => ⟨rfl, e0, (by decide : 0 + 0 ≤ _), (by decide : 0 + 0 ≤ _)⟩)
  dsimp only [Pt.U, Pt.locs, Pt.cells, Pt.slots] at X196 l196 y196 z196 st196 hQ196
  subst l196 y196 z196
  obtain ⟨rfl, N196q, e196⟩ := hQ196
  have N196 := Fr.app N0 N196q
  obtain ⟨_, _, ⟨T202, L202, k202, n202⟩, -, X202, ⟨Lc202, hQ202, l202, y202, z202⟩, st202⟩ := Jvm.LawKit.callS X196 hx (y := (⟨"com/example/transaction_scopes/transactionscopes/PropagationConductPinLaw", "expected", "(IZ)Lcom/example/transaction_scopes/transactionscopes/Propagation$Conduct;"⟩ : MethodName)) hown (mvT hZ (hw _ (List.mem_of_getElem? (i := 8) rfl))) (mvT hZ (hw _ (List.mem_of_getElem? (i := 9) rfl))) (mvT hZ (hw _ (List.mem_of_getElem? (i := 3) rfl))) (mvT hZ (hw _ (List.mem_of_getElem? (i := 10) rfl))) (by decide) (backOf (W := 0) (r2_3 l Z a0 hw ((p191 &&& (2147483647 : Int32)) % (7 : Int32)) (0 : Int32) w203 h0 n0 Z0 rfl H1 H4 H8 H3 H9) hZ (hw _ (List.mem_of_getElem? (i := 10) rfl)) (hw _ (List.mem_of_getElem? (i := 3) rfl)) (by decide) (by decide)) (g := (mkF m 28 #[.val (.int p191), .val (.int p192), .val (.int ((p191 &&& (2147483647 : Int32)) % (7 : Int32))), .val (.int (0 : Int32)), .val (.ref w197), .unset] [(.int (0 : Int32)), (.int ((p191 &&& (2147483647 : Int32)) % (7 : Int32)))])) rfl (by rw [hml]; rfl) (argsL := [(.int ((p191 &&& (2147483647 : Int32)) % (7 : Int32))), (.int (0 : Int32))]) (rest := []) (lenOf pd_1 rfl) rfl (by show 2 * 0 + _ ≤ _; exact Nat.le_of_eq rfl) (hb hby at_28) (fun _ _ => ⟨rfl, e196, (by decide : 0 + 0 ≤ _), (by decide : 0 + 0 ≤ _)⟩)
  dsimp only [Pt.U, Pt.locs, Pt.cells, Pt.slots] at X202 l202 y202 z202 st202 hQ202
  subst l202 y202 z202
  obtain ⟨rfl, N202q, e202⟩ := hQ202
  have N202 := Fr.app N196 N202q
  obtain ⟨cq208, kq208, q208a, q208b, q208c⟩ := isOf hZ e202 H11
  obtain ⟨_, _, ⟨T208, L208, k208, n208⟩, -, X208, ⟨Lc208, hQ208, l208, y208, z208⟩, st208⟩ := X202.virtualBack hx (y := (⟨"com/example/transaction_scopes/transactionscopes/Propagation", "conduct", "(Z)Lcom/example/transaction_scopes/transactionscopes/Propagation$Conduct;"⟩ : MethodName)) (z := (⟨"com/example/transaction_scopes/transactionscopes/Propagation", "conduct", "(Z)Lcom/example/transaction_scopes/transactionscopes/Propagation$Conduct;"⟩ : MethodName)) hown (mvT hZ (hw _ (List.mem_of_getElem? (i := 14) rfl))) (mvT hZ (hw _ (List.mem_of_getElem? (i := 15) rfl))) (notFace_of_selects (args := #[]) (mvT hZ (hw _ (List.mem_of_getElem? (i := 17) rfl)))) (mvT hZ (hw _ (List.mem_of_getElem? (i := 17) rfl))) (mvT hZ (hw _ (List.mem_of_getElem? (i := 16) rfl))) (by decide) (backOf (W := 0) (r3_1 l Z a0 hw w197 (0 : Int32) w209 h0 n0 Z0 rfl H10) hZ (hw _ (List.mem_of_getElem? (i := 18) rfl)) (hw _ (List.mem_of_getElem? (i := 6) rfl)) (by decide) (by decide)) q208a q208c (g := (mkF m 36 #[.val (.int p191), .val (.int p192), .val (.int ((p191 &&& (2147483647 : Int32)) % (7 : Int32))), .val (.int (0 : Int32)), .val (.ref w197), .val (.ref w203)] [(.int (0 : Int32)), (.ref w197)])) rfl (by rw [hml]; rfl) (Steps.refl _) (argsL := [(.int (0 : Int32))]) (rest := []) (lenOf pd_2 rfl) rfl (by show 2 * 0 + _ ≤ _; exact Nat.le_of_eq rfl) (hb hby at_36) (fun _ _ => ⟨rfl, e202, (by decide : 0 + 0 ≤ _), (by decide : 0 + 0 ≤ _)⟩)
  dsimp only [Pt.U, Pt.locs, Pt.cells, Pt.slots] at X208 l208 y208 z208 st208 hQ208
  subst l208 y208 z208
  obtain ⟨rfl, N208q, e208⟩ := hQ208
  have N208 := Fr.app N202 N208q
  obtain ⟨fs, hr, hrun, hended, hW, hsame⟩ := X208.leave (v := some (.int (1 : Int32))) (fun h => by rw [Bd.returns] at h; cases h)
  refine ⟨_, _, pre0 _ ?_, hrun, hended, _, _, rfl, ?_, ⟨_, rfl⟩, hW, hsame.mono (by decide) (by decide)⟩
  · show Steps p.tables e below (s₁.setTop (mkF m 0 #[.val (.int p191), .val (.int p192), .unset, .unset, .unset, .unset] [])) _
    refine XS.iloadN X0.here hx rfl (hb hby at_0) rfl ?_
    show Steps p.tables e below (s₁.setTop (mkF m 1 #[.val (.int p191), .val (.int p192), .unset, .unset, .unset, .unset] [(.int p191)])) _
    refine X0.ldcInt hx hown (mvT hZ (hw _ (List.mem_of_getElem? (i := 0) rfl))) (g := (mkF m 1 #[.val (.int p191), .val (.int p192), .unset, .unset, .unset, .unset] [(.int p191)])) rfl (hb hby at_1) _ ?_
    show Steps p.tables e below (s₁.setTop (mkF m 3 #[.val (.int p191), .val (.int p192), .unset, .unset, .unset, .unset] [(.int (2147483647 : Int32)), (.int p191)])) _
    refine XS.iand X0.here hx rfl (hb hby at_3) rfl ?_
    show Steps p.tables e below (s₁.setTop (mkF m 4 #[.val (.int p191), .val (.int p192), .unset, .unset, .unset, .unset] [(.int (p191 &&& (2147483647 : Int32)))])) _
    refine XS.bipush X0.here hx rfl (hb hby at_4) ?_
    show Steps p.tables e below (s₁.setTop (mkF m 6 #[.val (.int p191), .val (.int p192), .unset, .unset, .unset, .unset] [(.int (7 : Int32)), (.int (p191 &&& (2147483647 : Int32)))])) _
    refine iremM X0 hx rfl (hb hby at_6) rfl (by decide) ?_
    show Steps p.tables e below (s₁.setTop (mkF m 7 #[.val (.int p191), .val (.int p192), .unset, .unset, .unset, .unset] [(.int ((p191 &&& (2147483647 : Int32)) % (7 : Int32)))])) _
    refine XS.istoreN X0.here hx rfl (hb hby at_7) rfl (l' := #[.val (.int p191), .val (.int p192), .val (.int ((p191 &&& (2147483647 : Int32)) % (7 : Int32))), .unset, .unset, .unset]) rfl ?_
    show Steps p.tables e below (s₁.setTop (mkF m 8 #[.val (.int p191), .val (.int p192), .val (.int ((p191 &&& (2147483647 : Int32)) % (7 : Int32))), .unset, .unset, .unset] [])) _
    refine XS.iloadN X0.here hx rfl (hb hby at_8) rfl ?_
    show Steps p.tables e below (s₁.setTop (mkF m 9 #[.val (.int p191), .val (.int p192), .val (.int ((p191 &&& (2147483647 : Int32)) % (7 : Int32))), .unset, .unset, .unset] [(.int p192)])) _
    refine XS.iconst X0.here hx rfl (hb hby at_9) ?_
    show Steps p.tables e below (s₁.setTop (mkF m 10 #[.val (.int p191), .val (.int p192), .val (.int ((p191 &&& (2147483647 : Int32)) % (7 : Int32))), .unset, .unset, .unset] [(.int (1 : Int32)), (.int p192)])) _
    refine XS.iand X0.here hx rfl (hb hby at_10) rfl ?_
    show Steps p.tables e below (s₁.setTop (mkF m 11 #[.val (.int p191), .val (.int p192), .val (.int ((p191 &&& (2147483647 : Int32)) % (7 : Int32))), .unset, .unset, .unset] [(.int (p192 &&& (1 : Int32)))])) _
    refine XS.ifYes X0.here hx rfl (pc0 := 11) (pc' := 18) rfl (hb hby at_11) rfl ((if0 _ _).trans (teq H0).1) (by decide) (by decide) ?_
    show Steps p.tables e below (s₁.setTop (mkF m 18 #[.val (.int p191), .val (.int p192), .val (.int ((p191 &&& (2147483647 : Int32)) % (7 : Int32))), .unset, .unset, .unset] [])) _
    refine XS.iconst X0.here hx rfl (hb hby at_18) ?_
    show Steps p.tables e below (s₁.setTop (mkF m 19 #[.val (.int p191), .val (.int p192), .val (.int ((p191 &&& (2147483647 : Int32)) % (7 : Int32))), .unset, .unset, .unset] [(.int (0 : Int32))])) _
    refine XS.istoreN X0.here hx rfl (hb hby at_19) rfl (l' := #[.val (.int p191), .val (.int p192), .val (.int ((p191 &&& (2147483647 : Int32)) % (7 : Int32))), .val (.int (0 : Int32)), .unset, .unset]) rfl ?_
    show Steps p.tables e below (s₁.setTop (mkF m 20 #[.val (.int p191), .val (.int p192), .val (.int ((p191 &&& (2147483647 : Int32)) % (7 : Int32))), .val (.int (0 : Int32)), .unset, .unset] [])) _
    refine XS.iloadN X0.here hx rfl (hb hby at_20) rfl ?_
    show Steps p.tables e below (s₁.setTop (mkF m 21 #[.val (.int p191), .val (.int p192), .val (.int ((p191 &&& (2147483647 : Int32)) % (7 : Int32))), .val (.int (0 : Int32)), .unset, .unset] [(.int ((p191 &&& (2147483647 : Int32)) % (7 : Int32)))])) _
    refine st196 _ ?_
    show Steps p.tables e below (T196.setTop (mkF m 24 #[.val (.int p191), .val (.int p192), .val (.int ((p191 &&& (2147483647 : Int32)) % (7 : Int32))), .val (.int (0 : Int32)), .unset, .unset] [(.ref w197)])) _
    refine XS.astore X196.here hx rfl (hb hby at_24) rfl rfl (l' := #[.val (.int p191), .val (.int p192), .val (.int ((p191 &&& (2147483647 : Int32)) % (7 : Int32))), .val (.int (0 : Int32)), .val (.ref w197), .unset]) rfl ?_
    show Steps p.tables e below (T196.setTop (mkF m 26 #[.val (.int p191), .val (.int p192), .val (.int ((p191 &&& (2147483647 : Int32)) % (7 : Int32))), .val (.int (0 : Int32)), .val (.ref w197), .unset] [])) _
    refine XS.iloadN X196.here hx rfl (hb hby at_26) rfl ?_
    show Steps p.tables e below (T196.setTop (mkF m 27 #[.val (.int p191), .val (.int p192), .val (.int ((p191 &&& (2147483647 : Int32)) % (7 : Int32))), .val (.int (0 : Int32)), .val (.ref w197), .unset] [(.int ((p191 &&& (2147483647 : Int32)) % (7 : Int32)))])) _
    refine XS.iloadN X196.here hx rfl (hb hby at_27) rfl ?_
    show Steps p.tables e below (T196.setTop (mkF m 28 #[.val (.int p191), .val (.int p192), .val (.int ((p191 &&& (2147483647 : Int32)) % (7 : Int32))), .val (.int (0 : Int32)), .val (.ref w197), .unset] [(.int (0 : Int32)), (.int ((p191 &&& (2147483647 : Int32)) % (7 : Int32)))])) _
    refine st202 _ ?_
    show Steps p.tables e below (T202.setTop (mkF m 31 #[.val (.int p191), .val (.int p192), .val (.int ((p191 &&& (2147483647 : Int32)) % (7 : Int32))), .val (.int (0 : Int32)), .val (.ref w197), .unset] [(.ref w203)])) _
    refine XS.astore X202.here hx rfl (hb hby at_31) rfl rfl (l' := #[.val (.int p191), .val (.int p192), .val (.int ((p191 &&& (2147483647 : Int32)) % (7 : Int32))), .val (.int (0 : Int32)), .val (.ref w197), .val (.ref w203)]) rfl ?_
    show Steps p.tables e below (T202.setTop (mkF m 33 #[.val (.int p191), .val (.int p192), .val (.int ((p191 &&& (2147483647 : Int32)) % (7 : Int32))), .val (.int (0 : Int32)), .val (.ref w197), .val (.ref w203)] [])) _
    refine XS.aload X202.here hx rfl (hb hby at_33) rfl rfl ?_
    show Steps p.tables e below (T202.setTop (mkF m 35 #[.val (.int p191), .val (.int p192), .val (.int ((p191 &&& (2147483647 : Int32)) % (7 : Int32))), .val (.int (0 : Int32)), .val (.ref w197), .val (.ref w203)] [(.ref w197)])) _
    refine XS.iloadN X202.here hx rfl (hb hby at_35) rfl ?_
    show Steps p.tables e below (T202.setTop (mkF m 36 #[.val (.int p191), .val (.int p192), .val (.int ((p191 &&& (2147483647 : Int32)) % (7 : Int32))), .val (.int (0 : Int32)), .val (.ref w197), .val (.ref w203)] [(.int (0 : Int32)), (.ref w197)])) _
    refine st208.trans ?_
    show Steps p.tables e below (T208.setTop (mkF m 39 #[.val (.int p191), .val (.int p192), .val (.int ((p191 &&& (2147483647 : Int32)) % (7 : Int32))), .val (.int (0 : Int32)), .val (.ref w197), .val (.ref w203)] [(.ref w209)])) _
    refine XS.aload X208.here hx rfl (hb hby at_39) rfl rfl ?_
    show Steps p.tables e below (T208.setTop (mkF m 41 #[.val (.int p191), .val (.int p192), .val (.int ((p191 &&& (2147483647 : Int32)) % (7 : Int32))), .val (.int (0 : Int32)), .val (.ref w197), .val (.ref w203)] [(.ref w203), (.ref w209)])) _
    refine Jvm.RoadKit.acmp (g := (mkF m 41 #[.val (.int p191), .val (.int p192), .val (.int ((p191 &&& (2147483647 : Int32)) % (7 : Int32))), .val (.int (0 : Int32)), .val (.ref w197), .val (.ref w203)] [(.ref w203), (.ref w209)])) X208 hx rfl rfl rfl (pc0 := 41) (pc' := 44) (same := true) rfl (hb hby at_41) rfl (decide_eq_true (congrArg Value.ref H12)) (by decide) (by decide) ?_
    show Steps p.tables e below (T208.setTop (mkF m 44 #[.val (.int p191), .val (.int p192), .val (.int ((p191 &&& (2147483647 : Int32)) % (7 : Int32))), .val (.int (0 : Int32)), .val (.ref w197), .val (.ref w203)] [])) _
    refine XS.iconst X208.here hx rfl (hb hby at_44) ?_
    show Steps p.tables e below (T208.setTop (mkF m 45 #[.val (.int p191), .val (.int p192), .val (.int ((p191 &&& (2147483647 : Int32)) % (7 : Int32))), .val (.int (0 : Int32)), .val (.ref w197), .val (.ref w203)] [(.int (1 : Int32))])) _
    refine XS.goto X208.here hx rfl (pc0 := 45) (pc' := 49) rfl (hb hby at_45) (by decide) (by decide) ?_
    show Steps p.tables e below (T208.setTop (mkF m 49 #[.val (.int p191), .val (.int p192), .val (.int ((p191 &&& (2147483647 : Int32)) % (7 : Int32))), .val (.int (0 : Int32)), .val (.ref w197), .val (.ref w203)] [(.int (1 : Int32))])) _
    exact retN X208 hx (t := .boolean) Bd.returns (by simp) (hb hby at_49) hr
  · show OQl (some (.int (1 : Int32))) n0 _ T208.heap _
    exact ⟨rfl, N208⟩
theorem d2_40 : decode method_3_code 40 = .ok (.iload_n 0, 1) := by decide +kernel
theorem d2_41 : decode method_3_code 41 = .ok (.iconst 5, 1) := by decide +kernel
theorem d2_42 : decode method_3_code 42 = .ok (.if_icmp .ne 7, 3) := by decide +kernel
theorem d2_45 : decode method_3_code 45 = .ok (.getstatic 43, 3) := by decide +kernel
theorem d2_48 : decode method_3_code 48 = .ok (.areturn, 1) := by decide +kernel
set_option maxRecDepth 65536 in
set_option maxHeartbeats 40000000 in
theorem r2_10 (l : Launch) (Z : State) (a0 : Array Value) (hw : ∀ d ∈ tables_1, d.before a0 Z = true) (p217 : Int32) (p218 : Int32) (w219 : Addr) (h0 : Heap) (n0 : Nat) (Z0 : n0 ≤ h0.size) (H0 : ¬ (p218 = (0 : Int32))) (H1 : ¬ (p217 = (0 : Int32))) (H2 : ¬ (p217 = (1 : Int32))) (H3 : ¬ (p217 = (2 : Int32))) (H4 : ¬ (p217 = (3 : Int32))) (H5 : ¬ (p217 = (4 : Int32))) (H6 : p217 = (5 : Int32)) (H7 : Sta Z h0 "com/example/transaction_scopes/transactionscopes/Propagation$Conduct" "REFUSE" "Lcom/example/transaction_scopes/transactionscopes/Propagation$Conduct;" (.ref w219)) :
    OMet l Z (⟨"com/example/transaction_scopes/transactionscopes/PropagationConductPinLaw", "expected", "(IZ)Lcom/example/transaction_scopes/transactionscopes/Propagation$Conduct;"⟩ : MethodName) method_3_code 2 (some (.object "com/example/transaction_scopes/transactionscopes/Propagation$Conduct")) [] ({ frames := 0, cells := 0, slots := 0, locals := 0 } : Room) h0 #[(.int p217), (.int p218)] (OQp (some (.ref w219)) h0 n0) := by
  refine MetFree.of_bodySF (plainFor_of_name pn_com_example_transaction_scopes_transactionscopes_PropagationConductPinLaw) hisR ?_
  intro p e s m args below meth c s₁ Bd hml0 hP hK
  obtain ⟨rfl, hZ, hh⟩ := hP
  have hx := Bd.exec
  have hby := Bd.bytes
  have hml : c.maxLocals = 2 := hml0
  have hown : s.vm.findClass "com/example/transaction_scopes/transactionscopes/PropagationConductPinLaw" = some m.cls := findClass_of_methodNamed Bd.named
  have hnm := (name_of_methodNamed Bd.named Bd.method).1
  have X0 : Stand p l e ({ frames := 0, cells := 0, slots := 0, locals := 0 } : Room) s m #[(.int p217), (.int p218)] below meth c s₁ [] 0 0 := Stand.of_body Bd
  have e0 : s₁.heap = h0 := by rw [← hh, Bd.state]; rfl
  have N0 := Fr.nil n0
  have pre0 : ∀ t, Steps p.tables e below (s₁.setTop (mkF m 0 #[.val (.int p217), .val (.int p218)] [])) t → Steps p.tables e below (s₁.setTop (entryFrame m #[(.int p217), (.int p218)] 2)) t := fun t k => castTop (ef_2_vv m p217 p218) k
  obtain ⟨T220, X220, e220, st220⟩ := getS2 X0 hx hZ hown (host := "") (Or.inl (hw _ (List.mem_of_getElem? (i := 37) rfl))) Via.refl e0 H7 (g := (mkF m 45 #[.val (.int p217), .val (.int p218)] [])) rfl (hb hby d2_45)
  obtain ⟨fs, hr, hrun, hended, hW, hsame⟩ := X220.leave (v := some (.ref w219)) (fun h => by rw [Bd.returns] at h; cases h)
  refine ⟨_, _, pre0 _ ?_, hrun, hended, _, _, rfl, ?_, ⟨_, rfl⟩, hW, hsame.mono (by decide) (by decide)⟩
  · show Steps p.tables e below (s₁.setTop (mkF m 0 #[.val (.int p217), .val (.int p218)] [])) _
    refine XS.iloadN X0.here hx rfl (hb hby d2_0) rfl ?_
    show Steps p.tables e below (s₁.setTop (mkF m 1 #[.val (.int p217), .val (.int p218)] [(.int p218)])) _
    refine XS.ifNo X0.here hx rfl (hb hby d2_1) rfl ((if0 _ _).trans (feq H0).1) ?_
    show Steps p.tables e below (s₁.setTop (mkF m 4 #[.val (.int p217), .val (.int p218)] [])) _
    refine XS.iloadN X0.here hx rfl (hb hby d2_4) rfl ?_
    show Steps p.tables e below (s₁.setTop (mkF m 5 #[.val (.int p217), .val (.int p218)] [(.int p217)])) _
    refine XS.ifNo X0.here hx rfl (hb hby d2_5) rfl ((if0 _ _).trans (feq H1).1) ?_
    show Steps p.tables e below (s₁.setTop (mkF m 8 #[.val (.int p217), .val (.int p218)] [])) _
    refine XS.iloadN X0.here hx rfl (hb hby d2_8) rfl ?_
    show Steps p.tables e below (s₁.setTop (mkF m 9 #[.val (.int p217), .val (.int p218)] [(.int p217)])) _
    refine XS.iconst X0.here hx rfl (hb hby d2_9) ?_
    show Steps p.tables e below (s₁.setTop (mkF m 10 #[.val (.int p217), .val (.int p218)] [(.int (1 : Int32)), (.int p217)])) _
    refine XS.icmpNo X0.here hx rfl (hb hby d2_10) rfl (feq H2).1 ?_
    show Steps p.tables e below (s₁.setTop (mkF m 13 #[.val (.int p217), .val (.int p218)] [])) _
    refine XS.iloadN X0.here hx rfl (hb hby d2_13) rfl ?_
    show Steps p.tables e below (s₁.setTop (mkF m 14 #[.val (.int p217), .val (.int p218)] [(.int p217)])) _
    refine XS.iconst X0.here hx rfl (hb hby d2_14) ?_
    show Steps p.tables e below (s₁.setTop (mkF m 15 #[.val (.int p217), .val (.int p218)] [(.int (2 : Int32)), (.int p217)])) _
    refine XS.icmpYes X0.here hx rfl (pc0 := 15) (pc' := 22) rfl (hb hby d2_15) rfl (feq H3).2 (by decide) (by decide) ?_
    show Steps p.tables e below (s₁.setTop (mkF m 22 #[.val (.int p217), .val (.int p218)] [])) _
    refine XS.iloadN X0.here hx rfl (hb hby d2_22) rfl ?_
    show Steps p.tables e below (s₁.setTop (mkF m 23 #[.val (.int p217), .val (.int p218)] [(.int p217)])) _
    refine XS.iconst X0.here hx rfl (hb hby d2_23) ?_
    show Steps p.tables e below (s₁.setTop (mkF m 24 #[.val (.int p217), .val (.int p218)] [(.int (3 : Int32)), (.int p217)])) _
    refine XS.icmpYes X0.here hx rfl (pc0 := 24) (pc' := 31) rfl (hb hby d2_24) rfl (feq H4).2 (by decide) (by decide) ?_
    show Steps p.tables e below (s₁.setTop (mkF m 31 #[.val (.int p217), .val (.int p218)] [])) _
    refine XS.iloadN X0.here hx rfl (hb hby d2_31) rfl ?_
    show Steps p.tables e below (s₁.setTop (mkF m 32 #[.val (.int p217), .val (.int p218)] [(.int p217)])) _
    refine XS.iconst X0.here hx rfl (hb hby d2_32) ?_
    show Steps p.tables e below (s₁.setTop (mkF m 33 #[.val (.int p217), .val (.int p218)] [(.int (4 : Int32)), (.int p217)])) _
    refine XS.icmpYes X0.here hx rfl (pc0 := 33) (pc' := 40) rfl (hb hby d2_33) rfl (feq H5).2 (by decide) (by decide) ?_
    show Steps p.tables e below (s₁.setTop (mkF m 40 #[.val (.int p217), .val (.int p218)] [])) _
    refine XS.iloadN X0.here hx rfl (hb hby d2_40) rfl ?_
    show Steps p.tables e below (s₁.setTop (mkF m 41 #[.val (.int p217), .val (.int p218)] [(.int p217)])) _
    refine XS.iconst X0.here hx rfl (hb hby d2_41) ?_
    show Steps p.tables e below (s₁.setTop (mkF m 42 #[.val (.int p217), .val (.int p218)] [(.int (5 : Int32)), (.int p217)])) _
    refine XS.icmpNo X0.here hx rfl (hb hby d2_42) rfl (teq H6).2 ?_
    show Steps p.tables e below (s₁.setTop (mkF m 45 #[.val (.int p217), .val (.int p218)] [])) _
    refine st220 _ ?_
    show Steps p.tables e below (T220.setTop (mkF m 48 #[.val (.int p217), .val (.int p218)] [(.ref w219)])) _
    jvm_step X220.here [X220.here.top, hx, (hb hby d2_48), X220.method', Bd.returns, Value.isRef, FieldType.isReference]
    first | (intro acts; rw [hr _ acts rfl rfl rfl]) | rw [hr _ _ rfl rfl rfl]
    exact Steps.refl _
  · show OQp (some (.ref w219)) h0 n0 _ T220.heap _
    rw [e220]
    exact ⟨rfl, N0, rfl⟩
set_option maxRecDepth 65536 in
set_option maxHeartbeats 40000000 in
theorem r0_12 (l : Launch) (Z : State) (a0 : Array Value) (hw : ∀ d ∈ tables_1, d.before a0 Z = true) (p210 : Int32) (p211 : Int32) (w216 : Addr) (w222 : Addr) (w228 : Addr) (h0 : Heap) (n0 : Nat) (Z0 : n0 ≤ h0.size) (H0 : ¬ ((p211 &&& (1 : Int32)) = (0 : Int32))) (H1 : ¬ (((p210 &&& (2147483647 : Int32)) % (7 : Int32)) = (0 : Int32))) (H2 : ¬ (((p210 &&& (2147483647 : Int32)) % (7 : Int32)) = (1 : Int32))) (H3 : ¬ (((p210 &&& (2147483647 : Int32)) % (7 : Int32)) = (2 : Int32))) (H4 : ¬ (((p210 &&& (2147483647 : Int32)) % (7 : Int32)) = (3 : Int32))) (H5 : ¬ (((p210 &&& (2147483647 : Int32)) % (7 : Int32)) = (4 : Int32))) (H6 : ((p210 &&& (2147483647 : Int32)) % (7 : Int32)) = (5 : Int32)) (H7 : Sta Z h0 "com/example/transaction_scopes/transactionscopes/Propagation" "NEVER" "Lcom/example/transaction_scopes/transactionscopes/Propagation;" (.ref w216)) (H8 : Sta Z h0 "com/example/transaction_scopes/transactionscopes/Propagation$Conduct" "REFUSE" "Lcom/example/transaction_scopes/transactionscopes/Propagation$Conduct;" (.ref w222)) (H9 : Fld Z h0 w216 "com/example/transaction_scopes/transactionscopes/Propagation" "withTransaction" "Lcom/example/transaction_scopes/transactionscopes/Propagation$Conduct;" (.ref w228)) (H10 : Exa Z h0 w216 "com/example/transaction_scopes/transactionscopes/Propagation") (H11 : w228 = w222) :
    OMet l Z x code maxLocals ret tables_1 room_1 h0 #[(.int p210), (.int p211)] (OQl (some (.int (1 : Int32))) n0) := by
  refine MetFree.of_bodySF (plainFor_of_name pn_com_example_transaction_scopes_transactionscopes_PropagationConductPinLaw) hisR ?_
  intro p e s m args below meth c s₁ Bd hml0 hP hK
  obtain ⟨rfl, hZ, hh⟩ := hP
  have hx := Bd.exec
  have hby := Bd.bytes
  have hml : c.maxLocals = 6 := hml0
  have hown : s.vm.findClass "com/example/transaction_scopes/transactionscopes/PropagationConductPinLaw" = some m.cls := findClass_of_methodNamed Bd.named
  have hnm := (name_of_methodNamed Bd.named Bd.method).1
  have X0 : Stand p l e room_1 s m #[(.int p210), (.int p211)] below meth c s₁ [] 0 0 := Stand.of_body Bd
  have e0 : s₁.heap = h0 := by rw [← hh, Bd.state]; rfl
  have N0 := Fr.nil n0
  have pre0 : ∀ t, Steps p.tables e below (s₁.setTop (mkF m 0 #[.val (.int p210), .val (.int p211), .unset, .unset, .unset, .unset] [])) t → Steps p.tables e below (s₁.setTop (entryFrame m #[(.int p210), (.int p211)] maxLocals)) t := fun t k => castTop (ef_0_vv m p210 p211) k
  obtain ⟨_, _, ⟨T215, L215, k215, n215⟩, -, X215, ⟨Lc215, hQ215, l215, y215, z215⟩, st215⟩ := Jvm.LawKit.callS X0 hx (y := (⟨"com/example/transaction_scopes/transactionscopes/PropagationConductPinLaw", "pick", "(I)Lcom/example/transaction_scopes/transactionscopes/Propagation;"⟩ : MethodName)) hown (mvT hZ (hw _ (List.mem_of_getElem? (i := 1) rfl))) (mvT hZ (hw _ (List.mem_of_getElem? (i := 2) rfl))) (mvT hZ (hw _ (List.mem_of_getElem? (i := 3) rfl))) (mvT hZ (hw _ (List.mem_of_getElem? (i := 4) rfl))) (by decide) (backOf (W := 0) (r1_6 l Z a0 hw ((p210 &&& (2147483647 : Int32)) % (7 : Int32)) w216 h0 n0 Z0 H1 H2 H3 H4 H5 H6 H7) hZ (hw _ (List.mem_of_getElem? (i := 4) rfl)) (hw _ (List.mem_of_getElem? (i := 3) rfl)) (by decide) (by decide)) (g := (mkF m 21 #[.val (.int p210), .val (.int p211), .val (.int ((p210 &&& (2147483647 : Int32)) % (7 : Int32))), .val (.int (1 : Int32)), .unset, .unset] [(.int ((p210 &&& (2147483647 : Int32)) % (7 : Int32)))])) rfl (by rw [hml]; rfl) (argsL := [(.int ((p210 &&& (2147483647 : Int32)) % (7 : Int32)))]) (rest := []) (lenOf pd_0 rfl) rfl (by show 2 * 0 + _ ≤ _; exact Nat.le_of_eq rfl) (hb hby at_21) (fun _ _ => ⟨rfl, e0, (by decide : 0 + 0 ≤ _), (by decide : 0 + 0 ≤ _)⟩)
  dsimp only [Pt.U, Pt.locs, Pt.cells, Pt.slots] at X215 l215 y215 z215 st215 hQ215
  subst l215 y215 z215
  obtain ⟨rfl, N215q, e215⟩ := hQ215
  have N215 := Fr.app N0 N215q
  obtain ⟨_, _, ⟨T221, L221, k221, n221⟩, -, X221, ⟨Lc221, hQ221, l221, y221, z221⟩, st221⟩ := Jvm.LawKit.callS X215 hx (y := (⟨"com/example/transaction_scopes/transactionscopes/PropagationConductPinLaw", "expected", "(IZ)Lcom/example/transaction_scopes/transactionscopes/Propagation$Conduct;"⟩ : MethodName)) hown (mvT hZ (hw _ (List.mem_of_getElem? (i := 8) rfl))) (mvT hZ (hw _ (List.mem_of_getElem? (i := 9) rfl))) (mvT hZ (hw _ (List.mem_of_getElem? (i := 3) rfl))) (mvT hZ (hw _ (List.mem_of_getElem? (i := 10) rfl))) (by decide) (backOf (W := 0) (r2_10 l Z a0 hw ((p210 &&& (2147483647 : Int32)) % (7 : Int32)) (1 : Int32) w222 h0 n0 Z0 (by decide) H1 H2 H3 H4 H5 H6 H8) hZ (hw _ (List.mem_of_getElem? (i := 10) rfl)) (hw _ (List.mem_of_getElem? (i := 3) rfl)) (by decide) (by decide)) (g := (mkF m 28 #[.val (.int p210), .val (.int p211), .val (.int ((p210 &&& (2147483647 : Int32)) % (7 : Int32))), .val (.int (1 : Int32)), .val (.ref w216), .unset] [(.int (1 : Int32)), (.int ((p210 &&& (2147483647 : Int32)) % (7 : Int32)))])) rfl (by rw [hml]; rfl) (argsL := [(.int ((p210 &&& (2147483647 : Int32)) % (7 : Int32))), (.int (1 : Int32))]) (rest := []) (lenOf pd_1 rfl) rfl (by show 2 * 0 + _ ≤ _; exact Nat.le_of_eq rfl) (hb hby at_28) (fun _ _ => ⟨rfl, e215, (by decide : 0 + 0 ≤ _), (by decide : 0 + 0 ≤ _)⟩)
  dsimp only [Pt.U, Pt.locs, Pt.cells, Pt.slots] at X221 l221 y221 z221 st221 hQ221
  subst l221 y221 z221
  obtain ⟨rfl, N221q, e221⟩ := hQ221
  have N221 := Fr.app N215 N221q
  obtain ⟨cq227, kq227, q227a, q227b, q227c⟩ := isOf hZ e221 H10
  obtain ⟨_, _, ⟨T227, L227, k227, n227⟩, -, X227, ⟨Lc227, hQ227, l227, y227, z227⟩, st227⟩ := X221.virtualBack hx (y := (⟨"com/example/transaction_scopes/transactionscopes/Propagation", "conduct", "(Z)Lcom/example/transaction_scopes/transactionscopes/Propagation$Conduct;"⟩ : MethodName)) (z := (⟨"com/example/transaction_scopes/transactionscopes/Propagation", "conduct", "(Z)Lcom/example/transaction_scopes/transactionscopes/Propagation$Conduct;"⟩ : MethodName)) hown (mvT hZ (hw _ (List.mem_of_getElem? (i := 14) rfl))) (mvT hZ (hw _ (List.mem_of_getElem? (i := 15) rfl))) (notFace_of_selects (args := #[]) (mvT hZ (hw _ (List.mem_of_getElem? (i := 17) rfl)))) (mvT hZ (hw _ (List.mem_of_getElem? (i := 17) rfl))) (mvT hZ (hw _ (List.mem_of_getElem? (i := 16) rfl))) (by decide) (backOf (W := 0) (r3_2 l Z a0 hw w216 (1 : Int32) w228 h0 n0 Z0 (by decide) H9) hZ (hw _ (List.mem_of_getElem? (i := 18) rfl)) (hw _ (List.mem_of_getElem? (i := 6) rfl)) (by decide) (by decide)) q227a q227c (g := (mkF m 36 #[.val (.int p210), .val (.int p211), .val (.int ((p210 &&& (2147483647 : Int32)) % (7 : Int32))), .val (.int (1 : Int32)), .val (.ref w216), .val (.ref w222)] [(.int (1 : Int32)), (.ref w216)])) rfl (by rw [hml]; rfl) (Steps.refl _) (argsL := [(.int (1 : Int32))]) (rest := []) (lenOf pd_2 rfl) rfl (by show 2 * 0 + _ ≤ _; exact Nat.le_of_eq rfl) (hb hby at_36) (fun _ _ => ⟨rfl, e221, (by decide : 0 + 0 ≤ _), (by decide : 0 + 0 ≤ _)⟩)
  dsimp only [Pt.U, Pt.locs, Pt.cells, Pt.slots] at X227 l227 y227 z227 st227 hQ227
  subst l227 y227 z227
  obtain ⟨rfl, N227q, e227⟩ := hQ227
  have N227 := Fr.app N221 N227q
  obtain ⟨fs, hr, hrun, hended, hW, hsame⟩ := X227.leave (v := some (.int (1 : Int32))) (fun h => by rw [Bd.returns] at h; cases h)
  refine ⟨_, _, pre0 _ ?_, hrun, hended, _, _, rfl, ?_, ⟨_, rfl⟩, hW, hsame.mono (by decide) (by decide)⟩
  · show Steps p.tables e below (s₁.setTop (mkF m 0 #[.val (.int p210), .val (.int p211), .unset, .unset, .unset, .unset] [])) _
    refine XS.iloadN X0.here hx rfl (hb hby at_0) rfl ?_
    show Steps p.tables e below (s₁.setTop (mkF m 1 #[.val (.int p210), .val (.int p211), .unset, .unset, .unset, .unset] [(.int p210)])) _
    refine X0.ldcInt hx hown (mvT hZ (hw _ (List.mem_of_getElem? (i := 0) rfl))) (g := (mkF m 1 #[.val (.int p210), .val (.int p211), .unset, .unset, .unset, .unset] [(.int p210)])) rfl (hb hby at_1) _ ?_
    show Steps p.tables e below (s₁.setTop (mkF m 3 #[.val (.int p210), .val (.int p211), .unset, .unset, .unset, .unset] [(.int (2147483647 : Int32)), (.int p210)])) _
    refine XS.iand X0.here hx rfl (hb hby at_3) rfl ?_
    show Steps p.tables e below (s₁.setTop (mkF m 4 #[.val (.int p210), .val (.int p211), .unset, .unset, .unset, .unset] [(.int (p210 &&& (2147483647 : Int32)))])) _
    refine XS.bipush X0.here hx rfl (hb hby at_4) ?_
    show Steps p.tables e below (s₁.setTop (mkF m 6 #[.val (.int p210), .val (.int p211), .unset, .unset, .unset, .unset] [(.int (7 : Int32)), (.int (p210 &&& (2147483647 : Int32)))])) _
    refine iremM X0 hx rfl (hb hby at_6) rfl (by decide) ?_
    show Steps p.tables e below (s₁.setTop (mkF m 7 #[.val (.int p210), .val (.int p211), .unset, .unset, .unset, .unset] [(.int ((p210 &&& (2147483647 : Int32)) % (7 : Int32)))])) _
    refine XS.istoreN X0.here hx rfl (hb hby at_7) rfl (l' := #[.val (.int p210), .val (.int p211), .val (.int ((p210 &&& (2147483647 : Int32)) % (7 : Int32))), .unset, .unset, .unset]) rfl ?_
    show Steps p.tables e below (s₁.setTop (mkF m 8 #[.val (.int p210), .val (.int p211), .val (.int ((p210 &&& (2147483647 : Int32)) % (7 : Int32))), .unset, .unset, .unset] [])) _
    refine XS.iloadN X0.here hx rfl (hb hby at_8) rfl ?_
    show Steps p.tables e below (s₁.setTop (mkF m 9 #[.val (.int p210), .val (.int p211), .val (.int ((p210 &&& (2147483647 : Int32)) % (7 : Int32))), .unset, .unset, .unset] [(.int p211)])) _
    refine XS.iconst X0.here hx rfl (hb hby at_9) ?_
    show Steps p.tables e below (s₁.setTop (mkF m 10 #[.val (.int p210), .val (.int p211), .val (.int ((p210 &&& (2147483647 : Int32)) % (7 : Int32))), .unset, .unset, .unset] [(.int (1 : Int32)), (.int p211)])) _
    refine XS.iand X0.here hx rfl (hb hby at_10) rfl ?_
    show Steps p.tables e below (s₁.setTop (mkF m 11 #[.val (.int p210), .val (.int p211), .val (.int ((p210 &&& (2147483647 : Int32)) % (7 : Int32))), .unset, .unset, .unset] [(.int (p211 &&& (1 : Int32)))])) _
    refine XS.ifNo X0.here hx rfl (hb hby at_11) rfl ((if0 _ _).trans (feq H0).1) ?_
    show Steps p.tables e below (s₁.setTop (mkF m 14 #[.val (.int p210), .val (.int p211), .val (.int ((p210 &&& (2147483647 : Int32)) % (7 : Int32))), .unset, .unset, .unset] [])) _
    refine XS.iconst X0.here hx rfl (hb hby at_14) ?_
    show Steps p.tables e below (s₁.setTop (mkF m 15 #[.val (.int p210), .val (.int p211), .val (.int ((p210 &&& (2147483647 : Int32)) % (7 : Int32))), .unset, .unset, .unset] [(.int (1 : Int32))])) _
    refine XS.goto X0.here hx rfl (pc0 := 15) (pc' := 19) rfl (hb hby at_15) (by decide) (by decide) ?_
    show Steps p.tables e below (s₁.setTop (mkF m 19 #[.val (.int p210), .val (.int p211), .val (.int ((p210 &&& (2147483647 : Int32)) % (7 : Int32))), .unset, .unset, .unset] [(.int (1 : Int32))])) _
    refine XS.istoreN X0.here hx rfl (hb hby at_19) rfl (l' := #[.val (.int p210), .val (.int p211), .val (.int ((p210 &&& (2147483647 : Int32)) % (7 : Int32))), .val (.int (1 : Int32)), .unset, .unset]) rfl ?_
    show Steps p.tables e below (s₁.setTop (mkF m 20 #[.val (.int p210), .val (.int p211), .val (.int ((p210 &&& (2147483647 : Int32)) % (7 : Int32))), .val (.int (1 : Int32)), .unset, .unset] [])) _
    refine XS.iloadN X0.here hx rfl (hb hby at_20) rfl ?_
    show Steps p.tables e below (s₁.setTop (mkF m 21 #[.val (.int p210), .val (.int p211), .val (.int ((p210 &&& (2147483647 : Int32)) % (7 : Int32))), .val (.int (1 : Int32)), .unset, .unset] [(.int ((p210 &&& (2147483647 : Int32)) % (7 : Int32)))])) _
    refine st215 _ ?_
    show Steps p.tables e below (T215.setTop (mkF m 24 #[.val (.int p210), .val (.int p211), .val (.int ((p210 &&& (2147483647 : Int32)) % (7 : Int32))), .val (.int (1 : Int32)), .unset, .unset] [(.ref w216)])) _
    refine XS.astore X215.here hx rfl (hb hby at_24) rfl rfl (l' := #[.val (.int p210), .val (.int p211), .val (.int ((p210 &&& (2147483647 : Int32)) % (7 : Int32))), .val (.int (1 : Int32)), .val (.ref w216), .unset]) rfl ?_
    show Steps p.tables e below (T215.setTop (mkF m 26 #[.val (.int p210), .val (.int p211), .val (.int ((p210 &&& (2147483647 : Int32)) % (7 : Int32))), .val (.int (1 : Int32)), .val (.ref w216), .unset] [])) _
    refine XS.iloadN X215.here hx rfl (hb hby at_26) rfl ?_
    show Steps p.tables e below (T215.setTop (mkF m 27 #[.val (.int p210), .val (.int p211), .val (.int ((p210 &&& (2147483647 : Int32)) % (7 : Int32))), .val (.int (1 : Int32)), .val (.ref w216), .unset] [(.int ((p210 &&& (2147483647 : Int32)) % (7 : Int32)))])) _
    refine XS.iloadN X215.here hx rfl (hb hby at_27) rfl ?_
    show Steps p.tables e below (T215.setTop (mkF m 28 #[.val (.int p210), .val (.int p211), .val (.int ((p210 &&& (2147483647 : Int32)) % (7 : Int32))), .val (.int (1 : Int32)), .val (.ref w216), .unset] [(.int (1 : Int32)), (.int ((p210 &&& (2147483647 : Int32)) % (7 : Int32)))])) _
    refine st221 _ ?_
    show Steps p.tables e below (T221.setTop (mkF m 31 #[.val (.int p210), .val (.int p211), .val (.int ((p210 &&& (2147483647 : Int32)) % (7 : Int32))), .val (.int (1 : Int32)), .val (.ref w216), .unset] [(.ref w222)])) _
    refine XS.astore X221.here hx rfl (hb hby at_31) rfl rfl (l' := #[.val (.int p210), .val (.int p211), .val (.int ((p210 &&& (2147483647 : Int32)) % (7 : Int32))), .val (.int (1 : Int32)), .val (.ref w216), .val (.ref w222)]) rfl ?_
    show Steps p.tables e below (T221.setTop (mkF m 33 #[.val (.int p210), .val (.int p211), .val (.int ((p210 &&& (2147483647 : Int32)) % (7 : Int32))), .val (.int (1 : Int32)), .val (.ref w216), .val (.ref w222)] [])) _
    refine XS.aload X221.here hx rfl (hb hby at_33) rfl rfl ?_
    show Steps p.tables e below (T221.setTop (mkF m 35 #[.val (.int p210), .val (.int p211), .val (.int ((p210 &&& (2147483647 : Int32)) % (7 : Int32))), .val (.int (1 : Int32)), .val (.ref w216), .val (.ref w222)] [(.ref w216)])) _
    refine XS.iloadN X221.here hx rfl (hb hby at_35) rfl ?_
    show Steps p.tables e below (T221.setTop (mkF m 36 #[.val (.int p210), .val (.int p211), .val (.int ((p210 &&& (2147483647 : Int32)) % (7 : Int32))), .val (.int (1 : Int32)), .val (.ref w216), .val (.ref w222)] [(.int (1 : Int32)), (.ref w216)])) _
    refine st227.trans ?_
    show Steps p.tables e below (T227.setTop (mkF m 39 #[.val (.int p210), .val (.int p211), .val (.int ((p210 &&& (2147483647 : Int32)) % (7 : Int32))), .val (.int (1 : Int32)), .val (.ref w216), .val (.ref w222)] [(.ref w228)])) _
    refine XS.aload X227.here hx rfl (hb hby at_39) rfl rfl ?_
    show Steps p.tables e below (T227.setTop (mkF m 41 #[.val (.int p210), .val (.int p211), .val (.int ((p210 &&& (2147483647 : Int32)) % (7 : Int32))), .val (.int (1 : Int32)), .val (.ref w216), .val (.ref w222)] [(.ref w222), (.ref w228)])) _
    refine Jvm.RoadKit.acmp (g := (mkF m 41 #[.val (.int p210), .val (.int p211), .val (.int ((p210 &&& (2147483647 : Int32)) % (7 : Int32))), .val (.int (1 : Int32)), .val (.ref w216), .val (.ref w222)] [(.ref w222), (.ref w228)])) X227 hx rfl rfl rfl (pc0 := 41) (pc' := 44) (same := true) rfl (hb hby at_41) rfl (decide_eq_true (congrArg Value.ref H11)) (by decide) (by decide) ?_
    show Steps p.tables e below (T227.setTop (mkF m 44 #[.val (.int p210), .val (.int p211), .val (.int ((p210 &&& (2147483647 : Int32)) % (7 : Int32))), .val (.int (1 : Int32)), .val (.ref w216), .val (.ref w222)] [])) _
    refine XS.iconst X227.here hx rfl (hb hby at_44) ?_
    show Steps p.tables e below (T227.setTop (mkF m 45 #[.val (.int p210), .val (.int p211), .val (.int ((p210 &&& (2147483647 : Int32)) % (7 : Int32))), .val (.int (1 : Int32)), .val (.ref w216), .val (.ref w222)] [(.int (1 : Int32))])) _
    refine XS.goto X227.here hx rfl (pc0 := 45) (pc' := 49) rfl (hb hby at_45) (by decide) (by decide) ?_
    show Steps p.tables e below (T227.setTop (mkF m 49 #[.val (.int p210), .val (.int p211), .val (.int ((p210 &&& (2147483647 : Int32)) % (7 : Int32))), .val (.int (1 : Int32)), .val (.ref w216), .val (.ref w222)] [(.int (1 : Int32))])) _
    exact retN X227 hx (t := .boolean) Bd.returns (by simp) (hb hby at_49) hr
  · show OQl (some (.int (1 : Int32))) n0 _ T227.heap _
    exact ⟨rfl, N227⟩
theorem d1_53 : decode method_2_code 53 = .ok (.getstatic 28, 3) := by decide +kernel
theorem d1_56 : decode method_2_code 56 = .ok (.areturn, 1) := by decide +kernel
set_option maxRecDepth 65536 in
set_option maxHeartbeats 40000000 in
theorem r1_7 (l : Launch) (Z : State) (a0 : Array Value) (hw : ∀ d ∈ tables_1, d.before a0 Z = true) (p231 : Int32) (w232 : Addr) (h0 : Heap) (n0 : Nat) (Z0 : n0 ≤ h0.size) (H0 : ¬ (p231 = (0 : Int32))) (H1 : ¬ (p231 = (1 : Int32))) (H2 : ¬ (p231 = (2 : Int32))) (H3 : ¬ (p231 = (3 : Int32))) (H4 : ¬ (p231 = (4 : Int32))) (H5 : ¬ (p231 = (5 : Int32))) (H6 : Sta Z h0 "com/example/transaction_scopes/transactionscopes/Propagation" "NESTED" "Lcom/example/transaction_scopes/transactionscopes/Propagation;" (.ref w232)) :
    OMet l Z (⟨"com/example/transaction_scopes/transactionscopes/PropagationConductPinLaw", "pick", "(I)Lcom/example/transaction_scopes/transactionscopes/Propagation;"⟩ : MethodName) method_2_code 1 (some (.object "com/example/transaction_scopes/transactionscopes/Propagation")) [] ({ frames := 0, cells := 0, slots := 0, locals := 0 } : Room) h0 #[(.int p231)] (OQp (some (.ref w232)) h0 n0) := by
  refine MetFree.of_bodySF (plainFor_of_name pn_com_example_transaction_scopes_transactionscopes_PropagationConductPinLaw) hisR ?_
  intro p e s m args below meth c s₁ Bd hml0 hP hK
  obtain ⟨rfl, hZ, hh⟩ := hP
  have hx := Bd.exec
  have hby := Bd.bytes
  have hml : c.maxLocals = 1 := hml0
  have hown : s.vm.findClass "com/example/transaction_scopes/transactionscopes/PropagationConductPinLaw" = some m.cls := findClass_of_methodNamed Bd.named
  have hnm := (name_of_methodNamed Bd.named Bd.method).1
  have X0 : Stand p l e ({ frames := 0, cells := 0, slots := 0, locals := 0 } : Room) s m #[(.int p231)] below meth c s₁ [] 0 0 := Stand.of_body Bd
  have e0 : s₁.heap = h0 := by rw [← hh, Bd.state]; rfl
  have N0 := Fr.nil n0
  have pre0 : ∀ t, Steps p.tables e below (s₁.setTop (mkF m 0 #[.val (.int p231)] [])) t → Steps p.tables e below (s₁.setTop (entryFrame m #[(.int p231)] 1)) t := fun t k => castTop (ef_1_v m p231) k
  obtain ⟨T233, X233, e233, st233⟩ := getS2 X0 hx hZ hown (host := "") (Or.inl (hw _ (List.mem_of_getElem? (i := 33) rfl))) Via.refl e0 H6 (g := (mkF m 53 #[.val (.int p231)] [])) rfl (hb hby d1_53)
  obtain ⟨fs, hr, hrun, hended, hW, hsame⟩ := X233.leave (v := some (.ref w232)) (fun h => by rw [Bd.returns] at h; cases h)
  refine ⟨_, _, pre0 _ ?_, hrun, hended, _, _, rfl, ?_, ⟨_, rfl⟩, hW, hsame.mono (by decide) (by decide)⟩
  · show Steps p.tables e below (s₁.setTop (mkF m 0 #[.val (.int p231)] [])) _
    refine XS.iloadN X0.here hx rfl (hb hby d1_0) rfl ?_
    show Steps p.tables e below (s₁.setTop (mkF m 1 #[.val (.int p231)] [(.int p231)])) _
    refine XS.ifYes X0.here hx rfl (pc0 := 1) (pc' := 8) rfl (hb hby d1_1) rfl ((if0 _ _).trans (feq H0).2) (by decide) (by decide) ?_
    show Steps p.tables e below (s₁.setTop (mkF m 8 #[.val (.int p231)] [])) _
    refine XS.iloadN X0.here hx rfl (hb hby d1_8) rfl ?_
    show Steps p.tables e below (s₁.setTop (mkF m 9 #[.val (.int p231)] [(.int p231)])) _
    refine XS.iconst X0.here hx rfl (hb hby d1_9) ?_
    show Steps p.tables e below (s₁.setTop (mkF m 10 #[.val (.int p231)] [(.int (1 : Int32)), (.int p231)])) _
    refine XS.icmpYes X0.here hx rfl (pc0 := 10) (pc' := 17) rfl (hb hby d1_10) rfl (feq H1).2 (by decide) (by decide) ?_
    show Steps p.tables e below (s₁.setTop (mkF m 17 #[.val (.int p231)] [])) _
    refine XS.iloadN X0.here hx rfl (hb hby d1_17) rfl ?_
    show Steps p.tables e below (s₁.setTop (mkF m 18 #[.val (.int p231)] [(.int p231)])) _
    refine XS.iconst X0.here hx rfl (hb hby d1_18) ?_
    show Steps p.tables e below (s₁.setTop (mkF m 19 #[.val (.int p231)] [(.int (2 : Int32)), (.int p231)])) _
    refine XS.icmpYes X0.here hx rfl (pc0 := 19) (pc' := 26) rfl (hb hby d1_19) rfl (feq H2).2 (by decide) (by decide) ?_
    show Steps p.tables e below (s₁.setTop (mkF m 26 #[.val (.int p231)] [])) _
    refine XS.iloadN X0.here hx rfl (hb hby d1_26) rfl ?_
    show Steps p.tables e below (s₁.setTop (mkF m 27 #[.val (.int p231)] [(.int p231)])) _
    refine XS.iconst X0.here hx rfl (hb hby d1_27) ?_
    show Steps p.tables e below (s₁.setTop (mkF m 28 #[.val (.int p231)] [(.int (3 : Int32)), (.int p231)])) _
    refine XS.icmpYes X0.here hx rfl (pc0 := 28) (pc' := 35) rfl (hb hby d1_28) rfl (feq H3).2 (by decide) (by decide) ?_
    show Steps p.tables e below (s₁.setTop (mkF m 35 #[.val (.int p231)] [])) _
    refine XS.iloadN X0.here hx rfl (hb hby d1_35) rfl ?_
    show Steps p.tables e below (s₁.setTop (mkF m 36 #[.val (.int p231)] [(.int p231)])) _
    refine XS.iconst X0.here hx rfl (hb hby d1_36) ?_
    show Steps p.tables e below (s₁.setTop (mkF m 37 #[.val (.int p231)] [(.int (4 : Int32)), (.int p231)])) _
    refine XS.icmpYes X0.here hx rfl (pc0 := 37) (pc' := 44) rfl (hb hby d1_37) rfl (feq H4).2 (by decide) (by decide) ?_
    show Steps p.tables e below (s₁.setTop (mkF m 44 #[.val (.int p231)] [])) _
    refine XS.iloadN X0.here hx rfl (hb hby d1_44) rfl ?_
    show Steps p.tables e below (s₁.setTop (mkF m 45 #[.val (.int p231)] [(.int p231)])) _
    refine XS.iconst X0.here hx rfl (hb hby d1_45) ?_
    show Steps p.tables e below (s₁.setTop (mkF m 46 #[.val (.int p231)] [(.int (5 : Int32)), (.int p231)])) _
    refine XS.icmpYes X0.here hx rfl (pc0 := 46) (pc' := 53) rfl (hb hby d1_46) rfl (feq H5).2 (by decide) (by decide) ?_
    show Steps p.tables e below (s₁.setTop (mkF m 53 #[.val (.int p231)] [])) _
    refine st233 _ ?_
    show Steps p.tables e below (T233.setTop (mkF m 56 #[.val (.int p231)] [(.ref w232)])) _
    jvm_step X233.here [X233.here.top, hx, (hb hby d1_56), X233.method', Bd.returns, Value.isRef, FieldType.isReference]
    first | (intro acts; rw [hr _ acts rfl rfl rfl]) | rw [hr _ _ rfl rfl rfl]
    exact Steps.refl _
  · show OQp (some (.ref w232)) h0 n0 _ T233.heap _
    rw [e233]
    exact ⟨rfl, N0, rfl⟩
set_option maxRecDepth 65536 in
set_option maxHeartbeats 40000000 in
theorem r2_11 (l : Launch) (Z : State) (a0 : Array Value) (hw : ∀ d ∈ tables_1, d.before a0 Z = true) (p236 : Int32) (p237 : Int32) (w238 : Addr) (h0 : Heap) (n0 : Nat) (Z0 : n0 ≤ h0.size) (H0 : p237 = (0 : Int32)) (H1 : ¬ (p236 = (0 : Int32))) (H2 : ¬ (p236 = (3 : Int32))) (H3 : p236 = (6 : Int32)) (H4 : Sta Z h0 "com/example/transaction_scopes/transactionscopes/Propagation$Conduct" "BEGIN" "Lcom/example/transaction_scopes/transactionscopes/Propagation$Conduct;" (.ref w238)) :
    OMet l Z (⟨"com/example/transaction_scopes/transactionscopes/PropagationConductPinLaw", "expected", "(IZ)Lcom/example/transaction_scopes/transactionscopes/Propagation$Conduct;"⟩ : MethodName) method_3_code 2 (some (.object "com/example/transaction_scopes/transactionscopes/Propagation$Conduct")) [] ({ frames := 0, cells := 0, slots := 0, locals := 0 } : Room) h0 #[(.int p236), (.int p237)] (OQp (some (.ref w238)) h0 n0) := by
  refine MetFree.of_bodySF (plainFor_of_name pn_com_example_transaction_scopes_transactionscopes_PropagationConductPinLaw) hisR ?_
  intro p e s m args below meth c s₁ Bd hml0 hP hK
  obtain ⟨rfl, hZ, hh⟩ := hP
  have hx := Bd.exec
  have hby := Bd.bytes
  have hml : c.maxLocals = 2 := hml0
  have hown : s.vm.findClass "com/example/transaction_scopes/transactionscopes/PropagationConductPinLaw" = some m.cls := findClass_of_methodNamed Bd.named
  have hnm := (name_of_methodNamed Bd.named Bd.method).1
  have X0 : Stand p l e ({ frames := 0, cells := 0, slots := 0, locals := 0 } : Room) s m #[(.int p236), (.int p237)] below meth c s₁ [] 0 0 := Stand.of_body Bd
  have e0 : s₁.heap = h0 := by rw [← hh, Bd.state]; rfl
  have N0 := Fr.nil n0
  have pre0 : ∀ t, Steps p.tables e below (s₁.setTop (mkF m 0 #[.val (.int p236), .val (.int p237)] [])) t → Steps p.tables e below (s₁.setTop (entryFrame m #[(.int p236), (.int p237)] 2)) t := fun t k => castTop (ef_2_vv m p236 p237) k
  obtain ⟨T239, X239, e239, st239⟩ := getS2 X0 hx hZ hown (host := "") (Or.inl (hw _ (List.mem_of_getElem? (i := 23) rfl))) Via.refl e0 H4 (g := (mkF m 68 #[.val (.int p236), .val (.int p237)] [])) rfl (hb hby d2_68)
  obtain ⟨fs, hr, hrun, hended, hW, hsame⟩ := X239.leave (v := some (.ref w238)) (fun h => by rw [Bd.returns] at h; cases h)
  refine ⟨_, _, pre0 _ ?_, hrun, hended, _, _, rfl, ?_, ⟨_, rfl⟩, hW, hsame.mono (by decide) (by decide)⟩
  · show Steps p.tables e below (s₁.setTop (mkF m 0 #[.val (.int p236), .val (.int p237)] [])) _
    refine XS.iloadN X0.here hx rfl (hb hby d2_0) rfl ?_
    show Steps p.tables e below (s₁.setTop (mkF m 1 #[.val (.int p236), .val (.int p237)] [(.int p237)])) _
    refine XS.ifYes X0.here hx rfl (pc0 := 1) (pc' := 53) rfl (hb hby d2_1) rfl ((if0 _ _).trans (teq H0).1) (by decide) (by decide) ?_
    show Steps p.tables e below (s₁.setTop (mkF m 53 #[.val (.int p236), .val (.int p237)] [])) _
    refine XS.iloadN X0.here hx rfl (hb hby d2_53) rfl ?_
    show Steps p.tables e below (s₁.setTop (mkF m 54 #[.val (.int p236), .val (.int p237)] [(.int p236)])) _
    refine XS.ifNo X0.here hx rfl (hb hby d2_54) rfl ((if0 _ _).trans (feq H1).1) ?_
    show Steps p.tables e below (s₁.setTop (mkF m 57 #[.val (.int p236), .val (.int p237)] [])) _
    refine XS.iloadN X0.here hx rfl (hb hby d2_57) rfl ?_
    show Steps p.tables e below (s₁.setTop (mkF m 58 #[.val (.int p236), .val (.int p237)] [(.int p236)])) _
    refine XS.iconst X0.here hx rfl (hb hby d2_58) ?_
    show Steps p.tables e below (s₁.setTop (mkF m 59 #[.val (.int p236), .val (.int p237)] [(.int (3 : Int32)), (.int p236)])) _
    refine XS.icmpNo X0.here hx rfl (hb hby d2_59) rfl (feq H2).1 ?_
    show Steps p.tables e below (s₁.setTop (mkF m 62 #[.val (.int p236), .val (.int p237)] [])) _
    refine XS.iloadN X0.here hx rfl (hb hby d2_62) rfl ?_
    show Steps p.tables e below (s₁.setTop (mkF m 63 #[.val (.int p236), .val (.int p237)] [(.int p236)])) _
    refine XS.bipush X0.here hx rfl (hb hby d2_63) ?_
    show Steps p.tables e below (s₁.setTop (mkF m 65 #[.val (.int p236), .val (.int p237)] [(.int (6 : Int32)), (.int p236)])) _
    refine XS.icmpNo X0.here hx rfl (hb hby d2_65) rfl (teq H3).2 ?_
    show Steps p.tables e below (s₁.setTop (mkF m 68 #[.val (.int p236), .val (.int p237)] [])) _
    refine st239 _ ?_
    show Steps p.tables e below (T239.setTop (mkF m 71 #[.val (.int p236), .val (.int p237)] [(.ref w238)])) _
    jvm_step X239.here [X239.here.top, hx, (hb hby d2_71), X239.method', Bd.returns, Value.isRef, FieldType.isReference]
    first | (intro acts; rw [hr _ acts rfl rfl rfl]) | rw [hr _ _ rfl rfl rfl]
    exact Steps.refl _
  · show OQp (some (.ref w238)) h0 n0 _ T239.heap _
    rw [e239]
    exact ⟨rfl, N0, rfl⟩
set_option maxRecDepth 65536 in
set_option maxHeartbeats 40000000 in
theorem r0_13 (l : Launch) (Z : State) (a0 : Array Value) (hw : ∀ d ∈ tables_1, d.before a0 Z = true) (p229 : Int32) (p230 : Int32) (w235 : Addr) (w241 : Addr) (w247 : Addr) (h0 : Heap) (n0 : Nat) (Z0 : n0 ≤ h0.size) (H0 : (p230 &&& (1 : Int32)) = (0 : Int32)) (H1 : ¬ (((p229 &&& (2147483647 : Int32)) % (7 : Int32)) = (0 : Int32))) (H2 : ¬ (((p229 &&& (2147483647 : Int32)) % (7 : Int32)) = (1 : Int32))) (H3 : ¬ (((p229 &&& (2147483647 : Int32)) % (7 : Int32)) = (2 : Int32))) (H4 : ¬ (((p229 &&& (2147483647 : Int32)) % (7 : Int32)) = (3 : Int32))) (H5 : ¬ (((p229 &&& (2147483647 : Int32)) % (7 : Int32)) = (4 : Int32))) (H6 : ¬ (((p229 &&& (2147483647 : Int32)) % (7 : Int32)) = (5 : Int32))) (H7 : Sta Z h0 "com/example/transaction_scopes/transactionscopes/Propagation" "NESTED" "Lcom/example/transaction_scopes/transactionscopes/Propagation;" (.ref w235)) (H8 : ((p229 &&& (2147483647 : Int32)) % (7 : Int32)) = (6 : Int32)) (H9 : Sta Z h0 "com/example/transaction_scopes/transactionscopes/Propagation$Conduct" "BEGIN" "Lcom/example/transaction_scopes/transactionscopes/Propagation$Conduct;" (.ref w241)) (H10 : Fld Z h0 w235 "com/example/transaction_scopes/transactionscopes/Propagation" "withoutTransaction" "Lcom/example/transaction_scopes/transactionscopes/Propagation$Conduct;" (.ref w247)) (H11 : Exa Z h0 w235 "com/example/transaction_scopes/transactionscopes/Propagation") (H12 : w247 = w241) :
    OMet l Z x code maxLocals ret tables_1 room_1 h0 #[(.int p229), (.int p230)] (OQl (some (.int (1 : Int32))) n0) := by
  refine MetFree.of_bodySF (plainFor_of_name pn_com_example_transaction_scopes_transactionscopes_PropagationConductPinLaw) hisR ?_
  intro p e s m args below meth c s₁ Bd hml0 hP hK
  obtain ⟨rfl, hZ, hh⟩ := hP
  have hx := Bd.exec
  have hby := Bd.bytes
  have hml : c.maxLocals = 6 := hml0
  have hown : s.vm.findClass "com/example/transaction_scopes/transactionscopes/PropagationConductPinLaw" = some m.cls := findClass_of_methodNamed Bd.named
  have hnm := (name_of_methodNamed Bd.named Bd.method).1
  have X0 : Stand p l e room_1 s m #[(.int p229), (.int p230)] below meth c s₁ [] 0 0 := Stand.of_body Bd
  have e0 : s₁.heap = h0 := by rw [← hh, Bd.state]; rfl
  have N0 := Fr.nil n0
  have pre0 : ∀ t, Steps p.tables e below (s₁.setTop (mkF m 0 #[.val (.int p229), .val (.int p230), .unset, .unset, .unset, .unset] [])) t → Steps p.tables e below (s₁.setTop (entryFrame m #[(.int p229), (.int p230)] maxLocals)) t := fun t k => castTop (ef_0_vv m p229 p230) k
  obtain ⟨_, _, ⟨T234, L234, k234, n234⟩, -, X234, ⟨Lc234, hQ234, l234, y234, z234⟩, st234⟩ := Jvm.LawKit.callS X0 hx (y := (⟨"com/example/transaction_scopes/transactionscopes/PropagationConductPinLaw", "pick", "(I)Lcom/example/transaction_scopes/transactionscopes/Propagation;"⟩ : MethodName)) hown (mvT hZ (hw _ (List.mem_of_getElem? (i := 1) rfl))) (mvT hZ (hw _ (List.mem_of_getElem? (i := 2) rfl))) (mvT hZ (hw _ (List.mem_of_getElem? (i := 3) rfl))) (mvT hZ (hw _ (List.mem_of_getElem? (i := 4) rfl))) (by decide) (backOf (W := 0) (r1_7 l Z a0 hw ((p229 &&& (2147483647 : Int32)) % (7 : Int32)) w235 h0 n0 Z0 H1 H2 H3 H4 H5 H6 H7) hZ (hw _ (List.mem_of_getElem? (i := 4) rfl)) (hw _ (List.mem_of_getElem? (i := 3) rfl)) (by decide) (by decide)) (g := (mkF m 21 #[.val (.int p229), .val (.int p230), .val (.int ((p229 &&& (2147483647 : Int32)) % (7 : Int32))), .val (.int (0 : Int32)), .unset, .unset] [(.int ((p229 &&& (2147483647 : Int32)) % (7 : Int32)))])) rfl (by rw [hml]; rfl) (argsL := [(.int ((p229 &&& (2147483647 : Int32)) % (7 : Int32)))]) (rest := []) (lenOf pd_0 rfl) rfl (by show 2 * 0 + _ ≤ _; exact Nat.le_of_eq rfl) (hb hby at_21) (fun _ _ => ⟨rfl, e0, (by decide : 0 + 0 ≤ _), (by decide : 0 + 0 ≤ _)⟩)
  dsimp only [Pt.U, Pt.locs, Pt.cells, Pt.slots] at X234 l234 y234 z234 st234 hQ234
  subst l234 y234 z234
  obtain ⟨rfl, N234q, e234⟩ := hQ234
  have N234 := Fr.app N0 N234q
  obtain ⟨_, _, ⟨T240, L240, k240, n240⟩, -, X240, ⟨Lc240, hQ240, l240, y240, z240⟩, st240⟩ := Jvm.LawKit.callS X234 hx (y := (⟨"com/example/transaction_scopes/transactionscopes/PropagationConductPinLaw", "expected", "(IZ)Lcom/example/transaction_scopes/transactionscopes/Propagation$Conduct;"⟩ : MethodName)) hown (mvT hZ (hw _ (List.mem_of_getElem? (i := 8) rfl))) (mvT hZ (hw _ (List.mem_of_getElem? (i := 9) rfl))) (mvT hZ (hw _ (List.mem_of_getElem? (i := 3) rfl))) (mvT hZ (hw _ (List.mem_of_getElem? (i := 10) rfl))) (by decide) (backOf (W := 0) (r2_11 l Z a0 hw ((p229 &&& (2147483647 : Int32)) % (7 : Int32)) (0 : Int32) w241 h0 n0 Z0 rfl H1 H4 H8 H9) hZ (hw _ (List.mem_of_getElem? (i := 10) rfl)) (hw _ (List.mem_of_getElem? (i := 3) rfl)) (by decide) (by decide)) (g := (mkF m 28 #[.val (.int p229), .val (.int p230), .val (.int ((p229 &&& (2147483647 : Int32)) % (7 : Int32))), .val (.int (0 : Int32)), .val (.ref w235), .unset] [(.int (0 : Int32)), (.int ((p229 &&& (2147483647 : Int32)) % (7 : Int32)))])) rfl (by rw [hml]; rfl) (argsL := [(.int ((p229 &&& (2147483647 : Int32)) % (7 : Int32))), (.int (0 : Int32))]) (rest := []) (lenOf pd_1 rfl) rfl (by show 2 * 0 + _ ≤ _; exact Nat.le_of_eq rfl) (hb hby at_28) (fun _ _ => ⟨rfl, e234, (by decide : 0 + 0 ≤ _), (by decide : 0 + 0 ≤ _)⟩)
  dsimp only [Pt.U, Pt.locs, Pt.cells, Pt.slots] at X240 l240 y240 z240 st240 hQ240
  subst l240 y240 z240
  obtain ⟨rfl, N240q, e240⟩ := hQ240
  have N240 := Fr.app N234 N240q
  obtain ⟨cq246, kq246, q246a, q246b, q246c⟩ := isOf hZ e240 H11
  obtain ⟨_, _, ⟨T246, L246, k246, n246⟩, -, X246, ⟨Lc246, hQ246, l246, y246, z246⟩, st246⟩ := X240.virtualBack hx (y := (⟨"com/example/transaction_scopes/transactionscopes/Propagation", "conduct", "(Z)Lcom/example/transaction_scopes/transactionscopes/Propagation$Conduct;"⟩ : MethodName)) (z := (⟨"com/example/transaction_scopes/transactionscopes/Propagation", "conduct", "(Z)Lcom/example/transaction_scopes/transactionscopes/Propagation$Conduct;"⟩ : MethodName)) hown (mvT hZ (hw _ (List.mem_of_getElem? (i := 14) rfl))) (mvT hZ (hw _ (List.mem_of_getElem? (i := 15) rfl))) (notFace_of_selects (args := #[]) (mvT hZ (hw _ (List.mem_of_getElem? (i := 17) rfl)))) (mvT hZ (hw _ (List.mem_of_getElem? (i := 17) rfl))) (mvT hZ (hw _ (List.mem_of_getElem? (i := 16) rfl))) (by decide) (backOf (W := 0) (r3_1 l Z a0 hw w235 (0 : Int32) w247 h0 n0 Z0 rfl H10) hZ (hw _ (List.mem_of_getElem? (i := 18) rfl)) (hw _ (List.mem_of_getElem? (i := 6) rfl)) (by decide) (by decide)) q246a q246c (g := (mkF m 36 #[.val (.int p229), .val (.int p230), .val (.int ((p229 &&& (2147483647 : Int32)) % (7 : Int32))), .val (.int (0 : Int32)), .val (.ref w235), .val (.ref w241)] [(.int (0 : Int32)), (.ref w235)])) rfl (by rw [hml]; rfl) (Steps.refl _) (argsL := [(.int (0 : Int32))]) (rest := []) (lenOf pd_2 rfl) rfl (by show 2 * 0 + _ ≤ _; exact Nat.le_of_eq rfl) (hb hby at_36) (fun _ _ => ⟨rfl, e240, (by decide : 0 + 0 ≤ _), (by decide : 0 + 0 ≤ _)⟩)
  dsimp only [Pt.U, Pt.locs, Pt.cells, Pt.slots] at X246 l246 y246 z246 st246 hQ246
  subst l246 y246 z246
  obtain ⟨rfl, N246q, e246⟩ := hQ246
  have N246 := Fr.app N240 N246q
  obtain ⟨fs, hr, hrun, hended, hW, hsame⟩ := X246.leave (v := some (.int (1 : Int32))) (fun h => by rw [Bd.returns] at h; cases h)
  refine ⟨_, _, pre0 _ ?_, hrun, hended, _, _, rfl, ?_, ⟨_, rfl⟩, hW, hsame.mono (by decide) (by decide)⟩
  · show Steps p.tables e below (s₁.setTop (mkF m 0 #[.val (.int p229), .val (.int p230), .unset, .unset, .unset, .unset] [])) _
    refine XS.iloadN X0.here hx rfl (hb hby at_0) rfl ?_
    show Steps p.tables e below (s₁.setTop (mkF m 1 #[.val (.int p229), .val (.int p230), .unset, .unset, .unset, .unset] [(.int p229)])) _
    refine X0.ldcInt hx hown (mvT hZ (hw _ (List.mem_of_getElem? (i := 0) rfl))) (g := (mkF m 1 #[.val (.int p229), .val (.int p230), .unset, .unset, .unset, .unset] [(.int p229)])) rfl (hb hby at_1) _ ?_
    show Steps p.tables e below (s₁.setTop (mkF m 3 #[.val (.int p229), .val (.int p230), .unset, .unset, .unset, .unset] [(.int (2147483647 : Int32)), (.int p229)])) _
    refine XS.iand X0.here hx rfl (hb hby at_3) rfl ?_
    show Steps p.tables e below (s₁.setTop (mkF m 4 #[.val (.int p229), .val (.int p230), .unset, .unset, .unset, .unset] [(.int (p229 &&& (2147483647 : Int32)))])) _
    refine XS.bipush X0.here hx rfl (hb hby at_4) ?_
    show Steps p.tables e below (s₁.setTop (mkF m 6 #[.val (.int p229), .val (.int p230), .unset, .unset, .unset, .unset] [(.int (7 : Int32)), (.int (p229 &&& (2147483647 : Int32)))])) _
    refine iremM X0 hx rfl (hb hby at_6) rfl (by decide) ?_
    show Steps p.tables e below (s₁.setTop (mkF m 7 #[.val (.int p229), .val (.int p230), .unset, .unset, .unset, .unset] [(.int ((p229 &&& (2147483647 : Int32)) % (7 : Int32)))])) _
    refine XS.istoreN X0.here hx rfl (hb hby at_7) rfl (l' := #[.val (.int p229), .val (.int p230), .val (.int ((p229 &&& (2147483647 : Int32)) % (7 : Int32))), .unset, .unset, .unset]) rfl ?_
    show Steps p.tables e below (s₁.setTop (mkF m 8 #[.val (.int p229), .val (.int p230), .val (.int ((p229 &&& (2147483647 : Int32)) % (7 : Int32))), .unset, .unset, .unset] [])) _
    refine XS.iloadN X0.here hx rfl (hb hby at_8) rfl ?_
    show Steps p.tables e below (s₁.setTop (mkF m 9 #[.val (.int p229), .val (.int p230), .val (.int ((p229 &&& (2147483647 : Int32)) % (7 : Int32))), .unset, .unset, .unset] [(.int p230)])) _
    refine XS.iconst X0.here hx rfl (hb hby at_9) ?_
    show Steps p.tables e below (s₁.setTop (mkF m 10 #[.val (.int p229), .val (.int p230), .val (.int ((p229 &&& (2147483647 : Int32)) % (7 : Int32))), .unset, .unset, .unset] [(.int (1 : Int32)), (.int p230)])) _
    refine XS.iand X0.here hx rfl (hb hby at_10) rfl ?_
    show Steps p.tables e below (s₁.setTop (mkF m 11 #[.val (.int p229), .val (.int p230), .val (.int ((p229 &&& (2147483647 : Int32)) % (7 : Int32))), .unset, .unset, .unset] [(.int (p230 &&& (1 : Int32)))])) _
    refine XS.ifYes X0.here hx rfl (pc0 := 11) (pc' := 18) rfl (hb hby at_11) rfl ((if0 _ _).trans (teq H0).1) (by decide) (by decide) ?_
    show Steps p.tables e below (s₁.setTop (mkF m 18 #[.val (.int p229), .val (.int p230), .val (.int ((p229 &&& (2147483647 : Int32)) % (7 : Int32))), .unset, .unset, .unset] [])) _
    refine XS.iconst X0.here hx rfl (hb hby at_18) ?_
    show Steps p.tables e below (s₁.setTop (mkF m 19 #[.val (.int p229), .val (.int p230), .val (.int ((p229 &&& (2147483647 : Int32)) % (7 : Int32))), .unset, .unset, .unset] [(.int (0 : Int32))])) _
    refine XS.istoreN X0.here hx rfl (hb hby at_19) rfl (l' := #[.val (.int p229), .val (.int p230), .val (.int ((p229 &&& (2147483647 : Int32)) % (7 : Int32))), .val (.int (0 : Int32)), .unset, .unset]) rfl ?_
    show Steps p.tables e below (s₁.setTop (mkF m 20 #[.val (.int p229), .val (.int p230), .val (.int ((p229 &&& (2147483647 : Int32)) % (7 : Int32))), .val (.int (0 : Int32)), .unset, .unset] [])) _
    refine XS.iloadN X0.here hx rfl (hb hby at_20) rfl ?_
    show Steps p.tables e below (s₁.setTop (mkF m 21 #[.val (.int p229), .val (.int p230), .val (.int ((p229 &&& (2147483647 : Int32)) % (7 : Int32))), .val (.int (0 : Int32)), .unset, .unset] [(.int ((p229 &&& (2147483647 : Int32)) % (7 : Int32)))])) _
    refine st234 _ ?_
    show Steps p.tables e below (T234.setTop (mkF m 24 #[.val (.int p229), .val (.int p230), .val (.int ((p229 &&& (2147483647 : Int32)) % (7 : Int32))), .val (.int (0 : Int32)), .unset, .unset] [(.ref w235)])) _
    refine XS.astore X234.here hx rfl (hb hby at_24) rfl rfl (l' := #[.val (.int p229), .val (.int p230), .val (.int ((p229 &&& (2147483647 : Int32)) % (7 : Int32))), .val (.int (0 : Int32)), .val (.ref w235), .unset]) rfl ?_
    show Steps p.tables e below (T234.setTop (mkF m 26 #[.val (.int p229), .val (.int p230), .val (.int ((p229 &&& (2147483647 : Int32)) % (7 : Int32))), .val (.int (0 : Int32)), .val (.ref w235), .unset] [])) _
    refine XS.iloadN X234.here hx rfl (hb hby at_26) rfl ?_
    show Steps p.tables e below (T234.setTop (mkF m 27 #[.val (.int p229), .val (.int p230), .val (.int ((p229 &&& (2147483647 : Int32)) % (7 : Int32))), .val (.int (0 : Int32)), .val (.ref w235), .unset] [(.int ((p229 &&& (2147483647 : Int32)) % (7 : Int32)))])) _
    refine XS.iloadN X234.here hx rfl (hb hby at_27) rfl ?_
    show Steps p.tables e below (T234.setTop (mkF m 28 #[.val (.int p229), .val (.int p230), .val (.int ((p229 &&& (2147483647 : Int32)) % (7 : Int32))), .val (.int (0 : Int32)), .val (.ref w235), .unset] [(.int (0 : Int32)), (.int ((p229 &&& (2147483647 : Int32)) % (7 : Int32)))])) _
    refine st240 _ ?_
    show Steps p.tables e below (T240.setTop (mkF m 31 #[.val (.int p229), .val (.int p230), .val (.int ((p229 &&& (2147483647 : Int32)) % (7 : Int32))), .val (.int (0 : Int32)), .val (.ref w235), .unset] [(.ref w241)])) _
    refine XS.astore X240.here hx rfl (hb hby at_31) rfl rfl (l' := #[.val (.int p229), .val (.int p230), .val (.int ((p229 &&& (2147483647 : Int32)) % (7 : Int32))), .val (.int (0 : Int32)), .val (.ref w235), .val (.ref w241)]) rfl ?_
    show Steps p.tables e below (T240.setTop (mkF m 33 #[.val (.int p229), .val (.int p230), .val (.int ((p229 &&& (2147483647 : Int32)) % (7 : Int32))), .val (.int (0 : Int32)), .val (.ref w235), .val (.ref w241)] [])) _
    refine XS.aload X240.here hx rfl (hb hby at_33) rfl rfl ?_
    show Steps p.tables e below (T240.setTop (mkF m 35 #[.val (.int p229), .val (.int p230), .val (.int ((p229 &&& (2147483647 : Int32)) % (7 : Int32))), .val (.int (0 : Int32)), .val (.ref w235), .val (.ref w241)] [(.ref w235)])) _
    refine XS.iloadN X240.here hx rfl (hb hby at_35) rfl ?_
    show Steps p.tables e below (T240.setTop (mkF m 36 #[.val (.int p229), .val (.int p230), .val (.int ((p229 &&& (2147483647 : Int32)) % (7 : Int32))), .val (.int (0 : Int32)), .val (.ref w235), .val (.ref w241)] [(.int (0 : Int32)), (.ref w235)])) _
    refine st246.trans ?_
    show Steps p.tables e below (T246.setTop (mkF m 39 #[.val (.int p229), .val (.int p230), .val (.int ((p229 &&& (2147483647 : Int32)) % (7 : Int32))), .val (.int (0 : Int32)), .val (.ref w235), .val (.ref w241)] [(.ref w247)])) _
    refine XS.aload X246.here hx rfl (hb hby at_39) rfl rfl ?_
    show Steps p.tables e below (T246.setTop (mkF m 41 #[.val (.int p229), .val (.int p230), .val (.int ((p229 &&& (2147483647 : Int32)) % (7 : Int32))), .val (.int (0 : Int32)), .val (.ref w235), .val (.ref w241)] [(.ref w241), (.ref w247)])) _
    refine Jvm.RoadKit.acmp (g := (mkF m 41 #[.val (.int p229), .val (.int p230), .val (.int ((p229 &&& (2147483647 : Int32)) % (7 : Int32))), .val (.int (0 : Int32)), .val (.ref w235), .val (.ref w241)] [(.ref w241), (.ref w247)])) X246 hx rfl rfl rfl (pc0 := 41) (pc' := 44) (same := true) rfl (hb hby at_41) rfl (decide_eq_true (congrArg Value.ref H12)) (by decide) (by decide) ?_
    show Steps p.tables e below (T246.setTop (mkF m 44 #[.val (.int p229), .val (.int p230), .val (.int ((p229 &&& (2147483647 : Int32)) % (7 : Int32))), .val (.int (0 : Int32)), .val (.ref w235), .val (.ref w241)] [])) _
    refine XS.iconst X246.here hx rfl (hb hby at_44) ?_
    show Steps p.tables e below (T246.setTop (mkF m 45 #[.val (.int p229), .val (.int p230), .val (.int ((p229 &&& (2147483647 : Int32)) % (7 : Int32))), .val (.int (0 : Int32)), .val (.ref w235), .val (.ref w241)] [(.int (1 : Int32))])) _
    refine XS.goto X246.here hx rfl (pc0 := 45) (pc' := 49) rfl (hb hby at_45) (by decide) (by decide) ?_
    show Steps p.tables e below (T246.setTop (mkF m 49 #[.val (.int p229), .val (.int p230), .val (.int ((p229 &&& (2147483647 : Int32)) % (7 : Int32))), .val (.int (0 : Int32)), .val (.ref w235), .val (.ref w241)] [(.int (1 : Int32))])) _
    exact retN X246 hx (t := .boolean) Bd.returns (by simp) (hb hby at_49) hr
  · show OQl (some (.int (1 : Int32))) n0 _ T246.heap _
    exact ⟨rfl, N246⟩
theorem d2_49 : decode method_3_code 49 = .ok (.getstatic 46, 3) := by decide +kernel
theorem d2_52 : decode method_3_code 52 = .ok (.areturn, 1) := by decide +kernel
set_option maxRecDepth 65536 in
set_option maxHeartbeats 40000000 in
theorem r2_12 (l : Launch) (Z : State) (a0 : Array Value) (hw : ∀ d ∈ tables_1, d.before a0 Z = true) (p255 : Int32) (p256 : Int32) (w257 : Addr) (h0 : Heap) (n0 : Nat) (Z0 : n0 ≤ h0.size) (H0 : ¬ (p256 = (0 : Int32))) (H1 : ¬ (p255 = (0 : Int32))) (H2 : ¬ (p255 = (1 : Int32))) (H3 : ¬ (p255 = (2 : Int32))) (H4 : ¬ (p255 = (3 : Int32))) (H5 : ¬ (p255 = (4 : Int32))) (H6 : ¬ (p255 = (5 : Int32))) (H7 : Sta Z h0 "com/example/transaction_scopes/transactionscopes/Propagation$Conduct" "NEST" "Lcom/example/transaction_scopes/transactionscopes/Propagation$Conduct;" (.ref w257)) :
    OMet l Z (⟨"com/example/transaction_scopes/transactionscopes/PropagationConductPinLaw", "expected", "(IZ)Lcom/example/transaction_scopes/transactionscopes/Propagation$Conduct;"⟩ : MethodName) method_3_code 2 (some (.object "com/example/transaction_scopes/transactionscopes/Propagation$Conduct")) [] ({ frames := 0, cells := 0, slots := 0, locals := 0 } : Room) h0 #[(.int p255), (.int p256)] (OQp (some (.ref w257)) h0 n0) := by
  refine MetFree.of_bodySF (plainFor_of_name pn_com_example_transaction_scopes_transactionscopes_PropagationConductPinLaw) hisR ?_
  intro p e s m args below meth c s₁ Bd hml0 hP hK
  obtain ⟨rfl, hZ, hh⟩ := hP
  have hx := Bd.exec
  have hby := Bd.bytes
  have hml : c.maxLocals = 2 := hml0
  have hown : s.vm.findClass "com/example/transaction_scopes/transactionscopes/PropagationConductPinLaw" = some m.cls := findClass_of_methodNamed Bd.named
  have hnm := (name_of_methodNamed Bd.named Bd.method).1
  have X0 : Stand p l e ({ frames := 0, cells := 0, slots := 0, locals := 0 } : Room) s m #[(.int p255), (.int p256)] below meth c s₁ [] 0 0 := Stand.of_body Bd
  have e0 : s₁.heap = h0 := by rw [← hh, Bd.state]; rfl
  have N0 := Fr.nil n0
  have pre0 : ∀ t, Steps p.tables e below (s₁.setTop (mkF m 0 #[.val (.int p255), .val (.int p256)] [])) t → Steps p.tables e below (s₁.setTop (entryFrame m #[(.int p255), (.int p256)] 2)) t := fun t k => castTop (ef_2_vv m p255 p256) k
  obtain ⟨T258, X258, e258, st258⟩ := getS2 X0 hx hZ hown (host := "") (Or.inl (hw _ (List.mem_of_getElem? (i := 41) rfl))) Via.refl e0 H7 (g := (mkF m 49 #[.val (.int p255), .val (.int p256)] [])) rfl (hb hby d2_49)
  obtain ⟨fs, hr, hrun, hended, hW, hsame⟩ := X258.leave (v := some (.ref w257)) (fun h => by rw [Bd.returns] at h; cases h)
  refine ⟨_, _, pre0 _ ?_, hrun, hended, _, _, rfl, ?_, ⟨_, rfl⟩, hW, hsame.mono (by decide) (by decide)⟩
  · show Steps p.tables e below (s₁.setTop (mkF m 0 #[.val (.int p255), .val (.int p256)] [])) _
    refine XS.iloadN X0.here hx rfl (hb hby d2_0) rfl ?_
    show Steps p.tables e below (s₁.setTop (mkF m 1 #[.val (.int p255), .val (.int p256)] [(.int p256)])) _
    refine XS.ifNo X0.here hx rfl (hb hby d2_1) rfl ((if0 _ _).trans (feq H0).1) ?_
    show Steps p.tables e below (s₁.setTop (mkF m 4 #[.val (.int p255), .val (.int p256)] [])) _
    refine XS.iloadN X0.here hx rfl (hb hby d2_4) rfl ?_
    show Steps p.tables e below (s₁.setTop (mkF m 5 #[.val (.int p255), .val (.int p256)] [(.int p255)])) _
    refine XS.ifNo X0.here hx rfl (hb hby d2_5) rfl ((if0 _ _).trans (feq H1).1) ?_
    show Steps p.tables e below (s₁.setTop (mkF m 8 #[.val (.int p255), .val (.int p256)] [])) _
    refine XS.iloadN X0.here hx rfl (hb hby d2_8) rfl ?_
    show Steps p.tables e below (s₁.setTop (mkF m 9 #[.val (.int p255), .val (.int p256)] [(.int p255)])) _
    refine XS.iconst X0.here hx rfl (hb hby d2_9) ?_
    show Steps p.tables e below (s₁.setTop (mkF m 10 #[.val (.int p255), .val (.int p256)] [(.int (1 : Int32)), (.int p255)])) _
    refine XS.icmpNo X0.here hx rfl (hb hby d2_10) rfl (feq H2).1 ?_
    show Steps p.tables e below (s₁.setTop (mkF m 13 #[.val (.int p255), .val (.int p256)] [])) _
    refine XS.iloadN X0.here hx rfl (hb hby d2_13) rfl ?_
    show Steps p.tables e below (s₁.setTop (mkF m 14 #[.val (.int p255), .val (.int p256)] [(.int p255)])) _
    refine XS.iconst X0.here hx rfl (hb hby d2_14) ?_
    show Steps p.tables e below (s₁.setTop (mkF m 15 #[.val (.int p255), .val (.int p256)] [(.int (2 : Int32)), (.int p255)])) _
    refine XS.icmpYes X0.here hx rfl (pc0 := 15) (pc' := 22) rfl (hb hby d2_15) rfl (feq H3).2 (by decide) (by decide) ?_
    show Steps p.tables e below (s₁.setTop (mkF m 22 #[.val (.int p255), .val (.int p256)] [])) _
    refine XS.iloadN X0.here hx rfl (hb hby d2_22) rfl ?_
    show Steps p.tables e below (s₁.setTop (mkF m 23 #[.val (.int p255), .val (.int p256)] [(.int p255)])) _
    refine XS.iconst X0.here hx rfl (hb hby d2_23) ?_
    show Steps p.tables e below (s₁.setTop (mkF m 24 #[.val (.int p255), .val (.int p256)] [(.int (3 : Int32)), (.int p255)])) _
    refine XS.icmpYes X0.here hx rfl (pc0 := 24) (pc' := 31) rfl (hb hby d2_24) rfl (feq H4).2 (by decide) (by decide) ?_
    show Steps p.tables e below (s₁.setTop (mkF m 31 #[.val (.int p255), .val (.int p256)] [])) _
    refine XS.iloadN X0.here hx rfl (hb hby d2_31) rfl ?_
    show Steps p.tables e below (s₁.setTop (mkF m 32 #[.val (.int p255), .val (.int p256)] [(.int p255)])) _
    refine XS.iconst X0.here hx rfl (hb hby d2_32) ?_
    show Steps p.tables e below (s₁.setTop (mkF m 33 #[.val (.int p255), .val (.int p256)] [(.int (4 : Int32)), (.int p255)])) _
    refine XS.icmpYes X0.here hx rfl (pc0 := 33) (pc' := 40) rfl (hb hby d2_33) rfl (feq H5).2 (by decide) (by decide) ?_
    show Steps p.tables e below (s₁.setTop (mkF m 40 #[.val (.int p255), .val (.int p256)] [])) _
    refine XS.iloadN X0.here hx rfl (hb hby d2_40) rfl ?_
    show Steps p.tables e below (s₁.setTop (mkF m 41 #[.val (.int p255), .val (.int p256)] [(.int p255)])) _
    refine XS.iconst X0.here hx rfl (hb hby d2_41) ?_
    show Steps p.tables e below (s₁.setTop (mkF m 42 #[.val (.int p255), .val (.int p256)] [(.int (5 : Int32)), (.int p255)])) _
    refine XS.icmpYes X0.here hx rfl (pc0 := 42) (pc' := 49) rfl (hb hby d2_42) rfl (feq H6).2 (by decide) (by decide) ?_
    show Steps p.tables e below (s₁.setTop (mkF m 49 #[.val (.int p255), .val (.int p256)] [])) _
    refine st258 _ ?_
    show Steps p.tables e below (T258.setTop (mkF m 52 #[.val (.int p255), .val (.int p256)] [(.ref w257)])) _
    jvm_step X258.here [X258.here.top, hx, (hb hby d2_52), X258.method', Bd.returns, Value.isRef, FieldType.isReference]
    first | (intro acts; rw [hr _ acts rfl rfl rfl]) | rw [hr _ _ rfl rfl rfl]
    exact Steps.refl _
  · show OQp (some (.ref w257)) h0 n0 _ T258.heap _
    rw [e258]
    exact ⟨rfl, N0, rfl⟩
set_option maxRecDepth 65536 in
set_option maxHeartbeats 40000000 in
theorem r0_14 (l : Launch) (Z : State) (a0 : Array Value) (hw : ∀ d ∈ tables_1, d.before a0 Z = true) (p248 : Int32) (p249 : Int32) (w254 : Addr) (w260 : Addr) (w266 : Addr) (h0 : Heap) (n0 : Nat) (Z0 : n0 ≤ h0.size) (H0 : ¬ ((p249 &&& (1 : Int32)) = (0 : Int32))) (H1 : ¬ (((p248 &&& (2147483647 : Int32)) % (7 : Int32)) = (0 : Int32))) (H2 : ¬ (((p248 &&& (2147483647 : Int32)) % (7 : Int32)) = (1 : Int32))) (H3 : ¬ (((p248 &&& (2147483647 : Int32)) % (7 : Int32)) = (2 : Int32))) (H4 : ¬ (((p248 &&& (2147483647 : Int32)) % (7 : Int32)) = (3 : Int32))) (H5 : ¬ (((p248 &&& (2147483647 : Int32)) % (7 : Int32)) = (4 : Int32))) (H6 : ¬ (((p248 &&& (2147483647 : Int32)) % (7 : Int32)) = (5 : Int32))) (H7 : Sta Z h0 "com/example/transaction_scopes/transactionscopes/Propagation" "NESTED" "Lcom/example/transaction_scopes/transactionscopes/Propagation;" (.ref w254)) (H8 : Sta Z h0 "com/example/transaction_scopes/transactionscopes/Propagation$Conduct" "NEST" "Lcom/example/transaction_scopes/transactionscopes/Propagation$Conduct;" (.ref w260)) (H9 : Fld Z h0 w254 "com/example/transaction_scopes/transactionscopes/Propagation" "withTransaction" "Lcom/example/transaction_scopes/transactionscopes/Propagation$Conduct;" (.ref w266)) (H10 : Exa Z h0 w254 "com/example/transaction_scopes/transactionscopes/Propagation") (H11 : w266 = w260) :
    OMet l Z x code maxLocals ret tables_1 room_1 h0 #[(.int p248), (.int p249)] (OQl (some (.int (1 : Int32))) n0) := by
  refine MetFree.of_bodySF (plainFor_of_name pn_com_example_transaction_scopes_transactionscopes_PropagationConductPinLaw) hisR ?_
  intro p e s m args below meth c s₁ Bd hml0 hP hK
  obtain ⟨rfl, hZ, hh⟩ := hP
  have hx := Bd.exec
  have hby := Bd.bytes
  have hml : c.maxLocals = 6 := hml0
  have hown : s.vm.findClass "com/example/transaction_scopes/transactionscopes/PropagationConductPinLaw" = some m.cls := findClass_of_methodNamed Bd.named
  have hnm := (name_of_methodNamed Bd.named Bd.method).1
  have X0 : Stand p l e room_1 s m #[(.int p248), (.int p249)] below meth c s₁ [] 0 0 := Stand.of_body Bd
  have e0 : s₁.heap = h0 := by rw [← hh, Bd.state]; rfl
  have N0 := Fr.nil n0
  have pre0 : ∀ t, Steps p.tables e below (s₁.setTop (mkF m 0 #[.val (.int p248), .val (.int p249), .unset, .unset, .unset, .unset] [])) t → Steps p.tables e below (s₁.setTop (entryFrame m #[(.int p248), (.int p249)] maxLocals)) t := fun t k => castTop (ef_0_vv m p248 p249) k
  obtain ⟨_, _, ⟨T253, L253, k253, n253⟩, -, X253, ⟨Lc253, hQ253, l253, y253, z253⟩, st253⟩ := Jvm.LawKit.callS X0 hx (y := (⟨"com/example/transaction_scopes/transactionscopes/PropagationConductPinLaw", "pick", "(I)Lcom/example/transaction_scopes/transactionscopes/Propagation;"⟩ : MethodName)) hown (mvT hZ (hw _ (List.mem_of_getElem? (i := 1) rfl))) (mvT hZ (hw _ (List.mem_of_getElem? (i := 2) rfl))) (mvT hZ (hw _ (List.mem_of_getElem? (i := 3) rfl))) (mvT hZ (hw _ (List.mem_of_getElem? (i := 4) rfl))) (by decide) (backOf (W := 0) (r1_7 l Z a0 hw ((p248 &&& (2147483647 : Int32)) % (7 : Int32)) w254 h0 n0 Z0 H1 H2 H3 H4 H5 H6 H7) hZ (hw _ (List.mem_of_getElem? (i := 4) rfl)) (hw _ (List.mem_of_getElem? (i := 3) rfl)) (by decide) (by decide)) (g := (mkF m 21 #[.val (.int p248), .val (.int p249), .val (.int ((p248 &&& (2147483647 : Int32)) % (7 : Int32))), .val (.int (1 : Int32)), .unset, .unset] [(.int ((p248 &&& (2147483647 : Int32)) % (7 : Int32)))])) rfl (by rw [hml]; rfl) (argsL := [(.int ((p248 &&& (2147483647 : Int32)) % (7 : Int32)))]) (rest := []) (lenOf pd_0 rfl) rfl (by show 2 * 0 + _ ≤ _; exact Nat.le_of_eq rfl) (hb hby at_21) (fun _ _ => ⟨rfl, e0, (by decide : 0 + 0 ≤ _), (by decide : 0 + 0 ≤ _)⟩)
  dsimp only [Pt.U, Pt.locs, Pt.cells, Pt.slots] at X253 l253 y253 z253 st253 hQ253
  subst l253 y253 z253
  obtain ⟨rfl, N253q, e253⟩ := hQ253
  have N253 := Fr.app N0 N253q
  obtain ⟨_, _, ⟨T259, L259, k259, n259⟩, -, X259, ⟨Lc259, hQ259, l259, y259, z259⟩, st259⟩ := Jvm.LawKit.callS X253 hx (y := (⟨"com/example/transaction_scopes/transactionscopes/PropagationConductPinLaw", "expected", "(IZ)Lcom/example/transaction_scopes/transactionscopes/Propagation$Conduct;"⟩ : MethodName)) hown (mvT hZ (hw _ (List.mem_of_getElem? (i := 8) rfl))) (mvT hZ (hw _ (List.mem_of_getElem? (i := 9) rfl))) (mvT hZ (hw _ (List.mem_of_getElem? (i := 3) rfl))) (mvT hZ (hw _ (List.mem_of_getElem? (i := 10) rfl))) (by decide) (backOf (W := 0) (r2_12 l Z a0 hw ((p248 &&& (2147483647 : Int32)) % (7 : Int32)) (1 : Int32) w260 h0 n0 Z0 (by decide) H1 H2 H3 H4 H5 H6 H8) hZ (hw _ (List.mem_of_getElem? (i := 10) rfl)) (hw _ (List.mem_of_getElem? (i := 3) rfl)) (by decide) (by decide)) (g := (mkF m 28 #[.val (.int p248), .val (.int p249), .val (.int ((p248 &&& (2147483647 : Int32)) % (7 : Int32))), .val (.int (1 : Int32)), .val (.ref w254), .unset] [(.int (1 : Int32)), (.int ((p248 &&& (2147483647 : Int32)) % (7 : Int32)))])) rfl (by rw [hml]; rfl) (argsL := [(.int ((p248 &&& (2147483647 : Int32)) % (7 : Int32))), (.int (1 : Int32))]) (rest := []) (lenOf pd_1 rfl) rfl (by show 2 * 0 + _ ≤ _; exact Nat.le_of_eq rfl) (hb hby at_28) (fun _ _ => ⟨rfl, e253, (by decide : 0 + 0 ≤ _), (by decide : 0 + 0 ≤ _)⟩)
  dsimp only [Pt.U, Pt.locs, Pt.cells, Pt.slots] at X259 l259 y259 z259 st259 hQ259
  subst l259 y259 z259
  obtain ⟨rfl, N259q, e259⟩ := hQ259
  have N259 := Fr.app N253 N259q
  obtain ⟨cq265, kq265, q265a, q265b, q265c⟩ := isOf hZ e259 H10
  obtain ⟨_, _, ⟨T265, L265, k265, n265⟩, -, X265, ⟨Lc265, hQ265, l265, y265, z265⟩, st265⟩ := X259.virtualBack hx (y := (⟨"com/example/transaction_scopes/transactionscopes/Propagation", "conduct", "(Z)Lcom/example/transaction_scopes/transactionscopes/Propagation$Conduct;"⟩ : MethodName)) (z := (⟨"com/example/transaction_scopes/transactionscopes/Propagation", "conduct", "(Z)Lcom/example/transaction_scopes/transactionscopes/Propagation$Conduct;"⟩ : MethodName)) hown (mvT hZ (hw _ (List.mem_of_getElem? (i := 14) rfl))) (mvT hZ (hw _ (List.mem_of_getElem? (i := 15) rfl))) (notFace_of_selects (args := #[]) (mvT hZ (hw _ (List.mem_of_getElem? (i := 17) rfl)))) (mvT hZ (hw _ (List.mem_of_getElem? (i := 17) rfl))) (mvT hZ (hw _ (List.mem_of_getElem? (i := 16) rfl))) (by decide) (backOf (W := 0) (r3_2 l Z a0 hw w254 (1 : Int32) w266 h0 n0 Z0 (by decide) H9) hZ (hw _ (List.mem_of_getElem? (i := 18) rfl)) (hw _ (List.mem_of_getElem? (i := 6) rfl)) (by decide) (by decide)) q265a q265c (g := (mkF m 36 #[.val (.int p248), .val (.int p249), .val (.int ((p248 &&& (2147483647 : Int32)) % (7 : Int32))), .val (.int (1 : Int32)), .val (.ref w254), .val (.ref w260)] [(.int (1 : Int32)), (.ref w254)])) rfl (by rw [hml]; rfl) (Steps.refl _) (argsL := [(.int (1 : Int32))]) (rest := []) (lenOf pd_2 rfl) rfl (by show 2 * 0 + _ ≤ _; exact Nat.le_of_eq rfl) (hb hby at_36) (fun _ _ => ⟨rfl, e259, (by decide : 0 + 0 ≤ _), (by decide : 0 + 0 ≤ _)⟩)
  dsimp only [Pt.U, Pt.locs, Pt.cells, Pt.slots] at X265 l265 y265 z265 st265 hQ265
  subst l265 y265 z265
  obtain ⟨rfl, N265q, e265⟩ := hQ265
  have N265 := Fr.app N259 N265q
  obtain ⟨fs, hr, hrun, hended, hW, hsame⟩ := X265.leave (v := some (.int (1 : Int32))) (fun h => by rw [Bd.returns] at h; cases h)
  refine ⟨_, _, pre0 _ ?_, hrun, hended, _, _, rfl, ?_, ⟨_, rfl⟩, hW, hsame.mono (by decide) (by decide)⟩
  · show Steps p.tables e below (s₁.setTop (mkF m 0 #[.val (.int p248), .val (.int p249), .unset, .unset, .unset, .unset] [])) _
    refine XS.iloadN X0.here hx rfl (hb hby at_0) rfl ?_
    show Steps p.tables e below (s₁.setTop (mkF m 1 #[.val (.int p248), .val (.int p249), .unset, .unset, .unset, .unset] [(.int p248)])) _
    refine X0.ldcInt hx hown (mvT hZ (hw _ (List.mem_of_getElem? (i := 0) rfl))) (g := (mkF m 1 #[.val (.int p248), .val (.int p249), .unset, .unset, .unset, .unset] [(.int p248)])) rfl (hb hby at_1) _ ?_
    show Steps p.tables e below (s₁.setTop (mkF m 3 #[.val (.int p248), .val (.int p249), .unset, .unset, .unset, .unset] [(.int (2147483647 : Int32)), (.int p248)])) _
    refine XS.iand X0.here hx rfl (hb hby at_3) rfl ?_
    show Steps p.tables e below (s₁.setTop (mkF m 4 #[.val (.int p248), .val (.int p249), .unset, .unset, .unset, .unset] [(.int (p248 &&& (2147483647 : Int32)))])) _
    refine XS.bipush X0.here hx rfl (hb hby at_4) ?_
    show Steps p.tables e below (s₁.setTop (mkF m 6 #[.val (.int p248), .val (.int p249), .unset, .unset, .unset, .unset] [(.int (7 : Int32)), (.int (p248 &&& (2147483647 : Int32)))])) _
    refine iremM X0 hx rfl (hb hby at_6) rfl (by decide) ?_
    show Steps p.tables e below (s₁.setTop (mkF m 7 #[.val (.int p248), .val (.int p249), .unset, .unset, .unset, .unset] [(.int ((p248 &&& (2147483647 : Int32)) % (7 : Int32)))])) _
    refine XS.istoreN X0.here hx rfl (hb hby at_7) rfl (l' := #[.val (.int p248), .val (.int p249), .val (.int ((p248 &&& (2147483647 : Int32)) % (7 : Int32))), .unset, .unset, .unset]) rfl ?_
    show Steps p.tables e below (s₁.setTop (mkF m 8 #[.val (.int p248), .val (.int p249), .val (.int ((p248 &&& (2147483647 : Int32)) % (7 : Int32))), .unset, .unset, .unset] [])) _
    refine XS.iloadN X0.here hx rfl (hb hby at_8) rfl ?_
    show Steps p.tables e below (s₁.setTop (mkF m 9 #[.val (.int p248), .val (.int p249), .val (.int ((p248 &&& (2147483647 : Int32)) % (7 : Int32))), .unset, .unset, .unset] [(.int p249)])) _
    refine XS.iconst X0.here hx rfl (hb hby at_9) ?_
    show Steps p.tables e below (s₁.setTop (mkF m 10 #[.val (.int p248), .val (.int p249), .val (.int ((p248 &&& (2147483647 : Int32)) % (7 : Int32))), .unset, .unset, .unset] [(.int (1 : Int32)), (.int p249)])) _
    refine XS.iand X0.here hx rfl (hb hby at_10) rfl ?_
    show Steps p.tables e below (s₁.setTop (mkF m 11 #[.val (.int p248), .val (.int p249), .val (.int ((p248 &&& (2147483647 : Int32)) % (7 : Int32))), .unset, .unset, .unset] [(.int (p249 &&& (1 : Int32)))])) _
    refine XS.ifNo X0.here hx rfl (hb hby at_11) rfl ((if0 _ _).trans (feq H0).1) ?_
    show Steps p.tables e below (s₁.setTop (mkF m 14 #[.val (.int p248), .val (.int p249), .val (.int ((p248 &&& (2147483647 : Int32)) % (7 : Int32))), .unset, .unset, .unset] [])) _
    refine XS.iconst X0.here hx rfl (hb hby at_14) ?_
    show Steps p.tables e below (s₁.setTop (mkF m 15 #[.val (.int p248), .val (.int p249), .val (.int ((p248 &&& (2147483647 : Int32)) % (7 : Int32))), .unset, .unset, .unset] [(.int (1 : Int32))])) _
    refine XS.goto X0.here hx rfl (pc0 := 15) (pc' := 19) rfl (hb hby at_15) (by decide) (by decide) ?_
    show Steps p.tables e below (s₁.setTop (mkF m 19 #[.val (.int p248), .val (.int p249), .val (.int ((p248 &&& (2147483647 : Int32)) % (7 : Int32))), .unset, .unset, .unset] [(.int (1 : Int32))])) _
    refine XS.istoreN X0.here hx rfl (hb hby at_19) rfl (l' := #[.val (.int p248), .val (.int p249), .val (.int ((p248 &&& (2147483647 : Int32)) % (7 : Int32))), .val (.int (1 : Int32)), .unset, .unset]) rfl ?_
    show Steps p.tables e below (s₁.setTop (mkF m 20 #[.val (.int p248), .val (.int p249), .val (.int ((p248 &&& (2147483647 : Int32)) % (7 : Int32))), .val (.int (1 : Int32)), .unset, .unset] [])) _
    refine XS.iloadN X0.here hx rfl (hb hby at_20) rfl ?_
    show Steps p.tables e below (s₁.setTop (mkF m 21 #[.val (.int p248), .val (.int p249), .val (.int ((p248 &&& (2147483647 : Int32)) % (7 : Int32))), .val (.int (1 : Int32)), .unset, .unset] [(.int ((p248 &&& (2147483647 : Int32)) % (7 : Int32)))])) _
    refine st253 _ ?_
    show Steps p.tables e below (T253.setTop (mkF m 24 #[.val (.int p248), .val (.int p249), .val (.int ((p248 &&& (2147483647 : Int32)) % (7 : Int32))), .val (.int (1 : Int32)), .unset, .unset] [(.ref w254)])) _
    refine XS.astore X253.here hx rfl (hb hby at_24) rfl rfl (l' := #[.val (.int p248), .val (.int p249), .val (.int ((p248 &&& (2147483647 : Int32)) % (7 : Int32))), .val (.int (1 : Int32)), .val (.ref w254), .unset]) rfl ?_
    show Steps p.tables e below (T253.setTop (mkF m 26 #[.val (.int p248), .val (.int p249), .val (.int ((p248 &&& (2147483647 : Int32)) % (7 : Int32))), .val (.int (1 : Int32)), .val (.ref w254), .unset] [])) _
    refine XS.iloadN X253.here hx rfl (hb hby at_26) rfl ?_
    show Steps p.tables e below (T253.setTop (mkF m 27 #[.val (.int p248), .val (.int p249), .val (.int ((p248 &&& (2147483647 : Int32)) % (7 : Int32))), .val (.int (1 : Int32)), .val (.ref w254), .unset] [(.int ((p248 &&& (2147483647 : Int32)) % (7 : Int32)))])) _
    refine XS.iloadN X253.here hx rfl (hb hby at_27) rfl ?_
    show Steps p.tables e below (T253.setTop (mkF m 28 #[.val (.int p248), .val (.int p249), .val (.int ((p248 &&& (2147483647 : Int32)) % (7 : Int32))), .val (.int (1 : Int32)), .val (.ref w254), .unset] [(.int (1 : Int32)), (.int ((p248 &&& (2147483647 : Int32)) % (7 : Int32)))])) _
    refine st259 _ ?_
    show Steps p.tables e below (T259.setTop (mkF m 31 #[.val (.int p248), .val (.int p249), .val (.int ((p248 &&& (2147483647 : Int32)) % (7 : Int32))), .val (.int (1 : Int32)), .val (.ref w254), .unset] [(.ref w260)])) _
    refine XS.astore X259.here hx rfl (hb hby at_31) rfl rfl (l' := #[.val (.int p248), .val (.int p249), .val (.int ((p248 &&& (2147483647 : Int32)) % (7 : Int32))), .val (.int (1 : Int32)), .val (.ref w254), .val (.ref w260)]) rfl ?_
    show Steps p.tables e below (T259.setTop (mkF m 33 #[.val (.int p248), .val (.int p249), .val (.int ((p248 &&& (2147483647 : Int32)) % (7 : Int32))), .val (.int (1 : Int32)), .val (.ref w254), .val (.ref w260)] [])) _
    refine XS.aload X259.here hx rfl (hb hby at_33) rfl rfl ?_
    show Steps p.tables e below (T259.setTop (mkF m 35 #[.val (.int p248), .val (.int p249), .val (.int ((p248 &&& (2147483647 : Int32)) % (7 : Int32))), .val (.int (1 : Int32)), .val (.ref w254), .val (.ref w260)] [(.ref w254)])) _
    refine XS.iloadN X259.here hx rfl (hb hby at_35) rfl ?_
    show Steps p.tables e below (T259.setTop (mkF m 36 #[.val (.int p248), .val (.int p249), .val (.int ((p248 &&& (2147483647 : Int32)) % (7 : Int32))), .val (.int (1 : Int32)), .val (.ref w254), .val (.ref w260)] [(.int (1 : Int32)), (.ref w254)])) _
    refine st265.trans ?_
    show Steps p.tables e below (T265.setTop (mkF m 39 #[.val (.int p248), .val (.int p249), .val (.int ((p248 &&& (2147483647 : Int32)) % (7 : Int32))), .val (.int (1 : Int32)), .val (.ref w254), .val (.ref w260)] [(.ref w266)])) _
    refine XS.aload X265.here hx rfl (hb hby at_39) rfl rfl ?_
    show Steps p.tables e below (T265.setTop (mkF m 41 #[.val (.int p248), .val (.int p249), .val (.int ((p248 &&& (2147483647 : Int32)) % (7 : Int32))), .val (.int (1 : Int32)), .val (.ref w254), .val (.ref w260)] [(.ref w260), (.ref w266)])) _
    refine Jvm.RoadKit.acmp (g := (mkF m 41 #[.val (.int p248), .val (.int p249), .val (.int ((p248 &&& (2147483647 : Int32)) % (7 : Int32))), .val (.int (1 : Int32)), .val (.ref w254), .val (.ref w260)] [(.ref w260), (.ref w266)])) X265 hx rfl rfl rfl (pc0 := 41) (pc' := 44) (same := true) rfl (hb hby at_41) rfl (decide_eq_true (congrArg Value.ref H11)) (by decide) (by decide) ?_
    show Steps p.tables e below (T265.setTop (mkF m 44 #[.val (.int p248), .val (.int p249), .val (.int ((p248 &&& (2147483647 : Int32)) % (7 : Int32))), .val (.int (1 : Int32)), .val (.ref w254), .val (.ref w260)] [])) _
    refine XS.iconst X265.here hx rfl (hb hby at_44) ?_
    show Steps p.tables e below (T265.setTop (mkF m 45 #[.val (.int p248), .val (.int p249), .val (.int ((p248 &&& (2147483647 : Int32)) % (7 : Int32))), .val (.int (1 : Int32)), .val (.ref w254), .val (.ref w260)] [(.int (1 : Int32))])) _
    refine XS.goto X265.here hx rfl (pc0 := 45) (pc' := 49) rfl (hb hby at_45) (by decide) (by decide) ?_
    show Steps p.tables e below (T265.setTop (mkF m 49 #[.val (.int p248), .val (.int p249), .val (.int ((p248 &&& (2147483647 : Int32)) % (7 : Int32))), .val (.int (1 : Int32)), .val (.ref w254), .val (.ref w260)] [(.int (1 : Int32))])) _
    exact retN X265 hx (t := .boolean) Bd.returns (by simp) (hb hby at_49) hr
  · show OQl (some (.int (1 : Int32))) n0 _ T265.heap _
    exact ⟨rfl, N265⟩
set_option maxRecDepth 65536 in
set_option maxHeartbeats 40000000 in
theorem comes_1 {Post : Tables → Env → Array Value → State → Outcome → State → Prop} (hpost : ∀ tb e args s v u, (limb_1_1.after args s (.returned v) u = true ∧ limb_1_2.after args s (.returned v) u = true ∧ True) → FrameEnd s (.returned v) u (Jvm.fieldLocs frame_1_writes args s ++ Jvm.arrayLocs frame_1_arrays args s ++ Jvm.staticLocs frame_1_statics s) 0 0 → Post tb e args s (.returned v) u) :
    ArmFor flags0 classFile x code maxLocals ret World_1 tables_1 room_1 Calls_1 rest_1 Pre_1 Post := by
  intro l hfl _ _ p e ha hc hk s m args below hf hA hF happ hP
  obtain ⟨hcalls, hrest, hpre⟩ := hP
  obtain ⟨-, -, -, hnamed, -, -, -, hat⟩ := (Spec.applies_iff hf).mp happ
  obtain ⟨hg, hn⟩ := and_e (Cond.before_iff.mp (show (Jvm.Cond.and given_1 narrow_1).before args s = true from hpre))
  obtain ⟨gg0, gr0⟩ := and_e hg
  obtain ⟨gg1, gr1⟩ := and_e gr0
  obtain ⟨w0, w1, rfl⟩ : ∃ w0 w1 : Value, args = #[w0, w1] := by
    have hs : args.size = 2 := by simpa [Cond.value, given_1] using gg0
    obtain ⟨L⟩ := args
    match L, hs with
    | [w0, w1], _ => exact ⟨w0, w1, rfl⟩
  have hw := fun d (hd : d ∈ tables_1) => atoms_spec (ws := Jvm.Cond.code x code maxLocals ret :: tables_1) hat d (List.mem_cons_of_mem _ hd)
  have hfit : Fit s := fun {y c} hc i hi => by
    obtain ⟨ha, rfl⟩ := Array.getElem?_eq_some_iff.mp hc
    have q := List.all_eq_true.mp ((Array.all_eq_true_iff_forall_mem.mp hF) _ (Array.getElem_mem ha)) i (List.mem_range.mpr hi)
    simpa [Array.getElem?_eq_getElem hi] using q
  obtain ⟨i0, ei0⟩ := is_v gg1
  obtain rfl : w0 = (.int i0) := Option.some.inj ei0
  obtain ⟨i1, ei1⟩ := is_v gr1
  obtain rfl : w1 = (.int i1) := Option.some.inj ei1
  obtain ⟨hn1, hn2⟩ := and_e hn
  obtain ⟨hn3, hn4⟩ := and_e hn2
  obtain ⟨hn5, hn6⟩ := and_e hn4
  obtain ⟨hn7, hn8⟩ := and_e hn6
  obtain ⟨hn9, hn10⟩ := and_e hn8
  obtain ⟨hn11, hn12⟩ := and_e hn10
  obtain ⟨hn13, hn14⟩ := and_e hn12
  obtain ⟨hn15, hn16⟩ := and_e hn14
  obtain ⟨hn17, hn18⟩ := and_e hn16
  obtain ⟨hn19, hn20⟩ := and_e hn18
  obtain ⟨hn21, hn22⟩ := and_e hn20
  obtain ⟨hn23, hn24⟩ := and_e hn22
  obtain ⟨hn25, hn26⟩ := and_e hn24
  obtain ⟨hn27, hn28⟩ := and_e hn26
  obtain ⟨hn29, hn30⟩ := and_e hn28
  obtain ⟨hn31, hn32⟩ := and_e hn30
  obtain ⟨hn33, hn34⟩ := and_e hn32
  obtain ⟨hn35, hn36⟩ := and_e hn34
  obtain ⟨hn37, hn38⟩ := and_e hn36
  obtain ⟨hn39, hn40⟩ := and_e hn38
  obtain ⟨hn41, hn42⟩ := and_e hn40
  obtain ⟨hn43, hn44⟩ := and_e hn42
  obtain ⟨hn45, hn46⟩ := and_e hn44
  obtain ⟨hn47, hn48⟩ := and_e hn46
  obtain ⟨hn49, hn50⟩ := and_e hn48
  obtain ⟨w_c51, ev_c51⟩ := exa_v hn1
  have E_c51 := Exa.start ev_c51 hn1
  have S_c51 := Sta.start ev_c51 (Or.inr ⟨(hw _ (List.mem_of_getElem? (i := 6) rfl)), (hw _ (List.mem_of_getElem? (i := 7) rfl))⟩)
  obtain ⟨w_c52, ev_c52⟩ := exa_v hn3
  have E_c52 := Exa.start ev_c52 hn3
  have S_c52 := Sta.start ev_c52 (Or.inr ⟨(hw _ (List.mem_of_getElem? (i := 12) rfl)), (hw _ (List.mem_of_getElem? (i := 13) rfl))⟩)
  have F53 := own_fr ev_c51 ev_c52 hn5
  obtain ⟨w_c54, ev_c54⟩ := exa_v hn7
  have E_c54 := Exa.start ev_c54 hn7
  have S_c54 := Sta.start ev_c54 (Or.inr ⟨(hw _ (List.mem_of_getElem? (i := 6) rfl)), (hw _ (List.mem_of_getElem? (i := 22) rfl))⟩)
  obtain ⟨w_c55, ev_c55⟩ := exa_v hn9
  have E_c55 := Exa.start ev_c55 hn9
  have S_c55 := Sta.start ev_c55 (Or.inr ⟨(hw _ (List.mem_of_getElem? (i := 12) rfl)), (hw _ (List.mem_of_getElem? (i := 24) rfl))⟩)
  have F56 := own_fr ev_c54 ev_c55 hn11
  obtain ⟨w_c57, ev_c57⟩ := exa_v hn13
  have E_c57 := Exa.start ev_c57 hn13
  have S_c57 := Sta.start ev_c57 (Or.inr ⟨(hw _ (List.mem_of_getElem? (i := 6) rfl)), (hw _ (List.mem_of_getElem? (i := 26) rfl))⟩)
  obtain ⟨w_c58, ev_c58⟩ := exa_v hn15
  have E_c58 := Exa.start ev_c58 hn15
  have S_c58 := Sta.start ev_c58 (Or.inr ⟨(hw _ (List.mem_of_getElem? (i := 12) rfl)), (hw _ (List.mem_of_getElem? (i := 28) rfl))⟩)
  have F59 := own_fr ev_c57 ev_c58 hn17
  obtain ⟨w_c60, ev_c60⟩ := exa_v hn19
  have E_c60 := Exa.start ev_c60 hn19
  have S_c60 := Sta.start ev_c60 (Or.inr ⟨(hw _ (List.mem_of_getElem? (i := 6) rfl)), (hw _ (List.mem_of_getElem? (i := 32) rfl))⟩)
  have F61 := own_fr ev_c60 ev_c58 hn21
  have F62 := own_fr ev_c60 ev_c58 hn23
  obtain ⟨w_c63, ev_c63⟩ := exa_v hn25
  have E_c63 := Exa.start ev_c63 hn25
  have S_c63 := Sta.start ev_c63 (Or.inr ⟨(hw _ (List.mem_of_getElem? (i := 6) rfl)), (hw _ (List.mem_of_getElem? (i := 34) rfl))⟩)
  have F64 := own_fr ev_c63 ev_c55 hn27
  have F65 := own_fr ev_c57 ev_c52 hn29
  obtain ⟨w_c66, ev_c66⟩ := exa_v hn31
  have E_c66 := Exa.start ev_c66 hn31
  have S_c66 := Sta.start ev_c66 (Or.inr ⟨(hw _ (List.mem_of_getElem? (i := 6) rfl)), (hw _ (List.mem_of_getElem? (i := 36) rfl))⟩)
  obtain ⟨w_c67, ev_c67⟩ := exa_v hn33
  have E_c67 := Exa.start ev_c67 hn33
  have S_c67 := Sta.start ev_c67 (Or.inr ⟨(hw _ (List.mem_of_getElem? (i := 12) rfl)), (hw _ (List.mem_of_getElem? (i := 38) rfl))⟩)
  have F68 := own_fr ev_c66 ev_c67 hn35
  have F69 := own_fr ev_c51 ev_c55 hn37
  have F70 := own_fr ev_c66 ev_c58 hn39
  obtain ⟨w_c71, ev_c71⟩ := exa_v hn41
  have E_c71 := Exa.start ev_c71 hn41
  have S_c71 := Sta.start ev_c71 (Or.inr ⟨(hw _ (List.mem_of_getElem? (i := 6) rfl)), (hw _ (List.mem_of_getElem? (i := 40) rfl))⟩)
  have F72 := own_fr ev_c71 ev_c67 hn43
  have F73 := own_fr ev_c54 ev_c55 hn45
  obtain ⟨w_c74, ev_c74⟩ := exa_v hn47
  have E_c74 := Exa.start ev_c74 hn47
  have S_c74 := Sta.start ev_c74 (Or.inr ⟨(hw _ (List.mem_of_getElem? (i := 12) rfl)), (hw _ (List.mem_of_getElem? (i := 42) rfl))⟩)
  have F75 := own_fr ev_c63 ev_c74 hn49
  have F76 := own_fr ev_c71 ev_c52 hn50
  suffices M : OMet l s x code maxLocals ret tables_1 room_1 s.heap #[(.int i0), (.int i1)] (OQl (some (.int (1 : Int32))) s.heap.size) by
    obtain ⟨n, o, h1, h2, h3, _, L, rfl, ⟨rfl, N⟩, hq⟩ := M p e ha hc hk s m _ below hf ((Spec.applies_iff_loose hf).mp happ).1 ⟨rfl, State.Warmed39.refl s, rfl⟩ trivial
    exact ⟨n, _, h1, h2, h3, hpost _ _ _ _ _ _ ⟨Cond.after_iff.mpr rfl, Cond.after_iff.mpr (eq_i res_at (Term.int_eval (1)) rfl), trivial⟩ ⟨hq.1, hq.2.1, (hq.2.2.sift fun y hy => Or.inr (N y hy)).mono (by decide) (by decide)⟩⟩
  have hm_hq : ((i0 &&& (2147483647 : Int32)) % (7 : Int32)) = (0 : Int32) ∨ ((i0 &&& (2147483647 : Int32)) % (7 : Int32)) = (1 : Int32) ∨ ((i0 &&& (2147483647 : Int32)) % (7 : Int32)) = (2 : Int32) ∨ ((i0 &&& (2147483647 : Int32)) % (7 : Int32)) = (3 : Int32) ∨ ((i0 &&& (2147483647 : Int32)) % (7 : Int32)) = (4 : Int32) ∨ ((i0 &&& (2147483647 : Int32)) % (7 : Int32)) = (5 : Int32) ∨ ((i0 &&& (2147483647 : Int32)) % (7 : Int32)) = (6 : Int32) := by
    obtain ⟨q1, q2⟩ := own_mod i0 (7 : Int32) (by decide)
    have q3 : (7 : Int32).toInt = 7 := by decide
    rw [q3] at q2
    generalize ((i0 &&& (2147483647 : Int32)) % (7 : Int32)) = z at q1 q2 ⊢
    have q4 : z.toInt = 0 ∨ z.toInt = 1 ∨ z.toInt = 2 ∨ z.toInt = 3 ∨ z.toInt = 4 ∨ z.toInt = 5 ∨ z.toInt = 6 := by omega
    rcases q4 with q | q | q | q | q | q | q <;> simp [← Int32.toInt_inj, q]
  rcases hm_hq with hq | hq | hq | hq | hq | hq | hq <;> rcases own_b1 i1 with hr | hr
  · exact r0_1 l s _ hw i0 i1 w_c51 w_c55 w_c55 s.heap s.heap.size (Nat.le_refl _) (by first | (rw [hq] <;> decide) | (rw [hr] <;> decide)) (by first | (rw [hq] <;> decide) | (rw [hr] <;> decide)) S_c51 S_c55 F69 E_c51 rfl
  · exact r0_2 l s _ hw i0 i1 w_c51 w_c52 w_c52 s.heap s.heap.size (Nat.le_refl _) (by first | (rw [hq] <;> decide) | (rw [hr] <;> decide)) (by first | (rw [hq] <;> decide) | (rw [hr] <;> decide)) S_c51 S_c52 F53 E_c51 rfl
  · exact r0_3 l s _ hw i0 i1 w_c57 w_c58 w_c58 s.heap s.heap.size (Nat.le_refl _) (by first | (rw [hq] <;> decide) | (rw [hr] <;> decide)) (by first | (rw [hq] <;> decide) | (rw [hr] <;> decide)) (by first | (rw [hq] <;> decide) | (rw [hr] <;> decide)) S_c57 (by first | (rw [hq] <;> decide) | (rw [hr] <;> decide)) (by first | (rw [hq] <;> decide) | (rw [hr] <;> decide)) (by first | (rw [hq] <;> decide) | (rw [hr] <;> decide)) S_c58 F59 E_c57 rfl
  · exact r0_4 l s _ hw i0 i1 w_c57 w_c52 w_c52 s.heap s.heap.size (Nat.le_refl _) (by first | (rw [hq] <;> decide) | (rw [hr] <;> decide)) (by first | (rw [hq] <;> decide) | (rw [hr] <;> decide)) (by first | (rw [hq] <;> decide) | (rw [hr] <;> decide)) S_c57 S_c52 F65 E_c57 rfl
  · exact r0_5 l s _ hw i0 i1 w_c71 w_c67 w_c67 s.heap s.heap.size (Nat.le_refl _) (by first | (rw [hq] <;> decide) | (rw [hr] <;> decide)) (by first | (rw [hq] <;> decide) | (rw [hr] <;> decide)) (by first | (rw [hq] <;> decide) | (rw [hr] <;> decide)) (by first | (rw [hq] <;> decide) | (rw [hr] <;> decide)) S_c71 (by first | (rw [hq] <;> decide) | (rw [hr] <;> decide)) (by first | (rw [hq] <;> decide) | (rw [hr] <;> decide)) S_c67 F72 E_c71 rfl
  · exact r0_6 l s _ hw i0 i1 w_c71 w_c52 w_c52 s.heap s.heap.size (Nat.le_refl _) (by first | (rw [hq] <;> decide) | (rw [hr] <;> decide)) (by first | (rw [hq] <;> decide) | (rw [hr] <;> decide)) (by first | (rw [hq] <;> decide) | (rw [hr] <;> decide)) (by first | (rw [hq] <;> decide) | (rw [hr] <;> decide)) S_c71 S_c52 F76 E_c71 rfl
  · exact r0_7 l s _ hw i0 i1 w_c54 w_c55 w_c55 s.heap s.heap.size (Nat.le_refl _) (by first | (rw [hq] <;> decide) | (rw [hr] <;> decide)) (by first | (rw [hq] <;> decide) | (rw [hr] <;> decide)) (by first | (rw [hq] <;> decide) | (rw [hr] <;> decide)) (by first | (rw [hq] <;> decide) | (rw [hr] <;> decide)) (by first | (rw [hq] <;> decide) | (rw [hr] <;> decide)) S_c54 S_c55 F73 E_c54 rfl
  · exact r0_8 l s _ hw i0 i1 w_c54 w_c55 w_c55 s.heap s.heap.size (Nat.le_refl _) (by first | (rw [hq] <;> decide) | (rw [hr] <;> decide)) (by first | (rw [hq] <;> decide) | (rw [hr] <;> decide)) (by first | (rw [hq] <;> decide) | (rw [hr] <;> decide)) (by first | (rw [hq] <;> decide) | (rw [hr] <;> decide)) (by first | (rw [hq] <;> decide) | (rw [hr] <;> decide)) S_c54 S_c55 F56 E_c54 rfl
  · exact r0_9 l s _ hw i0 i1 w_c60 w_c58 w_c58 s.heap s.heap.size (Nat.le_refl _) (by first | (rw [hq] <;> decide) | (rw [hr] <;> decide)) (by first | (rw [hq] <;> decide) | (rw [hr] <;> decide)) (by first | (rw [hq] <;> decide) | (rw [hr] <;> decide)) (by first | (rw [hq] <;> decide) | (rw [hr] <;> decide)) (by first | (rw [hq] <;> decide) | (rw [hr] <;> decide)) (by first | (rw [hq] <;> decide) | (rw [hr] <;> decide)) S_c60 (by first | (rw [hq] <;> decide) | (rw [hr] <;> decide)) S_c58 F61 E_c60 rfl
  · exact r0_10 l s _ hw i0 i1 w_c60 w_c58 w_c58 s.heap s.heap.size (Nat.le_refl _) (by first | (rw [hq] <;> decide) | (rw [hr] <;> decide)) (by first | (rw [hq] <;> decide) | (rw [hr] <;> decide)) (by first | (rw [hq] <;> decide) | (rw [hr] <;> decide)) (by first | (rw [hq] <;> decide) | (rw [hr] <;> decide)) (by first | (rw [hq] <;> decide) | (rw [hr] <;> decide)) (by first | (rw [hq] <;> decide) | (rw [hr] <;> decide)) S_c60 S_c58 F62 E_c60 rfl
  · exact r0_11 l s _ hw i0 i1 w_c66 w_c58 w_c58 s.heap s.heap.size (Nat.le_refl _) (by first | (rw [hq] <;> decide) | (rw [hr] <;> decide)) (by first | (rw [hq] <;> decide) | (rw [hr] <;> decide)) (by first | (rw [hq] <;> decide) | (rw [hr] <;> decide)) (by first | (rw [hq] <;> decide) | (rw [hr] <;> decide)) (by first | (rw [hq] <;> decide) | (rw [hr] <;> decide)) (by first | (rw [hq] <;> decide) | (rw [hr] <;> decide)) (by first | (rw [hq] <;> decide) | (rw [hr] <;> decide)) S_c66 (by first | (rw [hq] <;> decide) | (rw [hr] <;> decide)) S_c58 F70 E_c66 rfl
  · exact r0_12 l s _ hw i0 i1 w_c66 w_c67 w_c67 s.heap s.heap.size (Nat.le_refl _) (by first | (rw [hq] <;> decide) | (rw [hr] <;> decide)) (by first | (rw [hq] <;> decide) | (rw [hr] <;> decide)) (by first | (rw [hq] <;> decide) | (rw [hr] <;> decide)) (by first | (rw [hq] <;> decide) | (rw [hr] <;> decide)) (by first | (rw [hq] <;> decide) | (rw [hr] <;> decide)) (by first | (rw [hq] <;> decide) | (rw [hr] <;> decide)) (by first | (rw [hq] <;> decide) | (rw [hr] <;> decide)) S_c66 S_c67 F68 E_c66 rfl
  · exact r0_13 l s _ hw i0 i1 w_c63 w_c55 w_c55 s.heap s.heap.size (Nat.le_refl _) (by first | (rw [hq] <;> decide) | (rw [hr] <;> decide)) (by first | (rw [hq] <;> decide) | (rw [hr] <;> decide)) (by first | (rw [hq] <;> decide) | (rw [hr] <;> decide)) (by first | (rw [hq] <;> decide) | (rw [hr] <;> decide)) (by first | (rw [hq] <;> decide) | (rw [hr] <;> decide)) (by first | (rw [hq] <;> decide) | (rw [hr] <;> decide)) (by first | (rw [hq] <;> decide) | (rw [hr] <;> decide)) S_c63 (by first | (rw [hq] <;> decide) | (rw [hr] <;> decide)) S_c55 F64 E_c63 rfl
  · exact r0_14 l s _ hw i0 i1 w_c63 w_c74 w_c74 s.heap s.heap.size (Nat.le_refl _) (by first | (rw [hq] <;> decide) | (rw [hr] <;> decide)) (by first | (rw [hq] <;> decide) | (rw [hr] <;> decide)) (by first | (rw [hq] <;> decide) | (rw [hr] <;> decide)) (by first | (rw [hq] <;> decide) | (rw [hr] <;> decide)) (by first | (rw [hq] <;> decide) | (rw [hr] <;> decide)) (by first | (rw [hq] <;> decide) | (rw [hr] <;> decide)) (by first | (rw [hq] <;> decide) | (rw [hr] <;> decide)) S_c63 S_c74 F75 E_c63 rfl
theorem main_1_1 : Claimed_1_1 := comes_1 fun _ _ _ _ _ _ h hF => ⟨h.1, hF⟩
theorem main_1_2 : Claimed_1_2 := comes_1 fun _ _ _ _ _ _ h hF => ⟨h.2.1, hF⟩
end Jvm.Pilot.@@N@@
namespace Jvm.Pilot.@@N@@
open Jvm Jvm.ClassFile Sem Op Lib Jvm.Free Jvm.Stand Jvm.Pilot.@@N@@.Jvm.D
/-! MADE BY PROGRAM (witnessworld.py) out of the Statement's table words and the real class files: 13 classes; the members and pool entries that the words name. The judged class is class 1, her method 3. -/
namespace start1
open Jvm.ClassFile
def u (s : String) : CpInfo := .utf8 (stringToUtf16 s)
/-- a pool by its gaps: so many unusable entries, then the entry; so many at the end -/
def gap : Nat → List CpInfo → List CpInfo
  | 0, r => r
  | n + 1, r => .unusable :: gap n r
def poolList (es : List (Nat × CpInfo)) (last : Nat) : List CpInfo := es.foldr (fun e r => gap e.1 (e.2 :: r)) (gap last [])
def pool (es : List (Nat × CpInfo)) (last : Nat) : Array CpInfo := ⟨poolList es last⟩
def fileOf (pool : Array CpInfo) (this : Nat) (attrs : Array Attribute := #[]) (ms : Array MethodInfo := #[]) (fl : Nat := 33) (sup : Nat := 0) (ifs : Array Nat := #[]) (fds : Array FieldInfo := #[]) : ClassFile where
  minorVersion := 0
  majorVersion := 65
  constantPool := pool
  accessFlags := fl
  thisClass := this
  superClass := sup
  interfaces := ifs
  fields := fds
  methods := ms
  attributes := attrs
def plain (name : String) (sup : Option ClassId) : Class where
  name := name
  kind := .ordinary
  loader := none
  accessFlags := 33
  super := sup
  interfaces := #[]
  cf := none
  fields := #[]
  methods := #[]
  instanceTypes := #[]
  staticTypes := #[]
  resolved := #[]
  callSites := []
  init := .initialized
  statics := none
  mirror := none

def pool0 : Array CpInfo := pool [(5, u "<init>"), (0, u "()V"), (1, .class_ 10), (1, u "java/lang/Object")] 113

def k0m0 : Method := { name := "<init>", desc := "()V", sig := { parameters := [], returnType := none }, accessFlags := 1, code := none }
/-- java/lang/Object -/
def k0 : Class := { plain "java/lang/Object" none with
  accessFlags := 33
  interfaces := #[]
  cf := some (fileOf pool0 8 #[] #[{ accessFlags := 1, nameIndex := 5, descriptorIndex := 6, attributes := #[] }] 33 0 #[] #[])
  fields := #[]
  methods := #[k0m0]
  instanceTypes := #[]
  staticTypes := #[]
  resolved := Array.replicate 124 none
  statics := none }

def pool1 : Array CpInfo := pool [(2, .class_ 4), (1, u "java/lang/Object"), (0, u "<init>"), (0, u "()V"), (0, .fieldref 8 9), (0, .class_ 10), (0, .nameAndType 11 12), (0, u "com/example/transaction_scopes/transactionscopes/Propagation"), (0, u "REQUIRED"), (0, u "Lcom/example/transaction_scopes/transactionscopes/Propagation;"), (0, .fieldref 8 14), (0, .nameAndType 15 12), (0, u "SUPPORTS"), (0, .fieldref 8 17), (0, .nameAndType 18 12), (0, u "MANDATORY"), (0, .fieldref 8 20), (0, .nameAndType 21 12), (0, u "REQUIRES_NEW"), (0, .fieldref 8 23), (0, .nameAndType 24 12), (0, u "NOT_SUPPORTED"), (0, .fieldref 8 26), (0, .nameAndType 27 12), (0, u "NEVER"), (0, .fieldref 8 29), (0, .nameAndType 30 12), (0, u "NESTED"), (0, .fieldref 32 33), (0, .class_ 34), (0, .nameAndType 35 36), (0, u "com/example/transaction_scopes/transactionscopes/Propagation$Conduct"), (0, u "JOIN"), (0, u "Lcom/example/transaction_scopes/transactionscopes/Propagation$Conduct;"), (0, .fieldref 32 38), (0, .nameAndType 39 36), (0, u "BEGIN"), (0, .fieldref 32 41), (0, .nameAndType 42 36), (0, u "RUN_WITHOUT"), (0, .fieldref 32 44), (0, .nameAndType 45 36), (0, u "REFUSE"), (0, .fieldref 32 47), (0, .nameAndType 48 36), (0, u "NEST"), (0, .integer 2147483647), (0, .methodref 51 52), (0, .class_ 53), (0, .nameAndType 54 55), (0, u "com/example/transaction_scopes/transactionscopes/PropagationConductPinLaw"), (0, u "pick"), (0, u "(I)Lcom/example/transaction_scopes/transactionscopes/Propagation;"), (0, .methodref 51 57), (0, .nameAndType 58 59), (0, u "expected"), (0, u "(IZ)Lcom/example/transaction_scopes/transactionscopes/Propagation$Conduct;"), (0, .methodref 8 61), (0, .nameAndType 62 63), (0, u "conduct"), (0, u "(Z)Lcom/example/transaction_scopes/transactionscopes/Propagation$Conduct;"), (3, u "law"), (0, u "(II)Z")] 4

def k1m0 : Method := { name := "<init>", desc := "()V", sig := { parameters := [], returnType := none }, accessFlags := 1, code := none }
def k1c1 : Code := { maxStack := 2, maxLocals := 1, code := method_2_code, exceptionTable := #[], attributes := #[] }
def k1m1 : Method := { name := "pick", desc := "(I)Lcom/example/transaction_scopes/transactionscopes/Propagation;", sig := { parameters := [.int], returnType := some (.object "com/example/transaction_scopes/transactionscopes/Propagation") }, accessFlags := 10, code := some k1c1 }
def k1c2 : Code := { maxStack := 2, maxLocals := 2, code := method_3_code, exceptionTable := #[], attributes := #[] }
def k1m2 : Method := { name := "expected", desc := "(IZ)Lcom/example/transaction_scopes/transactionscopes/Propagation$Conduct;", sig := { parameters := [.int, .boolean], returnType := some (.object "com/example/transaction_scopes/transactionscopes/Propagation$Conduct") }, accessFlags := 10, code := some k1c2 }
def k1c3 : Code := { maxStack := 2, maxLocals := 6, code := code, exceptionTable := #[], attributes := #[] }
def k1m3 : Method := { name := "law", desc := "(II)Z", sig := { parameters := [.int, .int], returnType := some .boolean }, accessFlags := 9, code := some k1c3 }
/-- com/example/transaction_scopes/transactionscopes/PropagationConductPinLaw -/
def k1 : Class := { plain "com/example/transaction_scopes/transactionscopes/PropagationConductPinLaw" (some 0) with
  accessFlags := 49
  interfaces := #[]
  cf := some (fileOf pool1 51 #[] #[{ accessFlags := 1, nameIndex := 5, descriptorIndex := 6, attributes := #[] }, { accessFlags := 10, nameIndex := 54, descriptorIndex := 55, attributes := #[] }, { accessFlags := 10, nameIndex := 58, descriptorIndex := 59, attributes := #[] }, { accessFlags := 9, nameIndex := 67, descriptorIndex := 68, attributes := #[] }] 49 2 #[] #[])
  fields := #[]
  methods := #[k1m0, k1m1, k1m2, k1m3]
  instanceTypes := #[]
  staticTypes := #[]
  resolved := Array.replicate 73 none
  statics := none }

def pool2 : Array CpInfo := pool [(1, .class_ 2), (0, u "java/lang/constant/Constable"), (0, .class_ 4), (0, u "java/lang/Object")] 6

/-- java/lang/constant/Constable -/
def k2 : Class := { plain "java/lang/constant/Constable" (some 0) with
  accessFlags := 1537
  interfaces := #[]
  cf := some (fileOf pool2 1 #[] #[] 1537 3 #[] #[])
  fields := #[]
  methods := #[]
  instanceTypes := #[]
  staticTypes := #[]
  resolved := Array.replicate 11 none
  statics := none }

def pool3 : Array CpInfo := pool [(1, .class_ 2), (0, u "java/lang/Comparable"), (0, .class_ 4), (0, u "java/lang/Object")] 7

/-- java/lang/Comparable -/
def k3 : Class := { plain "java/lang/Comparable" (some 0) with
  accessFlags := 1537
  interfaces := #[]
  cf := some (fileOf pool3 1 #[] #[] 1537 3 #[] #[])
  fields := #[]
  methods := #[]
  instanceTypes := #[]
  staticTypes := #[]
  resolved := Array.replicate 12 none
  statics := none }

def pool4 : Array CpInfo := pool [(1, .class_ 2), (0, u "java/io/Serializable"), (0, .class_ 4), (0, u "java/lang/Object")] 2

/-- java/io/Serializable -/
def k4 : Class := { plain "java/io/Serializable" (some 0) with
  accessFlags := 1537
  interfaces := #[]
  cf := some (fileOf pool4 1 #[] #[] 1537 3 #[] #[])
  fields := #[]
  methods := #[]
  instanceTypes := #[]
  staticTypes := #[]
  resolved := Array.replicate 7 none
  statics := none }

def pool5 : Array CpInfo := pool [(2, .class_ 4), (1, u "java/lang/Enum"), (0, u "name"), (0, u "Ljava/lang/String;"), (2, u "ordinal"), (0, u "I"), (1, .class_ 14), (1, u "java/lang/Object"), (4, u "hash"), (86, .class_ 108), (1, u "java/lang/Enum$EnumDesc"), (2, .class_ 112), (0, u "java/lang/constant/Constable"), (0, .class_ 114), (0, u "java/lang/Comparable"), (0, .class_ 116), (0, u "java/io/Serializable")] 87

/-- java/lang/Enum -/
def k5 : Class := { plain "java/lang/Enum" (some 0) with
  accessFlags := 1057
  interfaces := #[2, 3, 4]
  cf := some (fileOf pool5 2 #[.nestMembers #[106]] #[] 1057 12 #[111, 113, 115] #[{ accessFlags := 18, nameIndex := 5, descriptorIndex := 6, attributes := #[] }, { accessFlags := 18, nameIndex := 9, descriptorIndex := 10, attributes := #[] }, { accessFlags := 2, nameIndex := 19, descriptorIndex := 10, attributes := #[] }])
  fields := #[{ name := "name", type := (.object "java/lang/String"), accessFlags := 18, slot := 0, constantValue := 0 }, { name := "ordinal", type := .int, accessFlags := 18, slot := 1, constantValue := 0 }, { name := "hash", type := .int, accessFlags := 2, slot := 2, constantValue := 0 }]
  methods := #[]
  instanceTypes := #[(.object "java/lang/String"), .int, .int]
  staticTypes := #[]
  resolved := Array.replicate 204 none
  statics := none }

def pool6 : Array CpInfo := pool [(1, .class_ 2), (0, u "com/example/transaction_scopes/transactionscopes/Propagation"), (2, u "REQUIRED"), (0, u "Lcom/example/transaction_scopes/transactionscopes/Propagation;"), (2, u "SUPPORTS"), (2, u "MANDATORY"), (2, u "REQUIRES_NEW"), (2, u "NOT_SUPPORTED"), (2, u "NEVER"), (2, u "NESTED"), (2, u "$VALUES"), (0, u "[Lcom/example/transaction_scopes/transactionscopes/Propagation;"), (6, .class_ 37), (1, u "java/lang/Enum"), (6, .fieldref 1 45), (0, .nameAndType 46 47), (0, u "withTransaction"), (0, u "Lcom/example/transaction_scopes/transactionscopes/Propagation$Conduct;"), (0, .fieldref 1 49), (0, .nameAndType 50 47), (0, u "withoutTransaction"), (2, .class_ 55), (1, u "com/example/transaction_scopes/transactionscopes/Propagation$Conduct"), (33, u "conduct"), (0, u "(Z)Lcom/example/transaction_scopes/transactionscopes/Propagation$Conduct;")] 9

def k6c0 : Code := { maxStack := 1, maxLocals := 2, code := prog_6_method_4_code, exceptionTable := #[], attributes := #[] }
def k6m0 : Method := { name := "conduct", desc := "(Z)Lcom/example/transaction_scopes/transactionscopes/Propagation$Conduct;", sig := { parameters := [.boolean], returnType := some (.object "com/example/transaction_scopes/transactionscopes/Propagation$Conduct") }, accessFlags := 0, code := some k6c0 }
/-- com/example/transaction_scopes/transactionscopes/Propagation -/
def k6 : Class := { plain "com/example/transaction_scopes/transactionscopes/Propagation" (some 5) with
  accessFlags := 16433
  interfaces := #[]
  cf := some (fileOf pool6 1 #[.nestMembers #[53]] #[{ accessFlags := 0, nameIndex := 89, descriptorIndex := 90, attributes := #[] }] 16433 35 #[] #[{ accessFlags := 16409, nameIndex := 5, descriptorIndex := 6, attributes := #[] }, { accessFlags := 16409, nameIndex := 9, descriptorIndex := 6, attributes := #[] }, { accessFlags := 16409, nameIndex := 12, descriptorIndex := 6, attributes := #[] }, { accessFlags := 16409, nameIndex := 15, descriptorIndex := 6, attributes := #[] }, { accessFlags := 16409, nameIndex := 18, descriptorIndex := 6, attributes := #[] }, { accessFlags := 16409, nameIndex := 21, descriptorIndex := 6, attributes := #[] }, { accessFlags := 16409, nameIndex := 24, descriptorIndex := 6, attributes := #[] }, { accessFlags := 18, nameIndex := 46, descriptorIndex := 47, attributes := #[] }, { accessFlags := 18, nameIndex := 50, descriptorIndex := 47, attributes := #[] }, { accessFlags := 4122, nameIndex := 27, descriptorIndex := 28, attributes := #[] }])
  fields := #[{ name := "REQUIRED", type := (.object "com/example/transaction_scopes/transactionscopes/Propagation"), accessFlags := 16409, slot := 0, constantValue := 0 }, { name := "SUPPORTS", type := (.object "com/example/transaction_scopes/transactionscopes/Propagation"), accessFlags := 16409, slot := 1, constantValue := 0 }, { name := "MANDATORY", type := (.object "com/example/transaction_scopes/transactionscopes/Propagation"), accessFlags := 16409, slot := 2, constantValue := 0 }, { name := "REQUIRES_NEW", type := (.object "com/example/transaction_scopes/transactionscopes/Propagation"), accessFlags := 16409, slot := 3, constantValue := 0 }, { name := "NOT_SUPPORTED", type := (.object "com/example/transaction_scopes/transactionscopes/Propagation"), accessFlags := 16409, slot := 4, constantValue := 0 }, { name := "NEVER", type := (.object "com/example/transaction_scopes/transactionscopes/Propagation"), accessFlags := 16409, slot := 5, constantValue := 0 }, { name := "NESTED", type := (.object "com/example/transaction_scopes/transactionscopes/Propagation"), accessFlags := 16409, slot := 6, constantValue := 0 }, { name := "withTransaction", type := (.object "com/example/transaction_scopes/transactionscopes/Propagation$Conduct"), accessFlags := 18, slot := 3, constantValue := 0 }, { name := "withoutTransaction", type := (.object "com/example/transaction_scopes/transactionscopes/Propagation$Conduct"), accessFlags := 18, slot := 4, constantValue := 0 }, { name := "$VALUES", type := (.array (.object "com/example/transaction_scopes/transactionscopes/Propagation")), accessFlags := 4122, slot := 7, constantValue := 0 }]
  methods := #[k6m0]
  instanceTypes := #[(.object "java/lang/String"), .int, .int, (.object "com/example/transaction_scopes/transactionscopes/Propagation$Conduct"), (.object "com/example/transaction_scopes/transactionscopes/Propagation$Conduct")]
  staticTypes := #[(.object "com/example/transaction_scopes/transactionscopes/Propagation"), (.object "com/example/transaction_scopes/transactionscopes/Propagation"), (.object "com/example/transaction_scopes/transactionscopes/Propagation"), (.object "com/example/transaction_scopes/transactionscopes/Propagation"), (.object "com/example/transaction_scopes/transactionscopes/Propagation"), (.object "com/example/transaction_scopes/transactionscopes/Propagation"), (.object "com/example/transaction_scopes/transactionscopes/Propagation"), (.array (.object "com/example/transaction_scopes/transactionscopes/Propagation"))]
  resolved := Array.replicate 100 none
  statics := some 0 }

def pool7 : Array CpInfo := pool [(1, .class_ 2), (0, u "com/example/transaction_scopes/transactionscopes/Propagation$Conduct"), (2, u "BEGIN"), (0, u "Lcom/example/transaction_scopes/transactionscopes/Propagation$Conduct;"), (2, u "JOIN"), (2, u "NEST"), (2, u "RUN_WITHOUT"), (2, u "REFUSE"), (2, u "$VALUES"), (0, u "[Lcom/example/transaction_scopes/transactionscopes/Propagation$Conduct;"), (6, .class_ 31), (1, u "java/lang/Enum"), (28, .class_ 61), (0, u "com/example/transaction_scopes/transactionscopes/Propagation")] 2

/-- com/example/transaction_scopes/transactionscopes/Propagation$Conduct -/
def k7 : Class := { plain "com/example/transaction_scopes/transactionscopes/Propagation$Conduct" (some 5) with
  accessFlags := 16432
  interfaces := #[]
  cf := some (fileOf pool7 1 #[.nestHost 60] #[] 16432 29 #[] #[{ accessFlags := 16409, nameIndex := 5, descriptorIndex := 6, attributes := #[] }, { accessFlags := 16409, nameIndex := 9, descriptorIndex := 6, attributes := #[] }, { accessFlags := 16409, nameIndex := 12, descriptorIndex := 6, attributes := #[] }, { accessFlags := 16409, nameIndex := 15, descriptorIndex := 6, attributes := #[] }, { accessFlags := 16409, nameIndex := 18, descriptorIndex := 6, attributes := #[] }, { accessFlags := 4122, nameIndex := 21, descriptorIndex := 22, attributes := #[] }])
  fields := #[{ name := "BEGIN", type := (.object "com/example/transaction_scopes/transactionscopes/Propagation$Conduct"), accessFlags := 16409, slot := 0, constantValue := 0 }, { name := "JOIN", type := (.object "com/example/transaction_scopes/transactionscopes/Propagation$Conduct"), accessFlags := 16409, slot := 1, constantValue := 0 }, { name := "NEST", type := (.object "com/example/transaction_scopes/transactionscopes/Propagation$Conduct"), accessFlags := 16409, slot := 2, constantValue := 0 }, { name := "RUN_WITHOUT", type := (.object "com/example/transaction_scopes/transactionscopes/Propagation$Conduct"), accessFlags := 16409, slot := 3, constantValue := 0 }, { name := "REFUSE", type := (.object "com/example/transaction_scopes/transactionscopes/Propagation$Conduct"), accessFlags := 16409, slot := 4, constantValue := 0 }, { name := "$VALUES", type := (.array (.object "com/example/transaction_scopes/transactionscopes/Propagation$Conduct")), accessFlags := 4122, slot := 5, constantValue := 0 }]
  methods := #[]
  instanceTypes := #[(.object "java/lang/String"), .int, .int]
  staticTypes := #[(.object "com/example/transaction_scopes/transactionscopes/Propagation$Conduct"), (.object "com/example/transaction_scopes/transactionscopes/Propagation$Conduct"), (.object "com/example/transaction_scopes/transactionscopes/Propagation$Conduct"), (.object "com/example/transaction_scopes/transactionscopes/Propagation$Conduct"), (.object "com/example/transaction_scopes/transactionscopes/Propagation$Conduct"), (.array (.object "com/example/transaction_scopes/transactionscopes/Propagation$Conduct"))]
  resolved := Array.replicate 64 none
  statics := some 1 }

def pool8 : Array CpInfo := pool [(1, u "java/lang/Cloneable"), (0, .class_ 1), (0, u "java/lang/Object"), (0, .class_ 3)] 3

/-- java/lang/Cloneable -/
def k8 : Class := { plain "java/lang/Cloneable" (some 0) with
  accessFlags := 1537
  interfaces := #[]
  cf := some (fileOf pool8 2 #[] #[] 1537 4 #[] #[])
  fields := #[]
  methods := #[]
  instanceTypes := #[]
  staticTypes := #[]
  resolved := Array.replicate 8 none
  statics := none }

/-- the primitive byte -/
def k9 : Class := { plain "byte" none with kind := .primitive 'B', accessFlags := 0x411 }
/-- [B -/
def k10 : Class := { plain "[B" (some 0) with kind := .array 9 .byte, interfaces := #[8, 4], accessFlags := 1041 }

/-- the primitive int -/
def k11 : Class := { plain "int" none with kind := .primitive 'I', accessFlags := 0x411 }
/-- [I -/
def k12 : Class := { plain "[I" (some 0) with kind := .array 11 .int, interfaces := #[8, 4], accessFlags := 1041 }

def heap : Heap := #[{ cls := 6, slots := #[.ref 2, .ref 6, .ref 12, .ref 4, .ref 8, .ref 10, .ref 9, .null], vm := .statics 6 },
  { cls := 7, slots := #[.ref 5, .ref 3, .ref 13, .ref 7, .ref 11, .null], vm := .statics 7 },
  { cls := 6, slots := #[.null, .int 0, .int 0, .ref 3, .ref 5], vm := .none },
  { cls := 7, slots := #[.null, .int 0, .int 0], vm := .none },
  { cls := 6, slots := #[.null, .int 0, .int 0, .ref 5, .ref 5], vm := .none },
  { cls := 7, slots := #[.null, .int 0, .int 0], vm := .none },
  { cls := 6, slots := #[.null, .int 0, .int 0, .ref 3, .ref 7], vm := .none },
  { cls := 7, slots := #[.null, .int 0, .int 0], vm := .none },
  { cls := 6, slots := #[.null, .int 0, .int 0, .ref 7, .ref 7], vm := .none },
  { cls := 6, slots := #[.null, .int 0, .int 0, .ref 13, .ref 5], vm := .none },
  { cls := 6, slots := #[.null, .int 0, .int 0, .ref 11, .ref 7], vm := .none },
  { cls := 7, slots := #[.null, .int 0, .int 0], vm := .none },
  { cls := 6, slots := #[.null, .int 0, .int 0, .ref 3, .ref 11], vm := .none },
  { cls := 7, slots := #[.null, .int 0, .int 0], vm := .none }]
def classes : Array Class := #[k0, k1, k2, k3, k4, k5, k6, k7, k8, k9, k10, k11, k12]
def interned : List (Array UInt16 × Addr) := []
def slotsUsed : Nat := 64
def theMethod : MethodId := ⟨1, 3⟩
def args0 : Array Value := #[.int 5, .int 7]
def aboutOver (below : List Frame) : State where
  vm := { classes := classes, interned := interned.toArray }
  heap := heap
  slotsUsed := slotsUsed
  threads := #[{ frames := .invoking theMethod args0 :: below }]
def below0 : List Frame := [.native { method := ⟨0, 0⟩, args := #[] }]
def about1 : State := aboutOver below0
def p0 : Program := .bare "" "" ""
def e0 : Env := launch0.env 0 0 0
theorem w_frames : about1.frames = Frame.invoking theMethod args0 :: below0 := rfl
set_option maxRecDepth 65536 in
theorem w_args : argsFit about1.vm theMethod args0 = true := by decide +kernel
set_option maxRecDepth 65536 in
theorem w_heap : heapFits about1 = true := by decide +kernel
set_option maxRecDepth 65536 in
theorem w_runnable : about1.curStatus? = some .runnable := by decide +kernel
set_option maxRecDepth 65536 in
theorem w_alone : about1.alone = true := by decide +kernel
set_option maxRecDepth 65536 in
theorem w_named : about1.methodNamed? x = some theMethod := by decide +kernel
set_option maxRecDepth 65536 in
theorem w_hears : about1.hears theMethod below0 = true := by decide +kernel
set_option maxRecDepth 65536 in
theorem w_ripe : about1.ripe theMethod args0 below0 = true := by decide +kernel
theorem w_running : about1.status = .running := rfl
set_option maxRecDepth 65536 in
theorem w_room : about1.hasRoom e0.platform room_1 = true :=
  launch0.hasRoom_least _ room_1 (by decide +kernel) (by decide +kernel) (by decide +kernel) (by decide +kernel) (by decide +kernel) (by decide +kernel)
theorem allAtoms_all (ts : List Jvm.Cond) (a : Array Jvm.Value) (st : Jvm.State) : (allAtoms ts).before a st = ts.all (fun c => c.before a st) := by
  induction ts with
  | nil => rfl
  | cons c t ih =>
    show (Jvm.Cond.and c (allAtoms t)).before a st = _
    rw [Jvm.Cond.before_and, ih, List.all_cons]
def words1 : List Jvm.Cond := Jvm.Cond.code x code maxLocals ret :: tables_1
/-- a 'code' word, met by the world's own term for the bytes: nothing is compared byte by byte -/
theorem code_word {y : MethodName} {bytes : ByteArray} {mx : Nat} {rt : Option FieldType} {a : Array Value} {s : State} {m : MethodId} {meth : Method} {c : Code} (h1 : s.methodNamed? y = some m) (h2 : s.vm.method? m = some meth) (h3 : meth.code = some c) (h4 : c.code = bytes)
    (h5 : (c.maxLocals == mx && c.exceptionTable.isEmpty && decide (c.maxStack ≤ mostOperands) && decide (meth.sig.returnType = rt) && !meth.locks && decide (parseMethodDescriptor y.desc = some meth.sig)) = true) : (Jvm.Cond.code y bytes mx rt).before a s = true := by
  simp only [Bool.and_eq_true, beq_iff_eq, Bool.not_eq_true', decide_eq_true_eq] at h5
  obtain ⟨⟨⟨⟨⟨g1, g2⟩, g3⟩, g4⟩, g5⟩, g6⟩ := h5
  simp [Cond.before, Cond.holds, Cond.value, h1, h2, h3, h4, g1, g2, g3, g4, g5, g6]
def isCode : Jvm.Cond → Bool
  | .code _ _ _ _ => true
  | _ => false
theorem all_split {L : List Jvm.Cond} {P : Jvm.Cond → Bool} (h1 : L.all (fun c => isCode c || P c) = true) (h2 : ∀ c ∈ L.filter isCode, P c = true) : L.all P = true := by
  refine List.all_eq_true.mpr fun c hc => ?_
  have h := List.all_eq_true.mp h1 c hc
  rcases Bool.eq_false_or_eq_true (isCode c) with hi | hi
  · exact h2 c (List.mem_filter.mpr ⟨hc, hi⟩)
  · simpa [hi] using h
set_option maxRecDepth 65536 in
theorem w_c0 : (Jvm.Cond.code x code maxLocals ret).before args0 about1 = true := code_word (m := ⟨1, 3⟩) (meth := k1m3) (c := k1c3) (by decide +kernel) rfl rfl rfl (by decide +kernel)
set_option maxRecDepth 65536 in
theorem w_c1 : (Jvm.Cond.code ({ cls := "com/example/transaction_scopes/transactionscopes/PropagationConductPinLaw", name := "pick", desc := "(I)Lcom/example/transaction_scopes/transactionscopes/Propagation;" } : Jvm.MethodName) method_2_code (1 : Nat) (Option.some (Jvm.ClassFile.FieldType.object "com/example/transaction_scopes/transactionscopes/Propagation"))).before args0 about1 = true := code_word (m := ⟨1, 1⟩) (meth := k1m1) (c := k1c1) (by decide +kernel) rfl rfl rfl (by decide +kernel)
set_option maxRecDepth 65536 in
theorem w_c2 : (Jvm.Cond.code ({ cls := "com/example/transaction_scopes/transactionscopes/PropagationConductPinLaw", name := "expected", desc := "(IZ)Lcom/example/transaction_scopes/transactionscopes/Propagation$Conduct;" } : Jvm.MethodName) method_3_code (2 : Nat) (Option.some (Jvm.ClassFile.FieldType.object "com/example/transaction_scopes/transactionscopes/Propagation$Conduct"))).before args0 about1 = true := code_word (m := ⟨1, 2⟩) (meth := k1m2) (c := k1c2) (by decide +kernel) rfl rfl rfl (by decide +kernel)
set_option maxRecDepth 65536 in
theorem w_c3 : (Jvm.Cond.code ({ cls := "com/example/transaction_scopes/transactionscopes/Propagation", name := "conduct", desc := "(Z)Lcom/example/transaction_scopes/transactionscopes/Propagation$Conduct;" } : Jvm.MethodName) prog_6_method_4_code (2 : Nat) (Option.some (Jvm.ClassFile.FieldType.object "com/example/transaction_scopes/transactionscopes/Propagation$Conduct"))).before args0 about1 = true := code_word (m := ⟨6, 0⟩) (meth := k6m0) (c := k6c0) (by decide +kernel) rfl rfl rfl (by decide +kernel)
def codes1 : List Jvm.Cond := [Jvm.Cond.code x code maxLocals ret, Jvm.Cond.code ({ cls := "com/example/transaction_scopes/transactionscopes/PropagationConductPinLaw", name := "pick", desc := "(I)Lcom/example/transaction_scopes/transactionscopes/Propagation;" } : Jvm.MethodName) method_2_code (1 : Nat) (Option.some (Jvm.ClassFile.FieldType.object "com/example/transaction_scopes/transactionscopes/Propagation")), Jvm.Cond.code ({ cls := "com/example/transaction_scopes/transactionscopes/PropagationConductPinLaw", name := "expected", desc := "(IZ)Lcom/example/transaction_scopes/transactionscopes/Propagation$Conduct;" } : Jvm.MethodName) method_3_code (2 : Nat) (Option.some (Jvm.ClassFile.FieldType.object "com/example/transaction_scopes/transactionscopes/Propagation$Conduct")), Jvm.Cond.code ({ cls := "com/example/transaction_scopes/transactionscopes/Propagation", name := "conduct", desc := "(Z)Lcom/example/transaction_scopes/transactionscopes/Propagation$Conduct;" } : Jvm.MethodName) prog_6_method_4_code (2 : Nat) (Option.some (Jvm.ClassFile.FieldType.object "com/example/transaction_scopes/transactionscopes/Propagation$Conduct"))]
set_option maxRecDepth 65536 in
theorem codes_eq : words1.filter isCode = codes1 := rfl
theorem w_codes : ∀ c ∈ words1.filter isCode, c.before args0 about1 = true := by
  rw [codes_eq]
  intro c hc
  simp only [codes1, List.mem_cons, List.not_mem_nil, or_false] at hc
  rcases hc with rfl | rfl | rfl | rfl
  · exact w_c0
  · exact w_c1
  · exact w_c2
  · exact w_c3
set_option maxRecDepth 65536 in
theorem w_t1 : (words1.take 24).all (fun c => isCode c || c.before args0 about1) = true := by decide +kernel
set_option maxRecDepth 65536 in
theorem w_t2 : (words1.drop 24).all (fun c => isCode c || c.before args0 about1) = true := by decide +kernel
theorem w_tables : (allAtoms (Jvm.Cond.code x code maxLocals ret :: tables_1)).before args0 about1 = true := by
  rw [allAtoms_all]
  show words1.all (fun c => c.before args0 about1) = true
  refine all_split ?_ w_codes
  rw [← List.take_append_drop 24 words1, List.all_append, w_t1, w_t2]
  rfl
set_option maxRecDepth 65536 in
theorem w_case : (Jvm.Cond.and given_1 narrow_1).before args0 about1 = true := by decide +kernel
theorem w_applies : (headSpec (Jvm.Cond.code x code maxLocals ret :: tables_1) room_1).applies x e0.platform about1 = true :=
  (Spec.applies_iff w_frames).mpr ⟨w_running, w_runnable, w_alone, w_named, w_hears, w_ripe, w_room, w_tables⟩
theorem atStart : AtStart classFile x code maxLocals ret World_1 tables_1 room_1 Calls_1 rest_1 Pre_1 launch0 p0 e0 about1 theMethod args0 below0 :=
  ⟨lists_1, trivial, launch0.admits_env _ _ _, launch0.least_env, fairChoices_fair.cas, fairChoices_fair.clock, w_frames, w_args, w_heap, w_applies, trivial, trivial, w_case⟩
end start1
theorem witness_1 : WitnessClaimed_1 := ⟨start1.p0, start1.e0, start1.about1, start1.theMethod, start1.args0, start1.below0, start1.atStart⟩
end Jvm.Pilot.@@N@@
