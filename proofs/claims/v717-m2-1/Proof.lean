import JvmDerived
import JvmDerived.Pilot.@@N@@Statement
import JvmDerived.Pilot.@@N@@Code
set_option linter.unusedVariables false
set_option linter.unusedSimpArgs false
namespace Jvm.RoadKit
open Sem ClassFile Op Lib Jvm.Stand Jvm.Free Jvm.LawKit
section New
variable {p : Program} {l : Launch} {e : Env} {R : Room} {s : State} {m : MethodId} {args : Array Value} {below : List Frame} {meth : Method} {c : Code} {T : State} {locs : List Loc} {cells slots : Nat}
theorem retI (X : Stand p l e R s m args below meth c T locs cells slots) (hx : p.tables.exec = Jvm.exec) {pc : Nat} {Ls : Array Slot} {z : Int32} {rest : List Value} (hret : meth.sig.returnType = some .int) (hd : decode c.code pc = .ok (.ireturn, 1)) {fs : List Frame}
    (hl : ∀ (f : JFrame) (acts : List Action), f.method = m → f.locked = none → f.entered = [] → (doReturn e (T.setTop f) acts (some (.int z))).1 = T.setFrames fs) : Steps p.tables e below (T.setTop (mkF m pc Ls (.int z :: rest))) (T.setFrames fs) := by
  have hm' : T.vm.method? m = some meth := X.method'
  have hn : narrow .int (.int z) = .int z := rfl
  show Steps p.tables e below (T.setTop { method := m, pc := pc, locals := Ls, stack := _ :: rest, locked := none }) _
  jvm_step X.here [X.here.top, hx, hd, hm', hret, hn]
  first | (intro acts; rw [hl _ acts rfl rfl rfl]) | rw [hl _ _ rfl rfl rfl]
  exact Steps.refl _
/-- the return of a reference, null or not -/
theorem own_retR (X : Stand p l e R s m args below meth c T locs cells slots) (hx : p.tables.exec = Jvm.exec) {pc : Nat} {Ls : Array Slot} {w : Value} {ty : FieldType} {rest : List Value} (hret : meth.sig.returnType = some ty) (ht : ty.isReference = true) (hw : w.isRef = true) (hd : decode c.code pc = .ok (.areturn, 1)) {fs : List Frame}
    (hl : ∀ (f : JFrame) (acts : List Action), f.method = m → f.locked = none → f.entered = [] → (doReturn e (T.setTop f) acts (some w)).1 = T.setFrames fs) : Steps p.tables e below (T.setTop (mkF m pc Ls (w :: rest))) (T.setFrames fs) := by
  have hm' : T.vm.method? m = some meth := X.method'
  show Steps p.tables e below (T.setTop { method := m, pc := pc, locals := Ls, stack := _ :: rest, locked := none }) _
  rcases ref_cases hw with rfl | ⟨z, rfl⟩
  all_goals
    jvm_step X.here [X.here.top, hx, hd, hm', hret, ht, Value.isRef]
    first | (intro acts; rw [hl _ acts rfl rfl rfl]) | rw [hl _ _ rfl rfl rfl]
    exact Steps.refl _
/-- what a walk owes from a state and a frame on -/
def own_G (p : Program) (e : Env) (below : List Frame) (s : State) (C N : Nat) (Q : Option Value → Heap → List Loc → Prop) (T : State) (g : JFrame) : Prop :=
  ∃ s₂ o, Steps p.tables e below (T.setTop g) s₂ ∧ s₂.status = .running ∧ Ended s₂ below o ∧ ∃ v L, o = .returned v ∧ Q v s₂.heap L ∧ FrameEnd s o s₂ L C N
variable {C N : Nat} {Q : Option Value → Heap → List Loc → Prop} {T' : State} {g g' : JFrame} {h : Heap}
theorem own_G.step (k : ∀ t, Steps p.tables e below (T'.setTop g') t → Steps p.tables e below (T.setTop g) t) (H : own_G p e below s C N Q T' g') : own_G p e below s C N Q T g := by
  obtain ⟨s₂, o, h1, r⟩ := H
  exact ⟨s₂, o, k _ h1, r⟩
theorem own_G.cast (q : g = g') (H : own_G p e below s C N Q T g') : own_G p e below s C N Q T g := by
  subst q
  exact H
theorem own_G.start (q : g = g') (H : own_G p e below s C N Q T g') : ∃ s₂ o, Steps p.tables e below (T.setTop g) s₂ ∧ s₂.status = .running ∧ Ended s₂ below o ∧ ∃ v L, o = .returned v ∧ Q v s₂.heap L ∧ FrameEnd s o s₂ L C N := by
  subst q
  exact H
theorem own_ret (X : Stand p l e R s m args below meth c T locs cells slots) (eT : T.heap = h) {v : Option Value} (hv : meth.sig.returnType = none → v = none) (hlk : meth.locks = false) (hq : Q v h locs) (hc : cells ≤ C) (hn : slots ≤ N)
    (st : ∀ fs, (∀ (f : JFrame) (acts : List Action), f.method = m → f.locked = none → f.entered = [] → (doReturn e (T.setTop f) acts v).1 = T.setFrames fs) → Steps p.tables e below (T.setTop g) (T.setFrames fs)) : own_G p e below s C N Q T g := by
  obtain ⟨fs, hr, hrun, hended, hW, hsame⟩ := X.leave (v := v) hv hlk
  subst eT
  exact ⟨_, _, st fs hr, hrun, hended, _, _, rfl, hq, ⟨_, rfl⟩, hW, hsame.mono hc hn⟩
/-- the same where String constants may be made on the way -/
def own_GW (p : Program) (e : Env) (below : List Frame) (s : State) (C N : Nat) (Q : Option Value → Heap → List Loc → Prop) (T : State) (g : JFrame) : Prop :=
  ∃ s₂ o, Steps p.tables e below (T.setTop g) s₂ ∧ s₂.status = .running ∧ Ended s₂ below o ∧ ∃ v L, o = .returned v ∧ Q v s₂.heap L ∧ ReturnedEndW s o s₂ L C N
theorem own_GW.step (k : ∀ t, Steps p.tables e below (T'.setTop g') t → Steps p.tables e below (T.setTop g) t) (H : own_GW p e below s C N Q T' g') : own_GW p e below s C N Q T g := by
  obtain ⟨s₂, o, h1, r⟩ := H
  exact ⟨s₂, o, k _ h1, r⟩
theorem own_GW.cast (q : g = g') (H : own_GW p e below s C N Q T g') : own_GW p e below s C N Q T g := by
  subst q
  exact H
theorem own_GW.start (q : g = g') (H : own_GW p e below s C N Q T g') : ∃ s₂ o, Steps p.tables e below (T.setTop g) s₂ ∧ s₂.status = .running ∧ Ended s₂ below o ∧ ∃ v L, o = .returned v ∧ Q v s₂.heap L ∧ ReturnedEndW s o s₂ L C N := by
  subst q
  exact H
theorem own_retW {vm₁ : Vm} {k : Nat} (X : Stand p l e R (s.setVm vm₁) m args below meth c T locs cells slots) (hS : s.Since vm₁ k) (eT : T.heap = h) (hk : k ≤ h.size) {v : Option Value} (hv : meth.sig.returnType = none → v = none) (hlk : meth.locks = false) (hq : Q v h locs) (hc : cells ≤ C) (hn : slots ≤ N)
    (st : ∀ fs, (∀ (f : JFrame) (acts : List Action), f.method = m → f.locked = none → f.entered = [] → (doReturn e (T.setTop f) acts v).1 = T.setFrames fs) → Steps p.tables e below (T.setTop g) (T.setFrames fs)) : own_GW p e below s C N Q T g := by
  obtain ⟨fs, hr, hrun, hended, hW, hsame⟩ := X.leave (v := v) hv hlk
  subst eT
  obtain ⟨a, b, d⟩ := hS.ended (U := T.setFrames fs) hW hk hsame
  exact ⟨_, _, st fs hr, hrun, hended, _, _, rfl, hq, ⟨_, rfl⟩, a, b, d.mono hc hn⟩
/-- the same where the held String constants are kept too -/
def own_GH (Z : State) (EL : List (String × Nat)) (p : Program) (e : Env) (below : List Frame) (s : State) (C N : Nat) (Q : Option Value → Heap → List Loc → Prop) (T : State) (g : JFrame) : Prop :=
  ∃ s₂ o, Steps p.tables e below (T.setTop g) s₂ ∧ s₂.status = .running ∧ Ended s₂ below o ∧ ∃ v L, o = .returned v ∧ Q v s₂.heap L ∧ CHr Z EL s.vm s.heap s₂.vm s₂.heap ∧ ReturnedEndW s o s₂ L C N
section HeldEnd
variable {Z : State} {EL : List (String × Nat)}
theorem own_GH.step (k : ∀ t, Steps p.tables e below (T'.setTop g') t → Steps p.tables e below (T.setTop g) t) (H : own_GH Z EL p e below s C N Q T' g') : own_GH Z EL p e below s C N Q T g := by
  obtain ⟨s₂, o, h1, r⟩ := H
  exact ⟨s₂, o, k _ h1, r⟩
theorem own_GH.cast (q : g = g') (H : own_GH Z EL p e below s C N Q T g') : own_GH Z EL p e below s C N Q T g := by
  subst q
  exact H
theorem own_GH.start (q : g = g') (H : own_GH Z EL p e below s C N Q T g') : ∃ s₂ o, Steps p.tables e below (T.setTop g) s₂ ∧ s₂.status = .running ∧ Ended s₂ below o ∧ ∃ v L, o = .returned v ∧ Q v s₂.heap L ∧ CHr Z EL s.vm s.heap s₂.vm s₂.heap ∧ ReturnedEndW s o s₂ L C N := by
  subst q
  exact H
theorem own_retH {vm₁ : Vm} {k : Nat} {h0 : Heap} {a0 : Array Value} (X : Stand p l e R (s.setVm vm₁) m args below meth c T locs cells slots) (hS : s.Since vm₁ k) (eT : T.heap = h) (hk : k ≤ h.size) (hZ : Z.Warmed39 vm₁) (ew : EW Z a0 EL) (hH : CHv Z EL vm₁ h) (hh : s.heap = h0) (hR : CHr Z EL s.vm h0 vm₁ h) {v : Option Value} (hv : meth.sig.returnType = none → v = none) (hlk : meth.locks = false) (hq : Q v h locs) (hc : cells ≤ C) (hn : slots ≤ N)
    (st : ∀ fs, (∀ (f : JFrame) (acts : List Action), f.method = m → f.locked = none → f.entered = [] → (doReturn e (T.setTop f) acts v).1 = T.setFrames fs) → Steps p.tables e below (T.setTop g) (T.setFrames fs)) : own_GH Z EL p e below s C N Q T g := by
  obtain ⟨fs, hr, hrun, hended, hW, hsame⟩ := X.leave (v := v) hv hlk
  subst eT
  subst hh
  have q := CHv.at X hZ ew hH
  obtain ⟨a, b, d⟩ := hS.ended (U := T.setFrames fs) hW hk hsame
  exact ⟨_, _, st fs hr, hrun, hended, _, _, rfl, hq, (show CHr Z EL s.vm s.heap (T.setFrames fs).vm (T.setFrames fs).heap from hR.trans q), ⟨_, rfl⟩, a, b, d.mono hc hn⟩
end HeldEnd
/-- an array of that length -/
def own_Len (Z : State) (h : Heap) (a : Addr) (n : Int32) : Prop := ∃ (c : Cell) (ty : FieldType), Arr Z h a c ty ∧ c.slots.size = n.toNatClampNeg ∧ ¬ n < 0
theorem own_Len.lt {Z : State} {a : Addr} {n : Int32} (F : own_Len Z h a n) : a < h.size := by
  obtain ⟨c, ty, A, -⟩ := F
  exact A.lt
theorem own_Len.ext {Z : State} {h' : Heap} {a : Addr} {n : Int32} (F : own_Len Z h a n) (E : Ext h h') : own_Len Z h' a n := by
  obtain ⟨c, ty, A, r⟩ := F
  exact ⟨c, ty, A.ext E, r⟩
theorem own_Len.other {Z : State} {h' : Heap} {a b : Addr} {n : Int32} {sl : Nat} {v : Value} (F : own_Len Z h b n) (W : Wr h h' a sl v) (q : b ≠ a) : own_Len Z h' b n := by
  obtain ⟨c, ty, A, r⟩ := F
  exact ⟨c, ty, A.other W q, r⟩
theorem own_Len.keep {Z : State} {h' : Heap} {a : Addr} {n : Int32} {ws : List Addr} (F : own_Len Z h a n) (K : Keep h h' ws) (q : a ∉ ws) : own_Len Z h' a n := by
  obtain ⟨c, ty, A, r⟩ := F
  exact ⟨c, ty, ⟨K.2.1 _ _ A.1 q, A.2⟩, r⟩
theorem own_Len.arv {Z : State} {a : Addr} {k : ClassId} {ty : FieldType} {n : Int32} {vs : List Value} {d : Value} (F : Arv Z h a k ty n vs d) : own_Len Z h a n := by
  obtain ⟨c, A, -, S, N, -⟩ := F
  exact ⟨c, ty, A, S, N⟩
theorem own_Len.start {Z : State} {a : Addr} {c : Cell} {ty : FieldType} {z : Int32} (A : Arr Z h a c ty) (q : c.slots.size < 2 ^ 31) (e : c.slots.size.toInt32 = z) (hz : ¬ z < 0) : own_Len Z h a z :=
  ⟨c, ty, A, by rw [← e]; simp only [Int32.toNatClampNeg, len_toInt q]; rfl, hz⟩
theorem own_join {α : Sort _} {P : α → Prop} {G : JFrame → Prop} {g : JFrame} (F : α → JFrame) (h1 : ∀ t, P t → G (F t)) (h2 : (∀ t, P t → G (F t)) → G g) : G g := h2 h1
/-- a byte of a byte[] -/
def own_At (Z : State) (h : Heap) (a : Addr) (i b : Int32) : Prop := ∃ c : Cell, Arr Z h a c .byte ∧ ¬ (i < 0 ∨ c.slots.size ≤ i.toNatClampNeg) ∧ c.slots[i.toNatClampNeg]? = some (.int b)
theorem own_At.arv {Z : State} {a : Addr} {k : ClassId} {n i b : Int32} {vs : List Value} {d : Value} (F : Arv Z h a k .byte n vs d) (h1 : ¬ i < 0 ∧ i < n) (h2 : vs.getD i.toNatClampNeg d = .int b) : own_At Z h a i b := by
  obtain ⟨c, A, -, S, N, H, -⟩ := F
  exact ⟨c, A, inb_of S h1, H.at (inb_of S h1) h2⟩
theorem own_cat {v : Value} (hv : v.isRef = true) : v.category = 1 := by rcases ref_cases hv with rfl | ⟨z, rfl⟩ <;> rfl
theorem own_fits {v : Value} {ty : FieldType} (hv : v.isRef = true) (ht : ty.isReference = true) : fits ty v = true := by
  rcases ref_cases hv with rfl | ⟨z, rfl⟩ <;> cases ty <;> first | rfl | (cases ht; done) | simp [fits]
theorem own_narrow {v : Value} {ty : FieldType} (hv : v.isRef = true) (ht : ty.isReference = true) : narrow ty v = v := by
  rcases ref_cases hv with rfl | ⟨z, rfl⟩ <;> cases ty <;> first | rfl | (cases ht; done)
theorem Old.le {Z : State} {n0 : Nat} (X : Old Z n0 h) : n0 ≤ h.size := X.1 ▸ X.2.1
end New
end Jvm.RoadKit
namespace Jvm.Pilot.@@N@@
open Jvm Jvm.ClassFile Sem Op Lib Jvm.Free Jvm.Stand Jvm.LawKit Jvm.RoadKit Bundle Jvm.Pilot.@@N@@.Jvm.D
theorem own_toInt {a b : Int32} (h : a.toInt = b.toInt) : a = b := Int32.toInt_inj.mp h
theorem own_three (x : Int32) : (x &&& (2147483647 : Int32)) % (3 : Int32) = (0 : Int32) ∨ (x &&& (2147483647 : Int32)) % (3 : Int32) = (1 : Int32) ∨ (x &&& (2147483647 : Int32)) % (3 : Int32) = (2 : Int32) := by
  have h1 := c_mask x (2147483647 : Int32) 31 (by decide) (by decide)
  have h2 := (c_irem (x &&& (2147483647 : Int32)) (3 : Int32) 3 (by decide)).1 (by rw [h1]; omega)
  have h3 : ((x &&& (2147483647 : Int32)) % (3 : Int32)).toInt = 0 ∨ ((x &&& (2147483647 : Int32)) % (3 : Int32)).toInt = 1 ∨ ((x &&& (2147483647 : Int32)) % (3 : Int32)).toInt = 2 := by omega
  rcases h3 with h | h | h
  · exact Or.inl (own_toInt h)
  · exact Or.inr (Or.inl (own_toInt h))
  · exact Or.inr (Or.inr ((own_toInt h)))
def own_pick (i : Int32) (w0 w1 w2 : Addr) : Addr := if i = (0 : Int32) then w0 else if i = (1 : Int32) then w1 else w2
def own_sev (i : Int32) : Int32 := if i = (0 : Int32) then 3 else if i = (1 : Int32) then 2 else 1
def own_atl (x y : Int32) : Int32 := if (0 : Int32) < (x - y) then 0 else 1
def own_Mir (Z : State) (C : String) (mr : Addr) : Prop := ∃ (c : ClassId) (k : Class), Z.vm.findClass C = some c ∧ Z.vm.classes[c]? = some k ∧ k.mirror = some mr
theorem own_gcls {p : Program} {l : Launch} {e : Env} {R : Room} {s : State} {m : MethodId} {args : Array Value} {below : List Frame} {meth : Method} {c : Code} {T : State} {locs : List Loc} {cells slots : Nat} {Z : State} {h : Heap} {a : Addr}
    (X : Stand p l e R s m args below meth c T locs cells slots) (hx : p.tables.exec = Jvm.exec) (hZ : Z.Warmed39 s.vm) {a0 : Array Value} {own C : String} {index : Nat} (hown : s.vm.findClass own = some m.cls)
    (w1 : (Jvm.Cond.methodLink own index Stand.gcN).before a0 Z = true) (w2 : (Jvm.Cond.declares Stand.gcN).before a0 Z = true) (w4 : (Jvm.Cond.selects C Stand.gcN Stand.gcN).before a0 Z = true)
    (w5 : (Jvm.Cond.instanceMethod Stand.gcN).before a0 Z = true) (w6 : (Jvm.Cond.native Stand.gcN).before a0 Z = true) (eT : T.heap = h) (E : Exa Z h a C) {mr : Addr} (M : own_Mir Z C mr)
    {g : JFrame} (hg : g.method = m) (hsize : g.locals.size = c.maxLocals) {rest : List Value} (hs : g.stack = .ref a :: rest) (hd : decode c.code g.pc = .ok (.invokevirtual index, 3)) (hf : 1 ≤ R.frames) {W : Nat} (hW : 2 * g.monitorRoom + (rest.map fun v => v.category).sum ≤ W) (hl : W + (nativeFrameWords "java/lang/Object" "getClass" 1 + 11) ≤ R.locals) :
    ∃ T', Stand p l e R s m args below meth c T' locs cells slots ∧ T'.heap = h ∧ ∀ target, Steps p.tables e below (T'.setTop { g with pc := g.pc + 3, stack := .ref mr :: rest }) target → Steps p.tables e below (T.setTop g) target := by
  obtain ⟨cB, kB, i1, i2, i3⟩ := isOf hZ eT E
  obtain ⟨cc, kc, m1, m2, m3⟩ := M
  rw [hZ.alike.findClass] at i1
  cases i1.symm.trans m1
  obtain ⟨k', q, ek⟩ := hZ.alike.2.2 _ _ m2
  obtain ⟨vm', X', st⟩ := X.getClassOf hx hown (mvT hZ w1) (mvT hZ w2) (notFace_of_selects (args := #[]) (mvT hZ w4)) (mvT hZ w4) (mvT hZ w5) (mvT hZ w6) (by rw [hZ.alike.findClass]; exact m1) i3 q (by rw [ek]; exact m3) hg hsize hs hd hf (by omega)
  exact ⟨_, X', eT, st⟩
theorem d1_0 : decode method_3_code 0 = .ok (.iload_n 0, 1) := by decide +kernel
theorem d1_1 : decode method_3_code 1 = .ok (.ifCond .ne 7, 3) := by decide +kernel
theorem d1_4 : decode method_3_code 4 = .ok (.getstatic 24, 3) := by decide +kernel
theorem d1_7 : decode method_3_code 7 = .ok (.areturn, 1) := by decide +kernel
theorem d1_8 : decode method_3_code 8 = .ok (.iload_n 0, 1) := by decide +kernel
theorem d1_9 : decode method_3_code 9 = .ok (.iconst 1, 1) := by decide +kernel
theorem d1_10 : decode method_3_code 10 = .ok (.if_icmp .ne 7, 3) := by decide +kernel
theorem d1_13 : decode method_3_code 13 = .ok (.getstatic 28, 3) := by decide +kernel
theorem d1_16 : decode method_3_code 16 = .ok (.areturn, 1) := by decide +kernel
theorem d1_17 : decode method_3_code 17 = .ok (.getstatic 31, 3) := by decide +kernel
theorem d1_20 : decode method_3_code 20 = .ok (.areturn, 1) := by decide +kernel
theorem pn_com_2fexample_2fconcordant_2fconcordant_2frules_2fLevelIsAtLeastPinLaw : plainName "com/example/concordant/concordant/rules/LevelIsAtLeastPinLaw" = true := by first | (simp [plainName, overriddenIn]; done) | decide +kernel
theorem ef_pick (m : MethodId) (i : Int32) : entryFrame m #[(.int i)] 1 = mkF m 0 #[.val (.int i)] [] := by
  first | (simp [entryFrame, mkF, argsToLocals, Value.category]; done) | rfl
def Q_pick (Z : State) (i : Int32) (w0 : Addr) (w1 : Addr) (w2 : Addr) (h0 : Heap) (n0 : Nat) (v : Option Value) (h : Heap) (L : List Loc) : Prop := v = some (.ref (own_pick i w0 w1 w2)) ∧ Fr n0 L ∧ h = h0
set_option maxRecDepth 65536 in
set_option maxHeartbeats 40000000 in
theorem rm_pick (l : Launch) (Z : State) (a0 : Array Value) (hw : ∀ d ∈ tables_1, d.before a0 Z = true) (ws : List Jvm.Cond) (i : Int32) (w0 : Addr) (w1 : Addr) (w2 : Addr) (h0 : Heap) (n0 : Nat) (O0 : Old Z n0 h0) (S_ERROR : Sta Z Z.heap "com/example/concordant/concordant/rules/Level" "ERROR" "Lcom/example/concordant/concordant/rules/Level;" (.ref w0)) (S_WARNING : Sta Z Z.heap "com/example/concordant/concordant/rules/Level" "WARNING" "Lcom/example/concordant/concordant/rules/Level;" (.ref w1)) (S_INFO : Sta Z Z.heap "com/example/concordant/concordant/rules/Level" "INFO" "Lcom/example/concordant/concordant/rules/Level;" (.ref w2)) :
    MetFree l (⟨"com/example/concordant/concordant/rules/LevelIsAtLeastPinLaw", "pick", "(I)Lcom/example/concordant/concordant/rules/Level;"⟩ : MethodName) (head1 (Jvm.Cond.code (⟨"com/example/concordant/concordant/rules/LevelIsAtLeastPinLaw", "pick", "(I)Lcom/example/concordant/concordant/rules/Level;"⟩ : MethodName) method_3_code 1 (some (.object "com/example/concordant/concordant/rules/Level")) :: ws) ({ frames := 0, cells := 0, slots := 0, locals := 0 } : Room)) (fun aq_ Uq_ => aq_ = #[(.int i)] ∧ Z.Warmed39 Uq_.vm ∧ Uq_.heap = h0) (fun _ _ _ _ _ => True) (fun _ Uq_ oq_ Ur_ => ∃ vq_ Lq_, oq_ = .returned vq_ ∧ Q_pick Z i w0 w1 w2 h0 n0 vq_ Ur_.heap Lq_ ∧ FrameEnd Uq_ oq_ Ur_ Lq_ ({ frames := 0, cells := 0, slots := 0, locals := 0 } : Room).cells ({ frames := 0, cells := 0, slots := 0, locals := 0 } : Room).slots) := by
  refine MetFree.of_bodySF (plainFor_of_name pn_com_2fexample_2fconcordant_2fconcordant_2frules_2fLevelIsAtLeastPinLaw) hisR ?_
  intro p e s m args below meth c s₁ Bd hml0 hP hK
  obtain ⟨rfl, hZ, hh⟩ := hP
  have hx := Bd.exec
  have hby := Bd.bytes
  have hml : c.maxLocals = 1 := hml0
  have hown : s.vm.findClass "com/example/concordant/concordant/rules/LevelIsAtLeastPinLaw" = some m.cls := findClass_of_methodNamed Bd.named
  have hnm := (name_of_methodNamed Bd.named Bd.method).1
  have X0 : Stand p l e ({ frames := 0, cells := 0, slots := 0, locals := 0 } : Room) s m #[(.int i)] below meth c s₁ [] 0 0 := Stand.of_body Bd
  have e0 : s₁.heap = h0 := by rw [← hh, Bd.state]; rfl
  have N0 := Fr.nil n0
  have K0 := Keep.refl h0 []
  refine own_G.start (Q := Q_pick Z i w0 w1 w2 h0 n0) (ef_pick m i) ?_
  refine own_G.step (g' := (mkF m 1 #[.val (.int i)] [(.int i)])) (fun tq_ kq_ => XS.iloadN X0.here hx rfl (hb hby d1_0) rfl kq_) ?_
  rcases Classical.em (i = (0 : Int32)) with hc1 | hc1
  · refine own_G.step (g' := (mkF m 4 #[.val (.int i)] [])) (fun tq_ kq_ => XS.ifNo X0.here hx rfl (hb hby d1_1) rfl ((if0 _ _).trans (teq hc1).2) kq_) ?_
    obtain ⟨T1, X1, e1, st1⟩ := getS2 X0 hx hZ hown (host := "") (Or.inl (hw _ (List.mem_of_getElem? (i := 5) rfl))) Via.refl e0 (Sta.ext O0.2 S_ERROR) (g := (mkF m 4 #[.val (.int i)] [])) rfl (hb hby d1_4)
    refine own_G.step (T' := T1) (g' := (mkF m 7 #[.val (.int i)] [(.ref w0)])) st1 ?_
    exact own_ret X1 e1 (v := some (.ref w0)) (fun h => by rw [Bd.returns] at h; cases h) Bd.notSynchronized ⟨(by simp [own_pick, hc1]), N0, rfl⟩ (by decide) (by decide) (fun fs hr => own_retR X1 hx Bd.returns rfl rfl (hb hby d1_7) hr)
  · refine own_G.step (g' := (mkF m 8 #[.val (.int i)] [])) (fun tq_ kq_ => XS.ifYes X0.here hx rfl (pc0 := 1) (pc' := 8) rfl (hb hby d1_1) rfl ((if0 _ _).trans (feq hc1).2) (by decide) (by decide) kq_) ?_
    refine own_G.step (g' := (mkF m 9 #[.val (.int i)] [(.int i)])) (fun tq_ kq_ => XS.iloadN X0.here hx rfl (hb hby d1_8) rfl kq_) ?_
    refine own_G.step (g' := (mkF m 10 #[.val (.int i)] [(.int (1 : Int32)), (.int i)])) (fun tq_ kq_ => XS.iconst X0.here hx rfl (hb hby d1_9) kq_) ?_
    rcases Classical.em (i = (1 : Int32)) with hc10 | hc10
    · refine own_G.step (g' := (mkF m 13 #[.val (.int i)] [])) (fun tq_ kq_ => XS.icmpNo X0.here hx rfl (hb hby d1_10) rfl (teq hc10).2 kq_) ?_
      obtain ⟨T2, X2, e2, st2⟩ := getS2 X0 hx hZ hown (host := "") (Or.inl (hw _ (List.mem_of_getElem? (i := 33) rfl))) Via.refl e0 (Sta.ext O0.2 S_WARNING) (g := (mkF m 13 #[.val (.int i)] [])) rfl (hb hby d1_13)
      refine own_G.step (T' := T2) (g' := (mkF m 16 #[.val (.int i)] [(.ref w1)])) st2 ?_
      exact own_ret X2 e2 (v := some (.ref w1)) (fun h => by rw [Bd.returns] at h; cases h) Bd.notSynchronized ⟨(by simp [own_pick, hc1, hc10]), N0, rfl⟩ (by decide) (by decide) (fun fs hr => own_retR X2 hx Bd.returns rfl rfl (hb hby d1_16) hr)
    · refine own_G.step (g' := (mkF m 17 #[.val (.int i)] [])) (fun tq_ kq_ => XS.icmpYes X0.here hx rfl (pc0 := 10) (pc' := 17) rfl (hb hby d1_10) rfl (feq hc10).2 (by decide) (by decide) kq_) ?_
      obtain ⟨T3, X3, e3, st3⟩ := getS2 X0 hx hZ hown (host := "") (Or.inl (hw _ (List.mem_of_getElem? (i := 31) rfl))) Via.refl e0 (Sta.ext O0.2 S_INFO) (g := (mkF m 17 #[.val (.int i)] [])) rfl (hb hby d1_17)
      refine own_G.step (T' := T3) (g' := (mkF m 20 #[.val (.int i)] [(.ref w2)])) st3 ?_
      exact own_ret X3 e3 (v := some (.ref w2)) (fun h => by rw [Bd.returns] at h; cases h) Bd.notSynchronized ⟨(by simp [own_pick, hc1, hc10]), N0, rfl⟩ (by decide) (by decide) (fun fs hr => own_retR X3 hx Bd.returns rfl rfl (hb hby d1_20) hr)
theorem d2_0 : decode method_4_code 0 = .ok (.iload_n 0, 1) := by decide +kernel
theorem d2_1 : decode method_4_code 1 = .ok (.ifCond .ne 5, 3) := by decide +kernel
theorem d2_4 : decode method_4_code 4 = .ok (.iconst 3, 1) := by decide +kernel
theorem d2_5 : decode method_4_code 5 = .ok (.ireturn, 1) := by decide +kernel
theorem d2_6 : decode method_4_code 6 = .ok (.iload_n 0, 1) := by decide +kernel
theorem d2_7 : decode method_4_code 7 = .ok (.iconst 1, 1) := by decide +kernel
theorem d2_8 : decode method_4_code 8 = .ok (.if_icmp .ne 5, 3) := by decide +kernel
theorem d2_11 : decode method_4_code 11 = .ok (.iconst 2, 1) := by decide +kernel
theorem d2_12 : decode method_4_code 12 = .ok (.ireturn, 1) := by decide +kernel
theorem d2_13 : decode method_4_code 13 = .ok (.iconst 1, 1) := by decide +kernel
theorem d2_14 : decode method_4_code 14 = .ok (.ireturn, 1) := by decide +kernel
theorem ef_sev (m : MethodId) (i : Int32) : entryFrame m #[(.int i)] 1 = mkF m 0 #[.val (.int i)] [] := by
  first | (simp [entryFrame, mkF, argsToLocals, Value.category]; done) | rfl
def Q_sev (Z : State) (i : Int32) (h0 : Heap) (n0 : Nat) (v : Option Value) (h : Heap) (L : List Loc) : Prop := v = some (.int (own_sev i)) ∧ Fr n0 L ∧ h = h0
set_option maxRecDepth 65536 in
set_option maxHeartbeats 40000000 in
theorem rm_sev (l : Launch) (Z : State) (a0 : Array Value) (hw : ∀ d ∈ tables_1, d.before a0 Z = true) (ws : List Jvm.Cond) (i : Int32) (h0 : Heap) (n0 : Nat) (O0 : Old Z n0 h0) :
    MetFree l (⟨"com/example/concordant/concordant/rules/LevelIsAtLeastPinLaw", "severity", "(I)I"⟩ : MethodName) (head1 (Jvm.Cond.code (⟨"com/example/concordant/concordant/rules/LevelIsAtLeastPinLaw", "severity", "(I)I"⟩ : MethodName) method_4_code 1 (some .int) :: ws) ({ frames := 0, cells := 0, slots := 0, locals := 0 } : Room)) (fun aq_ Uq_ => aq_ = #[(.int i)] ∧ Z.Warmed39 Uq_.vm ∧ Uq_.heap = h0) (fun _ _ _ _ _ => True) (fun _ Uq_ oq_ Ur_ => ∃ vq_ Lq_, oq_ = .returned vq_ ∧ Q_sev Z i h0 n0 vq_ Ur_.heap Lq_ ∧ FrameEnd Uq_ oq_ Ur_ Lq_ ({ frames := 0, cells := 0, slots := 0, locals := 0 } : Room).cells ({ frames := 0, cells := 0, slots := 0, locals := 0 } : Room).slots) := by
  refine MetFree.of_bodySF (plainFor_of_name pn_com_2fexample_2fconcordant_2fconcordant_2frules_2fLevelIsAtLeastPinLaw) hisR ?_
  intro p e s m args below meth c s₁ Bd hml0 hP hK
  obtain ⟨rfl, hZ, hh⟩ := hP
  have hx := Bd.exec
  have hby := Bd.bytes
  have hml : c.maxLocals = 1 := hml0
  have hown : s.vm.findClass "com/example/concordant/concordant/rules/LevelIsAtLeastPinLaw" = some m.cls := findClass_of_methodNamed Bd.named
  have hnm := (name_of_methodNamed Bd.named Bd.method).1
  have X0 : Stand p l e ({ frames := 0, cells := 0, slots := 0, locals := 0 } : Room) s m #[(.int i)] below meth c s₁ [] 0 0 := Stand.of_body Bd
  have e0 : s₁.heap = h0 := by rw [← hh, Bd.state]; rfl
  have N0 := Fr.nil n0
  have K0 := Keep.refl h0 []
  refine own_G.start (Q := Q_sev Z i h0 n0) (ef_sev m i) ?_
  refine own_G.step (g' := (mkF m 1 #[.val (.int i)] [(.int i)])) (fun tq_ kq_ => XS.iloadN X0.here hx rfl (hb hby d2_0) rfl kq_) ?_
  rcases Classical.em (i = (0 : Int32)) with hc1 | hc1
  · refine own_G.step (g' := (mkF m 4 #[.val (.int i)] [])) (fun tq_ kq_ => XS.ifNo X0.here hx rfl (hb hby d2_1) rfl ((if0 _ _).trans (teq hc1).2) kq_) ?_
    refine own_G.step (g' := (mkF m 5 #[.val (.int i)] [(.int (3 : Int32))])) (fun tq_ kq_ => XS.iconst X0.here hx rfl (hb hby d2_4) kq_) ?_
    exact own_ret X0 e0 (v := some (.int (3 : Int32))) (fun h => by rw [Bd.returns] at h; cases h) Bd.notSynchronized ⟨(by simp [own_sev, hc1]), N0, rfl⟩ (by decide) (by decide) (fun fs hr => retI X0 hx Bd.returns (hb hby d2_5) hr)
  · refine own_G.step (g' := (mkF m 6 #[.val (.int i)] [])) (fun tq_ kq_ => XS.ifYes X0.here hx rfl (pc0 := 1) (pc' := 6) rfl (hb hby d2_1) rfl ((if0 _ _).trans (feq hc1).2) (by decide) (by decide) kq_) ?_
    refine own_G.step (g' := (mkF m 7 #[.val (.int i)] [(.int i)])) (fun tq_ kq_ => XS.iloadN X0.here hx rfl (hb hby d2_6) rfl kq_) ?_
    refine own_G.step (g' := (mkF m 8 #[.val (.int i)] [(.int (1 : Int32)), (.int i)])) (fun tq_ kq_ => XS.iconst X0.here hx rfl (hb hby d2_7) kq_) ?_
    rcases Classical.em (i = (1 : Int32)) with hc8 | hc8
    · refine own_G.step (g' := (mkF m 11 #[.val (.int i)] [])) (fun tq_ kq_ => XS.icmpNo X0.here hx rfl (hb hby d2_8) rfl (teq hc8).2 kq_) ?_
      refine own_G.step (g' := (mkF m 12 #[.val (.int i)] [(.int (2 : Int32))])) (fun tq_ kq_ => XS.iconst X0.here hx rfl (hb hby d2_11) kq_) ?_
      exact own_ret X0 e0 (v := some (.int (2 : Int32))) (fun h => by rw [Bd.returns] at h; cases h) Bd.notSynchronized ⟨(by simp [own_sev, hc1, hc8]), N0, rfl⟩ (by decide) (by decide) (fun fs hr => retI X0 hx Bd.returns (hb hby d2_12) hr)
    · refine own_G.step (g' := (mkF m 13 #[.val (.int i)] [])) (fun tq_ kq_ => XS.icmpYes X0.here hx rfl (pc0 := 8) (pc' := 13) rfl (hb hby d2_8) rfl (feq hc8).2 (by decide) (by decide) kq_) ?_
      refine own_G.step (g' := (mkF m 14 #[.val (.int i)] [(.int (1 : Int32))])) (fun tq_ kq_ => XS.iconst X0.here hx rfl (hb hby d2_13) kq_) ?_
      exact own_ret X0 e0 (v := some (.int (1 : Int32))) (fun h => by rw [Bd.returns] at h; cases h) Bd.notSynchronized ⟨(by simp [own_sev, hc1, hc8]), N0, rfl⟩ (by decide) (by decide) (fun fs hr => retI X0 hx Bd.returns (hb hby d2_14) hr)
theorem d4_0 : decode jdk_37_method_8_code 0 = .ok (.aload_n 1, 1) := by decide +kernel
theorem d4_1 : decode jdk_37_method_8_code 1 = .ok (.astore_n 2, 1) := by decide +kernel
theorem d4_2 : decode jdk_37_method_8_code 2 = .ok (.aload_n 0, 1) := by decide +kernel
theorem d4_3 : decode jdk_37_method_8_code 3 = .ok (.astore_n 3, 1) := by decide +kernel
theorem d4_4 : decode jdk_37_method_8_code 4 = .ok (.aload_n 3, 1) := by decide +kernel
theorem d4_5 : decode jdk_37_method_8_code 5 = .ok (.invokevirtual 29, 3) := by decide +kernel
theorem d4_8 : decode jdk_37_method_8_code 8 = .ok (.aload_n 2, 1) := by decide +kernel
theorem d4_9 : decode jdk_37_method_8_code 9 = .ok (.invokevirtual 29, 3) := by decide +kernel
theorem d4_12 : decode jdk_37_method_8_code 12 = .ok (.if_acmp .eq 22, 3) := by decide +kernel
theorem d4_34 : decode jdk_37_method_8_code 34 = .ok (.aload_n 3, 1) := by decide +kernel
theorem d4_35 : decode jdk_37_method_8_code 35 = .ok (.getfield 7, 3) := by decide +kernel
theorem d4_38 : decode jdk_37_method_8_code 38 = .ok (.aload_n 2, 1) := by decide +kernel
theorem d4_39 : decode jdk_37_method_8_code 39 = .ok (.getfield 7, 3) := by decide +kernel
theorem d4_42 : decode jdk_37_method_8_code 42 = .ok (.isub, 1) := by decide +kernel
theorem d4_43 : decode jdk_37_method_8_code 43 = .ok (.ireturn, 1) := by decide +kernel
theorem pn_java_2flang_2fEnum : plainName "java/lang/Enum" = true := by first | (simp [plainName, overriddenIn]; done) | decide +kernel
theorem ef_cmp (m : MethodId) (a : Addr) (b : Addr) : entryFrame m #[(.ref a), (.ref b)] 4 = mkF m 0 #[.val (.ref a), .val (.ref b), .unset, .unset] [] := by
  first | (simp [entryFrame, mkF, argsToLocals, Value.category]; done) | rfl
def Q_cmp (Z : State) (a : Addr) (b : Addr) (x : Int32) (y : Int32) (mr : Addr) (h0 : Heap) (n0 : Nat) (v : Option Value) (h : Heap) (L : List Loc) : Prop := v = some (.int (x - y)) ∧ Fr n0 L ∧ h = h0
set_option maxRecDepth 65536 in
set_option maxHeartbeats 40000000 in
theorem rm_cmp (l : Launch) (Z : State) (a0 : Array Value) (hw : ∀ d ∈ tables_1, d.before a0 Z = true) (ws : List Jvm.Cond) (a : Addr) (b : Addr) (x : Int32) (y : Int32) (mr : Addr) (h0 : Heap) (n0 : Nat) (O0 : Old Z n0 h0) (Ea : Exa Z Z.heap a "com/example/concordant/concordant/rules/Level") (Eb : Exa Z Z.heap b "com/example/concordant/concordant/rules/Level") (Fa : Fld Z Z.heap a "java/lang/Enum" "ordinal" "I" (.int x)) (Fb : Fld Z Z.heap b "java/lang/Enum" "ordinal" "I" (.int y)) (MR : own_Mir Z "com/example/concordant/concordant/rules/Level" mr) :
    MetFree l (⟨"java/lang/Enum", "compareTo", "(Ljava/lang/Enum;)I"⟩ : MethodName) (head1 (Jvm.Cond.code (⟨"java/lang/Enum", "compareTo", "(Ljava/lang/Enum;)I"⟩ : MethodName) jdk_37_method_8_code 4 (some .int) :: ws) ({ frames := 1, cells := 0, slots := 0, locals := 15 } : Room)) (fun aq_ Uq_ => aq_ = #[(.ref a), (.ref b)] ∧ Z.Warmed39 Uq_.vm ∧ Uq_.heap = h0) (fun _ _ _ _ _ => True) (fun _ Uq_ oq_ Ur_ => ∃ vq_ Lq_, oq_ = .returned vq_ ∧ Q_cmp Z a b x y mr h0 n0 vq_ Ur_.heap Lq_ ∧ FrameEnd Uq_ oq_ Ur_ Lq_ ({ frames := 1, cells := 0, slots := 0, locals := 15 } : Room).cells ({ frames := 1, cells := 0, slots := 0, locals := 15 } : Room).slots) := by
  refine MetFree.of_bodySF (plainFor_of_name pn_java_2flang_2fEnum) hisR ?_
  intro p e s m args below meth c s₁ Bd hml0 hP hK
  obtain ⟨rfl, hZ, hh⟩ := hP
  have hx := Bd.exec
  have hby := Bd.bytes
  have hml : c.maxLocals = 4 := hml0
  have hown : s.vm.findClass "java/lang/Enum" = some m.cls := findClass_of_methodNamed Bd.named
  have hnm := (name_of_methodNamed Bd.named Bd.method).1
  have X0 : Stand p l e ({ frames := 1, cells := 0, slots := 0, locals := 15 } : Room) s m #[(.ref a), (.ref b)] below meth c s₁ [] 0 0 := Stand.of_body Bd
  have e0 : s₁.heap = h0 := by rw [← hh, Bd.state]; rfl
  have N0 := Fr.nil n0
  have K0 := Keep.refl h0 []
  refine own_G.start (Q := Q_cmp Z a b x y mr h0 n0) (ef_cmp m a b) ?_
  refine own_G.step (g' := (mkF m 1 #[.val (.ref a), .val (.ref b), .unset, .unset] [(.ref b)])) (fun tq_ kq_ => XS.aloadN X0.here hx rfl (hb hby d4_0) rfl rfl kq_) ?_
  refine own_G.step (g' := (mkF m 2 #[.val (.ref a), .val (.ref b), .val (.ref b), .unset] [])) (fun tq_ kq_ => XS.astoreN X0.here hx rfl (hb hby d4_1) rfl rfl (l' := #[.val (.ref a), .val (.ref b), .val (.ref b), .unset]) rfl kq_) ?_
  refine own_G.step (g' := (mkF m 3 #[.val (.ref a), .val (.ref b), .val (.ref b), .unset] [(.ref a)])) (fun tq_ kq_ => XS.aloadN X0.here hx rfl (hb hby d4_2) rfl rfl kq_) ?_
  refine own_G.step (g' := (mkF m 4 #[.val (.ref a), .val (.ref b), .val (.ref b), .val (.ref a)] [])) (fun tq_ kq_ => XS.astoreN X0.here hx rfl (hb hby d4_3) rfl rfl (l' := #[.val (.ref a), .val (.ref b), .val (.ref b), .val (.ref a)]) rfl kq_) ?_
  refine own_G.step (g' := (mkF m 5 #[.val (.ref a), .val (.ref b), .val (.ref b), .val (.ref a)] [(.ref a)])) (fun tq_ kq_ => XS.aloadN X0.here hx rfl (hb hby d4_4) rfl rfl kq_) ?_
  obtain ⟨T1, X1, e1, st1⟩ := own_gcls X0 hx hZ hown (hw _ (List.mem_of_getElem? (i := 23) rfl)) (hw _ (List.mem_of_getElem? (i := 24) rfl)) (hw _ (List.mem_of_getElem? (i := 26) rfl)) (hw _ (List.mem_of_getElem? (i := 25) rfl)) (hw _ (List.mem_of_getElem? (i := 27) rfl)) e0 (Exa.ext O0.2 Ea) MR (g := (mkF m 5 #[.val (.ref a), .val (.ref b), .val (.ref b), .val (.ref a)] [(.ref a)])) rfl (by rw [hml]; rfl) rfl (hb hby d4_5) (by decide) (W := 0) (by show 2 * 0 + _ ≤ _; exact Nat.le_of_eq rfl) (by decide)
  refine own_G.step (T' := T1) (g' := (mkF m 8 #[.val (.ref a), .val (.ref b), .val (.ref b), .val (.ref a)] [(.ref mr)])) st1 ?_
  refine own_G.step (g' := (mkF m 9 #[.val (.ref a), .val (.ref b), .val (.ref b), .val (.ref a)] [(.ref b), (.ref mr)])) (fun tq_ kq_ => XS.aloadN X1.here hx rfl (hb hby d4_8) rfl rfl kq_) ?_
  obtain ⟨T2, X2, e2, st2⟩ := own_gcls X1 hx hZ hown (hw _ (List.mem_of_getElem? (i := 23) rfl)) (hw _ (List.mem_of_getElem? (i := 24) rfl)) (hw _ (List.mem_of_getElem? (i := 26) rfl)) (hw _ (List.mem_of_getElem? (i := 25) rfl)) (hw _ (List.mem_of_getElem? (i := 27) rfl)) e1 (Exa.ext O0.2 Eb) MR (g := (mkF m 9 #[.val (.ref a), .val (.ref b), .val (.ref b), .val (.ref a)] [(.ref b), (.ref mr)])) rfl (by rw [hml]; rfl) rfl (hb hby d4_9) (by decide) (W := 1) (by show 2 * 0 + _ ≤ _; exact Nat.le_of_eq rfl) (by decide)
  refine own_G.step (T' := T2) (g' := (mkF m 12 #[.val (.ref a), .val (.ref b), .val (.ref b), .val (.ref a)] [(.ref mr), (.ref mr)])) st2 ?_
  refine own_G.step (g' := (mkF m 34 #[.val (.ref a), .val (.ref b), .val (.ref b), .val (.ref a)] [])) (fun tq_ kq_ => Jvm.RoadKit.acmp (g := (mkF m 12 #[.val (.ref a), .val (.ref b), .val (.ref b), .val (.ref a)] [(.ref mr), (.ref mr)])) X2 hx rfl rfl rfl (pc0 := 12) (pc' := 34) (same := true) rfl (hb hby d4_12) rfl (decide_eq_true rfl) (by decide) (by decide) kq_) ?_
  refine own_G.step (g' := (mkF m 35 #[.val (.ref a), .val (.ref b), .val (.ref b), .val (.ref a)] [(.ref a)])) (fun tq_ kq_ => XS.aloadN X2.here hx rfl (hb hby d4_34) rfl rfl kq_) ?_
  obtain ⟨T3, X3, e3, st3⟩ := getF X2 hx hZ hown (host := "") (Or.inl (hw _ (List.mem_of_getElem? (i := 29) rfl))) Via.refl e2 (Fld.ext O0.2 Fa) (g := (mkF m 35 #[.val (.ref a), .val (.ref b), .val (.ref b), .val (.ref a)] [(.ref a)])) rfl rfl (hb hby d4_35)
  refine own_G.step (T' := T3) (g' := (mkF m 38 #[.val (.ref a), .val (.ref b), .val (.ref b), .val (.ref a)] [(.int x)])) st3 ?_
  refine own_G.step (g' := (mkF m 39 #[.val (.ref a), .val (.ref b), .val (.ref b), .val (.ref a)] [(.ref b), (.int x)])) (fun tq_ kq_ => XS.aloadN X3.here hx rfl (hb hby d4_38) rfl rfl kq_) ?_
  obtain ⟨T4, X4, e4, st4⟩ := getF X3 hx hZ hown (host := "") (Or.inl (hw _ (List.mem_of_getElem? (i := 29) rfl))) Via.refl e3 (Fld.ext O0.2 Fb) (g := (mkF m 39 #[.val (.ref a), .val (.ref b), .val (.ref b), .val (.ref a)] [(.ref b), (.int x)])) rfl rfl (hb hby d4_39)
  refine own_G.step (T' := T4) (g' := (mkF m 42 #[.val (.ref a), .val (.ref b), .val (.ref b), .val (.ref a)] [(.int y), (.int x)])) st4 ?_
  refine own_G.step (g' := (mkF m 43 #[.val (.ref a), .val (.ref b), .val (.ref b), .val (.ref a)] [(.int (x - y))])) (fun tq_ kq_ => XS.isub X4.here hx rfl (hb hby d4_42) rfl kq_) ?_
  exact own_ret X4 e4 (v := some (.int (x - y))) (fun h => by rw [Bd.returns] at h; cases h) Bd.notSynchronized ⟨rfl, N0, rfl⟩ (by decide) (by decide) (fun fs hr => retI X4 hx Bd.returns (hb hby d4_43) hr)
theorem pd__28Ljava_2flang_2fEnum_3b_29I : parseMethodDescriptor "(Ljava/lang/Enum;)I" = some ⟨[(.object "java/lang/Enum")], some .int⟩ := by decide +kernel
theorem d3_0 : decode prog_25_method_4_code 0 = .ok (.aload_n 0, 1) := by decide +kernel
theorem d3_1 : decode prog_25_method_4_code 1 = .ok (.aload_n 1, 1) := by decide +kernel
theorem d3_2 : decode prog_25_method_4_code 2 = .ok (.invokevirtual 32, 3) := by decide +kernel
theorem d3_5 : decode prog_25_method_4_code 5 = .ok (.ifCond .gt 7, 3) := by decide +kernel
theorem d3_8 : decode prog_25_method_4_code 8 = .ok (.iconst 1, 1) := by decide +kernel
theorem d3_9 : decode prog_25_method_4_code 9 = .ok (.goto 4, 3) := by decide +kernel
theorem d3_12 : decode prog_25_method_4_code 12 = .ok (.iconst 0, 1) := by decide +kernel
theorem d3_13 : decode prog_25_method_4_code 13 = .ok (.ireturn, 1) := by decide +kernel
theorem pn_com_2fexample_2fconcordant_2fconcordant_2frules_2fLevel : plainName "com/example/concordant/concordant/rules/Level" = true := by first | (simp [plainName, overriddenIn]; done) | decide +kernel
theorem ef_atl (m : MethodId) (a : Addr) (b : Addr) : entryFrame m #[(.ref a), (.ref b)] 2 = mkF m 0 #[.val (.ref a), .val (.ref b)] [] := by
  first | (simp [entryFrame, mkF, argsToLocals, Value.category]; done) | rfl
def Q_atl (Z : State) (a : Addr) (b : Addr) (x : Int32) (y : Int32) (mr : Addr) (h0 : Heap) (n0 : Nat) (v : Option Value) (h : Heap) (L : List Loc) : Prop := v = some (.int (own_atl x y)) ∧ Fr n0 L ∧ h = h0
set_option maxRecDepth 65536 in
set_option maxHeartbeats 40000000 in
theorem rm_atl (l : Launch) (Z : State) (a0 : Array Value) (hw : ∀ d ∈ tables_1, d.before a0 Z = true) (ws : List Jvm.Cond) (a : Addr) (b : Addr) (x : Int32) (y : Int32) (mr : Addr) (h0 : Heap) (n0 : Nat) (O0 : Old Z n0 h0) (Ea : Exa Z Z.heap a "com/example/concordant/concordant/rules/Level") (Eb : Exa Z Z.heap b "com/example/concordant/concordant/rules/Level") (Fa : Fld Z Z.heap a "java/lang/Enum" "ordinal" "I" (.int x)) (Fb : Fld Z Z.heap b "java/lang/Enum" "ordinal" "I" (.int y)) (MR : own_Mir Z "com/example/concordant/concordant/rules/Level" mr) :
    MetFree l (⟨"com/example/concordant/concordant/rules/Level", "isAtLeast", "(Lcom/example/concordant/concordant/rules/Level;)Z"⟩ : MethodName) (head1 (Jvm.Cond.code (⟨"com/example/concordant/concordant/rules/Level", "isAtLeast", "(Lcom/example/concordant/concordant/rules/Level;)Z"⟩ : MethodName) prog_25_method_4_code 2 (some .boolean) :: ws) ({ frames := 2, cells := 0, slots := 0, locals := 30 } : Room)) (fun aq_ Uq_ => aq_ = #[(.ref a), (.ref b)] ∧ Z.Warmed39 Uq_.vm ∧ Uq_.heap = h0) (fun _ _ _ _ _ => True) (fun _ Uq_ oq_ Ur_ => ∃ vq_ Lq_, oq_ = .returned vq_ ∧ Q_atl Z a b x y mr h0 n0 vq_ Ur_.heap Lq_ ∧ FrameEnd Uq_ oq_ Ur_ Lq_ ({ frames := 2, cells := 0, slots := 0, locals := 30 } : Room).cells ({ frames := 2, cells := 0, slots := 0, locals := 30 } : Room).slots) := by
  refine MetFree.of_bodySF (plainFor_of_name pn_com_2fexample_2fconcordant_2fconcordant_2frules_2fLevel) hisR ?_
  intro p e s m args below meth c s₁ Bd hml0 hP hK
  obtain ⟨rfl, hZ, hh⟩ := hP
  have hx := Bd.exec
  have hby := Bd.bytes
  have hml : c.maxLocals = 2 := hml0
  have hown : s.vm.findClass "com/example/concordant/concordant/rules/Level" = some m.cls := findClass_of_methodNamed Bd.named
  have hnm := (name_of_methodNamed Bd.named Bd.method).1
  have X0 : Stand p l e ({ frames := 2, cells := 0, slots := 0, locals := 30 } : Room) s m #[(.ref a), (.ref b)] below meth c s₁ [] 0 0 := Stand.of_body Bd
  have e0 : s₁.heap = h0 := by rw [← hh, Bd.state]; rfl
  have N0 := Fr.nil n0
  have K0 := Keep.refl h0 []
  refine own_G.start (Q := Q_atl Z a b x y mr h0 n0) (ef_atl m a b) ?_
  refine own_G.step (g' := (mkF m 1 #[.val (.ref a), .val (.ref b)] [(.ref a)])) (fun tq_ kq_ => XS.aloadN X0.here hx rfl (hb hby d3_0) rfl rfl kq_) ?_
  refine own_G.step (g' := (mkF m 2 #[.val (.ref a), .val (.ref b)] [(.ref b), (.ref a)])) (fun tq_ kq_ => XS.aloadN X0.here hx rfl (hb hby d3_1) rfl rfl kq_) ?_
  obtain ⟨cq1, kq1, q1a, q1b, q1c⟩ := isOf hZ e0 (Exa.ext O0.2 Ea)
  obtain ⟨_, _, ⟨T1, L1, k1, n1⟩, -, X1, ⟨Lc1, hQ1, l1, y1, z1⟩, st1⟩ := X0.virtualBackUp hx (x := (⟨"com/example/concordant/concordant/rules/Level", "compareTo", "(Ljava/lang/Enum;)I"⟩ : MethodName)) (y := (⟨"java/lang/Enum", "compareTo", "(Ljava/lang/Enum;)I"⟩ : MethodName)) (owner := "java/lang/Enum") hown (mvT hZ (hw _ (List.mem_of_getElem? (i := 16) rfl))) (mvT hZ (hw _ (List.mem_of_getElem? (i := 17) rfl))) (mvT hZ (hw _ (List.mem_of_getElem? (i := 18) rfl))) (by decide) (mvT hZ (hw _ (List.mem_of_getElem? (i := 20) rfl))) (mvT hZ (hw _ (List.mem_of_getElem? (i := 19) rfl))) (backOf (W := 0) (rm_cmp l Z a0 hw [] a b x y mr h0 n0 O0 Ea Eb Fa Fb MR) hZ (hw _ (List.mem_of_getElem? (i := 22) rfl)) (hw _ (List.mem_of_getElem? (i := 21) rfl)) (by decide) (by decide)) q1a q1c (g := (mkF m 2 #[.val (.ref a), .val (.ref b)] [(.ref b), (.ref a)])) rfl (by rw [hml]; rfl) (Steps.refl _) (argsL := [(.ref b)]) (rest := []) (lenOf pd__28Ljava_2flang_2fEnum_3b_29I rfl) rfl (by show 2 * 0 + _ ≤ _; exact Nat.le_of_eq rfl) (hb hby d3_2) (fun _ _ => ⟨rfl, e0, (by decide : 0 + 0 ≤ _), (by decide : 0 + 0 ≤ _)⟩)
  dsimp only [Pt.U, Pt.locs, Pt.cells, Pt.slots] at X1 l1 y1 z1 st1 hQ1
  subst l1 y1 z1
  obtain ⟨rfl, Nq1, P2⟩ := hQ1
  have N1 := Fr.app N0 Nq1
  refine own_G.step (T' := T1) (g' := (mkF m 5 #[.val (.ref a), .val (.ref b)] [(.int (x - y))])) (fun tq_ kq_ => st1.trans kq_) ?_
  rcases Classical.em ((0 : Int32) < (x - y)) with hc5 | hc5
  · refine own_G.step (g' := (mkF m 12 #[.val (.ref a), .val (.ref b)] [])) (fun tq_ kq_ => XS.ifYes X1.here hx rfl (pc0 := 5) (pc' := 12) rfl (hb hby d3_5) rfl ((if0 _ _).trans (tlt hc5).2.2.1) (by decide) (by decide) kq_) ?_
    refine own_G.step (g' := (mkF m 13 #[.val (.ref a), .val (.ref b)] [(.int (0 : Int32))])) (fun tq_ kq_ => XS.iconst X1.here hx rfl (hb hby d3_12) kq_) ?_
    exact own_ret X1 P2 (v := some (.int (0 : Int32))) (fun h => by rw [Bd.returns] at h; cases h) Bd.notSynchronized ⟨(by simp [own_atl, hc5]), N1, rfl⟩ (by decide) (by decide) (fun fs hr => retN X1 hx (t := .boolean) Bd.returns (by simp) (hb hby d3_13) hr)
  · refine own_G.step (g' := (mkF m 8 #[.val (.ref a), .val (.ref b)] [])) (fun tq_ kq_ => XS.ifNo X1.here hx rfl (hb hby d3_5) rfl ((if0 _ _).trans (flt hc5).2.2.1) kq_) ?_
    refine own_G.step (g' := (mkF m 9 #[.val (.ref a), .val (.ref b)] [(.int (1 : Int32))])) (fun tq_ kq_ => XS.iconst X1.here hx rfl (hb hby d3_8) kq_) ?_
    refine own_G.step (g' := (mkF m 13 #[.val (.ref a), .val (.ref b)] [(.int (1 : Int32))])) (fun tq_ kq_ => XS.goto X1.here hx rfl (pc0 := 9) (pc' := 13) rfl (hb hby d3_9) (by decide) (by decide) kq_) ?_
    exact own_ret X1 P2 (v := some (.int (1 : Int32))) (fun h => by rw [Bd.returns] at h; cases h) Bd.notSynchronized ⟨(by simp [own_atl, hc5]), N1, rfl⟩ (by decide) (by decide) (fun fs hr => retN X1 hx (t := .boolean) Bd.returns (by simp) (hb hby d3_13) hr)
theorem pd__28I_29Lcom_2fexample_2fconcordant_2fconcordant_2frules_2fLevel_3b : parseMethodDescriptor "(I)Lcom/example/concordant/concordant/rules/Level;" = some ⟨[.int], some (.object "com/example/concordant/concordant/rules/Level")⟩ := by decide +kernel
theorem pd__28I_29I : parseMethodDescriptor "(I)I" = some ⟨[.int], some .int⟩ := by decide +kernel
theorem pd__28Lcom_2fexample_2fconcordant_2fconcordant_2frules_2fLevel_3b_29Z : parseMethodDescriptor "(Lcom/example/concordant/concordant/rules/Level;)Z" = some ⟨[(.object "com/example/concordant/concordant/rules/Level")], some .boolean⟩ := by decide +kernel
theorem ef_law (m : MethodId) (i0 : Int32) (i1 : Int32) : entryFrame m #[(.int i0), (.int i1)] maxLocals = mkF m 0 #[.val (.int i0), .val (.int i1), .unset, .unset, .unset, .unset, .unset] [] := by
  first | (simp [entryFrame, mkF, argsToLocals, Value.category, maxLocals]; done) | rfl
def Q_law (Z : State) (i0 : Int32) (i1 : Int32) (w0 : Addr) (w1 : Addr) (w2 : Addr) (mr : Addr) (h0 : Heap) (n0 : Nat) (v : Option Value) (h : Heap) (L : List Loc) : Prop := v = some (.int 1) ∧ Fr n0 L
set_option maxRecDepth 65536 in
set_option maxHeartbeats 40000000 in
theorem rm_law (l : Launch) (Z : State) (a0 : Array Value) (hw : ∀ d ∈ tables_1, d.before a0 Z = true) (ws : List Jvm.Cond) (i0 : Int32) (i1 : Int32) (w0 : Addr) (w1 : Addr) (w2 : Addr) (mr : Addr) (h0 : Heap) (n0 : Nat) (O0 : Old Z n0 h0) (S_ERROR : Sta Z Z.heap "com/example/concordant/concordant/rules/Level" "ERROR" "Lcom/example/concordant/concordant/rules/Level;" (.ref w0)) (S_WARNING : Sta Z Z.heap "com/example/concordant/concordant/rules/Level" "WARNING" "Lcom/example/concordant/concordant/rules/Level;" (.ref w1)) (S_INFO : Sta Z Z.heap "com/example/concordant/concordant/rules/Level" "INFO" "Lcom/example/concordant/concordant/rules/Level;" (.ref w2)) (E_ERROR : Exa Z Z.heap w0 "com/example/concordant/concordant/rules/Level") (E_WARNING : Exa Z Z.heap w1 "com/example/concordant/concordant/rules/Level") (E_INFO : Exa Z Z.heap w2 "com/example/concordant/concordant/rules/Level") (F_ERROR_ordinal : Fld Z Z.heap w0 "java/lang/Enum" "ordinal" "I" (.int (0 : Int32))) (F_WARNING_ordinal : Fld Z Z.heap w1 "java/lang/Enum" "ordinal" "I" (.int (1 : Int32))) (F_INFO_ordinal : Fld Z Z.heap w2 "java/lang/Enum" "ordinal" "I" (.int (2 : Int32))) (MR : own_Mir Z "com/example/concordant/concordant/rules/Level" mr) :
    MetFree l x (head1 (Jvm.Cond.code x code maxLocals ret :: ws) room_1) (fun aq_ Uq_ => aq_ = #[(.int i0), (.int i1)] ∧ Z.Warmed39 Uq_.vm ∧ Uq_.heap = h0) (fun _ _ _ _ _ => True) (fun _ Uq_ oq_ Ur_ => ∃ vq_ Lq_, oq_ = .returned vq_ ∧ Q_law Z i0 i1 w0 w1 w2 mr h0 n0 vq_ Ur_.heap Lq_ ∧ FrameEnd Uq_ oq_ Ur_ Lq_ 0 0) := by
  refine MetFree.of_bodySF (plainFor_of_name pn_com_2fexample_2fconcordant_2fconcordant_2frules_2fLevelIsAtLeastPinLaw) hisR ?_
  intro p e s m args below meth c s₁ Bd hml0 hP hK
  obtain ⟨rfl, hZ, hh⟩ := hP
  have hx := Bd.exec
  have hby := Bd.bytes
  have hml : c.maxLocals = 7 := hml0
  have hown : s.vm.findClass "com/example/concordant/concordant/rules/LevelIsAtLeastPinLaw" = some m.cls := findClass_of_methodNamed Bd.named
  have hnm := (name_of_methodNamed Bd.named Bd.method).1
  have X0 : Stand p l e room_1 s m #[(.int i0), (.int i1)] below meth c s₁ [] 0 0 := Stand.of_body Bd
  have e0 : s₁.heap = h0 := by rw [← hh, Bd.state]; rfl
  have N0 := Fr.nil n0
  have K0 := Keep.refl h0 []
  refine own_G.start (Q := Q_law Z i0 i1 w0 w1 w2 mr h0 n0) (ef_law m i0 i1) ?_
  refine own_G.step (g' := (mkF m 1 #[.val (.int i0), .val (.int i1), .unset, .unset, .unset, .unset, .unset] [(.int i0)])) (fun tq_ kq_ => XS.iloadN X0.here hx rfl (hb hby at_0) rfl kq_) ?_
  refine own_G.step (g' := (mkF m 3 #[.val (.int i0), .val (.int i1), .unset, .unset, .unset, .unset, .unset] [(.int (2147483647 : Int32)), (.int i0)])) (fun tq_ kq_ => X0.ldcInt hx hown (mvT hZ (hw _ (List.mem_of_getElem? (i := 0) rfl))) (g := (mkF m 1 #[.val (.int i0), .val (.int i1), .unset, .unset, .unset, .unset, .unset] [(.int i0)])) rfl (hb hby at_1) _ kq_) ?_
  refine own_G.step (g' := (mkF m 4 #[.val (.int i0), .val (.int i1), .unset, .unset, .unset, .unset, .unset] [(.int (i0 &&& (2147483647 : Int32)))])) (fun tq_ kq_ => XS.iand X0.here hx rfl (hb hby at_3) rfl kq_) ?_
  refine own_G.step (g' := (mkF m 5 #[.val (.int i0), .val (.int i1), .unset, .unset, .unset, .unset, .unset] [(.int (3 : Int32)), (.int (i0 &&& (2147483647 : Int32)))])) (fun tq_ kq_ => XS.iconst X0.here hx rfl (hb hby at_4) kq_) ?_
  refine own_G.step (g' := (mkF m 6 #[.val (.int i0), .val (.int i1), .unset, .unset, .unset, .unset, .unset] [(.int ((i0 &&& (2147483647 : Int32)) % (3 : Int32)))])) (fun tq_ kq_ => iremM (g := (mkF m 5 #[.val (.int i0), .val (.int i1), .unset, .unset, .unset, .unset, .unset] [(.int (3 : Int32)), (.int (i0 &&& (2147483647 : Int32)))])) X0 hx rfl (hb hby at_5) rfl (by decide) kq_) ?_
  refine own_G.step (g' := (mkF m 7 #[.val (.int i0), .val (.int i1), .val (.int ((i0 &&& (2147483647 : Int32)) % (3 : Int32))), .unset, .unset, .unset, .unset] [])) (fun tq_ kq_ => XS.istoreN X0.here hx rfl (hb hby at_6) rfl (l' := #[.val (.int i0), .val (.int i1), .val (.int ((i0 &&& (2147483647 : Int32)) % (3 : Int32))), .unset, .unset, .unset, .unset]) rfl kq_) ?_
  refine own_G.step (g' := (mkF m 8 #[.val (.int i0), .val (.int i1), .val (.int ((i0 &&& (2147483647 : Int32)) % (3 : Int32))), .unset, .unset, .unset, .unset] [(.int i1)])) (fun tq_ kq_ => XS.iloadN X0.here hx rfl (hb hby at_7) rfl kq_) ?_
  refine own_G.step (g' := (mkF m 10 #[.val (.int i0), .val (.int i1), .val (.int ((i0 &&& (2147483647 : Int32)) % (3 : Int32))), .unset, .unset, .unset, .unset] [(.int (2147483647 : Int32)), (.int i1)])) (fun tq_ kq_ => X0.ldcInt hx hown (mvT hZ (hw _ (List.mem_of_getElem? (i := 0) rfl))) (g := (mkF m 8 #[.val (.int i0), .val (.int i1), .val (.int ((i0 &&& (2147483647 : Int32)) % (3 : Int32))), .unset, .unset, .unset, .unset] [(.int i1)])) rfl (hb hby at_8) _ kq_) ?_
  refine own_G.step (g' := (mkF m 11 #[.val (.int i0), .val (.int i1), .val (.int ((i0 &&& (2147483647 : Int32)) % (3 : Int32))), .unset, .unset, .unset, .unset] [(.int (i1 &&& (2147483647 : Int32)))])) (fun tq_ kq_ => XS.iand X0.here hx rfl (hb hby at_10) rfl kq_) ?_
  refine own_G.step (g' := (mkF m 12 #[.val (.int i0), .val (.int i1), .val (.int ((i0 &&& (2147483647 : Int32)) % (3 : Int32))), .unset, .unset, .unset, .unset] [(.int (3 : Int32)), (.int (i1 &&& (2147483647 : Int32)))])) (fun tq_ kq_ => XS.iconst X0.here hx rfl (hb hby at_11) kq_) ?_
  refine own_G.step (g' := (mkF m 13 #[.val (.int i0), .val (.int i1), .val (.int ((i0 &&& (2147483647 : Int32)) % (3 : Int32))), .unset, .unset, .unset, .unset] [(.int ((i1 &&& (2147483647 : Int32)) % (3 : Int32)))])) (fun tq_ kq_ => iremM (g := (mkF m 12 #[.val (.int i0), .val (.int i1), .val (.int ((i0 &&& (2147483647 : Int32)) % (3 : Int32))), .unset, .unset, .unset, .unset] [(.int (3 : Int32)), (.int (i1 &&& (2147483647 : Int32)))])) X0 hx rfl (hb hby at_12) rfl (by decide) kq_) ?_
  refine own_G.step (g' := (mkF m 14 #[.val (.int i0), .val (.int i1), .val (.int ((i0 &&& (2147483647 : Int32)) % (3 : Int32))), .val (.int ((i1 &&& (2147483647 : Int32)) % (3 : Int32))), .unset, .unset, .unset] [])) (fun tq_ kq_ => XS.istoreN X0.here hx rfl (hb hby at_13) rfl (l' := #[.val (.int i0), .val (.int i1), .val (.int ((i0 &&& (2147483647 : Int32)) % (3 : Int32))), .val (.int ((i1 &&& (2147483647 : Int32)) % (3 : Int32))), .unset, .unset, .unset]) rfl kq_) ?_
  obtain ⟨i, hi⟩ : ∃ z, z = ((i0 &&& (2147483647 : Int32)) % (3 : Int32)) := ⟨_, rfl⟩
  refine own_G.cast (g' := (mkF m 14 #[.val (.int i0), .val (.int i1), .val (.int i), .val (.int ((i1 &&& (2147483647 : Int32)) % (3 : Int32))), .unset, .unset, .unset] [])) (by rw [hi]) ?_
  obtain ⟨j, hj⟩ : ∃ z, z = ((i1 &&& (2147483647 : Int32)) % (3 : Int32)) := ⟨_, rfl⟩
  refine own_G.cast (g' := (mkF m 14 #[.val (.int i0), .val (.int i1), .val (.int i), .val (.int j), .unset, .unset, .unset] [])) (by rw [hj]) ?_
  have hti := own_three i0
  rw [← hi] at hti
  have htj := own_three i1
  rw [← hj] at htj
  rcases hti with rfl | rfl | rfl
  · rcases htj with rfl | rfl | rfl
    · refine own_G.step (g' := (mkF m 15 #[.val (.int i0), .val (.int i1), .val (.int (0 : Int32)), .val (.int (0 : Int32)), .unset, .unset, .unset] [(.int (0 : Int32))])) (fun tq_ kq_ => XS.iloadN X0.here hx rfl (hb hby at_14) rfl kq_) ?_
      obtain ⟨_, _, ⟨T1, L1, k1, n1⟩, -, X1, ⟨Lc1, hQ1, l1, y1, z1⟩, st1⟩ := Jvm.LawKit.callS X0 hx (y := (⟨"com/example/concordant/concordant/rules/LevelIsAtLeastPinLaw", "pick", "(I)Lcom/example/concordant/concordant/rules/Level;"⟩ : MethodName)) hown (mvT hZ (hw _ (List.mem_of_getElem? (i := 1) rfl))) (mvT hZ (hw _ (List.mem_of_getElem? (i := 2) rfl))) (mvT hZ (hw _ (List.mem_of_getElem? (i := 3) rfl))) (mvT hZ (hw _ (List.mem_of_getElem? (i := 4) rfl))) (by decide) (backOf (W := 0) (rm_pick l Z a0 hw [] (0 : Int32) w0 w1 w2 h0 n0 O0 S_ERROR S_WARNING S_INFO) hZ (hw _ (List.mem_of_getElem? (i := 4) rfl)) (hw _ (List.mem_of_getElem? (i := 3) rfl)) (by decide) (by decide)) (g := (mkF m 15 #[.val (.int i0), .val (.int i1), .val (.int (0 : Int32)), .val (.int (0 : Int32)), .unset, .unset, .unset] [(.int (0 : Int32))])) rfl (by rw [hml]; rfl) (argsL := [(.int (0 : Int32))]) (rest := []) (lenOf pd__28I_29Lcom_2fexample_2fconcordant_2fconcordant_2frules_2fLevel_3b rfl) rfl (by show 2 * 0 + _ ≤ _; exact Nat.le_of_eq rfl) (hb hby at_15) (fun _ _ => ⟨rfl, e0, (by decide : 0 + 0 ≤ _), (by decide : 0 + 0 ≤ _)⟩)
      dsimp only [Pt.U, Pt.locs, Pt.cells, Pt.slots] at X1 l1 y1 z1 st1 hQ1
      subst l1 y1 z1
      obtain ⟨rfl, Nq1, P2⟩ := hQ1
      have N1 := Fr.app N0 Nq1
      refine own_G.step (T' := T1) (g' := (mkF m 18 #[.val (.int i0), .val (.int i1), .val (.int (0 : Int32)), .val (.int (0 : Int32)), .unset, .unset, .unset] [(.ref (own_pick (0 : Int32) w0 w1 w2))])) (fun tq_ kq_ => st1 _ kq_) ?_
      have hp3 : own_pick (0 : Int32) w0 w1 w2 = w0 := by simp [own_pick, own_sev]
      refine own_G.cast (g' := (mkF m 18 #[.val (.int i0), .val (.int i1), .val (.int (0 : Int32)), .val (.int (0 : Int32)), .unset, .unset, .unset] [(.ref w0)])) (by rw [hp3]) ?_
      refine own_G.step (g' := (mkF m 20 #[.val (.int i0), .val (.int i1), .val (.int (0 : Int32)), .val (.int (0 : Int32)), .val (.ref w0), .unset, .unset] [])) (fun tq_ kq_ => XS.astore X1.here hx rfl (hb hby at_18) rfl rfl (l' := #[.val (.int i0), .val (.int i1), .val (.int (0 : Int32)), .val (.int (0 : Int32)), .val (.ref w0), .unset, .unset]) rfl kq_) ?_
      refine own_G.step (g' := (mkF m 21 #[.val (.int i0), .val (.int i1), .val (.int (0 : Int32)), .val (.int (0 : Int32)), .val (.ref w0), .unset, .unset] [(.int (0 : Int32))])) (fun tq_ kq_ => XS.iloadN X1.here hx rfl (hb hby at_20) rfl kq_) ?_
      obtain ⟨_, _, ⟨T4, L4, k4, n4⟩, -, X4, ⟨Lc4, hQ4, l4, y4, z4⟩, st4⟩ := Jvm.LawKit.callS X1 hx (y := (⟨"com/example/concordant/concordant/rules/LevelIsAtLeastPinLaw", "pick", "(I)Lcom/example/concordant/concordant/rules/Level;"⟩ : MethodName)) hown (mvT hZ (hw _ (List.mem_of_getElem? (i := 1) rfl))) (mvT hZ (hw _ (List.mem_of_getElem? (i := 2) rfl))) (mvT hZ (hw _ (List.mem_of_getElem? (i := 3) rfl))) (mvT hZ (hw _ (List.mem_of_getElem? (i := 4) rfl))) (by decide) (backOf (W := 0) (rm_pick l Z a0 hw [] (0 : Int32) w0 w1 w2 h0 n0 O0 S_ERROR S_WARNING S_INFO) hZ (hw _ (List.mem_of_getElem? (i := 4) rfl)) (hw _ (List.mem_of_getElem? (i := 3) rfl)) (by decide) (by decide)) (g := (mkF m 21 #[.val (.int i0), .val (.int i1), .val (.int (0 : Int32)), .val (.int (0 : Int32)), .val (.ref w0), .unset, .unset] [(.int (0 : Int32))])) rfl (by rw [hml]; rfl) (argsL := [(.int (0 : Int32))]) (rest := []) (lenOf pd__28I_29Lcom_2fexample_2fconcordant_2fconcordant_2frules_2fLevel_3b rfl) rfl (by show 2 * 0 + _ ≤ _; exact Nat.le_of_eq rfl) (hb hby at_21) (fun _ _ => ⟨rfl, P2, (by decide : 0 + 0 ≤ _), (by decide : 0 + 0 ≤ _)⟩)
      dsimp only [Pt.U, Pt.locs, Pt.cells, Pt.slots] at X4 l4 y4 z4 st4 hQ4
      subst l4 y4 z4
      obtain ⟨rfl, Nq4, P5⟩ := hQ4
      have N4 := Fr.app N1 Nq4
      refine own_G.step (T' := T4) (g' := (mkF m 24 #[.val (.int i0), .val (.int i1), .val (.int (0 : Int32)), .val (.int (0 : Int32)), .val (.ref w0), .unset, .unset] [(.ref (own_pick (0 : Int32) w0 w1 w2))])) (fun tq_ kq_ => st4 _ kq_) ?_
      have hp6 : own_pick (0 : Int32) w0 w1 w2 = w0 := by simp [own_pick, own_sev]
      refine own_G.cast (g' := (mkF m 24 #[.val (.int i0), .val (.int i1), .val (.int (0 : Int32)), .val (.int (0 : Int32)), .val (.ref w0), .unset, .unset] [(.ref w0)])) (by rw [hp6]) ?_
      refine own_G.step (g' := (mkF m 26 #[.val (.int i0), .val (.int i1), .val (.int (0 : Int32)), .val (.int (0 : Int32)), .val (.ref w0), .val (.ref w0), .unset] [])) (fun tq_ kq_ => XS.astore X4.here hx rfl (hb hby at_24) rfl rfl (l' := #[.val (.int i0), .val (.int i1), .val (.int (0 : Int32)), .val (.int (0 : Int32)), .val (.ref w0), .val (.ref w0), .unset]) rfl kq_) ?_
      refine own_G.step (g' := (mkF m 27 #[.val (.int i0), .val (.int i1), .val (.int (0 : Int32)), .val (.int (0 : Int32)), .val (.ref w0), .val (.ref w0), .unset] [(.int (0 : Int32))])) (fun tq_ kq_ => XS.iloadN X4.here hx rfl (hb hby at_26) rfl kq_) ?_
      obtain ⟨_, _, ⟨T7, L7, k7, n7⟩, -, X7, ⟨Lc7, hQ7, l7, y7, z7⟩, st7⟩ := Jvm.LawKit.callS X4 hx (y := (⟨"com/example/concordant/concordant/rules/LevelIsAtLeastPinLaw", "severity", "(I)I"⟩ : MethodName)) hown (mvT hZ (hw _ (List.mem_of_getElem? (i := 8) rfl))) (mvT hZ (hw _ (List.mem_of_getElem? (i := 9) rfl))) (mvT hZ (hw _ (List.mem_of_getElem? (i := 3) rfl))) (mvT hZ (hw _ (List.mem_of_getElem? (i := 10) rfl))) (by decide) (backOf (W := 0) (rm_sev l Z a0 hw [] (0 : Int32) h0 n0 O0 ) hZ (hw _ (List.mem_of_getElem? (i := 10) rfl)) (hw _ (List.mem_of_getElem? (i := 3) rfl)) (by decide) (by decide)) (g := (mkF m 27 #[.val (.int i0), .val (.int i1), .val (.int (0 : Int32)), .val (.int (0 : Int32)), .val (.ref w0), .val (.ref w0), .unset] [(.int (0 : Int32))])) rfl (by rw [hml]; rfl) (argsL := [(.int (0 : Int32))]) (rest := []) (lenOf pd__28I_29I rfl) rfl (by show 2 * 0 + _ ≤ _; exact Nat.le_of_eq rfl) (hb hby at_27) (fun _ _ => ⟨rfl, P5, (by decide : 0 + 0 ≤ _), (by decide : 0 + 0 ≤ _)⟩)
      dsimp only [Pt.U, Pt.locs, Pt.cells, Pt.slots] at X7 l7 y7 z7 st7 hQ7
      subst l7 y7 z7
      obtain ⟨rfl, Nq7, P8⟩ := hQ7
      have N7 := Fr.app N4 Nq7
      refine own_G.step (T' := T7) (g' := (mkF m 30 #[.val (.int i0), .val (.int i1), .val (.int (0 : Int32)), .val (.int (0 : Int32)), .val (.ref w0), .val (.ref w0), .unset] [(.int (own_sev (0 : Int32)))])) (fun tq_ kq_ => st7 _ kq_) ?_
      have hp9 : own_sev (0 : Int32) = (3 : Int32) := by simp [own_pick, own_sev]
      refine own_G.cast (g' := (mkF m 30 #[.val (.int i0), .val (.int i1), .val (.int (0 : Int32)), .val (.int (0 : Int32)), .val (.ref w0), .val (.ref w0), .unset] [(.int (3 : Int32))])) (by rw [hp9]) ?_
      refine own_G.step (g' := (mkF m 31 #[.val (.int i0), .val (.int i1), .val (.int (0 : Int32)), .val (.int (0 : Int32)), .val (.ref w0), .val (.ref w0), .unset] [(.int (0 : Int32)), (.int (3 : Int32))])) (fun tq_ kq_ => XS.iloadN X7.here hx rfl (hb hby at_30) rfl kq_) ?_
      obtain ⟨_, _, ⟨T10, L10, k10, n10⟩, -, X10, ⟨Lc10, hQ10, l10, y10, z10⟩, st10⟩ := Jvm.LawKit.callS X7 hx (y := (⟨"com/example/concordant/concordant/rules/LevelIsAtLeastPinLaw", "severity", "(I)I"⟩ : MethodName)) hown (mvT hZ (hw _ (List.mem_of_getElem? (i := 8) rfl))) (mvT hZ (hw _ (List.mem_of_getElem? (i := 9) rfl))) (mvT hZ (hw _ (List.mem_of_getElem? (i := 3) rfl))) (mvT hZ (hw _ (List.mem_of_getElem? (i := 10) rfl))) (by decide) (backOf (W := 1) (rm_sev l Z a0 hw [] (0 : Int32) h0 n0 O0 ) hZ (hw _ (List.mem_of_getElem? (i := 10) rfl)) (hw _ (List.mem_of_getElem? (i := 3) rfl)) (by decide) (by decide)) (g := (mkF m 31 #[.val (.int i0), .val (.int i1), .val (.int (0 : Int32)), .val (.int (0 : Int32)), .val (.ref w0), .val (.ref w0), .unset] [(.int (0 : Int32)), (.int (3 : Int32))])) rfl (by rw [hml]; rfl) (argsL := [(.int (0 : Int32))]) (rest := [(.int (3 : Int32))]) (lenOf pd__28I_29I rfl) rfl (by show 2 * 0 + _ ≤ _; exact Nat.le_of_eq rfl) (hb hby at_31) (fun _ _ => ⟨rfl, P8, (by decide : 0 + 0 ≤ _), (by decide : 0 + 0 ≤ _)⟩)
      dsimp only [Pt.U, Pt.locs, Pt.cells, Pt.slots] at X10 l10 y10 z10 st10 hQ10
      subst l10 y10 z10
      obtain ⟨rfl, Nq10, P11⟩ := hQ10
      have N10 := Fr.app N7 Nq10
      refine own_G.step (T' := T10) (g' := (mkF m 34 #[.val (.int i0), .val (.int i1), .val (.int (0 : Int32)), .val (.int (0 : Int32)), .val (.ref w0), .val (.ref w0), .unset] [(.int (own_sev (0 : Int32))), (.int (3 : Int32))])) (fun tq_ kq_ => st10 _ kq_) ?_
      have hp12 : own_sev (0 : Int32) = (3 : Int32) := by simp [own_pick, own_sev]
      refine own_G.cast (g' := (mkF m 34 #[.val (.int i0), .val (.int i1), .val (.int (0 : Int32)), .val (.int (0 : Int32)), .val (.ref w0), .val (.ref w0), .unset] [(.int (3 : Int32)), (.int (3 : Int32))])) (by rw [hp12]) ?_
      have hc34 : ¬ ((3 : Int32) < (3 : Int32)) := (by decide)
      refine own_G.step (g' := (mkF m 37 #[.val (.int i0), .val (.int i1), .val (.int (0 : Int32)), .val (.int (0 : Int32)), .val (.ref w0), .val (.ref w0), .unset] [])) (fun tq_ kq_ => XS.icmpNo X10.here hx rfl (hb hby at_34) rfl (flt hc34).1 kq_) ?_
      refine own_G.step (g' := (mkF m 38 #[.val (.int i0), .val (.int i1), .val (.int (0 : Int32)), .val (.int (0 : Int32)), .val (.ref w0), .val (.ref w0), .unset] [(.int (1 : Int32))])) (fun tq_ kq_ => XS.iconst X10.here hx rfl (hb hby at_37) kq_) ?_
      refine own_G.step (g' := (mkF m 42 #[.val (.int i0), .val (.int i1), .val (.int (0 : Int32)), .val (.int (0 : Int32)), .val (.ref w0), .val (.ref w0), .unset] [(.int (1 : Int32))])) (fun tq_ kq_ => XS.goto X10.here hx rfl (pc0 := 38) (pc' := 42) rfl (hb hby at_38) (by decide) (by decide) kq_) ?_
      refine own_G.step (g' := (mkF m 44 #[.val (.int i0), .val (.int i1), .val (.int (0 : Int32)), .val (.int (0 : Int32)), .val (.ref w0), .val (.ref w0), .val (.int (1 : Int32))] [])) (fun tq_ kq_ => XS.istore X10.here hx rfl (hb hby at_42) rfl (l' := #[.val (.int i0), .val (.int i1), .val (.int (0 : Int32)), .val (.int (0 : Int32)), .val (.ref w0), .val (.ref w0), .val (.int (1 : Int32))]) rfl kq_) ?_
      refine own_G.step (g' := (mkF m 46 #[.val (.int i0), .val (.int i1), .val (.int (0 : Int32)), .val (.int (0 : Int32)), .val (.ref w0), .val (.ref w0), .val (.int (1 : Int32))] [(.ref w0)])) (fun tq_ kq_ => XS.aload X10.here hx rfl (hb hby at_44) rfl rfl kq_) ?_
      refine own_G.step (g' := (mkF m 48 #[.val (.int i0), .val (.int i1), .val (.int (0 : Int32)), .val (.int (0 : Int32)), .val (.ref w0), .val (.ref w0), .val (.int (1 : Int32))] [(.ref w0), (.ref w0)])) (fun tq_ kq_ => XS.aload X10.here hx rfl (hb hby at_46) rfl rfl kq_) ?_
      obtain ⟨cq13, kq13, q13a, q13b, q13c⟩ := isOf hZ P11 (Exa.ext O0.2 E_ERROR)
      obtain ⟨_, _, ⟨T13, L13, k13, n13⟩, -, X13, ⟨Lc13, hQ13, l13, y13, z13⟩, st13⟩ := X10.virtualBack hx (y := (⟨"com/example/concordant/concordant/rules/Level", "isAtLeast", "(Lcom/example/concordant/concordant/rules/Level;)Z"⟩ : MethodName)) (z := (⟨"com/example/concordant/concordant/rules/Level", "isAtLeast", "(Lcom/example/concordant/concordant/rules/Level;)Z"⟩ : MethodName)) hown (mvT hZ (hw _ (List.mem_of_getElem? (i := 11) rfl))) (mvT hZ (hw _ (List.mem_of_getElem? (i := 12) rfl))) (notFace_of_selects (args := #[]) (mvT hZ (hw _ (List.mem_of_getElem? (i := 14) rfl)))) (mvT hZ (hw _ (List.mem_of_getElem? (i := 14) rfl))) (mvT hZ (hw _ (List.mem_of_getElem? (i := 13) rfl))) (by decide) (backOf (W := 0) (rm_atl l Z a0 hw [] w0 w0 (0 : Int32) (0 : Int32) mr h0 n0 O0 E_ERROR E_ERROR F_ERROR_ordinal F_ERROR_ordinal MR) hZ (hw _ (List.mem_of_getElem? (i := 15) rfl)) (hw _ (List.mem_of_getElem? (i := 6) rfl)) (by decide) (by decide)) q13a q13c (g := (mkF m 48 #[.val (.int i0), .val (.int i1), .val (.int (0 : Int32)), .val (.int (0 : Int32)), .val (.ref w0), .val (.ref w0), .val (.int (1 : Int32))] [(.ref w0), (.ref w0)])) rfl (by rw [hml]; rfl) (Steps.refl _) (argsL := [(.ref w0)]) (rest := []) (lenOf pd__28Lcom_2fexample_2fconcordant_2fconcordant_2frules_2fLevel_3b_29Z rfl) rfl (by show 2 * 0 + _ ≤ _; exact Nat.le_of_eq rfl) (hb hby at_48) (fun _ _ => ⟨rfl, P11, (by decide : 0 + 0 ≤ _), (by decide : 0 + 0 ≤ _)⟩)
      dsimp only [Pt.U, Pt.locs, Pt.cells, Pt.slots] at X13 l13 y13 z13 st13 hQ13
      subst l13 y13 z13
      obtain ⟨rfl, Nq13, P14⟩ := hQ13
      have N13 := Fr.app N10 Nq13
      refine own_G.step (T' := T13) (g' := (mkF m 51 #[.val (.int i0), .val (.int i1), .val (.int (0 : Int32)), .val (.int (0 : Int32)), .val (.ref w0), .val (.ref w0), .val (.int (1 : Int32))] [(.int (own_atl (0 : Int32) (0 : Int32)))])) (fun tq_ kq_ => st13.trans kq_) ?_
      have hp : own_atl (0 : Int32) (0 : Int32) = (1 : Int32) := by decide
      refine own_G.cast (g' := (mkF m 51 #[.val (.int i0), .val (.int i1), .val (.int (0 : Int32)), .val (.int (0 : Int32)), .val (.ref w0), .val (.ref w0), .val (.int (1 : Int32))] [(.int (1 : Int32))])) (by rw [hp]) ?_
      refine own_G.step (g' := (mkF m 53 #[.val (.int i0), .val (.int i1), .val (.int (0 : Int32)), .val (.int (0 : Int32)), .val (.ref w0), .val (.ref w0), .val (.int (1 : Int32))] [(.int (1 : Int32)), (.int (1 : Int32))])) (fun tq_ kq_ => XS.iload X13.here hx rfl (hb hby at_51) rfl kq_) ?_
      have hc53 : (1 : Int32) = (1 : Int32) := (by decide)
      refine own_G.step (g' := (mkF m 56 #[.val (.int i0), .val (.int i1), .val (.int (0 : Int32)), .val (.int (0 : Int32)), .val (.ref w0), .val (.ref w0), .val (.int (1 : Int32))] [])) (fun tq_ kq_ => XS.icmpNo X13.here hx rfl (hb hby at_53) rfl (teq hc53).2 kq_) ?_
      refine own_G.step (g' := (mkF m 57 #[.val (.int i0), .val (.int i1), .val (.int (0 : Int32)), .val (.int (0 : Int32)), .val (.ref w0), .val (.ref w0), .val (.int (1 : Int32))] [(.int (1 : Int32))])) (fun tq_ kq_ => XS.iconst X13.here hx rfl (hb hby at_56) kq_) ?_
      refine own_G.step (g' := (mkF m 61 #[.val (.int i0), .val (.int i1), .val (.int (0 : Int32)), .val (.int (0 : Int32)), .val (.ref w0), .val (.ref w0), .val (.int (1 : Int32))] [(.int (1 : Int32))])) (fun tq_ kq_ => XS.goto X13.here hx rfl (pc0 := 57) (pc' := 61) rfl (hb hby at_57) (by decide) (by decide) kq_) ?_
      exact own_ret X13 P14 (v := some (.int (1 : Int32))) (fun h => by rw [Bd.returns] at h; cases h) Bd.notSynchronized ⟨rfl, N13⟩ (by decide) (by decide) (fun fs hr => retN X13 hx (t := .boolean) Bd.returns (by simp) (hb hby at_61) hr)
    · refine own_G.step (g' := (mkF m 15 #[.val (.int i0), .val (.int i1), .val (.int (0 : Int32)), .val (.int (1 : Int32)), .unset, .unset, .unset] [(.int (0 : Int32))])) (fun tq_ kq_ => XS.iloadN X0.here hx rfl (hb hby at_14) rfl kq_) ?_
      obtain ⟨_, _, ⟨T15, L15, k15, n15⟩, -, X15, ⟨Lc15, hQ15, l15, y15, z15⟩, st15⟩ := Jvm.LawKit.callS X0 hx (y := (⟨"com/example/concordant/concordant/rules/LevelIsAtLeastPinLaw", "pick", "(I)Lcom/example/concordant/concordant/rules/Level;"⟩ : MethodName)) hown (mvT hZ (hw _ (List.mem_of_getElem? (i := 1) rfl))) (mvT hZ (hw _ (List.mem_of_getElem? (i := 2) rfl))) (mvT hZ (hw _ (List.mem_of_getElem? (i := 3) rfl))) (mvT hZ (hw _ (List.mem_of_getElem? (i := 4) rfl))) (by decide) (backOf (W := 0) (rm_pick l Z a0 hw [] (0 : Int32) w0 w1 w2 h0 n0 O0 S_ERROR S_WARNING S_INFO) hZ (hw _ (List.mem_of_getElem? (i := 4) rfl)) (hw _ (List.mem_of_getElem? (i := 3) rfl)) (by decide) (by decide)) (g := (mkF m 15 #[.val (.int i0), .val (.int i1), .val (.int (0 : Int32)), .val (.int (1 : Int32)), .unset, .unset, .unset] [(.int (0 : Int32))])) rfl (by rw [hml]; rfl) (argsL := [(.int (0 : Int32))]) (rest := []) (lenOf pd__28I_29Lcom_2fexample_2fconcordant_2fconcordant_2frules_2fLevel_3b rfl) rfl (by show 2 * 0 + _ ≤ _; exact Nat.le_of_eq rfl) (hb hby at_15) (fun _ _ => ⟨rfl, e0, (by decide : 0 + 0 ≤ _), (by decide : 0 + 0 ≤ _)⟩)
      dsimp only [Pt.U, Pt.locs, Pt.cells, Pt.slots] at X15 l15 y15 z15 st15 hQ15
      subst l15 y15 z15
      obtain ⟨rfl, Nq15, P16⟩ := hQ15
      have N15 := Fr.app N0 Nq15
      refine own_G.step (T' := T15) (g' := (mkF m 18 #[.val (.int i0), .val (.int i1), .val (.int (0 : Int32)), .val (.int (1 : Int32)), .unset, .unset, .unset] [(.ref (own_pick (0 : Int32) w0 w1 w2))])) (fun tq_ kq_ => st15 _ kq_) ?_
      have hp17 : own_pick (0 : Int32) w0 w1 w2 = w0 := by simp [own_pick, own_sev]
      refine own_G.cast (g' := (mkF m 18 #[.val (.int i0), .val (.int i1), .val (.int (0 : Int32)), .val (.int (1 : Int32)), .unset, .unset, .unset] [(.ref w0)])) (by rw [hp17]) ?_
      refine own_G.step (g' := (mkF m 20 #[.val (.int i0), .val (.int i1), .val (.int (0 : Int32)), .val (.int (1 : Int32)), .val (.ref w0), .unset, .unset] [])) (fun tq_ kq_ => XS.astore X15.here hx rfl (hb hby at_18) rfl rfl (l' := #[.val (.int i0), .val (.int i1), .val (.int (0 : Int32)), .val (.int (1 : Int32)), .val (.ref w0), .unset, .unset]) rfl kq_) ?_
      refine own_G.step (g' := (mkF m 21 #[.val (.int i0), .val (.int i1), .val (.int (0 : Int32)), .val (.int (1 : Int32)), .val (.ref w0), .unset, .unset] [(.int (1 : Int32))])) (fun tq_ kq_ => XS.iloadN X15.here hx rfl (hb hby at_20) rfl kq_) ?_
      obtain ⟨_, _, ⟨T18, L18, k18, n18⟩, -, X18, ⟨Lc18, hQ18, l18, y18, z18⟩, st18⟩ := Jvm.LawKit.callS X15 hx (y := (⟨"com/example/concordant/concordant/rules/LevelIsAtLeastPinLaw", "pick", "(I)Lcom/example/concordant/concordant/rules/Level;"⟩ : MethodName)) hown (mvT hZ (hw _ (List.mem_of_getElem? (i := 1) rfl))) (mvT hZ (hw _ (List.mem_of_getElem? (i := 2) rfl))) (mvT hZ (hw _ (List.mem_of_getElem? (i := 3) rfl))) (mvT hZ (hw _ (List.mem_of_getElem? (i := 4) rfl))) (by decide) (backOf (W := 0) (rm_pick l Z a0 hw [] (1 : Int32) w0 w1 w2 h0 n0 O0 S_ERROR S_WARNING S_INFO) hZ (hw _ (List.mem_of_getElem? (i := 4) rfl)) (hw _ (List.mem_of_getElem? (i := 3) rfl)) (by decide) (by decide)) (g := (mkF m 21 #[.val (.int i0), .val (.int i1), .val (.int (0 : Int32)), .val (.int (1 : Int32)), .val (.ref w0), .unset, .unset] [(.int (1 : Int32))])) rfl (by rw [hml]; rfl) (argsL := [(.int (1 : Int32))]) (rest := []) (lenOf pd__28I_29Lcom_2fexample_2fconcordant_2fconcordant_2frules_2fLevel_3b rfl) rfl (by show 2 * 0 + _ ≤ _; exact Nat.le_of_eq rfl) (hb hby at_21) (fun _ _ => ⟨rfl, P16, (by decide : 0 + 0 ≤ _), (by decide : 0 + 0 ≤ _)⟩)
      dsimp only [Pt.U, Pt.locs, Pt.cells, Pt.slots] at X18 l18 y18 z18 st18 hQ18
      subst l18 y18 z18
      obtain ⟨rfl, Nq18, P19⟩ := hQ18
      have N18 := Fr.app N15 Nq18
      refine own_G.step (T' := T18) (g' := (mkF m 24 #[.val (.int i0), .val (.int i1), .val (.int (0 : Int32)), .val (.int (1 : Int32)), .val (.ref w0), .unset, .unset] [(.ref (own_pick (1 : Int32) w0 w1 w2))])) (fun tq_ kq_ => st18 _ kq_) ?_
      have hp20 : own_pick (1 : Int32) w0 w1 w2 = w1 := by simp [own_pick, own_sev]
      refine own_G.cast (g' := (mkF m 24 #[.val (.int i0), .val (.int i1), .val (.int (0 : Int32)), .val (.int (1 : Int32)), .val (.ref w0), .unset, .unset] [(.ref w1)])) (by rw [hp20]) ?_
      refine own_G.step (g' := (mkF m 26 #[.val (.int i0), .val (.int i1), .val (.int (0 : Int32)), .val (.int (1 : Int32)), .val (.ref w0), .val (.ref w1), .unset] [])) (fun tq_ kq_ => XS.astore X18.here hx rfl (hb hby at_24) rfl rfl (l' := #[.val (.int i0), .val (.int i1), .val (.int (0 : Int32)), .val (.int (1 : Int32)), .val (.ref w0), .val (.ref w1), .unset]) rfl kq_) ?_
      refine own_G.step (g' := (mkF m 27 #[.val (.int i0), .val (.int i1), .val (.int (0 : Int32)), .val (.int (1 : Int32)), .val (.ref w0), .val (.ref w1), .unset] [(.int (0 : Int32))])) (fun tq_ kq_ => XS.iloadN X18.here hx rfl (hb hby at_26) rfl kq_) ?_
      obtain ⟨_, _, ⟨T21, L21, k21, n21⟩, -, X21, ⟨Lc21, hQ21, l21, y21, z21⟩, st21⟩ := Jvm.LawKit.callS X18 hx (y := (⟨"com/example/concordant/concordant/rules/LevelIsAtLeastPinLaw", "severity", "(I)I"⟩ : MethodName)) hown (mvT hZ (hw _ (List.mem_of_getElem? (i := 8) rfl))) (mvT hZ (hw _ (List.mem_of_getElem? (i := 9) rfl))) (mvT hZ (hw _ (List.mem_of_getElem? (i := 3) rfl))) (mvT hZ (hw _ (List.mem_of_getElem? (i := 10) rfl))) (by decide) (backOf (W := 0) (rm_sev l Z a0 hw [] (0 : Int32) h0 n0 O0 ) hZ (hw _ (List.mem_of_getElem? (i := 10) rfl)) (hw _ (List.mem_of_getElem? (i := 3) rfl)) (by decide) (by decide)) (g := (mkF m 27 #[.val (.int i0), .val (.int i1), .val (.int (0 : Int32)), .val (.int (1 : Int32)), .val (.ref w0), .val (.ref w1), .unset] [(.int (0 : Int32))])) rfl (by rw [hml]; rfl) (argsL := [(.int (0 : Int32))]) (rest := []) (lenOf pd__28I_29I rfl) rfl (by show 2 * 0 + _ ≤ _; exact Nat.le_of_eq rfl) (hb hby at_27) (fun _ _ => ⟨rfl, P19, (by decide : 0 + 0 ≤ _), (by decide : 0 + 0 ≤ _)⟩)
      dsimp only [Pt.U, Pt.locs, Pt.cells, Pt.slots] at X21 l21 y21 z21 st21 hQ21
      subst l21 y21 z21
      obtain ⟨rfl, Nq21, P22⟩ := hQ21
      have N21 := Fr.app N18 Nq21
      refine own_G.step (T' := T21) (g' := (mkF m 30 #[.val (.int i0), .val (.int i1), .val (.int (0 : Int32)), .val (.int (1 : Int32)), .val (.ref w0), .val (.ref w1), .unset] [(.int (own_sev (0 : Int32)))])) (fun tq_ kq_ => st21 _ kq_) ?_
      have hp23 : own_sev (0 : Int32) = (3 : Int32) := by simp [own_pick, own_sev]
      refine own_G.cast (g' := (mkF m 30 #[.val (.int i0), .val (.int i1), .val (.int (0 : Int32)), .val (.int (1 : Int32)), .val (.ref w0), .val (.ref w1), .unset] [(.int (3 : Int32))])) (by rw [hp23]) ?_
      refine own_G.step (g' := (mkF m 31 #[.val (.int i0), .val (.int i1), .val (.int (0 : Int32)), .val (.int (1 : Int32)), .val (.ref w0), .val (.ref w1), .unset] [(.int (1 : Int32)), (.int (3 : Int32))])) (fun tq_ kq_ => XS.iloadN X21.here hx rfl (hb hby at_30) rfl kq_) ?_
      obtain ⟨_, _, ⟨T24, L24, k24, n24⟩, -, X24, ⟨Lc24, hQ24, l24, y24, z24⟩, st24⟩ := Jvm.LawKit.callS X21 hx (y := (⟨"com/example/concordant/concordant/rules/LevelIsAtLeastPinLaw", "severity", "(I)I"⟩ : MethodName)) hown (mvT hZ (hw _ (List.mem_of_getElem? (i := 8) rfl))) (mvT hZ (hw _ (List.mem_of_getElem? (i := 9) rfl))) (mvT hZ (hw _ (List.mem_of_getElem? (i := 3) rfl))) (mvT hZ (hw _ (List.mem_of_getElem? (i := 10) rfl))) (by decide) (backOf (W := 1) (rm_sev l Z a0 hw [] (1 : Int32) h0 n0 O0 ) hZ (hw _ (List.mem_of_getElem? (i := 10) rfl)) (hw _ (List.mem_of_getElem? (i := 3) rfl)) (by decide) (by decide)) (g := (mkF m 31 #[.val (.int i0), .val (.int i1), .val (.int (0 : Int32)), .val (.int (1 : Int32)), .val (.ref w0), .val (.ref w1), .unset] [(.int (1 : Int32)), (.int (3 : Int32))])) rfl (by rw [hml]; rfl) (argsL := [(.int (1 : Int32))]) (rest := [(.int (3 : Int32))]) (lenOf pd__28I_29I rfl) rfl (by show 2 * 0 + _ ≤ _; exact Nat.le_of_eq rfl) (hb hby at_31) (fun _ _ => ⟨rfl, P22, (by decide : 0 + 0 ≤ _), (by decide : 0 + 0 ≤ _)⟩)
      dsimp only [Pt.U, Pt.locs, Pt.cells, Pt.slots] at X24 l24 y24 z24 st24 hQ24
      subst l24 y24 z24
      obtain ⟨rfl, Nq24, P25⟩ := hQ24
      have N24 := Fr.app N21 Nq24
      refine own_G.step (T' := T24) (g' := (mkF m 34 #[.val (.int i0), .val (.int i1), .val (.int (0 : Int32)), .val (.int (1 : Int32)), .val (.ref w0), .val (.ref w1), .unset] [(.int (own_sev (1 : Int32))), (.int (3 : Int32))])) (fun tq_ kq_ => st24 _ kq_) ?_
      have hp26 : own_sev (1 : Int32) = (2 : Int32) := by simp [own_pick, own_sev]
      refine own_G.cast (g' := (mkF m 34 #[.val (.int i0), .val (.int i1), .val (.int (0 : Int32)), .val (.int (1 : Int32)), .val (.ref w0), .val (.ref w1), .unset] [(.int (2 : Int32)), (.int (3 : Int32))])) (by rw [hp26]) ?_
      have hc34 : ¬ ((3 : Int32) < (2 : Int32)) := (by decide)
      refine own_G.step (g' := (mkF m 37 #[.val (.int i0), .val (.int i1), .val (.int (0 : Int32)), .val (.int (1 : Int32)), .val (.ref w0), .val (.ref w1), .unset] [])) (fun tq_ kq_ => XS.icmpNo X24.here hx rfl (hb hby at_34) rfl (flt hc34).1 kq_) ?_
      refine own_G.step (g' := (mkF m 38 #[.val (.int i0), .val (.int i1), .val (.int (0 : Int32)), .val (.int (1 : Int32)), .val (.ref w0), .val (.ref w1), .unset] [(.int (1 : Int32))])) (fun tq_ kq_ => XS.iconst X24.here hx rfl (hb hby at_37) kq_) ?_
      refine own_G.step (g' := (mkF m 42 #[.val (.int i0), .val (.int i1), .val (.int (0 : Int32)), .val (.int (1 : Int32)), .val (.ref w0), .val (.ref w1), .unset] [(.int (1 : Int32))])) (fun tq_ kq_ => XS.goto X24.here hx rfl (pc0 := 38) (pc' := 42) rfl (hb hby at_38) (by decide) (by decide) kq_) ?_
      refine own_G.step (g' := (mkF m 44 #[.val (.int i0), .val (.int i1), .val (.int (0 : Int32)), .val (.int (1 : Int32)), .val (.ref w0), .val (.ref w1), .val (.int (1 : Int32))] [])) (fun tq_ kq_ => XS.istore X24.here hx rfl (hb hby at_42) rfl (l' := #[.val (.int i0), .val (.int i1), .val (.int (0 : Int32)), .val (.int (1 : Int32)), .val (.ref w0), .val (.ref w1), .val (.int (1 : Int32))]) rfl kq_) ?_
      refine own_G.step (g' := (mkF m 46 #[.val (.int i0), .val (.int i1), .val (.int (0 : Int32)), .val (.int (1 : Int32)), .val (.ref w0), .val (.ref w1), .val (.int (1 : Int32))] [(.ref w0)])) (fun tq_ kq_ => XS.aload X24.here hx rfl (hb hby at_44) rfl rfl kq_) ?_
      refine own_G.step (g' := (mkF m 48 #[.val (.int i0), .val (.int i1), .val (.int (0 : Int32)), .val (.int (1 : Int32)), .val (.ref w0), .val (.ref w1), .val (.int (1 : Int32))] [(.ref w1), (.ref w0)])) (fun tq_ kq_ => XS.aload X24.here hx rfl (hb hby at_46) rfl rfl kq_) ?_
      obtain ⟨cq27, kq27, q27a, q27b, q27c⟩ := isOf hZ P25 (Exa.ext O0.2 E_ERROR)
      obtain ⟨_, _, ⟨T27, L27, k27, n27⟩, -, X27, ⟨Lc27, hQ27, l27, y27, z27⟩, st27⟩ := X24.virtualBack hx (y := (⟨"com/example/concordant/concordant/rules/Level", "isAtLeast", "(Lcom/example/concordant/concordant/rules/Level;)Z"⟩ : MethodName)) (z := (⟨"com/example/concordant/concordant/rules/Level", "isAtLeast", "(Lcom/example/concordant/concordant/rules/Level;)Z"⟩ : MethodName)) hown (mvT hZ (hw _ (List.mem_of_getElem? (i := 11) rfl))) (mvT hZ (hw _ (List.mem_of_getElem? (i := 12) rfl))) (notFace_of_selects (args := #[]) (mvT hZ (hw _ (List.mem_of_getElem? (i := 14) rfl)))) (mvT hZ (hw _ (List.mem_of_getElem? (i := 14) rfl))) (mvT hZ (hw _ (List.mem_of_getElem? (i := 13) rfl))) (by decide) (backOf (W := 0) (rm_atl l Z a0 hw [] w0 w1 (0 : Int32) (1 : Int32) mr h0 n0 O0 E_ERROR E_WARNING F_ERROR_ordinal F_WARNING_ordinal MR) hZ (hw _ (List.mem_of_getElem? (i := 15) rfl)) (hw _ (List.mem_of_getElem? (i := 6) rfl)) (by decide) (by decide)) q27a q27c (g := (mkF m 48 #[.val (.int i0), .val (.int i1), .val (.int (0 : Int32)), .val (.int (1 : Int32)), .val (.ref w0), .val (.ref w1), .val (.int (1 : Int32))] [(.ref w1), (.ref w0)])) rfl (by rw [hml]; rfl) (Steps.refl _) (argsL := [(.ref w1)]) (rest := []) (lenOf pd__28Lcom_2fexample_2fconcordant_2fconcordant_2frules_2fLevel_3b_29Z rfl) rfl (by show 2 * 0 + _ ≤ _; exact Nat.le_of_eq rfl) (hb hby at_48) (fun _ _ => ⟨rfl, P25, (by decide : 0 + 0 ≤ _), (by decide : 0 + 0 ≤ _)⟩)
      dsimp only [Pt.U, Pt.locs, Pt.cells, Pt.slots] at X27 l27 y27 z27 st27 hQ27
      subst l27 y27 z27
      obtain ⟨rfl, Nq27, P28⟩ := hQ27
      have N27 := Fr.app N24 Nq27
      refine own_G.step (T' := T27) (g' := (mkF m 51 #[.val (.int i0), .val (.int i1), .val (.int (0 : Int32)), .val (.int (1 : Int32)), .val (.ref w0), .val (.ref w1), .val (.int (1 : Int32))] [(.int (own_atl (0 : Int32) (1 : Int32)))])) (fun tq_ kq_ => st27.trans kq_) ?_
      have hp : own_atl (0 : Int32) (1 : Int32) = (1 : Int32) := by decide
      refine own_G.cast (g' := (mkF m 51 #[.val (.int i0), .val (.int i1), .val (.int (0 : Int32)), .val (.int (1 : Int32)), .val (.ref w0), .val (.ref w1), .val (.int (1 : Int32))] [(.int (1 : Int32))])) (by rw [hp]) ?_
      refine own_G.step (g' := (mkF m 53 #[.val (.int i0), .val (.int i1), .val (.int (0 : Int32)), .val (.int (1 : Int32)), .val (.ref w0), .val (.ref w1), .val (.int (1 : Int32))] [(.int (1 : Int32)), (.int (1 : Int32))])) (fun tq_ kq_ => XS.iload X27.here hx rfl (hb hby at_51) rfl kq_) ?_
      have hc53 : (1 : Int32) = (1 : Int32) := (by decide)
      refine own_G.step (g' := (mkF m 56 #[.val (.int i0), .val (.int i1), .val (.int (0 : Int32)), .val (.int (1 : Int32)), .val (.ref w0), .val (.ref w1), .val (.int (1 : Int32))] [])) (fun tq_ kq_ => XS.icmpNo X27.here hx rfl (hb hby at_53) rfl (teq hc53).2 kq_) ?_
      refine own_G.step (g' := (mkF m 57 #[.val (.int i0), .val (.int i1), .val (.int (0 : Int32)), .val (.int (1 : Int32)), .val (.ref w0), .val (.ref w1), .val (.int (1 : Int32))] [(.int (1 : Int32))])) (fun tq_ kq_ => XS.iconst X27.here hx rfl (hb hby at_56) kq_) ?_
      refine own_G.step (g' := (mkF m 61 #[.val (.int i0), .val (.int i1), .val (.int (0 : Int32)), .val (.int (1 : Int32)), .val (.ref w0), .val (.ref w1), .val (.int (1 : Int32))] [(.int (1 : Int32))])) (fun tq_ kq_ => XS.goto X27.here hx rfl (pc0 := 57) (pc' := 61) rfl (hb hby at_57) (by decide) (by decide) kq_) ?_
      exact own_ret X27 P28 (v := some (.int (1 : Int32))) (fun h => by rw [Bd.returns] at h; cases h) Bd.notSynchronized ⟨rfl, N27⟩ (by decide) (by decide) (fun fs hr => retN X27 hx (t := .boolean) Bd.returns (by simp) (hb hby at_61) hr)
    · refine own_G.step (g' := (mkF m 15 #[.val (.int i0), .val (.int i1), .val (.int (0 : Int32)), .val (.int (2 : Int32)), .unset, .unset, .unset] [(.int (0 : Int32))])) (fun tq_ kq_ => XS.iloadN X0.here hx rfl (hb hby at_14) rfl kq_) ?_
      obtain ⟨_, _, ⟨T29, L29, k29, n29⟩, -, X29, ⟨Lc29, hQ29, l29, y29, z29⟩, st29⟩ := Jvm.LawKit.callS X0 hx (y := (⟨"com/example/concordant/concordant/rules/LevelIsAtLeastPinLaw", "pick", "(I)Lcom/example/concordant/concordant/rules/Level;"⟩ : MethodName)) hown (mvT hZ (hw _ (List.mem_of_getElem? (i := 1) rfl))) (mvT hZ (hw _ (List.mem_of_getElem? (i := 2) rfl))) (mvT hZ (hw _ (List.mem_of_getElem? (i := 3) rfl))) (mvT hZ (hw _ (List.mem_of_getElem? (i := 4) rfl))) (by decide) (backOf (W := 0) (rm_pick l Z a0 hw [] (0 : Int32) w0 w1 w2 h0 n0 O0 S_ERROR S_WARNING S_INFO) hZ (hw _ (List.mem_of_getElem? (i := 4) rfl)) (hw _ (List.mem_of_getElem? (i := 3) rfl)) (by decide) (by decide)) (g := (mkF m 15 #[.val (.int i0), .val (.int i1), .val (.int (0 : Int32)), .val (.int (2 : Int32)), .unset, .unset, .unset] [(.int (0 : Int32))])) rfl (by rw [hml]; rfl) (argsL := [(.int (0 : Int32))]) (rest := []) (lenOf pd__28I_29Lcom_2fexample_2fconcordant_2fconcordant_2frules_2fLevel_3b rfl) rfl (by show 2 * 0 + _ ≤ _; exact Nat.le_of_eq rfl) (hb hby at_15) (fun _ _ => ⟨rfl, e0, (by decide : 0 + 0 ≤ _), (by decide : 0 + 0 ≤ _)⟩)
      dsimp only [Pt.U, Pt.locs, Pt.cells, Pt.slots] at X29 l29 y29 z29 st29 hQ29
      subst l29 y29 z29
      obtain ⟨rfl, Nq29, P30⟩ := hQ29
      have N29 := Fr.app N0 Nq29
      refine own_G.step (T' := T29) (g' := (mkF m 18 #[.val (.int i0), .val (.int i1), .val (.int (0 : Int32)), .val (.int (2 : Int32)), .unset, .unset, .unset] [(.ref (own_pick (0 : Int32) w0 w1 w2))])) (fun tq_ kq_ => st29 _ kq_) ?_
      have hp31 : own_pick (0 : Int32) w0 w1 w2 = w0 := by simp [own_pick, own_sev]
      refine own_G.cast (g' := (mkF m 18 #[.val (.int i0), .val (.int i1), .val (.int (0 : Int32)), .val (.int (2 : Int32)), .unset, .unset, .unset] [(.ref w0)])) (by rw [hp31]) ?_
      refine own_G.step (g' := (mkF m 20 #[.val (.int i0), .val (.int i1), .val (.int (0 : Int32)), .val (.int (2 : Int32)), .val (.ref w0), .unset, .unset] [])) (fun tq_ kq_ => XS.astore X29.here hx rfl (hb hby at_18) rfl rfl (l' := #[.val (.int i0), .val (.int i1), .val (.int (0 : Int32)), .val (.int (2 : Int32)), .val (.ref w0), .unset, .unset]) rfl kq_) ?_
      refine own_G.step (g' := (mkF m 21 #[.val (.int i0), .val (.int i1), .val (.int (0 : Int32)), .val (.int (2 : Int32)), .val (.ref w0), .unset, .unset] [(.int (2 : Int32))])) (fun tq_ kq_ => XS.iloadN X29.here hx rfl (hb hby at_20) rfl kq_) ?_
      obtain ⟨_, _, ⟨T32, L32, k32, n32⟩, -, X32, ⟨Lc32, hQ32, l32, y32, z32⟩, st32⟩ := Jvm.LawKit.callS X29 hx (y := (⟨"com/example/concordant/concordant/rules/LevelIsAtLeastPinLaw", "pick", "(I)Lcom/example/concordant/concordant/rules/Level;"⟩ : MethodName)) hown (mvT hZ (hw _ (List.mem_of_getElem? (i := 1) rfl))) (mvT hZ (hw _ (List.mem_of_getElem? (i := 2) rfl))) (mvT hZ (hw _ (List.mem_of_getElem? (i := 3) rfl))) (mvT hZ (hw _ (List.mem_of_getElem? (i := 4) rfl))) (by decide) (backOf (W := 0) (rm_pick l Z a0 hw [] (2 : Int32) w0 w1 w2 h0 n0 O0 S_ERROR S_WARNING S_INFO) hZ (hw _ (List.mem_of_getElem? (i := 4) rfl)) (hw _ (List.mem_of_getElem? (i := 3) rfl)) (by decide) (by decide)) (g := (mkF m 21 #[.val (.int i0), .val (.int i1), .val (.int (0 : Int32)), .val (.int (2 : Int32)), .val (.ref w0), .unset, .unset] [(.int (2 : Int32))])) rfl (by rw [hml]; rfl) (argsL := [(.int (2 : Int32))]) (rest := []) (lenOf pd__28I_29Lcom_2fexample_2fconcordant_2fconcordant_2frules_2fLevel_3b rfl) rfl (by show 2 * 0 + _ ≤ _; exact Nat.le_of_eq rfl) (hb hby at_21) (fun _ _ => ⟨rfl, P30, (by decide : 0 + 0 ≤ _), (by decide : 0 + 0 ≤ _)⟩)
      dsimp only [Pt.U, Pt.locs, Pt.cells, Pt.slots] at X32 l32 y32 z32 st32 hQ32
      subst l32 y32 z32
      obtain ⟨rfl, Nq32, P33⟩ := hQ32
      have N32 := Fr.app N29 Nq32
      refine own_G.step (T' := T32) (g' := (mkF m 24 #[.val (.int i0), .val (.int i1), .val (.int (0 : Int32)), .val (.int (2 : Int32)), .val (.ref w0), .unset, .unset] [(.ref (own_pick (2 : Int32) w0 w1 w2))])) (fun tq_ kq_ => st32 _ kq_) ?_
      have hp34 : own_pick (2 : Int32) w0 w1 w2 = w2 := by simp [own_pick, own_sev]
      refine own_G.cast (g' := (mkF m 24 #[.val (.int i0), .val (.int i1), .val (.int (0 : Int32)), .val (.int (2 : Int32)), .val (.ref w0), .unset, .unset] [(.ref w2)])) (by rw [hp34]) ?_
      refine own_G.step (g' := (mkF m 26 #[.val (.int i0), .val (.int i1), .val (.int (0 : Int32)), .val (.int (2 : Int32)), .val (.ref w0), .val (.ref w2), .unset] [])) (fun tq_ kq_ => XS.astore X32.here hx rfl (hb hby at_24) rfl rfl (l' := #[.val (.int i0), .val (.int i1), .val (.int (0 : Int32)), .val (.int (2 : Int32)), .val (.ref w0), .val (.ref w2), .unset]) rfl kq_) ?_
      refine own_G.step (g' := (mkF m 27 #[.val (.int i0), .val (.int i1), .val (.int (0 : Int32)), .val (.int (2 : Int32)), .val (.ref w0), .val (.ref w2), .unset] [(.int (0 : Int32))])) (fun tq_ kq_ => XS.iloadN X32.here hx rfl (hb hby at_26) rfl kq_) ?_
      obtain ⟨_, _, ⟨T35, L35, k35, n35⟩, -, X35, ⟨Lc35, hQ35, l35, y35, z35⟩, st35⟩ := Jvm.LawKit.callS X32 hx (y := (⟨"com/example/concordant/concordant/rules/LevelIsAtLeastPinLaw", "severity", "(I)I"⟩ : MethodName)) hown (mvT hZ (hw _ (List.mem_of_getElem? (i := 8) rfl))) (mvT hZ (hw _ (List.mem_of_getElem? (i := 9) rfl))) (mvT hZ (hw _ (List.mem_of_getElem? (i := 3) rfl))) (mvT hZ (hw _ (List.mem_of_getElem? (i := 10) rfl))) (by decide) (backOf (W := 0) (rm_sev l Z a0 hw [] (0 : Int32) h0 n0 O0 ) hZ (hw _ (List.mem_of_getElem? (i := 10) rfl)) (hw _ (List.mem_of_getElem? (i := 3) rfl)) (by decide) (by decide)) (g := (mkF m 27 #[.val (.int i0), .val (.int i1), .val (.int (0 : Int32)), .val (.int (2 : Int32)), .val (.ref w0), .val (.ref w2), .unset] [(.int (0 : Int32))])) rfl (by rw [hml]; rfl) (argsL := [(.int (0 : Int32))]) (rest := []) (lenOf pd__28I_29I rfl) rfl (by show 2 * 0 + _ ≤ _; exact Nat.le_of_eq rfl) (hb hby at_27) (fun _ _ => ⟨rfl, P33, (by decide : 0 + 0 ≤ _), (by decide : 0 + 0 ≤ _)⟩)
      dsimp only [Pt.U, Pt.locs, Pt.cells, Pt.slots] at X35 l35 y35 z35 st35 hQ35
      subst l35 y35 z35
      obtain ⟨rfl, Nq35, P36⟩ := hQ35
      have N35 := Fr.app N32 Nq35
      refine own_G.step (T' := T35) (g' := (mkF m 30 #[.val (.int i0), .val (.int i1), .val (.int (0 : Int32)), .val (.int (2 : Int32)), .val (.ref w0), .val (.ref w2), .unset] [(.int (own_sev (0 : Int32)))])) (fun tq_ kq_ => st35 _ kq_) ?_
      have hp37 : own_sev (0 : Int32) = (3 : Int32) := by simp [own_pick, own_sev]
      refine own_G.cast (g' := (mkF m 30 #[.val (.int i0), .val (.int i1), .val (.int (0 : Int32)), .val (.int (2 : Int32)), .val (.ref w0), .val (.ref w2), .unset] [(.int (3 : Int32))])) (by rw [hp37]) ?_
      refine own_G.step (g' := (mkF m 31 #[.val (.int i0), .val (.int i1), .val (.int (0 : Int32)), .val (.int (2 : Int32)), .val (.ref w0), .val (.ref w2), .unset] [(.int (2 : Int32)), (.int (3 : Int32))])) (fun tq_ kq_ => XS.iloadN X35.here hx rfl (hb hby at_30) rfl kq_) ?_
      obtain ⟨_, _, ⟨T38, L38, k38, n38⟩, -, X38, ⟨Lc38, hQ38, l38, y38, z38⟩, st38⟩ := Jvm.LawKit.callS X35 hx (y := (⟨"com/example/concordant/concordant/rules/LevelIsAtLeastPinLaw", "severity", "(I)I"⟩ : MethodName)) hown (mvT hZ (hw _ (List.mem_of_getElem? (i := 8) rfl))) (mvT hZ (hw _ (List.mem_of_getElem? (i := 9) rfl))) (mvT hZ (hw _ (List.mem_of_getElem? (i := 3) rfl))) (mvT hZ (hw _ (List.mem_of_getElem? (i := 10) rfl))) (by decide) (backOf (W := 1) (rm_sev l Z a0 hw [] (2 : Int32) h0 n0 O0 ) hZ (hw _ (List.mem_of_getElem? (i := 10) rfl)) (hw _ (List.mem_of_getElem? (i := 3) rfl)) (by decide) (by decide)) (g := (mkF m 31 #[.val (.int i0), .val (.int i1), .val (.int (0 : Int32)), .val (.int (2 : Int32)), .val (.ref w0), .val (.ref w2), .unset] [(.int (2 : Int32)), (.int (3 : Int32))])) rfl (by rw [hml]; rfl) (argsL := [(.int (2 : Int32))]) (rest := [(.int (3 : Int32))]) (lenOf pd__28I_29I rfl) rfl (by show 2 * 0 + _ ≤ _; exact Nat.le_of_eq rfl) (hb hby at_31) (fun _ _ => ⟨rfl, P36, (by decide : 0 + 0 ≤ _), (by decide : 0 + 0 ≤ _)⟩)
      dsimp only [Pt.U, Pt.locs, Pt.cells, Pt.slots] at X38 l38 y38 z38 st38 hQ38
      subst l38 y38 z38
      obtain ⟨rfl, Nq38, P39⟩ := hQ38
      have N38 := Fr.app N35 Nq38
      refine own_G.step (T' := T38) (g' := (mkF m 34 #[.val (.int i0), .val (.int i1), .val (.int (0 : Int32)), .val (.int (2 : Int32)), .val (.ref w0), .val (.ref w2), .unset] [(.int (own_sev (2 : Int32))), (.int (3 : Int32))])) (fun tq_ kq_ => st38 _ kq_) ?_
      have hp40 : own_sev (2 : Int32) = (1 : Int32) := by simp [own_pick, own_sev]
      refine own_G.cast (g' := (mkF m 34 #[.val (.int i0), .val (.int i1), .val (.int (0 : Int32)), .val (.int (2 : Int32)), .val (.ref w0), .val (.ref w2), .unset] [(.int (1 : Int32)), (.int (3 : Int32))])) (by rw [hp40]) ?_
      have hc34 : ¬ ((3 : Int32) < (1 : Int32)) := (by decide)
      refine own_G.step (g' := (mkF m 37 #[.val (.int i0), .val (.int i1), .val (.int (0 : Int32)), .val (.int (2 : Int32)), .val (.ref w0), .val (.ref w2), .unset] [])) (fun tq_ kq_ => XS.icmpNo X38.here hx rfl (hb hby at_34) rfl (flt hc34).1 kq_) ?_
      refine own_G.step (g' := (mkF m 38 #[.val (.int i0), .val (.int i1), .val (.int (0 : Int32)), .val (.int (2 : Int32)), .val (.ref w0), .val (.ref w2), .unset] [(.int (1 : Int32))])) (fun tq_ kq_ => XS.iconst X38.here hx rfl (hb hby at_37) kq_) ?_
      refine own_G.step (g' := (mkF m 42 #[.val (.int i0), .val (.int i1), .val (.int (0 : Int32)), .val (.int (2 : Int32)), .val (.ref w0), .val (.ref w2), .unset] [(.int (1 : Int32))])) (fun tq_ kq_ => XS.goto X38.here hx rfl (pc0 := 38) (pc' := 42) rfl (hb hby at_38) (by decide) (by decide) kq_) ?_
      refine own_G.step (g' := (mkF m 44 #[.val (.int i0), .val (.int i1), .val (.int (0 : Int32)), .val (.int (2 : Int32)), .val (.ref w0), .val (.ref w2), .val (.int (1 : Int32))] [])) (fun tq_ kq_ => XS.istore X38.here hx rfl (hb hby at_42) rfl (l' := #[.val (.int i0), .val (.int i1), .val (.int (0 : Int32)), .val (.int (2 : Int32)), .val (.ref w0), .val (.ref w2), .val (.int (1 : Int32))]) rfl kq_) ?_
      refine own_G.step (g' := (mkF m 46 #[.val (.int i0), .val (.int i1), .val (.int (0 : Int32)), .val (.int (2 : Int32)), .val (.ref w0), .val (.ref w2), .val (.int (1 : Int32))] [(.ref w0)])) (fun tq_ kq_ => XS.aload X38.here hx rfl (hb hby at_44) rfl rfl kq_) ?_
      refine own_G.step (g' := (mkF m 48 #[.val (.int i0), .val (.int i1), .val (.int (0 : Int32)), .val (.int (2 : Int32)), .val (.ref w0), .val (.ref w2), .val (.int (1 : Int32))] [(.ref w2), (.ref w0)])) (fun tq_ kq_ => XS.aload X38.here hx rfl (hb hby at_46) rfl rfl kq_) ?_
      obtain ⟨cq41, kq41, q41a, q41b, q41c⟩ := isOf hZ P39 (Exa.ext O0.2 E_ERROR)
      obtain ⟨_, _, ⟨T41, L41, k41, n41⟩, -, X41, ⟨Lc41, hQ41, l41, y41, z41⟩, st41⟩ := X38.virtualBack hx (y := (⟨"com/example/concordant/concordant/rules/Level", "isAtLeast", "(Lcom/example/concordant/concordant/rules/Level;)Z"⟩ : MethodName)) (z := (⟨"com/example/concordant/concordant/rules/Level", "isAtLeast", "(Lcom/example/concordant/concordant/rules/Level;)Z"⟩ : MethodName)) hown (mvT hZ (hw _ (List.mem_of_getElem? (i := 11) rfl))) (mvT hZ (hw _ (List.mem_of_getElem? (i := 12) rfl))) (notFace_of_selects (args := #[]) (mvT hZ (hw _ (List.mem_of_getElem? (i := 14) rfl)))) (mvT hZ (hw _ (List.mem_of_getElem? (i := 14) rfl))) (mvT hZ (hw _ (List.mem_of_getElem? (i := 13) rfl))) (by decide) (backOf (W := 0) (rm_atl l Z a0 hw [] w0 w2 (0 : Int32) (2 : Int32) mr h0 n0 O0 E_ERROR E_INFO F_ERROR_ordinal F_INFO_ordinal MR) hZ (hw _ (List.mem_of_getElem? (i := 15) rfl)) (hw _ (List.mem_of_getElem? (i := 6) rfl)) (by decide) (by decide)) q41a q41c (g := (mkF m 48 #[.val (.int i0), .val (.int i1), .val (.int (0 : Int32)), .val (.int (2 : Int32)), .val (.ref w0), .val (.ref w2), .val (.int (1 : Int32))] [(.ref w2), (.ref w0)])) rfl (by rw [hml]; rfl) (Steps.refl _) (argsL := [(.ref w2)]) (rest := []) (lenOf pd__28Lcom_2fexample_2fconcordant_2fconcordant_2frules_2fLevel_3b_29Z rfl) rfl (by show 2 * 0 + _ ≤ _; exact Nat.le_of_eq rfl) (hb hby at_48) (fun _ _ => ⟨rfl, P39, (by decide : 0 + 0 ≤ _), (by decide : 0 + 0 ≤ _)⟩)
      dsimp only [Pt.U, Pt.locs, Pt.cells, Pt.slots] at X41 l41 y41 z41 st41 hQ41
      subst l41 y41 z41
      obtain ⟨rfl, Nq41, P42⟩ := hQ41
      have N41 := Fr.app N38 Nq41
      refine own_G.step (T' := T41) (g' := (mkF m 51 #[.val (.int i0), .val (.int i1), .val (.int (0 : Int32)), .val (.int (2 : Int32)), .val (.ref w0), .val (.ref w2), .val (.int (1 : Int32))] [(.int (own_atl (0 : Int32) (2 : Int32)))])) (fun tq_ kq_ => st41.trans kq_) ?_
      have hp : own_atl (0 : Int32) (2 : Int32) = (1 : Int32) := by decide
      refine own_G.cast (g' := (mkF m 51 #[.val (.int i0), .val (.int i1), .val (.int (0 : Int32)), .val (.int (2 : Int32)), .val (.ref w0), .val (.ref w2), .val (.int (1 : Int32))] [(.int (1 : Int32))])) (by rw [hp]) ?_
      refine own_G.step (g' := (mkF m 53 #[.val (.int i0), .val (.int i1), .val (.int (0 : Int32)), .val (.int (2 : Int32)), .val (.ref w0), .val (.ref w2), .val (.int (1 : Int32))] [(.int (1 : Int32)), (.int (1 : Int32))])) (fun tq_ kq_ => XS.iload X41.here hx rfl (hb hby at_51) rfl kq_) ?_
      have hc53 : (1 : Int32) = (1 : Int32) := (by decide)
      refine own_G.step (g' := (mkF m 56 #[.val (.int i0), .val (.int i1), .val (.int (0 : Int32)), .val (.int (2 : Int32)), .val (.ref w0), .val (.ref w2), .val (.int (1 : Int32))] [])) (fun tq_ kq_ => XS.icmpNo X41.here hx rfl (hb hby at_53) rfl (teq hc53).2 kq_) ?_
      refine own_G.step (g' := (mkF m 57 #[.val (.int i0), .val (.int i1), .val (.int (0 : Int32)), .val (.int (2 : Int32)), .val (.ref w0), .val (.ref w2), .val (.int (1 : Int32))] [(.int (1 : Int32))])) (fun tq_ kq_ => XS.iconst X41.here hx rfl (hb hby at_56) kq_) ?_
      refine own_G.step (g' := (mkF m 61 #[.val (.int i0), .val (.int i1), .val (.int (0 : Int32)), .val (.int (2 : Int32)), .val (.ref w0), .val (.ref w2), .val (.int (1 : Int32))] [(.int (1 : Int32))])) (fun tq_ kq_ => XS.goto X41.here hx rfl (pc0 := 57) (pc' := 61) rfl (hb hby at_57) (by decide) (by decide) kq_) ?_
      exact own_ret X41 P42 (v := some (.int (1 : Int32))) (fun h => by rw [Bd.returns] at h; cases h) Bd.notSynchronized ⟨rfl, N41⟩ (by decide) (by decide) (fun fs hr => retN X41 hx (t := .boolean) Bd.returns (by simp) (hb hby at_61) hr)
  · rcases htj with rfl | rfl | rfl
    · refine own_G.step (g' := (mkF m 15 #[.val (.int i0), .val (.int i1), .val (.int (1 : Int32)), .val (.int (0 : Int32)), .unset, .unset, .unset] [(.int (1 : Int32))])) (fun tq_ kq_ => XS.iloadN X0.here hx rfl (hb hby at_14) rfl kq_) ?_
      obtain ⟨_, _, ⟨T43, L43, k43, n43⟩, -, X43, ⟨Lc43, hQ43, l43, y43, z43⟩, st43⟩ := Jvm.LawKit.callS X0 hx (y := (⟨"com/example/concordant/concordant/rules/LevelIsAtLeastPinLaw", "pick", "(I)Lcom/example/concordant/concordant/rules/Level;"⟩ : MethodName)) hown (mvT hZ (hw _ (List.mem_of_getElem? (i := 1) rfl))) (mvT hZ (hw _ (List.mem_of_getElem? (i := 2) rfl))) (mvT hZ (hw _ (List.mem_of_getElem? (i := 3) rfl))) (mvT hZ (hw _ (List.mem_of_getElem? (i := 4) rfl))) (by decide) (backOf (W := 0) (rm_pick l Z a0 hw [] (1 : Int32) w0 w1 w2 h0 n0 O0 S_ERROR S_WARNING S_INFO) hZ (hw _ (List.mem_of_getElem? (i := 4) rfl)) (hw _ (List.mem_of_getElem? (i := 3) rfl)) (by decide) (by decide)) (g := (mkF m 15 #[.val (.int i0), .val (.int i1), .val (.int (1 : Int32)), .val (.int (0 : Int32)), .unset, .unset, .unset] [(.int (1 : Int32))])) rfl (by rw [hml]; rfl) (argsL := [(.int (1 : Int32))]) (rest := []) (lenOf pd__28I_29Lcom_2fexample_2fconcordant_2fconcordant_2frules_2fLevel_3b rfl) rfl (by show 2 * 0 + _ ≤ _; exact Nat.le_of_eq rfl) (hb hby at_15) (fun _ _ => ⟨rfl, e0, (by decide : 0 + 0 ≤ _), (by decide : 0 + 0 ≤ _)⟩)
      dsimp only [Pt.U, Pt.locs, Pt.cells, Pt.slots] at X43 l43 y43 z43 st43 hQ43
      subst l43 y43 z43
      obtain ⟨rfl, Nq43, P44⟩ := hQ43
      have N43 := Fr.app N0 Nq43
      refine own_G.step (T' := T43) (g' := (mkF m 18 #[.val (.int i0), .val (.int i1), .val (.int (1 : Int32)), .val (.int (0 : Int32)), .unset, .unset, .unset] [(.ref (own_pick (1 : Int32) w0 w1 w2))])) (fun tq_ kq_ => st43 _ kq_) ?_
      have hp45 : own_pick (1 : Int32) w0 w1 w2 = w1 := by simp [own_pick, own_sev]
      refine own_G.cast (g' := (mkF m 18 #[.val (.int i0), .val (.int i1), .val (.int (1 : Int32)), .val (.int (0 : Int32)), .unset, .unset, .unset] [(.ref w1)])) (by rw [hp45]) ?_
      refine own_G.step (g' := (mkF m 20 #[.val (.int i0), .val (.int i1), .val (.int (1 : Int32)), .val (.int (0 : Int32)), .val (.ref w1), .unset, .unset] [])) (fun tq_ kq_ => XS.astore X43.here hx rfl (hb hby at_18) rfl rfl (l' := #[.val (.int i0), .val (.int i1), .val (.int (1 : Int32)), .val (.int (0 : Int32)), .val (.ref w1), .unset, .unset]) rfl kq_) ?_
      refine own_G.step (g' := (mkF m 21 #[.val (.int i0), .val (.int i1), .val (.int (1 : Int32)), .val (.int (0 : Int32)), .val (.ref w1), .unset, .unset] [(.int (0 : Int32))])) (fun tq_ kq_ => XS.iloadN X43.here hx rfl (hb hby at_20) rfl kq_) ?_
      obtain ⟨_, _, ⟨T46, L46, k46, n46⟩, -, X46, ⟨Lc46, hQ46, l46, y46, z46⟩, st46⟩ := Jvm.LawKit.callS X43 hx (y := (⟨"com/example/concordant/concordant/rules/LevelIsAtLeastPinLaw", "pick", "(I)Lcom/example/concordant/concordant/rules/Level;"⟩ : MethodName)) hown (mvT hZ (hw _ (List.mem_of_getElem? (i := 1) rfl))) (mvT hZ (hw _ (List.mem_of_getElem? (i := 2) rfl))) (mvT hZ (hw _ (List.mem_of_getElem? (i := 3) rfl))) (mvT hZ (hw _ (List.mem_of_getElem? (i := 4) rfl))) (by decide) (backOf (W := 0) (rm_pick l Z a0 hw [] (0 : Int32) w0 w1 w2 h0 n0 O0 S_ERROR S_WARNING S_INFO) hZ (hw _ (List.mem_of_getElem? (i := 4) rfl)) (hw _ (List.mem_of_getElem? (i := 3) rfl)) (by decide) (by decide)) (g := (mkF m 21 #[.val (.int i0), .val (.int i1), .val (.int (1 : Int32)), .val (.int (0 : Int32)), .val (.ref w1), .unset, .unset] [(.int (0 : Int32))])) rfl (by rw [hml]; rfl) (argsL := [(.int (0 : Int32))]) (rest := []) (lenOf pd__28I_29Lcom_2fexample_2fconcordant_2fconcordant_2frules_2fLevel_3b rfl) rfl (by show 2 * 0 + _ ≤ _; exact Nat.le_of_eq rfl) (hb hby at_21) (fun _ _ => ⟨rfl, P44, (by decide : 0 + 0 ≤ _), (by decide : 0 + 0 ≤ _)⟩)
      dsimp only [Pt.U, Pt.locs, Pt.cells, Pt.slots] at X46 l46 y46 z46 st46 hQ46
      subst l46 y46 z46
      obtain ⟨rfl, Nq46, P47⟩ := hQ46
      have N46 := Fr.app N43 Nq46
      refine own_G.step (T' := T46) (g' := (mkF m 24 #[.val (.int i0), .val (.int i1), .val (.int (1 : Int32)), .val (.int (0 : Int32)), .val (.ref w1), .unset, .unset] [(.ref (own_pick (0 : Int32) w0 w1 w2))])) (fun tq_ kq_ => st46 _ kq_) ?_
      have hp48 : own_pick (0 : Int32) w0 w1 w2 = w0 := by simp [own_pick, own_sev]
      refine own_G.cast (g' := (mkF m 24 #[.val (.int i0), .val (.int i1), .val (.int (1 : Int32)), .val (.int (0 : Int32)), .val (.ref w1), .unset, .unset] [(.ref w0)])) (by rw [hp48]) ?_
      refine own_G.step (g' := (mkF m 26 #[.val (.int i0), .val (.int i1), .val (.int (1 : Int32)), .val (.int (0 : Int32)), .val (.ref w1), .val (.ref w0), .unset] [])) (fun tq_ kq_ => XS.astore X46.here hx rfl (hb hby at_24) rfl rfl (l' := #[.val (.int i0), .val (.int i1), .val (.int (1 : Int32)), .val (.int (0 : Int32)), .val (.ref w1), .val (.ref w0), .unset]) rfl kq_) ?_
      refine own_G.step (g' := (mkF m 27 #[.val (.int i0), .val (.int i1), .val (.int (1 : Int32)), .val (.int (0 : Int32)), .val (.ref w1), .val (.ref w0), .unset] [(.int (1 : Int32))])) (fun tq_ kq_ => XS.iloadN X46.here hx rfl (hb hby at_26) rfl kq_) ?_
      obtain ⟨_, _, ⟨T49, L49, k49, n49⟩, -, X49, ⟨Lc49, hQ49, l49, y49, z49⟩, st49⟩ := Jvm.LawKit.callS X46 hx (y := (⟨"com/example/concordant/concordant/rules/LevelIsAtLeastPinLaw", "severity", "(I)I"⟩ : MethodName)) hown (mvT hZ (hw _ (List.mem_of_getElem? (i := 8) rfl))) (mvT hZ (hw _ (List.mem_of_getElem? (i := 9) rfl))) (mvT hZ (hw _ (List.mem_of_getElem? (i := 3) rfl))) (mvT hZ (hw _ (List.mem_of_getElem? (i := 10) rfl))) (by decide) (backOf (W := 0) (rm_sev l Z a0 hw [] (1 : Int32) h0 n0 O0 ) hZ (hw _ (List.mem_of_getElem? (i := 10) rfl)) (hw _ (List.mem_of_getElem? (i := 3) rfl)) (by decide) (by decide)) (g := (mkF m 27 #[.val (.int i0), .val (.int i1), .val (.int (1 : Int32)), .val (.int (0 : Int32)), .val (.ref w1), .val (.ref w0), .unset] [(.int (1 : Int32))])) rfl (by rw [hml]; rfl) (argsL := [(.int (1 : Int32))]) (rest := []) (lenOf pd__28I_29I rfl) rfl (by show 2 * 0 + _ ≤ _; exact Nat.le_of_eq rfl) (hb hby at_27) (fun _ _ => ⟨rfl, P47, (by decide : 0 + 0 ≤ _), (by decide : 0 + 0 ≤ _)⟩)
      dsimp only [Pt.U, Pt.locs, Pt.cells, Pt.slots] at X49 l49 y49 z49 st49 hQ49
      subst l49 y49 z49
      obtain ⟨rfl, Nq49, P50⟩ := hQ49
      have N49 := Fr.app N46 Nq49
      refine own_G.step (T' := T49) (g' := (mkF m 30 #[.val (.int i0), .val (.int i1), .val (.int (1 : Int32)), .val (.int (0 : Int32)), .val (.ref w1), .val (.ref w0), .unset] [(.int (own_sev (1 : Int32)))])) (fun tq_ kq_ => st49 _ kq_) ?_
      have hp51 : own_sev (1 : Int32) = (2 : Int32) := by simp [own_pick, own_sev]
      refine own_G.cast (g' := (mkF m 30 #[.val (.int i0), .val (.int i1), .val (.int (1 : Int32)), .val (.int (0 : Int32)), .val (.ref w1), .val (.ref w0), .unset] [(.int (2 : Int32))])) (by rw [hp51]) ?_
      refine own_G.step (g' := (mkF m 31 #[.val (.int i0), .val (.int i1), .val (.int (1 : Int32)), .val (.int (0 : Int32)), .val (.ref w1), .val (.ref w0), .unset] [(.int (0 : Int32)), (.int (2 : Int32))])) (fun tq_ kq_ => XS.iloadN X49.here hx rfl (hb hby at_30) rfl kq_) ?_
      obtain ⟨_, _, ⟨T52, L52, k52, n52⟩, -, X52, ⟨Lc52, hQ52, l52, y52, z52⟩, st52⟩ := Jvm.LawKit.callS X49 hx (y := (⟨"com/example/concordant/concordant/rules/LevelIsAtLeastPinLaw", "severity", "(I)I"⟩ : MethodName)) hown (mvT hZ (hw _ (List.mem_of_getElem? (i := 8) rfl))) (mvT hZ (hw _ (List.mem_of_getElem? (i := 9) rfl))) (mvT hZ (hw _ (List.mem_of_getElem? (i := 3) rfl))) (mvT hZ (hw _ (List.mem_of_getElem? (i := 10) rfl))) (by decide) (backOf (W := 1) (rm_sev l Z a0 hw [] (0 : Int32) h0 n0 O0 ) hZ (hw _ (List.mem_of_getElem? (i := 10) rfl)) (hw _ (List.mem_of_getElem? (i := 3) rfl)) (by decide) (by decide)) (g := (mkF m 31 #[.val (.int i0), .val (.int i1), .val (.int (1 : Int32)), .val (.int (0 : Int32)), .val (.ref w1), .val (.ref w0), .unset] [(.int (0 : Int32)), (.int (2 : Int32))])) rfl (by rw [hml]; rfl) (argsL := [(.int (0 : Int32))]) (rest := [(.int (2 : Int32))]) (lenOf pd__28I_29I rfl) rfl (by show 2 * 0 + _ ≤ _; exact Nat.le_of_eq rfl) (hb hby at_31) (fun _ _ => ⟨rfl, P50, (by decide : 0 + 0 ≤ _), (by decide : 0 + 0 ≤ _)⟩)
      dsimp only [Pt.U, Pt.locs, Pt.cells, Pt.slots] at X52 l52 y52 z52 st52 hQ52
      subst l52 y52 z52
      obtain ⟨rfl, Nq52, P53⟩ := hQ52
      have N52 := Fr.app N49 Nq52
      refine own_G.step (T' := T52) (g' := (mkF m 34 #[.val (.int i0), .val (.int i1), .val (.int (1 : Int32)), .val (.int (0 : Int32)), .val (.ref w1), .val (.ref w0), .unset] [(.int (own_sev (0 : Int32))), (.int (2 : Int32))])) (fun tq_ kq_ => st52 _ kq_) ?_
      have hp54 : own_sev (0 : Int32) = (3 : Int32) := by simp [own_pick, own_sev]
      refine own_G.cast (g' := (mkF m 34 #[.val (.int i0), .val (.int i1), .val (.int (1 : Int32)), .val (.int (0 : Int32)), .val (.ref w1), .val (.ref w0), .unset] [(.int (3 : Int32)), (.int (2 : Int32))])) (by rw [hp54]) ?_
      have hc34 : (2 : Int32) < (3 : Int32) := (by decide)
      refine own_G.step (g' := (mkF m 41 #[.val (.int i0), .val (.int i1), .val (.int (1 : Int32)), .val (.int (0 : Int32)), .val (.ref w1), .val (.ref w0), .unset] [])) (fun tq_ kq_ => XS.icmpYes X52.here hx rfl (pc0 := 34) (pc' := 41) rfl (hb hby at_34) rfl (tlt hc34).1 (by decide) (by decide) kq_) ?_
      refine own_G.step (g' := (mkF m 42 #[.val (.int i0), .val (.int i1), .val (.int (1 : Int32)), .val (.int (0 : Int32)), .val (.ref w1), .val (.ref w0), .unset] [(.int (0 : Int32))])) (fun tq_ kq_ => XS.iconst X52.here hx rfl (hb hby at_41) kq_) ?_
      refine own_G.step (g' := (mkF m 44 #[.val (.int i0), .val (.int i1), .val (.int (1 : Int32)), .val (.int (0 : Int32)), .val (.ref w1), .val (.ref w0), .val (.int (0 : Int32))] [])) (fun tq_ kq_ => XS.istore X52.here hx rfl (hb hby at_42) rfl (l' := #[.val (.int i0), .val (.int i1), .val (.int (1 : Int32)), .val (.int (0 : Int32)), .val (.ref w1), .val (.ref w0), .val (.int (0 : Int32))]) rfl kq_) ?_
      refine own_G.step (g' := (mkF m 46 #[.val (.int i0), .val (.int i1), .val (.int (1 : Int32)), .val (.int (0 : Int32)), .val (.ref w1), .val (.ref w0), .val (.int (0 : Int32))] [(.ref w1)])) (fun tq_ kq_ => XS.aload X52.here hx rfl (hb hby at_44) rfl rfl kq_) ?_
      refine own_G.step (g' := (mkF m 48 #[.val (.int i0), .val (.int i1), .val (.int (1 : Int32)), .val (.int (0 : Int32)), .val (.ref w1), .val (.ref w0), .val (.int (0 : Int32))] [(.ref w0), (.ref w1)])) (fun tq_ kq_ => XS.aload X52.here hx rfl (hb hby at_46) rfl rfl kq_) ?_
      obtain ⟨cq55, kq55, q55a, q55b, q55c⟩ := isOf hZ P53 (Exa.ext O0.2 E_WARNING)
      obtain ⟨_, _, ⟨T55, L55, k55, n55⟩, -, X55, ⟨Lc55, hQ55, l55, y55, z55⟩, st55⟩ := X52.virtualBack hx (y := (⟨"com/example/concordant/concordant/rules/Level", "isAtLeast", "(Lcom/example/concordant/concordant/rules/Level;)Z"⟩ : MethodName)) (z := (⟨"com/example/concordant/concordant/rules/Level", "isAtLeast", "(Lcom/example/concordant/concordant/rules/Level;)Z"⟩ : MethodName)) hown (mvT hZ (hw _ (List.mem_of_getElem? (i := 11) rfl))) (mvT hZ (hw _ (List.mem_of_getElem? (i := 12) rfl))) (notFace_of_selects (args := #[]) (mvT hZ (hw _ (List.mem_of_getElem? (i := 14) rfl)))) (mvT hZ (hw _ (List.mem_of_getElem? (i := 14) rfl))) (mvT hZ (hw _ (List.mem_of_getElem? (i := 13) rfl))) (by decide) (backOf (W := 0) (rm_atl l Z a0 hw [] w1 w0 (1 : Int32) (0 : Int32) mr h0 n0 O0 E_WARNING E_ERROR F_WARNING_ordinal F_ERROR_ordinal MR) hZ (hw _ (List.mem_of_getElem? (i := 15) rfl)) (hw _ (List.mem_of_getElem? (i := 6) rfl)) (by decide) (by decide)) q55a q55c (g := (mkF m 48 #[.val (.int i0), .val (.int i1), .val (.int (1 : Int32)), .val (.int (0 : Int32)), .val (.ref w1), .val (.ref w0), .val (.int (0 : Int32))] [(.ref w0), (.ref w1)])) rfl (by rw [hml]; rfl) (Steps.refl _) (argsL := [(.ref w0)]) (rest := []) (lenOf pd__28Lcom_2fexample_2fconcordant_2fconcordant_2frules_2fLevel_3b_29Z rfl) rfl (by show 2 * 0 + _ ≤ _; exact Nat.le_of_eq rfl) (hb hby at_48) (fun _ _ => ⟨rfl, P53, (by decide : 0 + 0 ≤ _), (by decide : 0 + 0 ≤ _)⟩)
      dsimp only [Pt.U, Pt.locs, Pt.cells, Pt.slots] at X55 l55 y55 z55 st55 hQ55
      subst l55 y55 z55
      obtain ⟨rfl, Nq55, P56⟩ := hQ55
      have N55 := Fr.app N52 Nq55
      refine own_G.step (T' := T55) (g' := (mkF m 51 #[.val (.int i0), .val (.int i1), .val (.int (1 : Int32)), .val (.int (0 : Int32)), .val (.ref w1), .val (.ref w0), .val (.int (0 : Int32))] [(.int (own_atl (1 : Int32) (0 : Int32)))])) (fun tq_ kq_ => st55.trans kq_) ?_
      have hp : own_atl (1 : Int32) (0 : Int32) = (0 : Int32) := by decide
      refine own_G.cast (g' := (mkF m 51 #[.val (.int i0), .val (.int i1), .val (.int (1 : Int32)), .val (.int (0 : Int32)), .val (.ref w1), .val (.ref w0), .val (.int (0 : Int32))] [(.int (0 : Int32))])) (by rw [hp]) ?_
      refine own_G.step (g' := (mkF m 53 #[.val (.int i0), .val (.int i1), .val (.int (1 : Int32)), .val (.int (0 : Int32)), .val (.ref w1), .val (.ref w0), .val (.int (0 : Int32))] [(.int (0 : Int32)), (.int (0 : Int32))])) (fun tq_ kq_ => XS.iload X55.here hx rfl (hb hby at_51) rfl kq_) ?_
      have hc53 : (0 : Int32) = (0 : Int32) := (by decide)
      refine own_G.step (g' := (mkF m 56 #[.val (.int i0), .val (.int i1), .val (.int (1 : Int32)), .val (.int (0 : Int32)), .val (.ref w1), .val (.ref w0), .val (.int (0 : Int32))] [])) (fun tq_ kq_ => XS.icmpNo X55.here hx rfl (hb hby at_53) rfl (teq hc53).2 kq_) ?_
      refine own_G.step (g' := (mkF m 57 #[.val (.int i0), .val (.int i1), .val (.int (1 : Int32)), .val (.int (0 : Int32)), .val (.ref w1), .val (.ref w0), .val (.int (0 : Int32))] [(.int (1 : Int32))])) (fun tq_ kq_ => XS.iconst X55.here hx rfl (hb hby at_56) kq_) ?_
      refine own_G.step (g' := (mkF m 61 #[.val (.int i0), .val (.int i1), .val (.int (1 : Int32)), .val (.int (0 : Int32)), .val (.ref w1), .val (.ref w0), .val (.int (0 : Int32))] [(.int (1 : Int32))])) (fun tq_ kq_ => XS.goto X55.here hx rfl (pc0 := 57) (pc' := 61) rfl (hb hby at_57) (by decide) (by decide) kq_) ?_
      exact own_ret X55 P56 (v := some (.int (1 : Int32))) (fun h => by rw [Bd.returns] at h; cases h) Bd.notSynchronized ⟨rfl, N55⟩ (by decide) (by decide) (fun fs hr => retN X55 hx (t := .boolean) Bd.returns (by simp) (hb hby at_61) hr)
    · refine own_G.step (g' := (mkF m 15 #[.val (.int i0), .val (.int i1), .val (.int (1 : Int32)), .val (.int (1 : Int32)), .unset, .unset, .unset] [(.int (1 : Int32))])) (fun tq_ kq_ => XS.iloadN X0.here hx rfl (hb hby at_14) rfl kq_) ?_
      obtain ⟨_, _, ⟨T57, L57, k57, n57⟩, -, X57, ⟨Lc57, hQ57, l57, y57, z57⟩, st57⟩ := Jvm.LawKit.callS X0 hx (y := (⟨"com/example/concordant/concordant/rules/LevelIsAtLeastPinLaw", "pick", "(I)Lcom/example/concordant/concordant/rules/Level;"⟩ : MethodName)) hown (mvT hZ (hw _ (List.mem_of_getElem? (i := 1) rfl))) (mvT hZ (hw _ (List.mem_of_getElem? (i := 2) rfl))) (mvT hZ (hw _ (List.mem_of_getElem? (i := 3) rfl))) (mvT hZ (hw _ (List.mem_of_getElem? (i := 4) rfl))) (by decide) (backOf (W := 0) (rm_pick l Z a0 hw [] (1 : Int32) w0 w1 w2 h0 n0 O0 S_ERROR S_WARNING S_INFO) hZ (hw _ (List.mem_of_getElem? (i := 4) rfl)) (hw _ (List.mem_of_getElem? (i := 3) rfl)) (by decide) (by decide)) (g := (mkF m 15 #[.val (.int i0), .val (.int i1), .val (.int (1 : Int32)), .val (.int (1 : Int32)), .unset, .unset, .unset] [(.int (1 : Int32))])) rfl (by rw [hml]; rfl) (argsL := [(.int (1 : Int32))]) (rest := []) (lenOf pd__28I_29Lcom_2fexample_2fconcordant_2fconcordant_2frules_2fLevel_3b rfl) rfl (by show 2 * 0 + _ ≤ _; exact Nat.le_of_eq rfl) (hb hby at_15) (fun _ _ => ⟨rfl, e0, (by decide : 0 + 0 ≤ _), (by decide : 0 + 0 ≤ _)⟩)
      dsimp only [Pt.U, Pt.locs, Pt.cells, Pt.slots] at X57 l57 y57 z57 st57 hQ57
      subst l57 y57 z57
      obtain ⟨rfl, Nq57, P58⟩ := hQ57
      have N57 := Fr.app N0 Nq57
      refine own_G.step (T' := T57) (g' := (mkF m 18 #[.val (.int i0), .val (.int i1), .val (.int (1 : Int32)), .val (.int (1 : Int32)), .unset, .unset, .unset] [(.ref (own_pick (1 : Int32) w0 w1 w2))])) (fun tq_ kq_ => st57 _ kq_) ?_
      have hp59 : own_pick (1 : Int32) w0 w1 w2 = w1 := by simp [own_pick, own_sev]
      refine own_G.cast (g' := (mkF m 18 #[.val (.int i0), .val (.int i1), .val (.int (1 : Int32)), .val (.int (1 : Int32)), .unset, .unset, .unset] [(.ref w1)])) (by rw [hp59]) ?_
      refine own_G.step (g' := (mkF m 20 #[.val (.int i0), .val (.int i1), .val (.int (1 : Int32)), .val (.int (1 : Int32)), .val (.ref w1), .unset, .unset] [])) (fun tq_ kq_ => XS.astore X57.here hx rfl (hb hby at_18) rfl rfl (l' := #[.val (.int i0), .val (.int i1), .val (.int (1 : Int32)), .val (.int (1 : Int32)), .val (.ref w1), .unset, .unset]) rfl kq_) ?_
      refine own_G.step (g' := (mkF m 21 #[.val (.int i0), .val (.int i1), .val (.int (1 : Int32)), .val (.int (1 : Int32)), .val (.ref w1), .unset, .unset] [(.int (1 : Int32))])) (fun tq_ kq_ => XS.iloadN X57.here hx rfl (hb hby at_20) rfl kq_) ?_
      obtain ⟨_, _, ⟨T60, L60, k60, n60⟩, -, X60, ⟨Lc60, hQ60, l60, y60, z60⟩, st60⟩ := Jvm.LawKit.callS X57 hx (y := (⟨"com/example/concordant/concordant/rules/LevelIsAtLeastPinLaw", "pick", "(I)Lcom/example/concordant/concordant/rules/Level;"⟩ : MethodName)) hown (mvT hZ (hw _ (List.mem_of_getElem? (i := 1) rfl))) (mvT hZ (hw _ (List.mem_of_getElem? (i := 2) rfl))) (mvT hZ (hw _ (List.mem_of_getElem? (i := 3) rfl))) (mvT hZ (hw _ (List.mem_of_getElem? (i := 4) rfl))) (by decide) (backOf (W := 0) (rm_pick l Z a0 hw [] (1 : Int32) w0 w1 w2 h0 n0 O0 S_ERROR S_WARNING S_INFO) hZ (hw _ (List.mem_of_getElem? (i := 4) rfl)) (hw _ (List.mem_of_getElem? (i := 3) rfl)) (by decide) (by decide)) (g := (mkF m 21 #[.val (.int i0), .val (.int i1), .val (.int (1 : Int32)), .val (.int (1 : Int32)), .val (.ref w1), .unset, .unset] [(.int (1 : Int32))])) rfl (by rw [hml]; rfl) (argsL := [(.int (1 : Int32))]) (rest := []) (lenOf pd__28I_29Lcom_2fexample_2fconcordant_2fconcordant_2frules_2fLevel_3b rfl) rfl (by show 2 * 0 + _ ≤ _; exact Nat.le_of_eq rfl) (hb hby at_21) (fun _ _ => ⟨rfl, P58, (by decide : 0 + 0 ≤ _), (by decide : 0 + 0 ≤ _)⟩)
      dsimp only [Pt.U, Pt.locs, Pt.cells, Pt.slots] at X60 l60 y60 z60 st60 hQ60
      subst l60 y60 z60
      obtain ⟨rfl, Nq60, P61⟩ := hQ60
      have N60 := Fr.app N57 Nq60
      refine own_G.step (T' := T60) (g' := (mkF m 24 #[.val (.int i0), .val (.int i1), .val (.int (1 : Int32)), .val (.int (1 : Int32)), .val (.ref w1), .unset, .unset] [(.ref (own_pick (1 : Int32) w0 w1 w2))])) (fun tq_ kq_ => st60 _ kq_) ?_
      have hp62 : own_pick (1 : Int32) w0 w1 w2 = w1 := by simp [own_pick, own_sev]
      refine own_G.cast (g' := (mkF m 24 #[.val (.int i0), .val (.int i1), .val (.int (1 : Int32)), .val (.int (1 : Int32)), .val (.ref w1), .unset, .unset] [(.ref w1)])) (by rw [hp62]) ?_
      refine own_G.step (g' := (mkF m 26 #[.val (.int i0), .val (.int i1), .val (.int (1 : Int32)), .val (.int (1 : Int32)), .val (.ref w1), .val (.ref w1), .unset] [])) (fun tq_ kq_ => XS.astore X60.here hx rfl (hb hby at_24) rfl rfl (l' := #[.val (.int i0), .val (.int i1), .val (.int (1 : Int32)), .val (.int (1 : Int32)), .val (.ref w1), .val (.ref w1), .unset]) rfl kq_) ?_
      refine own_G.step (g' := (mkF m 27 #[.val (.int i0), .val (.int i1), .val (.int (1 : Int32)), .val (.int (1 : Int32)), .val (.ref w1), .val (.ref w1), .unset] [(.int (1 : Int32))])) (fun tq_ kq_ => XS.iloadN X60.here hx rfl (hb hby at_26) rfl kq_) ?_
      obtain ⟨_, _, ⟨T63, L63, k63, n63⟩, -, X63, ⟨Lc63, hQ63, l63, y63, z63⟩, st63⟩ := Jvm.LawKit.callS X60 hx (y := (⟨"com/example/concordant/concordant/rules/LevelIsAtLeastPinLaw", "severity", "(I)I"⟩ : MethodName)) hown (mvT hZ (hw _ (List.mem_of_getElem? (i := 8) rfl))) (mvT hZ (hw _ (List.mem_of_getElem? (i := 9) rfl))) (mvT hZ (hw _ (List.mem_of_getElem? (i := 3) rfl))) (mvT hZ (hw _ (List.mem_of_getElem? (i := 10) rfl))) (by decide) (backOf (W := 0) (rm_sev l Z a0 hw [] (1 : Int32) h0 n0 O0 ) hZ (hw _ (List.mem_of_getElem? (i := 10) rfl)) (hw _ (List.mem_of_getElem? (i := 3) rfl)) (by decide) (by decide)) (g := (mkF m 27 #[.val (.int i0), .val (.int i1), .val (.int (1 : Int32)), .val (.int (1 : Int32)), .val (.ref w1), .val (.ref w1), .unset] [(.int (1 : Int32))])) rfl (by rw [hml]; rfl) (argsL := [(.int (1 : Int32))]) (rest := []) (lenOf pd__28I_29I rfl) rfl (by show 2 * 0 + _ ≤ _; exact Nat.le_of_eq rfl) (hb hby at_27) (fun _ _ => ⟨rfl, P61, (by decide : 0 + 0 ≤ _), (by decide : 0 + 0 ≤ _)⟩)
      dsimp only [Pt.U, Pt.locs, Pt.cells, Pt.slots] at X63 l63 y63 z63 st63 hQ63
      subst l63 y63 z63
      obtain ⟨rfl, Nq63, P64⟩ := hQ63
      have N63 := Fr.app N60 Nq63
      refine own_G.step (T' := T63) (g' := (mkF m 30 #[.val (.int i0), .val (.int i1), .val (.int (1 : Int32)), .val (.int (1 : Int32)), .val (.ref w1), .val (.ref w1), .unset] [(.int (own_sev (1 : Int32)))])) (fun tq_ kq_ => st63 _ kq_) ?_
      have hp65 : own_sev (1 : Int32) = (2 : Int32) := by simp [own_pick, own_sev]
      refine own_G.cast (g' := (mkF m 30 #[.val (.int i0), .val (.int i1), .val (.int (1 : Int32)), .val (.int (1 : Int32)), .val (.ref w1), .val (.ref w1), .unset] [(.int (2 : Int32))])) (by rw [hp65]) ?_
      refine own_G.step (g' := (mkF m 31 #[.val (.int i0), .val (.int i1), .val (.int (1 : Int32)), .val (.int (1 : Int32)), .val (.ref w1), .val (.ref w1), .unset] [(.int (1 : Int32)), (.int (2 : Int32))])) (fun tq_ kq_ => XS.iloadN X63.here hx rfl (hb hby at_30) rfl kq_) ?_
      obtain ⟨_, _, ⟨T66, L66, k66, n66⟩, -, X66, ⟨Lc66, hQ66, l66, y66, z66⟩, st66⟩ := Jvm.LawKit.callS X63 hx (y := (⟨"com/example/concordant/concordant/rules/LevelIsAtLeastPinLaw", "severity", "(I)I"⟩ : MethodName)) hown (mvT hZ (hw _ (List.mem_of_getElem? (i := 8) rfl))) (mvT hZ (hw _ (List.mem_of_getElem? (i := 9) rfl))) (mvT hZ (hw _ (List.mem_of_getElem? (i := 3) rfl))) (mvT hZ (hw _ (List.mem_of_getElem? (i := 10) rfl))) (by decide) (backOf (W := 1) (rm_sev l Z a0 hw [] (1 : Int32) h0 n0 O0 ) hZ (hw _ (List.mem_of_getElem? (i := 10) rfl)) (hw _ (List.mem_of_getElem? (i := 3) rfl)) (by decide) (by decide)) (g := (mkF m 31 #[.val (.int i0), .val (.int i1), .val (.int (1 : Int32)), .val (.int (1 : Int32)), .val (.ref w1), .val (.ref w1), .unset] [(.int (1 : Int32)), (.int (2 : Int32))])) rfl (by rw [hml]; rfl) (argsL := [(.int (1 : Int32))]) (rest := [(.int (2 : Int32))]) (lenOf pd__28I_29I rfl) rfl (by show 2 * 0 + _ ≤ _; exact Nat.le_of_eq rfl) (hb hby at_31) (fun _ _ => ⟨rfl, P64, (by decide : 0 + 0 ≤ _), (by decide : 0 + 0 ≤ _)⟩)
      dsimp only [Pt.U, Pt.locs, Pt.cells, Pt.slots] at X66 l66 y66 z66 st66 hQ66
      subst l66 y66 z66
      obtain ⟨rfl, Nq66, P67⟩ := hQ66
      have N66 := Fr.app N63 Nq66
      refine own_G.step (T' := T66) (g' := (mkF m 34 #[.val (.int i0), .val (.int i1), .val (.int (1 : Int32)), .val (.int (1 : Int32)), .val (.ref w1), .val (.ref w1), .unset] [(.int (own_sev (1 : Int32))), (.int (2 : Int32))])) (fun tq_ kq_ => st66 _ kq_) ?_
      have hp68 : own_sev (1 : Int32) = (2 : Int32) := by simp [own_pick, own_sev]
      refine own_G.cast (g' := (mkF m 34 #[.val (.int i0), .val (.int i1), .val (.int (1 : Int32)), .val (.int (1 : Int32)), .val (.ref w1), .val (.ref w1), .unset] [(.int (2 : Int32)), (.int (2 : Int32))])) (by rw [hp68]) ?_
      have hc34 : ¬ ((2 : Int32) < (2 : Int32)) := (by decide)
      refine own_G.step (g' := (mkF m 37 #[.val (.int i0), .val (.int i1), .val (.int (1 : Int32)), .val (.int (1 : Int32)), .val (.ref w1), .val (.ref w1), .unset] [])) (fun tq_ kq_ => XS.icmpNo X66.here hx rfl (hb hby at_34) rfl (flt hc34).1 kq_) ?_
      refine own_G.step (g' := (mkF m 38 #[.val (.int i0), .val (.int i1), .val (.int (1 : Int32)), .val (.int (1 : Int32)), .val (.ref w1), .val (.ref w1), .unset] [(.int (1 : Int32))])) (fun tq_ kq_ => XS.iconst X66.here hx rfl (hb hby at_37) kq_) ?_
      refine own_G.step (g' := (mkF m 42 #[.val (.int i0), .val (.int i1), .val (.int (1 : Int32)), .val (.int (1 : Int32)), .val (.ref w1), .val (.ref w1), .unset] [(.int (1 : Int32))])) (fun tq_ kq_ => XS.goto X66.here hx rfl (pc0 := 38) (pc' := 42) rfl (hb hby at_38) (by decide) (by decide) kq_) ?_
      refine own_G.step (g' := (mkF m 44 #[.val (.int i0), .val (.int i1), .val (.int (1 : Int32)), .val (.int (1 : Int32)), .val (.ref w1), .val (.ref w1), .val (.int (1 : Int32))] [])) (fun tq_ kq_ => XS.istore X66.here hx rfl (hb hby at_42) rfl (l' := #[.val (.int i0), .val (.int i1), .val (.int (1 : Int32)), .val (.int (1 : Int32)), .val (.ref w1), .val (.ref w1), .val (.int (1 : Int32))]) rfl kq_) ?_
      refine own_G.step (g' := (mkF m 46 #[.val (.int i0), .val (.int i1), .val (.int (1 : Int32)), .val (.int (1 : Int32)), .val (.ref w1), .val (.ref w1), .val (.int (1 : Int32))] [(.ref w1)])) (fun tq_ kq_ => XS.aload X66.here hx rfl (hb hby at_44) rfl rfl kq_) ?_
      refine own_G.step (g' := (mkF m 48 #[.val (.int i0), .val (.int i1), .val (.int (1 : Int32)), .val (.int (1 : Int32)), .val (.ref w1), .val (.ref w1), .val (.int (1 : Int32))] [(.ref w1), (.ref w1)])) (fun tq_ kq_ => XS.aload X66.here hx rfl (hb hby at_46) rfl rfl kq_) ?_
      obtain ⟨cq69, kq69, q69a, q69b, q69c⟩ := isOf hZ P67 (Exa.ext O0.2 E_WARNING)
      obtain ⟨_, _, ⟨T69, L69, k69, n69⟩, -, X69, ⟨Lc69, hQ69, l69, y69, z69⟩, st69⟩ := X66.virtualBack hx (y := (⟨"com/example/concordant/concordant/rules/Level", "isAtLeast", "(Lcom/example/concordant/concordant/rules/Level;)Z"⟩ : MethodName)) (z := (⟨"com/example/concordant/concordant/rules/Level", "isAtLeast", "(Lcom/example/concordant/concordant/rules/Level;)Z"⟩ : MethodName)) hown (mvT hZ (hw _ (List.mem_of_getElem? (i := 11) rfl))) (mvT hZ (hw _ (List.mem_of_getElem? (i := 12) rfl))) (notFace_of_selects (args := #[]) (mvT hZ (hw _ (List.mem_of_getElem? (i := 14) rfl)))) (mvT hZ (hw _ (List.mem_of_getElem? (i := 14) rfl))) (mvT hZ (hw _ (List.mem_of_getElem? (i := 13) rfl))) (by decide) (backOf (W := 0) (rm_atl l Z a0 hw [] w1 w1 (1 : Int32) (1 : Int32) mr h0 n0 O0 E_WARNING E_WARNING F_WARNING_ordinal F_WARNING_ordinal MR) hZ (hw _ (List.mem_of_getElem? (i := 15) rfl)) (hw _ (List.mem_of_getElem? (i := 6) rfl)) (by decide) (by decide)) q69a q69c (g := (mkF m 48 #[.val (.int i0), .val (.int i1), .val (.int (1 : Int32)), .val (.int (1 : Int32)), .val (.ref w1), .val (.ref w1), .val (.int (1 : Int32))] [(.ref w1), (.ref w1)])) rfl (by rw [hml]; rfl) (Steps.refl _) (argsL := [(.ref w1)]) (rest := []) (lenOf pd__28Lcom_2fexample_2fconcordant_2fconcordant_2frules_2fLevel_3b_29Z rfl) rfl (by show 2 * 0 + _ ≤ _; exact Nat.le_of_eq rfl) (hb hby at_48) (fun _ _ => ⟨rfl, P67, (by decide : 0 + 0 ≤ _), (by decide : 0 + 0 ≤ _)⟩)
      dsimp only [Pt.U, Pt.locs, Pt.cells, Pt.slots] at X69 l69 y69 z69 st69 hQ69
      subst l69 y69 z69
      obtain ⟨rfl, Nq69, P70⟩ := hQ69
      have N69 := Fr.app N66 Nq69
      refine own_G.step (T' := T69) (g' := (mkF m 51 #[.val (.int i0), .val (.int i1), .val (.int (1 : Int32)), .val (.int (1 : Int32)), .val (.ref w1), .val (.ref w1), .val (.int (1 : Int32))] [(.int (own_atl (1 : Int32) (1 : Int32)))])) (fun tq_ kq_ => st69.trans kq_) ?_
      have hp : own_atl (1 : Int32) (1 : Int32) = (1 : Int32) := by decide
      refine own_G.cast (g' := (mkF m 51 #[.val (.int i0), .val (.int i1), .val (.int (1 : Int32)), .val (.int (1 : Int32)), .val (.ref w1), .val (.ref w1), .val (.int (1 : Int32))] [(.int (1 : Int32))])) (by rw [hp]) ?_
      refine own_G.step (g' := (mkF m 53 #[.val (.int i0), .val (.int i1), .val (.int (1 : Int32)), .val (.int (1 : Int32)), .val (.ref w1), .val (.ref w1), .val (.int (1 : Int32))] [(.int (1 : Int32)), (.int (1 : Int32))])) (fun tq_ kq_ => XS.iload X69.here hx rfl (hb hby at_51) rfl kq_) ?_
      have hc53 : (1 : Int32) = (1 : Int32) := (by decide)
      refine own_G.step (g' := (mkF m 56 #[.val (.int i0), .val (.int i1), .val (.int (1 : Int32)), .val (.int (1 : Int32)), .val (.ref w1), .val (.ref w1), .val (.int (1 : Int32))] [])) (fun tq_ kq_ => XS.icmpNo X69.here hx rfl (hb hby at_53) rfl (teq hc53).2 kq_) ?_
      refine own_G.step (g' := (mkF m 57 #[.val (.int i0), .val (.int i1), .val (.int (1 : Int32)), .val (.int (1 : Int32)), .val (.ref w1), .val (.ref w1), .val (.int (1 : Int32))] [(.int (1 : Int32))])) (fun tq_ kq_ => XS.iconst X69.here hx rfl (hb hby at_56) kq_) ?_
      refine own_G.step (g' := (mkF m 61 #[.val (.int i0), .val (.int i1), .val (.int (1 : Int32)), .val (.int (1 : Int32)), .val (.ref w1), .val (.ref w1), .val (.int (1 : Int32))] [(.int (1 : Int32))])) (fun tq_ kq_ => XS.goto X69.here hx rfl (pc0 := 57) (pc' := 61) rfl (hb hby at_57) (by decide) (by decide) kq_) ?_
      exact own_ret X69 P70 (v := some (.int (1 : Int32))) (fun h => by rw [Bd.returns] at h; cases h) Bd.notSynchronized ⟨rfl, N69⟩ (by decide) (by decide) (fun fs hr => retN X69 hx (t := .boolean) Bd.returns (by simp) (hb hby at_61) hr)
    · refine own_G.step (g' := (mkF m 15 #[.val (.int i0), .val (.int i1), .val (.int (1 : Int32)), .val (.int (2 : Int32)), .unset, .unset, .unset] [(.int (1 : Int32))])) (fun tq_ kq_ => XS.iloadN X0.here hx rfl (hb hby at_14) rfl kq_) ?_
      obtain ⟨_, _, ⟨T71, L71, k71, n71⟩, -, X71, ⟨Lc71, hQ71, l71, y71, z71⟩, st71⟩ := Jvm.LawKit.callS X0 hx (y := (⟨"com/example/concordant/concordant/rules/LevelIsAtLeastPinLaw", "pick", "(I)Lcom/example/concordant/concordant/rules/Level;"⟩ : MethodName)) hown (mvT hZ (hw _ (List.mem_of_getElem? (i := 1) rfl))) (mvT hZ (hw _ (List.mem_of_getElem? (i := 2) rfl))) (mvT hZ (hw _ (List.mem_of_getElem? (i := 3) rfl))) (mvT hZ (hw _ (List.mem_of_getElem? (i := 4) rfl))) (by decide) (backOf (W := 0) (rm_pick l Z a0 hw [] (1 : Int32) w0 w1 w2 h0 n0 O0 S_ERROR S_WARNING S_INFO) hZ (hw _ (List.mem_of_getElem? (i := 4) rfl)) (hw _ (List.mem_of_getElem? (i := 3) rfl)) (by decide) (by decide)) (g := (mkF m 15 #[.val (.int i0), .val (.int i1), .val (.int (1 : Int32)), .val (.int (2 : Int32)), .unset, .unset, .unset] [(.int (1 : Int32))])) rfl (by rw [hml]; rfl) (argsL := [(.int (1 : Int32))]) (rest := []) (lenOf pd__28I_29Lcom_2fexample_2fconcordant_2fconcordant_2frules_2fLevel_3b rfl) rfl (by show 2 * 0 + _ ≤ _; exact Nat.le_of_eq rfl) (hb hby at_15) (fun _ _ => ⟨rfl, e0, (by decide : 0 + 0 ≤ _), (by decide : 0 + 0 ≤ _)⟩)
      dsimp only [Pt.U, Pt.locs, Pt.cells, Pt.slots] at X71 l71 y71 z71 st71 hQ71
      subst l71 y71 z71
      obtain ⟨rfl, Nq71, P72⟩ := hQ71
      have N71 := Fr.app N0 Nq71
      refine own_G.step (T' := T71) (g' := (mkF m 18 #[.val (.int i0), .val (.int i1), .val (.int (1 : Int32)), .val (.int (2 : Int32)), .unset, .unset, .unset] [(.ref (own_pick (1 : Int32) w0 w1 w2))])) (fun tq_ kq_ => st71 _ kq_) ?_
      have hp73 : own_pick (1 : Int32) w0 w1 w2 = w1 := by simp [own_pick, own_sev]
      refine own_G.cast (g' := (mkF m 18 #[.val (.int i0), .val (.int i1), .val (.int (1 : Int32)), .val (.int (2 : Int32)), .unset, .unset, .unset] [(.ref w1)])) (by rw [hp73]) ?_
      refine own_G.step (g' := (mkF m 20 #[.val (.int i0), .val (.int i1), .val (.int (1 : Int32)), .val (.int (2 : Int32)), .val (.ref w1), .unset, .unset] [])) (fun tq_ kq_ => XS.astore X71.here hx rfl (hb hby at_18) rfl rfl (l' := #[.val (.int i0), .val (.int i1), .val (.int (1 : Int32)), .val (.int (2 : Int32)), .val (.ref w1), .unset, .unset]) rfl kq_) ?_
      refine own_G.step (g' := (mkF m 21 #[.val (.int i0), .val (.int i1), .val (.int (1 : Int32)), .val (.int (2 : Int32)), .val (.ref w1), .unset, .unset] [(.int (2 : Int32))])) (fun tq_ kq_ => XS.iloadN X71.here hx rfl (hb hby at_20) rfl kq_) ?_
      obtain ⟨_, _, ⟨T74, L74, k74, n74⟩, -, X74, ⟨Lc74, hQ74, l74, y74, z74⟩, st74⟩ := Jvm.LawKit.callS X71 hx (y := (⟨"com/example/concordant/concordant/rules/LevelIsAtLeastPinLaw", "pick", "(I)Lcom/example/concordant/concordant/rules/Level;"⟩ : MethodName)) hown (mvT hZ (hw _ (List.mem_of_getElem? (i := 1) rfl))) (mvT hZ (hw _ (List.mem_of_getElem? (i := 2) rfl))) (mvT hZ (hw _ (List.mem_of_getElem? (i := 3) rfl))) (mvT hZ (hw _ (List.mem_of_getElem? (i := 4) rfl))) (by decide) (backOf (W := 0) (rm_pick l Z a0 hw [] (2 : Int32) w0 w1 w2 h0 n0 O0 S_ERROR S_WARNING S_INFO) hZ (hw _ (List.mem_of_getElem? (i := 4) rfl)) (hw _ (List.mem_of_getElem? (i := 3) rfl)) (by decide) (by decide)) (g := (mkF m 21 #[.val (.int i0), .val (.int i1), .val (.int (1 : Int32)), .val (.int (2 : Int32)), .val (.ref w1), .unset, .unset] [(.int (2 : Int32))])) rfl (by rw [hml]; rfl) (argsL := [(.int (2 : Int32))]) (rest := []) (lenOf pd__28I_29Lcom_2fexample_2fconcordant_2fconcordant_2frules_2fLevel_3b rfl) rfl (by show 2 * 0 + _ ≤ _; exact Nat.le_of_eq rfl) (hb hby at_21) (fun _ _ => ⟨rfl, P72, (by decide : 0 + 0 ≤ _), (by decide : 0 + 0 ≤ _)⟩)
      dsimp only [Pt.U, Pt.locs, Pt.cells, Pt.slots] at X74 l74 y74 z74 st74 hQ74
      subst l74 y74 z74
      obtain ⟨rfl, Nq74, P75⟩ := hQ74
      have N74 := Fr.app N71 Nq74
      refine own_G.step (T' := T74) (g' := (mkF m 24 #[.val (.int i0), .val (.int i1), .val (.int (1 : Int32)), .val (.int (2 : Int32)), .val (.ref w1), .unset, .unset] [(.ref (own_pick (2 : Int32) w0 w1 w2))])) (fun tq_ kq_ => st74 _ kq_) ?_
      have hp76 : own_pick (2 : Int32) w0 w1 w2 = w2 := by simp [own_pick, own_sev]
      refine own_G.cast (g' := (mkF m 24 #[.val (.int i0), .val (.int i1), .val (.int (1 : Int32)), .val (.int (2 : Int32)), .val (.ref w1), .unset, .unset] [(.ref w2)])) (by rw [hp76]) ?_
      refine own_G.step (g' := (mkF m 26 #[.val (.int i0), .val (.int i1), .val (.int (1 : Int32)), .val (.int (2 : Int32)), .val (.ref w1), .val (.ref w2), .unset] [])) (fun tq_ kq_ => XS.astore X74.here hx rfl (hb hby at_24) rfl rfl (l' := #[.val (.int i0), .val (.int i1), .val (.int (1 : Int32)), .val (.int (2 : Int32)), .val (.ref w1), .val (.ref w2), .unset]) rfl kq_) ?_
      refine own_G.step (g' := (mkF m 27 #[.val (.int i0), .val (.int i1), .val (.int (1 : Int32)), .val (.int (2 : Int32)), .val (.ref w1), .val (.ref w2), .unset] [(.int (1 : Int32))])) (fun tq_ kq_ => XS.iloadN X74.here hx rfl (hb hby at_26) rfl kq_) ?_
      obtain ⟨_, _, ⟨T77, L77, k77, n77⟩, -, X77, ⟨Lc77, hQ77, l77, y77, z77⟩, st77⟩ := Jvm.LawKit.callS X74 hx (y := (⟨"com/example/concordant/concordant/rules/LevelIsAtLeastPinLaw", "severity", "(I)I"⟩ : MethodName)) hown (mvT hZ (hw _ (List.mem_of_getElem? (i := 8) rfl))) (mvT hZ (hw _ (List.mem_of_getElem? (i := 9) rfl))) (mvT hZ (hw _ (List.mem_of_getElem? (i := 3) rfl))) (mvT hZ (hw _ (List.mem_of_getElem? (i := 10) rfl))) (by decide) (backOf (W := 0) (rm_sev l Z a0 hw [] (1 : Int32) h0 n0 O0 ) hZ (hw _ (List.mem_of_getElem? (i := 10) rfl)) (hw _ (List.mem_of_getElem? (i := 3) rfl)) (by decide) (by decide)) (g := (mkF m 27 #[.val (.int i0), .val (.int i1), .val (.int (1 : Int32)), .val (.int (2 : Int32)), .val (.ref w1), .val (.ref w2), .unset] [(.int (1 : Int32))])) rfl (by rw [hml]; rfl) (argsL := [(.int (1 : Int32))]) (rest := []) (lenOf pd__28I_29I rfl) rfl (by show 2 * 0 + _ ≤ _; exact Nat.le_of_eq rfl) (hb hby at_27) (fun _ _ => ⟨rfl, P75, (by decide : 0 + 0 ≤ _), (by decide : 0 + 0 ≤ _)⟩)
      dsimp only [Pt.U, Pt.locs, Pt.cells, Pt.slots] at X77 l77 y77 z77 st77 hQ77
      subst l77 y77 z77
      obtain ⟨rfl, Nq77, P78⟩ := hQ77
      have N77 := Fr.app N74 Nq77
      refine own_G.step (T' := T77) (g' := (mkF m 30 #[.val (.int i0), .val (.int i1), .val (.int (1 : Int32)), .val (.int (2 : Int32)), .val (.ref w1), .val (.ref w2), .unset] [(.int (own_sev (1 : Int32)))])) (fun tq_ kq_ => st77 _ kq_) ?_
      have hp79 : own_sev (1 : Int32) = (2 : Int32) := by simp [own_pick, own_sev]
      refine own_G.cast (g' := (mkF m 30 #[.val (.int i0), .val (.int i1), .val (.int (1 : Int32)), .val (.int (2 : Int32)), .val (.ref w1), .val (.ref w2), .unset] [(.int (2 : Int32))])) (by rw [hp79]) ?_
      refine own_G.step (g' := (mkF m 31 #[.val (.int i0), .val (.int i1), .val (.int (1 : Int32)), .val (.int (2 : Int32)), .val (.ref w1), .val (.ref w2), .unset] [(.int (2 : Int32)), (.int (2 : Int32))])) (fun tq_ kq_ => XS.iloadN X77.here hx rfl (hb hby at_30) rfl kq_) ?_
      obtain ⟨_, _, ⟨T80, L80, k80, n80⟩, -, X80, ⟨Lc80, hQ80, l80, y80, z80⟩, st80⟩ := Jvm.LawKit.callS X77 hx (y := (⟨"com/example/concordant/concordant/rules/LevelIsAtLeastPinLaw", "severity", "(I)I"⟩ : MethodName)) hown (mvT hZ (hw _ (List.mem_of_getElem? (i := 8) rfl))) (mvT hZ (hw _ (List.mem_of_getElem? (i := 9) rfl))) (mvT hZ (hw _ (List.mem_of_getElem? (i := 3) rfl))) (mvT hZ (hw _ (List.mem_of_getElem? (i := 10) rfl))) (by decide) (backOf (W := 1) (rm_sev l Z a0 hw [] (2 : Int32) h0 n0 O0 ) hZ (hw _ (List.mem_of_getElem? (i := 10) rfl)) (hw _ (List.mem_of_getElem? (i := 3) rfl)) (by decide) (by decide)) (g := (mkF m 31 #[.val (.int i0), .val (.int i1), .val (.int (1 : Int32)), .val (.int (2 : Int32)), .val (.ref w1), .val (.ref w2), .unset] [(.int (2 : Int32)), (.int (2 : Int32))])) rfl (by rw [hml]; rfl) (argsL := [(.int (2 : Int32))]) (rest := [(.int (2 : Int32))]) (lenOf pd__28I_29I rfl) rfl (by show 2 * 0 + _ ≤ _; exact Nat.le_of_eq rfl) (hb hby at_31) (fun _ _ => ⟨rfl, P78, (by decide : 0 + 0 ≤ _), (by decide : 0 + 0 ≤ _)⟩)
      dsimp only [Pt.U, Pt.locs, Pt.cells, Pt.slots] at X80 l80 y80 z80 st80 hQ80
      subst l80 y80 z80
      obtain ⟨rfl, Nq80, P81⟩ := hQ80
      have N80 := Fr.app N77 Nq80
      refine own_G.step (T' := T80) (g' := (mkF m 34 #[.val (.int i0), .val (.int i1), .val (.int (1 : Int32)), .val (.int (2 : Int32)), .val (.ref w1), .val (.ref w2), .unset] [(.int (own_sev (2 : Int32))), (.int (2 : Int32))])) (fun tq_ kq_ => st80 _ kq_) ?_
      have hp82 : own_sev (2 : Int32) = (1 : Int32) := by simp [own_pick, own_sev]
      refine own_G.cast (g' := (mkF m 34 #[.val (.int i0), .val (.int i1), .val (.int (1 : Int32)), .val (.int (2 : Int32)), .val (.ref w1), .val (.ref w2), .unset] [(.int (1 : Int32)), (.int (2 : Int32))])) (by rw [hp82]) ?_
      have hc34 : ¬ ((2 : Int32) < (1 : Int32)) := (by decide)
      refine own_G.step (g' := (mkF m 37 #[.val (.int i0), .val (.int i1), .val (.int (1 : Int32)), .val (.int (2 : Int32)), .val (.ref w1), .val (.ref w2), .unset] [])) (fun tq_ kq_ => XS.icmpNo X80.here hx rfl (hb hby at_34) rfl (flt hc34).1 kq_) ?_
      refine own_G.step (g' := (mkF m 38 #[.val (.int i0), .val (.int i1), .val (.int (1 : Int32)), .val (.int (2 : Int32)), .val (.ref w1), .val (.ref w2), .unset] [(.int (1 : Int32))])) (fun tq_ kq_ => XS.iconst X80.here hx rfl (hb hby at_37) kq_) ?_
      refine own_G.step (g' := (mkF m 42 #[.val (.int i0), .val (.int i1), .val (.int (1 : Int32)), .val (.int (2 : Int32)), .val (.ref w1), .val (.ref w2), .unset] [(.int (1 : Int32))])) (fun tq_ kq_ => XS.goto X80.here hx rfl (pc0 := 38) (pc' := 42) rfl (hb hby at_38) (by decide) (by decide) kq_) ?_
      refine own_G.step (g' := (mkF m 44 #[.val (.int i0), .val (.int i1), .val (.int (1 : Int32)), .val (.int (2 : Int32)), .val (.ref w1), .val (.ref w2), .val (.int (1 : Int32))] [])) (fun tq_ kq_ => XS.istore X80.here hx rfl (hb hby at_42) rfl (l' := #[.val (.int i0), .val (.int i1), .val (.int (1 : Int32)), .val (.int (2 : Int32)), .val (.ref w1), .val (.ref w2), .val (.int (1 : Int32))]) rfl kq_) ?_
      refine own_G.step (g' := (mkF m 46 #[.val (.int i0), .val (.int i1), .val (.int (1 : Int32)), .val (.int (2 : Int32)), .val (.ref w1), .val (.ref w2), .val (.int (1 : Int32))] [(.ref w1)])) (fun tq_ kq_ => XS.aload X80.here hx rfl (hb hby at_44) rfl rfl kq_) ?_
      refine own_G.step (g' := (mkF m 48 #[.val (.int i0), .val (.int i1), .val (.int (1 : Int32)), .val (.int (2 : Int32)), .val (.ref w1), .val (.ref w2), .val (.int (1 : Int32))] [(.ref w2), (.ref w1)])) (fun tq_ kq_ => XS.aload X80.here hx rfl (hb hby at_46) rfl rfl kq_) ?_
      obtain ⟨cq83, kq83, q83a, q83b, q83c⟩ := isOf hZ P81 (Exa.ext O0.2 E_WARNING)
      obtain ⟨_, _, ⟨T83, L83, k83, n83⟩, -, X83, ⟨Lc83, hQ83, l83, y83, z83⟩, st83⟩ := X80.virtualBack hx (y := (⟨"com/example/concordant/concordant/rules/Level", "isAtLeast", "(Lcom/example/concordant/concordant/rules/Level;)Z"⟩ : MethodName)) (z := (⟨"com/example/concordant/concordant/rules/Level", "isAtLeast", "(Lcom/example/concordant/concordant/rules/Level;)Z"⟩ : MethodName)) hown (mvT hZ (hw _ (List.mem_of_getElem? (i := 11) rfl))) (mvT hZ (hw _ (List.mem_of_getElem? (i := 12) rfl))) (notFace_of_selects (args := #[]) (mvT hZ (hw _ (List.mem_of_getElem? (i := 14) rfl)))) (mvT hZ (hw _ (List.mem_of_getElem? (i := 14) rfl))) (mvT hZ (hw _ (List.mem_of_getElem? (i := 13) rfl))) (by decide) (backOf (W := 0) (rm_atl l Z a0 hw [] w1 w2 (1 : Int32) (2 : Int32) mr h0 n0 O0 E_WARNING E_INFO F_WARNING_ordinal F_INFO_ordinal MR) hZ (hw _ (List.mem_of_getElem? (i := 15) rfl)) (hw _ (List.mem_of_getElem? (i := 6) rfl)) (by decide) (by decide)) q83a q83c (g := (mkF m 48 #[.val (.int i0), .val (.int i1), .val (.int (1 : Int32)), .val (.int (2 : Int32)), .val (.ref w1), .val (.ref w2), .val (.int (1 : Int32))] [(.ref w2), (.ref w1)])) rfl (by rw [hml]; rfl) (Steps.refl _) (argsL := [(.ref w2)]) (rest := []) (lenOf pd__28Lcom_2fexample_2fconcordant_2fconcordant_2frules_2fLevel_3b_29Z rfl) rfl (by show 2 * 0 + _ ≤ _; exact Nat.le_of_eq rfl) (hb hby at_48) (fun _ _ => ⟨rfl, P81, (by decide : 0 + 0 ≤ _), (by decide : 0 + 0 ≤ _)⟩)
      dsimp only [Pt.U, Pt.locs, Pt.cells, Pt.slots] at X83 l83 y83 z83 st83 hQ83
      subst l83 y83 z83
      obtain ⟨rfl, Nq83, P84⟩ := hQ83
      have N83 := Fr.app N80 Nq83
      refine own_G.step (T' := T83) (g' := (mkF m 51 #[.val (.int i0), .val (.int i1), .val (.int (1 : Int32)), .val (.int (2 : Int32)), .val (.ref w1), .val (.ref w2), .val (.int (1 : Int32))] [(.int (own_atl (1 : Int32) (2 : Int32)))])) (fun tq_ kq_ => st83.trans kq_) ?_
      have hp : own_atl (1 : Int32) (2 : Int32) = (1 : Int32) := by decide
      refine own_G.cast (g' := (mkF m 51 #[.val (.int i0), .val (.int i1), .val (.int (1 : Int32)), .val (.int (2 : Int32)), .val (.ref w1), .val (.ref w2), .val (.int (1 : Int32))] [(.int (1 : Int32))])) (by rw [hp]) ?_
      refine own_G.step (g' := (mkF m 53 #[.val (.int i0), .val (.int i1), .val (.int (1 : Int32)), .val (.int (2 : Int32)), .val (.ref w1), .val (.ref w2), .val (.int (1 : Int32))] [(.int (1 : Int32)), (.int (1 : Int32))])) (fun tq_ kq_ => XS.iload X83.here hx rfl (hb hby at_51) rfl kq_) ?_
      have hc53 : (1 : Int32) = (1 : Int32) := (by decide)
      refine own_G.step (g' := (mkF m 56 #[.val (.int i0), .val (.int i1), .val (.int (1 : Int32)), .val (.int (2 : Int32)), .val (.ref w1), .val (.ref w2), .val (.int (1 : Int32))] [])) (fun tq_ kq_ => XS.icmpNo X83.here hx rfl (hb hby at_53) rfl (teq hc53).2 kq_) ?_
      refine own_G.step (g' := (mkF m 57 #[.val (.int i0), .val (.int i1), .val (.int (1 : Int32)), .val (.int (2 : Int32)), .val (.ref w1), .val (.ref w2), .val (.int (1 : Int32))] [(.int (1 : Int32))])) (fun tq_ kq_ => XS.iconst X83.here hx rfl (hb hby at_56) kq_) ?_
      refine own_G.step (g' := (mkF m 61 #[.val (.int i0), .val (.int i1), .val (.int (1 : Int32)), .val (.int (2 : Int32)), .val (.ref w1), .val (.ref w2), .val (.int (1 : Int32))] [(.int (1 : Int32))])) (fun tq_ kq_ => XS.goto X83.here hx rfl (pc0 := 57) (pc' := 61) rfl (hb hby at_57) (by decide) (by decide) kq_) ?_
      exact own_ret X83 P84 (v := some (.int (1 : Int32))) (fun h => by rw [Bd.returns] at h; cases h) Bd.notSynchronized ⟨rfl, N83⟩ (by decide) (by decide) (fun fs hr => retN X83 hx (t := .boolean) Bd.returns (by simp) (hb hby at_61) hr)
  · rcases htj with rfl | rfl | rfl
    · refine own_G.step (g' := (mkF m 15 #[.val (.int i0), .val (.int i1), .val (.int (2 : Int32)), .val (.int (0 : Int32)), .unset, .unset, .unset] [(.int (2 : Int32))])) (fun tq_ kq_ => XS.iloadN X0.here hx rfl (hb hby at_14) rfl kq_) ?_
      obtain ⟨_, _, ⟨T85, L85, k85, n85⟩, -, X85, ⟨Lc85, hQ85, l85, y85, z85⟩, st85⟩ := Jvm.LawKit.callS X0 hx (y := (⟨"com/example/concordant/concordant/rules/LevelIsAtLeastPinLaw", "pick", "(I)Lcom/example/concordant/concordant/rules/Level;"⟩ : MethodName)) hown (mvT hZ (hw _ (List.mem_of_getElem? (i := 1) rfl))) (mvT hZ (hw _ (List.mem_of_getElem? (i := 2) rfl))) (mvT hZ (hw _ (List.mem_of_getElem? (i := 3) rfl))) (mvT hZ (hw _ (List.mem_of_getElem? (i := 4) rfl))) (by decide) (backOf (W := 0) (rm_pick l Z a0 hw [] (2 : Int32) w0 w1 w2 h0 n0 O0 S_ERROR S_WARNING S_INFO) hZ (hw _ (List.mem_of_getElem? (i := 4) rfl)) (hw _ (List.mem_of_getElem? (i := 3) rfl)) (by decide) (by decide)) (g := (mkF m 15 #[.val (.int i0), .val (.int i1), .val (.int (2 : Int32)), .val (.int (0 : Int32)), .unset, .unset, .unset] [(.int (2 : Int32))])) rfl (by rw [hml]; rfl) (argsL := [(.int (2 : Int32))]) (rest := []) (lenOf pd__28I_29Lcom_2fexample_2fconcordant_2fconcordant_2frules_2fLevel_3b rfl) rfl (by show 2 * 0 + _ ≤ _; exact Nat.le_of_eq rfl) (hb hby at_15) (fun _ _ => ⟨rfl, e0, (by decide : 0 + 0 ≤ _), (by decide : 0 + 0 ≤ _)⟩)
      dsimp only [Pt.U, Pt.locs, Pt.cells, Pt.slots] at X85 l85 y85 z85 st85 hQ85
      subst l85 y85 z85
      obtain ⟨rfl, Nq85, P86⟩ := hQ85
      have N85 := Fr.app N0 Nq85
      refine own_G.step (T' := T85) (g' := (mkF m 18 #[.val (.int i0), .val (.int i1), .val (.int (2 : Int32)), .val (.int (0 : Int32)), .unset, .unset, .unset] [(.ref (own_pick (2 : Int32) w0 w1 w2))])) (fun tq_ kq_ => st85 _ kq_) ?_
      have hp87 : own_pick (2 : Int32) w0 w1 w2 = w2 := by simp [own_pick, own_sev]
      refine own_G.cast (g' := (mkF m 18 #[.val (.int i0), .val (.int i1), .val (.int (2 : Int32)), .val (.int (0 : Int32)), .unset, .unset, .unset] [(.ref w2)])) (by rw [hp87]) ?_
      refine own_G.step (g' := (mkF m 20 #[.val (.int i0), .val (.int i1), .val (.int (2 : Int32)), .val (.int (0 : Int32)), .val (.ref w2), .unset, .unset] [])) (fun tq_ kq_ => XS.astore X85.here hx rfl (hb hby at_18) rfl rfl (l' := #[.val (.int i0), .val (.int i1), .val (.int (2 : Int32)), .val (.int (0 : Int32)), .val (.ref w2), .unset, .unset]) rfl kq_) ?_
      refine own_G.step (g' := (mkF m 21 #[.val (.int i0), .val (.int i1), .val (.int (2 : Int32)), .val (.int (0 : Int32)), .val (.ref w2), .unset, .unset] [(.int (0 : Int32))])) (fun tq_ kq_ => XS.iloadN X85.here hx rfl (hb hby at_20) rfl kq_) ?_
      obtain ⟨_, _, ⟨T88, L88, k88, n88⟩, -, X88, ⟨Lc88, hQ88, l88, y88, z88⟩, st88⟩ := Jvm.LawKit.callS X85 hx (y := (⟨"com/example/concordant/concordant/rules/LevelIsAtLeastPinLaw", "pick", "(I)Lcom/example/concordant/concordant/rules/Level;"⟩ : MethodName)) hown (mvT hZ (hw _ (List.mem_of_getElem? (i := 1) rfl))) (mvT hZ (hw _ (List.mem_of_getElem? (i := 2) rfl))) (mvT hZ (hw _ (List.mem_of_getElem? (i := 3) rfl))) (mvT hZ (hw _ (List.mem_of_getElem? (i := 4) rfl))) (by decide) (backOf (W := 0) (rm_pick l Z a0 hw [] (0 : Int32) w0 w1 w2 h0 n0 O0 S_ERROR S_WARNING S_INFO) hZ (hw _ (List.mem_of_getElem? (i := 4) rfl)) (hw _ (List.mem_of_getElem? (i := 3) rfl)) (by decide) (by decide)) (g := (mkF m 21 #[.val (.int i0), .val (.int i1), .val (.int (2 : Int32)), .val (.int (0 : Int32)), .val (.ref w2), .unset, .unset] [(.int (0 : Int32))])) rfl (by rw [hml]; rfl) (argsL := [(.int (0 : Int32))]) (rest := []) (lenOf pd__28I_29Lcom_2fexample_2fconcordant_2fconcordant_2frules_2fLevel_3b rfl) rfl (by show 2 * 0 + _ ≤ _; exact Nat.le_of_eq rfl) (hb hby at_21) (fun _ _ => ⟨rfl, P86, (by decide : 0 + 0 ≤ _), (by decide : 0 + 0 ≤ _)⟩)
      dsimp only [Pt.U, Pt.locs, Pt.cells, Pt.slots] at X88 l88 y88 z88 st88 hQ88
      subst l88 y88 z88
      obtain ⟨rfl, Nq88, P89⟩ := hQ88
      have N88 := Fr.app N85 Nq88
      refine own_G.step (T' := T88) (g' := (mkF m 24 #[.val (.int i0), .val (.int i1), .val (.int (2 : Int32)), .val (.int (0 : Int32)), .val (.ref w2), .unset, .unset] [(.ref (own_pick (0 : Int32) w0 w1 w2))])) (fun tq_ kq_ => st88 _ kq_) ?_
      have hp90 : own_pick (0 : Int32) w0 w1 w2 = w0 := by simp [own_pick, own_sev]
      refine own_G.cast (g' := (mkF m 24 #[.val (.int i0), .val (.int i1), .val (.int (2 : Int32)), .val (.int (0 : Int32)), .val (.ref w2), .unset, .unset] [(.ref w0)])) (by rw [hp90]) ?_
      refine own_G.step (g' := (mkF m 26 #[.val (.int i0), .val (.int i1), .val (.int (2 : Int32)), .val (.int (0 : Int32)), .val (.ref w2), .val (.ref w0), .unset] [])) (fun tq_ kq_ => XS.astore X88.here hx rfl (hb hby at_24) rfl rfl (l' := #[.val (.int i0), .val (.int i1), .val (.int (2 : Int32)), .val (.int (0 : Int32)), .val (.ref w2), .val (.ref w0), .unset]) rfl kq_) ?_
      refine own_G.step (g' := (mkF m 27 #[.val (.int i0), .val (.int i1), .val (.int (2 : Int32)), .val (.int (0 : Int32)), .val (.ref w2), .val (.ref w0), .unset] [(.int (2 : Int32))])) (fun tq_ kq_ => XS.iloadN X88.here hx rfl (hb hby at_26) rfl kq_) ?_
      obtain ⟨_, _, ⟨T91, L91, k91, n91⟩, -, X91, ⟨Lc91, hQ91, l91, y91, z91⟩, st91⟩ := Jvm.LawKit.callS X88 hx (y := (⟨"com/example/concordant/concordant/rules/LevelIsAtLeastPinLaw", "severity", "(I)I"⟩ : MethodName)) hown (mvT hZ (hw _ (List.mem_of_getElem? (i := 8) rfl))) (mvT hZ (hw _ (List.mem_of_getElem? (i := 9) rfl))) (mvT hZ (hw _ (List.mem_of_getElem? (i := 3) rfl))) (mvT hZ (hw _ (List.mem_of_getElem? (i := 10) rfl))) (by decide) (backOf (W := 0) (rm_sev l Z a0 hw [] (2 : Int32) h0 n0 O0 ) hZ (hw _ (List.mem_of_getElem? (i := 10) rfl)) (hw _ (List.mem_of_getElem? (i := 3) rfl)) (by decide) (by decide)) (g := (mkF m 27 #[.val (.int i0), .val (.int i1), .val (.int (2 : Int32)), .val (.int (0 : Int32)), .val (.ref w2), .val (.ref w0), .unset] [(.int (2 : Int32))])) rfl (by rw [hml]; rfl) (argsL := [(.int (2 : Int32))]) (rest := []) (lenOf pd__28I_29I rfl) rfl (by show 2 * 0 + _ ≤ _; exact Nat.le_of_eq rfl) (hb hby at_27) (fun _ _ => ⟨rfl, P89, (by decide : 0 + 0 ≤ _), (by decide : 0 + 0 ≤ _)⟩)
      dsimp only [Pt.U, Pt.locs, Pt.cells, Pt.slots] at X91 l91 y91 z91 st91 hQ91
      subst l91 y91 z91
      obtain ⟨rfl, Nq91, P92⟩ := hQ91
      have N91 := Fr.app N88 Nq91
      refine own_G.step (T' := T91) (g' := (mkF m 30 #[.val (.int i0), .val (.int i1), .val (.int (2 : Int32)), .val (.int (0 : Int32)), .val (.ref w2), .val (.ref w0), .unset] [(.int (own_sev (2 : Int32)))])) (fun tq_ kq_ => st91 _ kq_) ?_
      have hp93 : own_sev (2 : Int32) = (1 : Int32) := by simp [own_pick, own_sev]
      refine own_G.cast (g' := (mkF m 30 #[.val (.int i0), .val (.int i1), .val (.int (2 : Int32)), .val (.int (0 : Int32)), .val (.ref w2), .val (.ref w0), .unset] [(.int (1 : Int32))])) (by rw [hp93]) ?_
      refine own_G.step (g' := (mkF m 31 #[.val (.int i0), .val (.int i1), .val (.int (2 : Int32)), .val (.int (0 : Int32)), .val (.ref w2), .val (.ref w0), .unset] [(.int (0 : Int32)), (.int (1 : Int32))])) (fun tq_ kq_ => XS.iloadN X91.here hx rfl (hb hby at_30) rfl kq_) ?_
      obtain ⟨_, _, ⟨T94, L94, k94, n94⟩, -, X94, ⟨Lc94, hQ94, l94, y94, z94⟩, st94⟩ := Jvm.LawKit.callS X91 hx (y := (⟨"com/example/concordant/concordant/rules/LevelIsAtLeastPinLaw", "severity", "(I)I"⟩ : MethodName)) hown (mvT hZ (hw _ (List.mem_of_getElem? (i := 8) rfl))) (mvT hZ (hw _ (List.mem_of_getElem? (i := 9) rfl))) (mvT hZ (hw _ (List.mem_of_getElem? (i := 3) rfl))) (mvT hZ (hw _ (List.mem_of_getElem? (i := 10) rfl))) (by decide) (backOf (W := 1) (rm_sev l Z a0 hw [] (0 : Int32) h0 n0 O0 ) hZ (hw _ (List.mem_of_getElem? (i := 10) rfl)) (hw _ (List.mem_of_getElem? (i := 3) rfl)) (by decide) (by decide)) (g := (mkF m 31 #[.val (.int i0), .val (.int i1), .val (.int (2 : Int32)), .val (.int (0 : Int32)), .val (.ref w2), .val (.ref w0), .unset] [(.int (0 : Int32)), (.int (1 : Int32))])) rfl (by rw [hml]; rfl) (argsL := [(.int (0 : Int32))]) (rest := [(.int (1 : Int32))]) (lenOf pd__28I_29I rfl) rfl (by show 2 * 0 + _ ≤ _; exact Nat.le_of_eq rfl) (hb hby at_31) (fun _ _ => ⟨rfl, P92, (by decide : 0 + 0 ≤ _), (by decide : 0 + 0 ≤ _)⟩)
      dsimp only [Pt.U, Pt.locs, Pt.cells, Pt.slots] at X94 l94 y94 z94 st94 hQ94
      subst l94 y94 z94
      obtain ⟨rfl, Nq94, P95⟩ := hQ94
      have N94 := Fr.app N91 Nq94
      refine own_G.step (T' := T94) (g' := (mkF m 34 #[.val (.int i0), .val (.int i1), .val (.int (2 : Int32)), .val (.int (0 : Int32)), .val (.ref w2), .val (.ref w0), .unset] [(.int (own_sev (0 : Int32))), (.int (1 : Int32))])) (fun tq_ kq_ => st94 _ kq_) ?_
      have hp96 : own_sev (0 : Int32) = (3 : Int32) := by simp [own_pick, own_sev]
      refine own_G.cast (g' := (mkF m 34 #[.val (.int i0), .val (.int i1), .val (.int (2 : Int32)), .val (.int (0 : Int32)), .val (.ref w2), .val (.ref w0), .unset] [(.int (3 : Int32)), (.int (1 : Int32))])) (by rw [hp96]) ?_
      have hc34 : (1 : Int32) < (3 : Int32) := (by decide)
      refine own_G.step (g' := (mkF m 41 #[.val (.int i0), .val (.int i1), .val (.int (2 : Int32)), .val (.int (0 : Int32)), .val (.ref w2), .val (.ref w0), .unset] [])) (fun tq_ kq_ => XS.icmpYes X94.here hx rfl (pc0 := 34) (pc' := 41) rfl (hb hby at_34) rfl (tlt hc34).1 (by decide) (by decide) kq_) ?_
      refine own_G.step (g' := (mkF m 42 #[.val (.int i0), .val (.int i1), .val (.int (2 : Int32)), .val (.int (0 : Int32)), .val (.ref w2), .val (.ref w0), .unset] [(.int (0 : Int32))])) (fun tq_ kq_ => XS.iconst X94.here hx rfl (hb hby at_41) kq_) ?_
      refine own_G.step (g' := (mkF m 44 #[.val (.int i0), .val (.int i1), .val (.int (2 : Int32)), .val (.int (0 : Int32)), .val (.ref w2), .val (.ref w0), .val (.int (0 : Int32))] [])) (fun tq_ kq_ => XS.istore X94.here hx rfl (hb hby at_42) rfl (l' := #[.val (.int i0), .val (.int i1), .val (.int (2 : Int32)), .val (.int (0 : Int32)), .val (.ref w2), .val (.ref w0), .val (.int (0 : Int32))]) rfl kq_) ?_
      refine own_G.step (g' := (mkF m 46 #[.val (.int i0), .val (.int i1), .val (.int (2 : Int32)), .val (.int (0 : Int32)), .val (.ref w2), .val (.ref w0), .val (.int (0 : Int32))] [(.ref w2)])) (fun tq_ kq_ => XS.aload X94.here hx rfl (hb hby at_44) rfl rfl kq_) ?_
      refine own_G.step (g' := (mkF m 48 #[.val (.int i0), .val (.int i1), .val (.int (2 : Int32)), .val (.int (0 : Int32)), .val (.ref w2), .val (.ref w0), .val (.int (0 : Int32))] [(.ref w0), (.ref w2)])) (fun tq_ kq_ => XS.aload X94.here hx rfl (hb hby at_46) rfl rfl kq_) ?_
      obtain ⟨cq97, kq97, q97a, q97b, q97c⟩ := isOf hZ P95 (Exa.ext O0.2 E_INFO)
      obtain ⟨_, _, ⟨T97, L97, k97, n97⟩, -, X97, ⟨Lc97, hQ97, l97, y97, z97⟩, st97⟩ := X94.virtualBack hx (y := (⟨"com/example/concordant/concordant/rules/Level", "isAtLeast", "(Lcom/example/concordant/concordant/rules/Level;)Z"⟩ : MethodName)) (z := (⟨"com/example/concordant/concordant/rules/Level", "isAtLeast", "(Lcom/example/concordant/concordant/rules/Level;)Z"⟩ : MethodName)) hown (mvT hZ (hw _ (List.mem_of_getElem? (i := 11) rfl))) (mvT hZ (hw _ (List.mem_of_getElem? (i := 12) rfl))) (notFace_of_selects (args := #[]) (mvT hZ (hw _ (List.mem_of_getElem? (i := 14) rfl)))) (mvT hZ (hw _ (List.mem_of_getElem? (i := 14) rfl))) (mvT hZ (hw _ (List.mem_of_getElem? (i := 13) rfl))) (by decide) (backOf (W := 0) (rm_atl l Z a0 hw [] w2 w0 (2 : Int32) (0 : Int32) mr h0 n0 O0 E_INFO E_ERROR F_INFO_ordinal F_ERROR_ordinal MR) hZ (hw _ (List.mem_of_getElem? (i := 15) rfl)) (hw _ (List.mem_of_getElem? (i := 6) rfl)) (by decide) (by decide)) q97a q97c (g := (mkF m 48 #[.val (.int i0), .val (.int i1), .val (.int (2 : Int32)), .val (.int (0 : Int32)), .val (.ref w2), .val (.ref w0), .val (.int (0 : Int32))] [(.ref w0), (.ref w2)])) rfl (by rw [hml]; rfl) (Steps.refl _) (argsL := [(.ref w0)]) (rest := []) (lenOf pd__28Lcom_2fexample_2fconcordant_2fconcordant_2frules_2fLevel_3b_29Z rfl) rfl (by show 2 * 0 + _ ≤ _; exact Nat.le_of_eq rfl) (hb hby at_48) (fun _ _ => ⟨rfl, P95, (by decide : 0 + 0 ≤ _), (by decide : 0 + 0 ≤ _)⟩)
      dsimp only [Pt.U, Pt.locs, Pt.cells, Pt.slots] at X97 l97 y97 z97 st97 hQ97
      subst l97 y97 z97
      obtain ⟨rfl, Nq97, P98⟩ := hQ97
      have N97 := Fr.app N94 Nq97
      refine own_G.step (T' := T97) (g' := (mkF m 51 #[.val (.int i0), .val (.int i1), .val (.int (2 : Int32)), .val (.int (0 : Int32)), .val (.ref w2), .val (.ref w0), .val (.int (0 : Int32))] [(.int (own_atl (2 : Int32) (0 : Int32)))])) (fun tq_ kq_ => st97.trans kq_) ?_
      have hp : own_atl (2 : Int32) (0 : Int32) = (0 : Int32) := by decide
      refine own_G.cast (g' := (mkF m 51 #[.val (.int i0), .val (.int i1), .val (.int (2 : Int32)), .val (.int (0 : Int32)), .val (.ref w2), .val (.ref w0), .val (.int (0 : Int32))] [(.int (0 : Int32))])) (by rw [hp]) ?_
      refine own_G.step (g' := (mkF m 53 #[.val (.int i0), .val (.int i1), .val (.int (2 : Int32)), .val (.int (0 : Int32)), .val (.ref w2), .val (.ref w0), .val (.int (0 : Int32))] [(.int (0 : Int32)), (.int (0 : Int32))])) (fun tq_ kq_ => XS.iload X97.here hx rfl (hb hby at_51) rfl kq_) ?_
      have hc53 : (0 : Int32) = (0 : Int32) := (by decide)
      refine own_G.step (g' := (mkF m 56 #[.val (.int i0), .val (.int i1), .val (.int (2 : Int32)), .val (.int (0 : Int32)), .val (.ref w2), .val (.ref w0), .val (.int (0 : Int32))] [])) (fun tq_ kq_ => XS.icmpNo X97.here hx rfl (hb hby at_53) rfl (teq hc53).2 kq_) ?_
      refine own_G.step (g' := (mkF m 57 #[.val (.int i0), .val (.int i1), .val (.int (2 : Int32)), .val (.int (0 : Int32)), .val (.ref w2), .val (.ref w0), .val (.int (0 : Int32))] [(.int (1 : Int32))])) (fun tq_ kq_ => XS.iconst X97.here hx rfl (hb hby at_56) kq_) ?_
      refine own_G.step (g' := (mkF m 61 #[.val (.int i0), .val (.int i1), .val (.int (2 : Int32)), .val (.int (0 : Int32)), .val (.ref w2), .val (.ref w0), .val (.int (0 : Int32))] [(.int (1 : Int32))])) (fun tq_ kq_ => XS.goto X97.here hx rfl (pc0 := 57) (pc' := 61) rfl (hb hby at_57) (by decide) (by decide) kq_) ?_
      exact own_ret X97 P98 (v := some (.int (1 : Int32))) (fun h => by rw [Bd.returns] at h; cases h) Bd.notSynchronized ⟨rfl, N97⟩ (by decide) (by decide) (fun fs hr => retN X97 hx (t := .boolean) Bd.returns (by simp) (hb hby at_61) hr)
    · refine own_G.step (g' := (mkF m 15 #[.val (.int i0), .val (.int i1), .val (.int (2 : Int32)), .val (.int (1 : Int32)), .unset, .unset, .unset] [(.int (2 : Int32))])) (fun tq_ kq_ => XS.iloadN X0.here hx rfl (hb hby at_14) rfl kq_) ?_
      obtain ⟨_, _, ⟨T99, L99, k99, n99⟩, -, X99, ⟨Lc99, hQ99, l99, y99, z99⟩, st99⟩ := Jvm.LawKit.callS X0 hx (y := (⟨"com/example/concordant/concordant/rules/LevelIsAtLeastPinLaw", "pick", "(I)Lcom/example/concordant/concordant/rules/Level;"⟩ : MethodName)) hown (mvT hZ (hw _ (List.mem_of_getElem? (i := 1) rfl))) (mvT hZ (hw _ (List.mem_of_getElem? (i := 2) rfl))) (mvT hZ (hw _ (List.mem_of_getElem? (i := 3) rfl))) (mvT hZ (hw _ (List.mem_of_getElem? (i := 4) rfl))) (by decide) (backOf (W := 0) (rm_pick l Z a0 hw [] (2 : Int32) w0 w1 w2 h0 n0 O0 S_ERROR S_WARNING S_INFO) hZ (hw _ (List.mem_of_getElem? (i := 4) rfl)) (hw _ (List.mem_of_getElem? (i := 3) rfl)) (by decide) (by decide)) (g := (mkF m 15 #[.val (.int i0), .val (.int i1), .val (.int (2 : Int32)), .val (.int (1 : Int32)), .unset, .unset, .unset] [(.int (2 : Int32))])) rfl (by rw [hml]; rfl) (argsL := [(.int (2 : Int32))]) (rest := []) (lenOf pd__28I_29Lcom_2fexample_2fconcordant_2fconcordant_2frules_2fLevel_3b rfl) rfl (by show 2 * 0 + _ ≤ _; exact Nat.le_of_eq rfl) (hb hby at_15) (fun _ _ => ⟨rfl, e0, (by decide : 0 + 0 ≤ _), (by decide : 0 + 0 ≤ _)⟩)
      dsimp only [Pt.U, Pt.locs, Pt.cells, Pt.slots] at X99 l99 y99 z99 st99 hQ99
      subst l99 y99 z99
      obtain ⟨rfl, Nq99, P100⟩ := hQ99
      have N99 := Fr.app N0 Nq99
      refine own_G.step (T' := T99) (g' := (mkF m 18 #[.val (.int i0), .val (.int i1), .val (.int (2 : Int32)), .val (.int (1 : Int32)), .unset, .unset, .unset] [(.ref (own_pick (2 : Int32) w0 w1 w2))])) (fun tq_ kq_ => st99 _ kq_) ?_
      have hp101 : own_pick (2 : Int32) w0 w1 w2 = w2 := by simp [own_pick, own_sev]
      refine own_G.cast (g' := (mkF m 18 #[.val (.int i0), .val (.int i1), .val (.int (2 : Int32)), .val (.int (1 : Int32)), .unset, .unset, .unset] [(.ref w2)])) (by rw [hp101]) ?_
      refine own_G.step (g' := (mkF m 20 #[.val (.int i0), .val (.int i1), .val (.int (2 : Int32)), .val (.int (1 : Int32)), .val (.ref w2), .unset, .unset] [])) (fun tq_ kq_ => XS.astore X99.here hx rfl (hb hby at_18) rfl rfl (l' := #[.val (.int i0), .val (.int i1), .val (.int (2 : Int32)), .val (.int (1 : Int32)), .val (.ref w2), .unset, .unset]) rfl kq_) ?_
      refine own_G.step (g' := (mkF m 21 #[.val (.int i0), .val (.int i1), .val (.int (2 : Int32)), .val (.int (1 : Int32)), .val (.ref w2), .unset, .unset] [(.int (1 : Int32))])) (fun tq_ kq_ => XS.iloadN X99.here hx rfl (hb hby at_20) rfl kq_) ?_
      obtain ⟨_, _, ⟨T102, L102, k102, n102⟩, -, X102, ⟨Lc102, hQ102, l102, y102, z102⟩, st102⟩ := Jvm.LawKit.callS X99 hx (y := (⟨"com/example/concordant/concordant/rules/LevelIsAtLeastPinLaw", "pick", "(I)Lcom/example/concordant/concordant/rules/Level;"⟩ : MethodName)) hown (mvT hZ (hw _ (List.mem_of_getElem? (i := 1) rfl))) (mvT hZ (hw _ (List.mem_of_getElem? (i := 2) rfl))) (mvT hZ (hw _ (List.mem_of_getElem? (i := 3) rfl))) (mvT hZ (hw _ (List.mem_of_getElem? (i := 4) rfl))) (by decide) (backOf (W := 0) (rm_pick l Z a0 hw [] (1 : Int32) w0 w1 w2 h0 n0 O0 S_ERROR S_WARNING S_INFO) hZ (hw _ (List.mem_of_getElem? (i := 4) rfl)) (hw _ (List.mem_of_getElem? (i := 3) rfl)) (by decide) (by decide)) (g := (mkF m 21 #[.val (.int i0), .val (.int i1), .val (.int (2 : Int32)), .val (.int (1 : Int32)), .val (.ref w2), .unset, .unset] [(.int (1 : Int32))])) rfl (by rw [hml]; rfl) (argsL := [(.int (1 : Int32))]) (rest := []) (lenOf pd__28I_29Lcom_2fexample_2fconcordant_2fconcordant_2frules_2fLevel_3b rfl) rfl (by show 2 * 0 + _ ≤ _; exact Nat.le_of_eq rfl) (hb hby at_21) (fun _ _ => ⟨rfl, P100, (by decide : 0 + 0 ≤ _), (by decide : 0 + 0 ≤ _)⟩)
      dsimp only [Pt.U, Pt.locs, Pt.cells, Pt.slots] at X102 l102 y102 z102 st102 hQ102
      subst l102 y102 z102
      obtain ⟨rfl, Nq102, P103⟩ := hQ102
      have N102 := Fr.app N99 Nq102
      refine own_G.step (T' := T102) (g' := (mkF m 24 #[.val (.int i0), .val (.int i1), .val (.int (2 : Int32)), .val (.int (1 : Int32)), .val (.ref w2), .unset, .unset] [(.ref (own_pick (1 : Int32) w0 w1 w2))])) (fun tq_ kq_ => st102 _ kq_) ?_
      have hp104 : own_pick (1 : Int32) w0 w1 w2 = w1 := by simp [own_pick, own_sev]
      refine own_G.cast (g' := (mkF m 24 #[.val (.int i0), .val (.int i1), .val (.int (2 : Int32)), .val (.int (1 : Int32)), .val (.ref w2), .unset, .unset] [(.ref w1)])) (by rw [hp104]) ?_
      refine own_G.step (g' := (mkF m 26 #[.val (.int i0), .val (.int i1), .val (.int (2 : Int32)), .val (.int (1 : Int32)), .val (.ref w2), .val (.ref w1), .unset] [])) (fun tq_ kq_ => XS.astore X102.here hx rfl (hb hby at_24) rfl rfl (l' := #[.val (.int i0), .val (.int i1), .val (.int (2 : Int32)), .val (.int (1 : Int32)), .val (.ref w2), .val (.ref w1), .unset]) rfl kq_) ?_
      refine own_G.step (g' := (mkF m 27 #[.val (.int i0), .val (.int i1), .val (.int (2 : Int32)), .val (.int (1 : Int32)), .val (.ref w2), .val (.ref w1), .unset] [(.int (2 : Int32))])) (fun tq_ kq_ => XS.iloadN X102.here hx rfl (hb hby at_26) rfl kq_) ?_
      obtain ⟨_, _, ⟨T105, L105, k105, n105⟩, -, X105, ⟨Lc105, hQ105, l105, y105, z105⟩, st105⟩ := Jvm.LawKit.callS X102 hx (y := (⟨"com/example/concordant/concordant/rules/LevelIsAtLeastPinLaw", "severity", "(I)I"⟩ : MethodName)) hown (mvT hZ (hw _ (List.mem_of_getElem? (i := 8) rfl))) (mvT hZ (hw _ (List.mem_of_getElem? (i := 9) rfl))) (mvT hZ (hw _ (List.mem_of_getElem? (i := 3) rfl))) (mvT hZ (hw _ (List.mem_of_getElem? (i := 10) rfl))) (by decide) (backOf (W := 0) (rm_sev l Z a0 hw [] (2 : Int32) h0 n0 O0 ) hZ (hw _ (List.mem_of_getElem? (i := 10) rfl)) (hw _ (List.mem_of_getElem? (i := 3) rfl)) (by decide) (by decide)) (g := (mkF m 27 #[.val (.int i0), .val (.int i1), .val (.int (2 : Int32)), .val (.int (1 : Int32)), .val (.ref w2), .val (.ref w1), .unset] [(.int (2 : Int32))])) rfl (by rw [hml]; rfl) (argsL := [(.int (2 : Int32))]) (rest := []) (lenOf pd__28I_29I rfl) rfl (by show 2 * 0 + _ ≤ _; exact Nat.le_of_eq rfl) (hb hby at_27) (fun _ _ => ⟨rfl, P103, (by decide : 0 + 0 ≤ _), (by decide : 0 + 0 ≤ _)⟩)
      dsimp only [Pt.U, Pt.locs, Pt.cells, Pt.slots] at X105 l105 y105 z105 st105 hQ105
      subst l105 y105 z105
      obtain ⟨rfl, Nq105, P106⟩ := hQ105
      have N105 := Fr.app N102 Nq105
      refine own_G.step (T' := T105) (g' := (mkF m 30 #[.val (.int i0), .val (.int i1), .val (.int (2 : Int32)), .val (.int (1 : Int32)), .val (.ref w2), .val (.ref w1), .unset] [(.int (own_sev (2 : Int32)))])) (fun tq_ kq_ => st105 _ kq_) ?_
      have hp107 : own_sev (2 : Int32) = (1 : Int32) := by simp [own_pick, own_sev]
      refine own_G.cast (g' := (mkF m 30 #[.val (.int i0), .val (.int i1), .val (.int (2 : Int32)), .val (.int (1 : Int32)), .val (.ref w2), .val (.ref w1), .unset] [(.int (1 : Int32))])) (by rw [hp107]) ?_
      refine own_G.step (g' := (mkF m 31 #[.val (.int i0), .val (.int i1), .val (.int (2 : Int32)), .val (.int (1 : Int32)), .val (.ref w2), .val (.ref w1), .unset] [(.int (1 : Int32)), (.int (1 : Int32))])) (fun tq_ kq_ => XS.iloadN X105.here hx rfl (hb hby at_30) rfl kq_) ?_
      obtain ⟨_, _, ⟨T108, L108, k108, n108⟩, -, X108, ⟨Lc108, hQ108, l108, y108, z108⟩, st108⟩ := Jvm.LawKit.callS X105 hx (y := (⟨"com/example/concordant/concordant/rules/LevelIsAtLeastPinLaw", "severity", "(I)I"⟩ : MethodName)) hown (mvT hZ (hw _ (List.mem_of_getElem? (i := 8) rfl))) (mvT hZ (hw _ (List.mem_of_getElem? (i := 9) rfl))) (mvT hZ (hw _ (List.mem_of_getElem? (i := 3) rfl))) (mvT hZ (hw _ (List.mem_of_getElem? (i := 10) rfl))) (by decide) (backOf (W := 1) (rm_sev l Z a0 hw [] (1 : Int32) h0 n0 O0 ) hZ (hw _ (List.mem_of_getElem? (i := 10) rfl)) (hw _ (List.mem_of_getElem? (i := 3) rfl)) (by decide) (by decide)) (g := (mkF m 31 #[.val (.int i0), .val (.int i1), .val (.int (2 : Int32)), .val (.int (1 : Int32)), .val (.ref w2), .val (.ref w1), .unset] [(.int (1 : Int32)), (.int (1 : Int32))])) rfl (by rw [hml]; rfl) (argsL := [(.int (1 : Int32))]) (rest := [(.int (1 : Int32))]) (lenOf pd__28I_29I rfl) rfl (by show 2 * 0 + _ ≤ _; exact Nat.le_of_eq rfl) (hb hby at_31) (fun _ _ => ⟨rfl, P106, (by decide : 0 + 0 ≤ _), (by decide : 0 + 0 ≤ _)⟩)
      dsimp only [Pt.U, Pt.locs, Pt.cells, Pt.slots] at X108 l108 y108 z108 st108 hQ108
      subst l108 y108 z108
      obtain ⟨rfl, Nq108, P109⟩ := hQ108
      have N108 := Fr.app N105 Nq108
      refine own_G.step (T' := T108) (g' := (mkF m 34 #[.val (.int i0), .val (.int i1), .val (.int (2 : Int32)), .val (.int (1 : Int32)), .val (.ref w2), .val (.ref w1), .unset] [(.int (own_sev (1 : Int32))), (.int (1 : Int32))])) (fun tq_ kq_ => st108 _ kq_) ?_
      have hp110 : own_sev (1 : Int32) = (2 : Int32) := by simp [own_pick, own_sev]
      refine own_G.cast (g' := (mkF m 34 #[.val (.int i0), .val (.int i1), .val (.int (2 : Int32)), .val (.int (1 : Int32)), .val (.ref w2), .val (.ref w1), .unset] [(.int (2 : Int32)), (.int (1 : Int32))])) (by rw [hp110]) ?_
      have hc34 : (1 : Int32) < (2 : Int32) := (by decide)
      refine own_G.step (g' := (mkF m 41 #[.val (.int i0), .val (.int i1), .val (.int (2 : Int32)), .val (.int (1 : Int32)), .val (.ref w2), .val (.ref w1), .unset] [])) (fun tq_ kq_ => XS.icmpYes X108.here hx rfl (pc0 := 34) (pc' := 41) rfl (hb hby at_34) rfl (tlt hc34).1 (by decide) (by decide) kq_) ?_
      refine own_G.step (g' := (mkF m 42 #[.val (.int i0), .val (.int i1), .val (.int (2 : Int32)), .val (.int (1 : Int32)), .val (.ref w2), .val (.ref w1), .unset] [(.int (0 : Int32))])) (fun tq_ kq_ => XS.iconst X108.here hx rfl (hb hby at_41) kq_) ?_
      refine own_G.step (g' := (mkF m 44 #[.val (.int i0), .val (.int i1), .val (.int (2 : Int32)), .val (.int (1 : Int32)), .val (.ref w2), .val (.ref w1), .val (.int (0 : Int32))] [])) (fun tq_ kq_ => XS.istore X108.here hx rfl (hb hby at_42) rfl (l' := #[.val (.int i0), .val (.int i1), .val (.int (2 : Int32)), .val (.int (1 : Int32)), .val (.ref w2), .val (.ref w1), .val (.int (0 : Int32))]) rfl kq_) ?_
      refine own_G.step (g' := (mkF m 46 #[.val (.int i0), .val (.int i1), .val (.int (2 : Int32)), .val (.int (1 : Int32)), .val (.ref w2), .val (.ref w1), .val (.int (0 : Int32))] [(.ref w2)])) (fun tq_ kq_ => XS.aload X108.here hx rfl (hb hby at_44) rfl rfl kq_) ?_
      refine own_G.step (g' := (mkF m 48 #[.val (.int i0), .val (.int i1), .val (.int (2 : Int32)), .val (.int (1 : Int32)), .val (.ref w2), .val (.ref w1), .val (.int (0 : Int32))] [(.ref w1), (.ref w2)])) (fun tq_ kq_ => XS.aload X108.here hx rfl (hb hby at_46) rfl rfl kq_) ?_
      obtain ⟨cq111, kq111, q111a, q111b, q111c⟩ := isOf hZ P109 (Exa.ext O0.2 E_INFO)
      obtain ⟨_, _, ⟨T111, L111, k111, n111⟩, -, X111, ⟨Lc111, hQ111, l111, y111, z111⟩, st111⟩ := X108.virtualBack hx (y := (⟨"com/example/concordant/concordant/rules/Level", "isAtLeast", "(Lcom/example/concordant/concordant/rules/Level;)Z"⟩ : MethodName)) (z := (⟨"com/example/concordant/concordant/rules/Level", "isAtLeast", "(Lcom/example/concordant/concordant/rules/Level;)Z"⟩ : MethodName)) hown (mvT hZ (hw _ (List.mem_of_getElem? (i := 11) rfl))) (mvT hZ (hw _ (List.mem_of_getElem? (i := 12) rfl))) (notFace_of_selects (args := #[]) (mvT hZ (hw _ (List.mem_of_getElem? (i := 14) rfl)))) (mvT hZ (hw _ (List.mem_of_getElem? (i := 14) rfl))) (mvT hZ (hw _ (List.mem_of_getElem? (i := 13) rfl))) (by decide) (backOf (W := 0) (rm_atl l Z a0 hw [] w2 w1 (2 : Int32) (1 : Int32) mr h0 n0 O0 E_INFO E_WARNING F_INFO_ordinal F_WARNING_ordinal MR) hZ (hw _ (List.mem_of_getElem? (i := 15) rfl)) (hw _ (List.mem_of_getElem? (i := 6) rfl)) (by decide) (by decide)) q111a q111c (g := (mkF m 48 #[.val (.int i0), .val (.int i1), .val (.int (2 : Int32)), .val (.int (1 : Int32)), .val (.ref w2), .val (.ref w1), .val (.int (0 : Int32))] [(.ref w1), (.ref w2)])) rfl (by rw [hml]; rfl) (Steps.refl _) (argsL := [(.ref w1)]) (rest := []) (lenOf pd__28Lcom_2fexample_2fconcordant_2fconcordant_2frules_2fLevel_3b_29Z rfl) rfl (by show 2 * 0 + _ ≤ _; exact Nat.le_of_eq rfl) (hb hby at_48) (fun _ _ => ⟨rfl, P109, (by decide : 0 + 0 ≤ _), (by decide : 0 + 0 ≤ _)⟩)
      dsimp only [Pt.U, Pt.locs, Pt.cells, Pt.slots] at X111 l111 y111 z111 st111 hQ111
      subst l111 y111 z111
      obtain ⟨rfl, Nq111, P112⟩ := hQ111
      have N111 := Fr.app N108 Nq111
      refine own_G.step (T' := T111) (g' := (mkF m 51 #[.val (.int i0), .val (.int i1), .val (.int (2 : Int32)), .val (.int (1 : Int32)), .val (.ref w2), .val (.ref w1), .val (.int (0 : Int32))] [(.int (own_atl (2 : Int32) (1 : Int32)))])) (fun tq_ kq_ => st111.trans kq_) ?_
      have hp : own_atl (2 : Int32) (1 : Int32) = (0 : Int32) := by decide
      refine own_G.cast (g' := (mkF m 51 #[.val (.int i0), .val (.int i1), .val (.int (2 : Int32)), .val (.int (1 : Int32)), .val (.ref w2), .val (.ref w1), .val (.int (0 : Int32))] [(.int (0 : Int32))])) (by rw [hp]) ?_
      refine own_G.step (g' := (mkF m 53 #[.val (.int i0), .val (.int i1), .val (.int (2 : Int32)), .val (.int (1 : Int32)), .val (.ref w2), .val (.ref w1), .val (.int (0 : Int32))] [(.int (0 : Int32)), (.int (0 : Int32))])) (fun tq_ kq_ => XS.iload X111.here hx rfl (hb hby at_51) rfl kq_) ?_
      have hc53 : (0 : Int32) = (0 : Int32) := (by decide)
      refine own_G.step (g' := (mkF m 56 #[.val (.int i0), .val (.int i1), .val (.int (2 : Int32)), .val (.int (1 : Int32)), .val (.ref w2), .val (.ref w1), .val (.int (0 : Int32))] [])) (fun tq_ kq_ => XS.icmpNo X111.here hx rfl (hb hby at_53) rfl (teq hc53).2 kq_) ?_
      refine own_G.step (g' := (mkF m 57 #[.val (.int i0), .val (.int i1), .val (.int (2 : Int32)), .val (.int (1 : Int32)), .val (.ref w2), .val (.ref w1), .val (.int (0 : Int32))] [(.int (1 : Int32))])) (fun tq_ kq_ => XS.iconst X111.here hx rfl (hb hby at_56) kq_) ?_
      refine own_G.step (g' := (mkF m 61 #[.val (.int i0), .val (.int i1), .val (.int (2 : Int32)), .val (.int (1 : Int32)), .val (.ref w2), .val (.ref w1), .val (.int (0 : Int32))] [(.int (1 : Int32))])) (fun tq_ kq_ => XS.goto X111.here hx rfl (pc0 := 57) (pc' := 61) rfl (hb hby at_57) (by decide) (by decide) kq_) ?_
      exact own_ret X111 P112 (v := some (.int (1 : Int32))) (fun h => by rw [Bd.returns] at h; cases h) Bd.notSynchronized ⟨rfl, N111⟩ (by decide) (by decide) (fun fs hr => retN X111 hx (t := .boolean) Bd.returns (by simp) (hb hby at_61) hr)
    · refine own_G.step (g' := (mkF m 15 #[.val (.int i0), .val (.int i1), .val (.int (2 : Int32)), .val (.int (2 : Int32)), .unset, .unset, .unset] [(.int (2 : Int32))])) (fun tq_ kq_ => XS.iloadN X0.here hx rfl (hb hby at_14) rfl kq_) ?_
      obtain ⟨_, _, ⟨T113, L113, k113, n113⟩, -, X113, ⟨Lc113, hQ113, l113, y113, z113⟩, st113⟩ := Jvm.LawKit.callS X0 hx (y := (⟨"com/example/concordant/concordant/rules/LevelIsAtLeastPinLaw", "pick", "(I)Lcom/example/concordant/concordant/rules/Level;"⟩ : MethodName)) hown (mvT hZ (hw _ (List.mem_of_getElem? (i := 1) rfl))) (mvT hZ (hw _ (List.mem_of_getElem? (i := 2) rfl))) (mvT hZ (hw _ (List.mem_of_getElem? (i := 3) rfl))) (mvT hZ (hw _ (List.mem_of_getElem? (i := 4) rfl))) (by decide) (backOf (W := 0) (rm_pick l Z a0 hw [] (2 : Int32) w0 w1 w2 h0 n0 O0 S_ERROR S_WARNING S_INFO) hZ (hw _ (List.mem_of_getElem? (i := 4) rfl)) (hw _ (List.mem_of_getElem? (i := 3) rfl)) (by decide) (by decide)) (g := (mkF m 15 #[.val (.int i0), .val (.int i1), .val (.int (2 : Int32)), .val (.int (2 : Int32)), .unset, .unset, .unset] [(.int (2 : Int32))])) rfl (by rw [hml]; rfl) (argsL := [(.int (2 : Int32))]) (rest := []) (lenOf pd__28I_29Lcom_2fexample_2fconcordant_2fconcordant_2frules_2fLevel_3b rfl) rfl (by show 2 * 0 + _ ≤ _; exact Nat.le_of_eq rfl) (hb hby at_15) (fun _ _ => ⟨rfl, e0, (by decide : 0 + 0 ≤ _), (by decide : 0 + 0 ≤ _)⟩)
      dsimp only [Pt.U, Pt.locs, Pt.cells, Pt.slots] at X113 l113 y113 z113 st113 hQ113
      subst l113 y113 z113
      obtain ⟨rfl, Nq113, P114⟩ := hQ113
      have N113 := Fr.app N0 Nq113
      refine own_G.step (T' := T113) (g' := (mkF m 18 #[.val (.int i0), .val (.int i1), .val (.int (2 : Int32)), .val (.int (2 : Int32)), .unset, .unset, .unset] [(.ref (own_pick (2 : Int32) w0 w1 w2))])) (fun tq_ kq_ => st113 _ kq_) ?_
      have hp115 : own_pick (2 : Int32) w0 w1 w2 = w2 := by simp [own_pick, own_sev]
      refine own_G.cast (g' := (mkF m 18 #[.val (.int i0), .val (.int i1), .val (.int (2 : Int32)), .val (.int (2 : Int32)), .unset, .unset, .unset] [(.ref w2)])) (by rw [hp115]) ?_
      refine own_G.step (g' := (mkF m 20 #[.val (.int i0), .val (.int i1), .val (.int (2 : Int32)), .val (.int (2 : Int32)), .val (.ref w2), .unset, .unset] [])) (fun tq_ kq_ => XS.astore X113.here hx rfl (hb hby at_18) rfl rfl (l' := #[.val (.int i0), .val (.int i1), .val (.int (2 : Int32)), .val (.int (2 : Int32)), .val (.ref w2), .unset, .unset]) rfl kq_) ?_
      refine own_G.step (g' := (mkF m 21 #[.val (.int i0), .val (.int i1), .val (.int (2 : Int32)), .val (.int (2 : Int32)), .val (.ref w2), .unset, .unset] [(.int (2 : Int32))])) (fun tq_ kq_ => XS.iloadN X113.here hx rfl (hb hby at_20) rfl kq_) ?_
      obtain ⟨_, _, ⟨T116, L116, k116, n116⟩, -, X116, ⟨Lc116, hQ116, l116, y116, z116⟩, st116⟩ := Jvm.LawKit.callS X113 hx (y := (⟨"com/example/concordant/concordant/rules/LevelIsAtLeastPinLaw", "pick", "(I)Lcom/example/concordant/concordant/rules/Level;"⟩ : MethodName)) hown (mvT hZ (hw _ (List.mem_of_getElem? (i := 1) rfl))) (mvT hZ (hw _ (List.mem_of_getElem? (i := 2) rfl))) (mvT hZ (hw _ (List.mem_of_getElem? (i := 3) rfl))) (mvT hZ (hw _ (List.mem_of_getElem? (i := 4) rfl))) (by decide) (backOf (W := 0) (rm_pick l Z a0 hw [] (2 : Int32) w0 w1 w2 h0 n0 O0 S_ERROR S_WARNING S_INFO) hZ (hw _ (List.mem_of_getElem? (i := 4) rfl)) (hw _ (List.mem_of_getElem? (i := 3) rfl)) (by decide) (by decide)) (g := (mkF m 21 #[.val (.int i0), .val (.int i1), .val (.int (2 : Int32)), .val (.int (2 : Int32)), .val (.ref w2), .unset, .unset] [(.int (2 : Int32))])) rfl (by rw [hml]; rfl) (argsL := [(.int (2 : Int32))]) (rest := []) (lenOf pd__28I_29Lcom_2fexample_2fconcordant_2fconcordant_2frules_2fLevel_3b rfl) rfl (by show 2 * 0 + _ ≤ _; exact Nat.le_of_eq rfl) (hb hby at_21) (fun _ _ => ⟨rfl, P114, (by decide : 0 + 0 ≤ _), (by decide : 0 + 0 ≤ _)⟩)
      dsimp only [Pt.U, Pt.locs, Pt.cells, Pt.slots] at X116 l116 y116 z116 st116 hQ116
      subst l116 y116 z116
      obtain ⟨rfl, Nq116, P117⟩ := hQ116
      have N116 := Fr.app N113 Nq116
      refine own_G.step (T' := T116) (g' := (mkF m 24 #[.val (.int i0), .val (.int i1), .val (.int (2 : Int32)), .val (.int (2 : Int32)), .val (.ref w2), .unset, .unset] [(.ref (own_pick (2 : Int32) w0 w1 w2))])) (fun tq_ kq_ => st116 _ kq_) ?_
      have hp118 : own_pick (2 : Int32) w0 w1 w2 = w2 := by simp [own_pick, own_sev]
      refine own_G.cast (g' := (mkF m 24 #[.val (.int i0), .val (.int i1), .val (.int (2 : Int32)), .val (.int (2 : Int32)), .val (.ref w2), .unset, .unset] [(.ref w2)])) (by rw [hp118]) ?_
      refine own_G.step (g' := (mkF m 26 #[.val (.int i0), .val (.int i1), .val (.int (2 : Int32)), .val (.int (2 : Int32)), .val (.ref w2), .val (.ref w2), .unset] [])) (fun tq_ kq_ => XS.astore X116.here hx rfl (hb hby at_24) rfl rfl (l' := #[.val (.int i0), .val (.int i1), .val (.int (2 : Int32)), .val (.int (2 : Int32)), .val (.ref w2), .val (.ref w2), .unset]) rfl kq_) ?_
      refine own_G.step (g' := (mkF m 27 #[.val (.int i0), .val (.int i1), .val (.int (2 : Int32)), .val (.int (2 : Int32)), .val (.ref w2), .val (.ref w2), .unset] [(.int (2 : Int32))])) (fun tq_ kq_ => XS.iloadN X116.here hx rfl (hb hby at_26) rfl kq_) ?_
      obtain ⟨_, _, ⟨T119, L119, k119, n119⟩, -, X119, ⟨Lc119, hQ119, l119, y119, z119⟩, st119⟩ := Jvm.LawKit.callS X116 hx (y := (⟨"com/example/concordant/concordant/rules/LevelIsAtLeastPinLaw", "severity", "(I)I"⟩ : MethodName)) hown (mvT hZ (hw _ (List.mem_of_getElem? (i := 8) rfl))) (mvT hZ (hw _ (List.mem_of_getElem? (i := 9) rfl))) (mvT hZ (hw _ (List.mem_of_getElem? (i := 3) rfl))) (mvT hZ (hw _ (List.mem_of_getElem? (i := 10) rfl))) (by decide) (backOf (W := 0) (rm_sev l Z a0 hw [] (2 : Int32) h0 n0 O0 ) hZ (hw _ (List.mem_of_getElem? (i := 10) rfl)) (hw _ (List.mem_of_getElem? (i := 3) rfl)) (by decide) (by decide)) (g := (mkF m 27 #[.val (.int i0), .val (.int i1), .val (.int (2 : Int32)), .val (.int (2 : Int32)), .val (.ref w2), .val (.ref w2), .unset] [(.int (2 : Int32))])) rfl (by rw [hml]; rfl) (argsL := [(.int (2 : Int32))]) (rest := []) (lenOf pd__28I_29I rfl) rfl (by show 2 * 0 + _ ≤ _; exact Nat.le_of_eq rfl) (hb hby at_27) (fun _ _ => ⟨rfl, P117, (by decide : 0 + 0 ≤ _), (by decide : 0 + 0 ≤ _)⟩)
      dsimp only [Pt.U, Pt.locs, Pt.cells, Pt.slots] at X119 l119 y119 z119 st119 hQ119
      subst l119 y119 z119
      obtain ⟨rfl, Nq119, P120⟩ := hQ119
      have N119 := Fr.app N116 Nq119
      refine own_G.step (T' := T119) (g' := (mkF m 30 #[.val (.int i0), .val (.int i1), .val (.int (2 : Int32)), .val (.int (2 : Int32)), .val (.ref w2), .val (.ref w2), .unset] [(.int (own_sev (2 : Int32)))])) (fun tq_ kq_ => st119 _ kq_) ?_
      have hp121 : own_sev (2 : Int32) = (1 : Int32) := by simp [own_pick, own_sev]
      refine own_G.cast (g' := (mkF m 30 #[.val (.int i0), .val (.int i1), .val (.int (2 : Int32)), .val (.int (2 : Int32)), .val (.ref w2), .val (.ref w2), .unset] [(.int (1 : Int32))])) (by rw [hp121]) ?_
      refine own_G.step (g' := (mkF m 31 #[.val (.int i0), .val (.int i1), .val (.int (2 : Int32)), .val (.int (2 : Int32)), .val (.ref w2), .val (.ref w2), .unset] [(.int (2 : Int32)), (.int (1 : Int32))])) (fun tq_ kq_ => XS.iloadN X119.here hx rfl (hb hby at_30) rfl kq_) ?_
      obtain ⟨_, _, ⟨T122, L122, k122, n122⟩, -, X122, ⟨Lc122, hQ122, l122, y122, z122⟩, st122⟩ := Jvm.LawKit.callS X119 hx (y := (⟨"com/example/concordant/concordant/rules/LevelIsAtLeastPinLaw", "severity", "(I)I"⟩ : MethodName)) hown (mvT hZ (hw _ (List.mem_of_getElem? (i := 8) rfl))) (mvT hZ (hw _ (List.mem_of_getElem? (i := 9) rfl))) (mvT hZ (hw _ (List.mem_of_getElem? (i := 3) rfl))) (mvT hZ (hw _ (List.mem_of_getElem? (i := 10) rfl))) (by decide) (backOf (W := 1) (rm_sev l Z a0 hw [] (2 : Int32) h0 n0 O0 ) hZ (hw _ (List.mem_of_getElem? (i := 10) rfl)) (hw _ (List.mem_of_getElem? (i := 3) rfl)) (by decide) (by decide)) (g := (mkF m 31 #[.val (.int i0), .val (.int i1), .val (.int (2 : Int32)), .val (.int (2 : Int32)), .val (.ref w2), .val (.ref w2), .unset] [(.int (2 : Int32)), (.int (1 : Int32))])) rfl (by rw [hml]; rfl) (argsL := [(.int (2 : Int32))]) (rest := [(.int (1 : Int32))]) (lenOf pd__28I_29I rfl) rfl (by show 2 * 0 + _ ≤ _; exact Nat.le_of_eq rfl) (hb hby at_31) (fun _ _ => ⟨rfl, P120, (by decide : 0 + 0 ≤ _), (by decide : 0 + 0 ≤ _)⟩)
      dsimp only [Pt.U, Pt.locs, Pt.cells, Pt.slots] at X122 l122 y122 z122 st122 hQ122
      subst l122 y122 z122
      obtain ⟨rfl, Nq122, P123⟩ := hQ122
      have N122 := Fr.app N119 Nq122
      refine own_G.step (T' := T122) (g' := (mkF m 34 #[.val (.int i0), .val (.int i1), .val (.int (2 : Int32)), .val (.int (2 : Int32)), .val (.ref w2), .val (.ref w2), .unset] [(.int (own_sev (2 : Int32))), (.int (1 : Int32))])) (fun tq_ kq_ => st122 _ kq_) ?_
      have hp124 : own_sev (2 : Int32) = (1 : Int32) := by simp [own_pick, own_sev]
      refine own_G.cast (g' := (mkF m 34 #[.val (.int i0), .val (.int i1), .val (.int (2 : Int32)), .val (.int (2 : Int32)), .val (.ref w2), .val (.ref w2), .unset] [(.int (1 : Int32)), (.int (1 : Int32))])) (by rw [hp124]) ?_
      have hc34 : ¬ ((1 : Int32) < (1 : Int32)) := (by decide)
      refine own_G.step (g' := (mkF m 37 #[.val (.int i0), .val (.int i1), .val (.int (2 : Int32)), .val (.int (2 : Int32)), .val (.ref w2), .val (.ref w2), .unset] [])) (fun tq_ kq_ => XS.icmpNo X122.here hx rfl (hb hby at_34) rfl (flt hc34).1 kq_) ?_
      refine own_G.step (g' := (mkF m 38 #[.val (.int i0), .val (.int i1), .val (.int (2 : Int32)), .val (.int (2 : Int32)), .val (.ref w2), .val (.ref w2), .unset] [(.int (1 : Int32))])) (fun tq_ kq_ => XS.iconst X122.here hx rfl (hb hby at_37) kq_) ?_
      refine own_G.step (g' := (mkF m 42 #[.val (.int i0), .val (.int i1), .val (.int (2 : Int32)), .val (.int (2 : Int32)), .val (.ref w2), .val (.ref w2), .unset] [(.int (1 : Int32))])) (fun tq_ kq_ => XS.goto X122.here hx rfl (pc0 := 38) (pc' := 42) rfl (hb hby at_38) (by decide) (by decide) kq_) ?_
      refine own_G.step (g' := (mkF m 44 #[.val (.int i0), .val (.int i1), .val (.int (2 : Int32)), .val (.int (2 : Int32)), .val (.ref w2), .val (.ref w2), .val (.int (1 : Int32))] [])) (fun tq_ kq_ => XS.istore X122.here hx rfl (hb hby at_42) rfl (l' := #[.val (.int i0), .val (.int i1), .val (.int (2 : Int32)), .val (.int (2 : Int32)), .val (.ref w2), .val (.ref w2), .val (.int (1 : Int32))]) rfl kq_) ?_
      refine own_G.step (g' := (mkF m 46 #[.val (.int i0), .val (.int i1), .val (.int (2 : Int32)), .val (.int (2 : Int32)), .val (.ref w2), .val (.ref w2), .val (.int (1 : Int32))] [(.ref w2)])) (fun tq_ kq_ => XS.aload X122.here hx rfl (hb hby at_44) rfl rfl kq_) ?_
      refine own_G.step (g' := (mkF m 48 #[.val (.int i0), .val (.int i1), .val (.int (2 : Int32)), .val (.int (2 : Int32)), .val (.ref w2), .val (.ref w2), .val (.int (1 : Int32))] [(.ref w2), (.ref w2)])) (fun tq_ kq_ => XS.aload X122.here hx rfl (hb hby at_46) rfl rfl kq_) ?_
      obtain ⟨cq125, kq125, q125a, q125b, q125c⟩ := isOf hZ P123 (Exa.ext O0.2 E_INFO)
      obtain ⟨_, _, ⟨T125, L125, k125, n125⟩, -, X125, ⟨Lc125, hQ125, l125, y125, z125⟩, st125⟩ := X122.virtualBack hx (y := (⟨"com/example/concordant/concordant/rules/Level", "isAtLeast", "(Lcom/example/concordant/concordant/rules/Level;)Z"⟩ : MethodName)) (z := (⟨"com/example/concordant/concordant/rules/Level", "isAtLeast", "(Lcom/example/concordant/concordant/rules/Level;)Z"⟩ : MethodName)) hown (mvT hZ (hw _ (List.mem_of_getElem? (i := 11) rfl))) (mvT hZ (hw _ (List.mem_of_getElem? (i := 12) rfl))) (notFace_of_selects (args := #[]) (mvT hZ (hw _ (List.mem_of_getElem? (i := 14) rfl)))) (mvT hZ (hw _ (List.mem_of_getElem? (i := 14) rfl))) (mvT hZ (hw _ (List.mem_of_getElem? (i := 13) rfl))) (by decide) (backOf (W := 0) (rm_atl l Z a0 hw [] w2 w2 (2 : Int32) (2 : Int32) mr h0 n0 O0 E_INFO E_INFO F_INFO_ordinal F_INFO_ordinal MR) hZ (hw _ (List.mem_of_getElem? (i := 15) rfl)) (hw _ (List.mem_of_getElem? (i := 6) rfl)) (by decide) (by decide)) q125a q125c (g := (mkF m 48 #[.val (.int i0), .val (.int i1), .val (.int (2 : Int32)), .val (.int (2 : Int32)), .val (.ref w2), .val (.ref w2), .val (.int (1 : Int32))] [(.ref w2), (.ref w2)])) rfl (by rw [hml]; rfl) (Steps.refl _) (argsL := [(.ref w2)]) (rest := []) (lenOf pd__28Lcom_2fexample_2fconcordant_2fconcordant_2frules_2fLevel_3b_29Z rfl) rfl (by show 2 * 0 + _ ≤ _; exact Nat.le_of_eq rfl) (hb hby at_48) (fun _ _ => ⟨rfl, P123, (by decide : 0 + 0 ≤ _), (by decide : 0 + 0 ≤ _)⟩)
      dsimp only [Pt.U, Pt.locs, Pt.cells, Pt.slots] at X125 l125 y125 z125 st125 hQ125
      subst l125 y125 z125
      obtain ⟨rfl, Nq125, P126⟩ := hQ125
      have N125 := Fr.app N122 Nq125
      refine own_G.step (T' := T125) (g' := (mkF m 51 #[.val (.int i0), .val (.int i1), .val (.int (2 : Int32)), .val (.int (2 : Int32)), .val (.ref w2), .val (.ref w2), .val (.int (1 : Int32))] [(.int (own_atl (2 : Int32) (2 : Int32)))])) (fun tq_ kq_ => st125.trans kq_) ?_
      have hp : own_atl (2 : Int32) (2 : Int32) = (1 : Int32) := by decide
      refine own_G.cast (g' := (mkF m 51 #[.val (.int i0), .val (.int i1), .val (.int (2 : Int32)), .val (.int (2 : Int32)), .val (.ref w2), .val (.ref w2), .val (.int (1 : Int32))] [(.int (1 : Int32))])) (by rw [hp]) ?_
      refine own_G.step (g' := (mkF m 53 #[.val (.int i0), .val (.int i1), .val (.int (2 : Int32)), .val (.int (2 : Int32)), .val (.ref w2), .val (.ref w2), .val (.int (1 : Int32))] [(.int (1 : Int32)), (.int (1 : Int32))])) (fun tq_ kq_ => XS.iload X125.here hx rfl (hb hby at_51) rfl kq_) ?_
      have hc53 : (1 : Int32) = (1 : Int32) := (by decide)
      refine own_G.step (g' := (mkF m 56 #[.val (.int i0), .val (.int i1), .val (.int (2 : Int32)), .val (.int (2 : Int32)), .val (.ref w2), .val (.ref w2), .val (.int (1 : Int32))] [])) (fun tq_ kq_ => XS.icmpNo X125.here hx rfl (hb hby at_53) rfl (teq hc53).2 kq_) ?_
      refine own_G.step (g' := (mkF m 57 #[.val (.int i0), .val (.int i1), .val (.int (2 : Int32)), .val (.int (2 : Int32)), .val (.ref w2), .val (.ref w2), .val (.int (1 : Int32))] [(.int (1 : Int32))])) (fun tq_ kq_ => XS.iconst X125.here hx rfl (hb hby at_56) kq_) ?_
      refine own_G.step (g' := (mkF m 61 #[.val (.int i0), .val (.int i1), .val (.int (2 : Int32)), .val (.int (2 : Int32)), .val (.ref w2), .val (.ref w2), .val (.int (1 : Int32))] [(.int (1 : Int32))])) (fun tq_ kq_ => XS.goto X125.here hx rfl (pc0 := 57) (pc' := 61) rfl (hb hby at_57) (by decide) (by decide) kq_) ?_
      exact own_ret X125 P126 (v := some (.int (1 : Int32))) (fun h => by rw [Bd.returns] at h; cases h) Bd.notSynchronized ⟨rfl, N125⟩ (by decide) (by decide) (fun fs hr => retN X125 hx (t := .boolean) Bd.returns (by simp) (hb hby at_61) hr)
set_option maxRecDepth 65536 in
set_option maxHeartbeats 40000000 in
theorem comes_1 {Post : Tables → Env → Array Value → State → Outcome → State → Prop} (hpost : ∀ tb e args s v u, (limb_1_1.after args s (.returned v) u = true ∧ limb_1_2.after args s (.returned v) u = true ∧ True) → FrameEnd s (.returned v) u (Jvm.fieldLocs frame_1_writes args s ++ Jvm.arrayLocs frame_1_arrays args s ++ Jvm.staticLocs frame_1_statics s) 0 0 → Post tb e args s (.returned v) u) :
    ArmFor flags0 classFile x code maxLocals ret World_1 tables_1 room_1 Calls_1 rest_1 Pre_1 Post := by
  intro l hfl _ _ p e ha hc hk s m args below hf hA hF happ hP
  obtain ⟨hcalls, hrest, hpre⟩ := hP
  obtain ⟨-, -, -, hnamed, -, -, -, hat⟩ := (Spec.applies_iff hf).mp happ
  obtain ⟨hg, hn⟩ := and_e (Cond.before_iff.mp (show (Jvm.Cond.and given_1 narrow_1).before args s = true from hpre))
  obtain ⟨gz1, gz2⟩ := and_e hg
  obtain ⟨gz3, gz4⟩ := and_e gz2
  obtain ⟨gz5, gz6⟩ := and_e hn
  obtain ⟨gz7, gz8⟩ := and_e gz6
  obtain ⟨gz9, gz10⟩ := and_e gz8
  obtain ⟨gz11, gz12⟩ := and_e gz10
  obtain ⟨gz13, gz14⟩ := and_e gz12
  obtain ⟨u0, u1, rfl⟩ : ∃ u0 u1 : Value, args = #[u0, u1] := by
    have hs : args.size = 2 := by simpa [Cond.value, given_1] using gz1
    obtain ⟨L⟩ := args
    match L, hs with
    | [u0, u1], _ => exact ⟨u0, u1, rfl⟩
  have hw := fun d (hd : d ∈ tables_1) => atoms_spec (ws := Jvm.Cond.code x code maxLocals ret :: tables_1) hat d (List.mem_cons_of_mem _ hd)
  have hfit : Fit s := fun {y c} hc i hi => by
    obtain ⟨ha, rfl⟩ := Array.getElem?_eq_some_iff.mp hc
    have q := List.all_eq_true.mp ((Array.all_eq_true_iff_forall_mem.mp hF) _ (Array.getElem_mem ha)) i (List.mem_range.mpr hi)
    simpa [Array.getElem?_eq_getElem hi] using q
  obtain ⟨i0, ei0⟩ := is_v gz3
  obtain rfl : u0 = (.int i0) := Option.some.inj ei0
  obtain ⟨i1, ei1⟩ := is_v gz4
  obtain rfl : u1 = (.int i1) := Option.some.inj ei1
  obtain ⟨w0, ev_ERROR⟩ := exa_v gz5
  have S_ERROR : Sta s s.heap "com/example/concordant/concordant/rules/Level" "ERROR" "Lcom/example/concordant/concordant/rules/Level;" (.ref w0) := Sta.start ev_ERROR (Or.inr ⟨(hw _ (List.mem_of_getElem? (i := 6) rfl)), (hw _ (List.mem_of_getElem? (i := 7) rfl))⟩)
  have E_ERROR : Exa s s.heap w0 "com/example/concordant/concordant/rules/Level" := Exa.start ev_ERROR gz5
  obtain ⟨w2, ev_INFO⟩ := exa_v gz9
  have S_INFO : Sta s s.heap "com/example/concordant/concordant/rules/Level" "INFO" "Lcom/example/concordant/concordant/rules/Level;" (.ref w2) := Sta.start ev_INFO (Or.inr ⟨(hw _ (List.mem_of_getElem? (i := 6) rfl)), (hw _ (List.mem_of_getElem? (i := 32) rfl))⟩)
  have E_INFO : Exa s s.heap w2 "com/example/concordant/concordant/rules/Level" := Exa.start ev_INFO gz9
  obtain ⟨w1, ev_WARNING⟩ := exa_v gz11
  have S_WARNING : Sta s s.heap "com/example/concordant/concordant/rules/Level" "WARNING" "Lcom/example/concordant/concordant/rules/Level;" (.ref w1) := Sta.start ev_WARNING (Or.inr ⟨(hw _ (List.mem_of_getElem? (i := 6) rfl)), (hw _ (List.mem_of_getElem? (i := 34) rfl))⟩)
  have E_WARNING : Exa s s.heap w1 "com/example/concordant/concordant/rules/Level" := Exa.start ev_WARNING gz11
  have F_ERROR_ordinal : Fld s s.heap w0 "java/lang/Enum" "ordinal" "I" (.int (0 : Int32)) := Fld.start ((fld_at ev_ERROR).symm.trans (eqv_i (Term.int_eval (0 : Int32)) gz7))
  have F_INFO_ordinal : Fld s s.heap w2 "java/lang/Enum" "ordinal" "I" (.int (2 : Int32)) := Fld.start ((fld_at ev_INFO).symm.trans (eqv_i (Term.int_eval (2 : Int32)) gz13))
  have F_WARNING_ordinal : Fld s s.heap w1 "java/lang/Enum" "ordinal" "I" (.int (1 : Int32)) := Fld.start ((fld_at ev_WARNING).symm.trans (eqv_i (Term.int_eval (1 : Int32)) gz14))
  obtain ⟨⟨cm, km, mr, hm1, hm2, hm3⟩, -⟩ := hcalls
  have MR : own_Mir s "com/example/concordant/concordant/rules/Level" mr := ⟨cm, km, hm1, hm2, hm3.1⟩
  obtain ⟨n, o, h1, h2, h3, _, L, rfl, ⟨rfl, N⟩, hq⟩ := rm_law l s _ hw tables_1 i0 i1 w0 w1 w2 mr s.heap s.heap.size (Old.start s) S_ERROR S_WARNING S_INFO E_ERROR E_WARNING E_INFO F_ERROR_ordinal F_WARNING_ordinal F_INFO_ordinal MR p e ha hc hk s m _ below hf ((Spec.applies_iff_loose hf).mp happ).1 ⟨rfl, State.Warmed39.refl s, rfl⟩ trivial
  refine ⟨n, _, h1, h2, h3, hpost _ _ _ _ _ _ ⟨Cond.after_iff.mpr rfl, Cond.after_iff.mpr (eq_i res_at (Term.int_eval (1)) rfl), trivial⟩ ⟨hq.1, hq.2.1, (hq.2.2.sift fun y hy => Or.inr (N y hy)).mono (by decide) (by decide)⟩⟩
theorem main_1_1 : Claimed_1_1 := comes_1 fun _ _ _ _ _ _ h hF => ⟨h.1, hF⟩
theorem main_1_2 : Claimed_1_2 := comes_1 fun _ _ _ _ _ _ h hF => ⟨h.2.1, hF⟩
end Jvm.Pilot.@@N@@
namespace Jvm.Pilot.@@N@@
open Jvm Jvm.ClassFile Sem Op Lib Jvm.Free Jvm.Stand Jvm.Pilot.@@N@@.Jvm.D
/-! MADE BY PROGRAM (witnessworld.py) out of the Statement's table words and the real class files: 12 classes; the members and pool entries that the words name. The judged class is class 1, her method 1. -/
namespace start1
open Jvm.ClassFile
def u (s : String) : CpInfo := .utf8 (stringToUtf16 s)
/-- a pool by its gaps: so many unusable entries, then the entry; so many at the end -/
def gap : Nat → List CpInfo → List CpInfo
  | 0, r => r
  | n + 1, r => .unusable :: gap n r
def poolList (es : List (Nat × CpInfo)) (last : Nat) : List CpInfo := es.foldr (fun e r => gap e.1 (e.2 :: r)) (gap last [])
def pool (es : List (Nat × CpInfo)) (last : Nat) : Array CpInfo := ⟨poolList es last⟩
def fileOf (pool : Array CpInfo) (this : Nat) (attrs : Array Attribute := #[]) (ms : Array MethodInfo := #[]) (fl : Nat := 33) (sup : Nat := 0) (ifs : Array Nat := #[]) (fds : Array FieldInfo := #[]) : ClassFile where
  minorVersion := 0
  majorVersion := 65
  constantPool := pool
  accessFlags := fl
  thisClass := this
  superClass := sup
  interfaces := ifs
  fields := fds
  methods := ms
  attributes := attrs
def plain (name : String) (sup : Option ClassId) : Class where
  name := name
  kind := .ordinary
  loader := none
  accessFlags := 33
  super := sup
  interfaces := #[]
  cf := none
  fields := #[]
  methods := #[]
  instanceTypes := #[]
  staticTypes := #[]
  resolved := #[]
  callSites := []
  init := .initialized
  statics := none
  mirror := none

def pool0 : Array CpInfo := pool [(5, u "<init>"), (0, u "()V"), (1, .class_ 10), (1, u "java/lang/Object"), (0, u "getClass"), (0, u "()Ljava/lang/Class;")] 111

def k0m0 : Method := { name := "<init>", desc := "()V", sig := { parameters := [], returnType := none }, accessFlags := 1, code := none }
def k0m1 : Method := { name := "getClass", desc := "()Ljava/lang/Class;", sig := { parameters := [], returnType := some (.object "java/lang/Class") }, accessFlags := 273, code := none }
/-- java/lang/Object -/
def k0 : Class := { plain "java/lang/Object" none with
  accessFlags := 33
  interfaces := #[]
  cf := some (fileOf pool0 8 #[] #[{ accessFlags := 1, nameIndex := 5, descriptorIndex := 6, attributes := #[] }, { accessFlags := 273, nameIndex := 11, descriptorIndex := 12, attributes := #[] }] 33 0 #[] #[])
  fields := #[]
  methods := #[k0m0, k0m1]
  instanceTypes := #[]
  staticTypes := #[]
  resolved := Array.replicate 124 none
  statics := none }

def pool1 : Array CpInfo := pool [(2, .class_ 4), (1, u "java/lang/Object"), (0, u "<init>"), (0, u "()V"), (0, .integer 2147483647), (0, .methodref 9 10), (0, .class_ 11), (0, .nameAndType 12 13), (0, u "com/example/concordant/concordant/rules/LevelIsAtLeastPinLaw"), (0, u "pick"), (0, u "(I)Lcom/example/concordant/concordant/rules/Level;"), (0, .methodref 9 15), (0, .nameAndType 16 17), (0, u "severity"), (0, u "(I)I"), (0, .methodref 19 20), (0, .class_ 21), (0, .nameAndType 22 23), (0, u "com/example/concordant/concordant/rules/Level"), (0, u "isAtLeast"), (0, u "(Lcom/example/concordant/concordant/rules/Level;)Z"), (0, .fieldref 19 25), (0, .nameAndType 26 27), (0, u "ERROR"), (0, u "Lcom/example/concordant/concordant/rules/Level;"), (0, .fieldref 19 29), (0, .nameAndType 30 27), (0, u "WARNING"), (0, .fieldref 19 32), (0, .nameAndType 33 27), (0, u "INFO"), (2, u "law"), (0, u "(II)Z")] 3

def k1m0 : Method := { name := "<init>", desc := "()V", sig := { parameters := [], returnType := none }, accessFlags := 1, code := none }
def k1c1 : Code := { maxStack := 2, maxLocals := 7, code := code, exceptionTable := #[], attributes := #[] }
def k1m1 : Method := { name := "law", desc := "(II)Z", sig := { parameters := [.int, .int], returnType := some .boolean }, accessFlags := 9, code := some k1c1 }
def k1c2 : Code := { maxStack := 2, maxLocals := 1, code := method_3_code, exceptionTable := #[], attributes := #[] }
def k1m2 : Method := { name := "pick", desc := "(I)Lcom/example/concordant/concordant/rules/Level;", sig := { parameters := [.int], returnType := some (.object "com/example/concordant/concordant/rules/Level") }, accessFlags := 10, code := some k1c2 }
def k1c3 : Code := { maxStack := 2, maxLocals := 1, code := method_4_code, exceptionTable := #[], attributes := #[] }
def k1m3 : Method := { name := "severity", desc := "(I)I", sig := { parameters := [.int], returnType := some .int }, accessFlags := 10, code := some k1c3 }
/-- com/example/concordant/concordant/rules/LevelIsAtLeastPinLaw -/
def k1 : Class := { plain "com/example/concordant/concordant/rules/LevelIsAtLeastPinLaw" (some 0) with
  accessFlags := 49
  interfaces := #[]
  cf := some (fileOf pool1 9 #[] #[{ accessFlags := 1, nameIndex := 5, descriptorIndex := 6, attributes := #[] }, { accessFlags := 9, nameIndex := 36, descriptorIndex := 37, attributes := #[] }, { accessFlags := 10, nameIndex := 12, descriptorIndex := 13, attributes := #[] }, { accessFlags := 10, nameIndex := 16, descriptorIndex := 17, attributes := #[] }] 49 2 #[] #[])
  fields := #[]
  methods := #[k1m0, k1m1, k1m2, k1m3]
  instanceTypes := #[]
  staticTypes := #[]
  resolved := Array.replicate 41 none
  statics := none }

def pool2 : Array CpInfo := pool [(1, .class_ 2), (0, u "java/lang/constant/Constable"), (0, .class_ 4), (0, u "java/lang/Object")] 6

/-- java/lang/constant/Constable -/
def k2 : Class := { plain "java/lang/constant/Constable" (some 0) with
  accessFlags := 1537
  interfaces := #[]
  cf := some (fileOf pool2 1 #[] #[] 1537 3 #[] #[])
  fields := #[]
  methods := #[]
  instanceTypes := #[]
  staticTypes := #[]
  resolved := Array.replicate 11 none
  statics := none }

def pool3 : Array CpInfo := pool [(1, .class_ 2), (0, u "java/lang/Comparable"), (0, .class_ 4), (0, u "java/lang/Object")] 7

/-- java/lang/Comparable -/
def k3 : Class := { plain "java/lang/Comparable" (some 0) with
  accessFlags := 1537
  interfaces := #[]
  cf := some (fileOf pool3 1 #[] #[] 1537 3 #[] #[])
  fields := #[]
  methods := #[]
  instanceTypes := #[]
  staticTypes := #[]
  resolved := Array.replicate 12 none
  statics := none }

def pool4 : Array CpInfo := pool [(1, .class_ 2), (0, u "java/io/Serializable"), (0, .class_ 4), (0, u "java/lang/Object")] 2

/-- java/io/Serializable -/
def k4 : Class := { plain "java/io/Serializable" (some 0) with
  accessFlags := 1537
  interfaces := #[]
  cf := some (fileOf pool4 1 #[] #[] 1537 3 #[] #[])
  fields := #[]
  methods := #[]
  instanceTypes := #[]
  staticTypes := #[]
  resolved := Array.replicate 7 none
  statics := none }

def pool5 : Array CpInfo := pool [(2, .class_ 4), (1, u "java/lang/Enum"), (0, u "name"), (0, u "Ljava/lang/String;"), (0, .fieldref 2 8), (0, .nameAndType 9 10), (0, u "ordinal"), (0, u "I"), (1, .class_ 14), (1, u "java/lang/Object"), (4, u "hash"), (9, .methodref 12 30), (0, .nameAndType 31 32), (0, u "getClass"), (0, u "()Ljava/lang/Class;"), (70, u "compareTo"), (0, u "(Ljava/lang/Enum;)I"), (1, .class_ 108), (1, u "java/lang/Enum$EnumDesc"), (2, .class_ 112), (0, u "java/lang/constant/Constable"), (0, .class_ 114), (0, u "java/lang/Comparable"), (0, .class_ 116), (0, u "java/io/Serializable")] 87

def k5c0 : Code := { maxStack := 2, maxLocals := 4, code := jdk_37_method_8_code, exceptionTable := #[], attributes := #[] }
def k5m0 : Method := { name := "compareTo", desc := "(Ljava/lang/Enum;)I", sig := { parameters := [(.object "java/lang/Enum")], returnType := some .int }, accessFlags := 17, code := some k5c0 }
/-- java/lang/Enum -/
def k5 : Class := { plain "java/lang/Enum" (some 0) with
  accessFlags := 1057
  interfaces := #[2, 3, 4]
  cf := some (fileOf pool5 2 #[.nestMembers #[106]] #[{ accessFlags := 17, nameIndex := 103, descriptorIndex := 104, attributes := #[] }] 1057 12 #[111, 113, 115] #[{ accessFlags := 18, nameIndex := 5, descriptorIndex := 6, attributes := #[] }, { accessFlags := 18, nameIndex := 9, descriptorIndex := 10, attributes := #[] }, { accessFlags := 2, nameIndex := 19, descriptorIndex := 10, attributes := #[] }])
  fields := #[{ name := "name", type := (.object "java/lang/String"), accessFlags := 18, slot := 0, constantValue := 0 }, { name := "ordinal", type := .int, accessFlags := 18, slot := 1, constantValue := 0 }, { name := "hash", type := .int, accessFlags := 2, slot := 2, constantValue := 0 }]
  methods := #[k5m0]
  instanceTypes := #[(.object "java/lang/String"), .int, .int]
  staticTypes := #[]
  resolved := Array.replicate 204 none
  statics := none }

def pool6 : Array CpInfo := pool [(1, .class_ 2), (0, u "com/example/concordant/concordant/rules/Level"), (2, u "ERROR"), (0, u "Lcom/example/concordant/concordant/rules/Level;"), (2, u "WARNING"), (2, u "INFO"), (2, u "$VALUES"), (0, u "[Lcom/example/concordant/concordant/rules/Level;"), (6, .class_ 25), (1, u "java/lang/Enum"), (6, .methodref 1 33), (0, .nameAndType 34 35), (0, u "compareTo"), (0, u "(Ljava/lang/Enum;)I"), (15, u "isAtLeast"), (0, u "(Lcom/example/concordant/concordant/rules/Level;)Z")] 5

def k6c0 : Code := { maxStack := 2, maxLocals := 2, code := prog_25_method_4_code, exceptionTable := #[], attributes := #[] }
def k6m0 : Method := { name := "isAtLeast", desc := "(Lcom/example/concordant/concordant/rules/Level;)Z", sig := { parameters := [(.object "com/example/concordant/concordant/rules/Level")], returnType := some .boolean }, accessFlags := 1, code := some k6c0 }
/-- com/example/concordant/concordant/rules/Level -/
def k6 : Class := { plain "com/example/concordant/concordant/rules/Level" (some 5) with
  accessFlags := 16433
  interfaces := #[]
  cf := some (fileOf pool6 1 #[] #[{ accessFlags := 1, nameIndex := 51, descriptorIndex := 52, attributes := #[] }] 16433 23 #[] #[{ accessFlags := 16409, nameIndex := 5, descriptorIndex := 6, attributes := #[] }, { accessFlags := 16409, nameIndex := 9, descriptorIndex := 6, attributes := #[] }, { accessFlags := 16409, nameIndex := 12, descriptorIndex := 6, attributes := #[] }, { accessFlags := 4122, nameIndex := 15, descriptorIndex := 16, attributes := #[] }])
  fields := #[{ name := "ERROR", type := (.object "com/example/concordant/concordant/rules/Level"), accessFlags := 16409, slot := 0, constantValue := 0 }, { name := "WARNING", type := (.object "com/example/concordant/concordant/rules/Level"), accessFlags := 16409, slot := 1, constantValue := 0 }, { name := "INFO", type := (.object "com/example/concordant/concordant/rules/Level"), accessFlags := 16409, slot := 2, constantValue := 0 }, { name := "$VALUES", type := (.array (.object "com/example/concordant/concordant/rules/Level")), accessFlags := 4122, slot := 3, constantValue := 0 }]
  methods := #[k6m0]
  instanceTypes := #[(.object "java/lang/String"), .int, .int]
  staticTypes := #[(.object "com/example/concordant/concordant/rules/Level"), (.object "com/example/concordant/concordant/rules/Level"), (.object "com/example/concordant/concordant/rules/Level"), (.array (.object "com/example/concordant/concordant/rules/Level"))]
  resolved := Array.replicate 58 none
  mirror := some 4
  statics := some 0 }

def pool7 : Array CpInfo := pool [(1, u "java/lang/Cloneable"), (0, .class_ 1), (0, u "java/lang/Object"), (0, .class_ 3)] 3

/-- java/lang/Cloneable -/
def k7 : Class := { plain "java/lang/Cloneable" (some 0) with
  accessFlags := 1537
  interfaces := #[]
  cf := some (fileOf pool7 2 #[] #[] 1537 4 #[] #[])
  fields := #[]
  methods := #[]
  instanceTypes := #[]
  staticTypes := #[]
  resolved := Array.replicate 8 none
  statics := none }

/-- the primitive byte -/
def k8 : Class := { plain "byte" none with kind := .primitive 'B', accessFlags := 0x411 }
/-- [B -/
def k9 : Class := { plain "[B" (some 0) with kind := .array 8 .byte, interfaces := #[7, 4], accessFlags := 1041 }

/-- the primitive int -/
def k10 : Class := { plain "int" none with kind := .primitive 'I', accessFlags := 0x411 }
/-- [I -/
def k11 : Class := { plain "[I" (some 0) with kind := .array 10 .int, interfaces := #[7, 4], accessFlags := 1041 }

def heap : Heap := #[{ cls := 6, slots := #[.ref 1, .ref 2, .ref 3, .null], vm := .statics 6 },
  { cls := 6, slots := #[.null, .int 0, .int 0], vm := .none },
  { cls := 6, slots := #[.null, .int 1, .int 0], vm := .none },
  { cls := 6, slots := #[.null, .int 2, .int 0], vm := .none },
  { cls := 0, slots := #[], vm := .mirror 6 }]
def classes : Array Class := #[k0, k1, k2, k3, k4, k5, k6, k7, k8, k9, k10, k11]
def interned : List (Array UInt16 × Addr) := []
def slotsUsed : Nat := 13
def theMethod : MethodId := ⟨1, 1⟩
def args0 : Array Value := #[.int 1, .int 2]
def aboutOver (below : List Frame) : State where
  vm := { classes := classes, interned := interned.toArray }
  heap := heap
  slotsUsed := slotsUsed
  threads := #[{ frames := .invoking theMethod args0 :: below }]
def below0 : List Frame := [.native { method := ⟨0, 0⟩, args := #[] }]
def about1 : State := aboutOver below0
def p0 : Program := .bare "" "" ""
def e0 : Env := launch0.env 0 0 0
theorem w_frames : about1.frames = Frame.invoking theMethod args0 :: below0 := rfl
set_option maxRecDepth 65536 in
theorem w_args : argsFit about1.vm theMethod args0 = true := by decide +kernel
set_option maxRecDepth 65536 in
theorem w_heap : heapFits about1 = true := by decide +kernel
set_option maxRecDepth 65536 in
theorem w_runnable : about1.curStatus? = some .runnable := by decide +kernel
set_option maxRecDepth 65536 in
theorem w_alone : about1.alone = true := by decide +kernel
set_option maxRecDepth 65536 in
theorem w_named : about1.methodNamed? x = some theMethod := by decide +kernel
set_option maxRecDepth 65536 in
theorem w_hears : about1.hears theMethod below0 = true := by decide +kernel
set_option maxRecDepth 65536 in
theorem w_ripe : about1.ripe theMethod args0 below0 = true := by decide +kernel
theorem w_running : about1.status = .running := rfl
set_option maxRecDepth 65536 in
theorem w_room : about1.hasRoom e0.platform room_1 = true :=
  launch0.hasRoom_least _ room_1 (by decide +kernel) (by decide +kernel) (by decide +kernel) (by decide +kernel) (by decide +kernel) (by decide +kernel)
theorem allAtoms_all (ts : List Jvm.Cond) (a : Array Jvm.Value) (st : Jvm.State) : (allAtoms ts).before a st = ts.all (fun c => c.before a st) := by
  induction ts with
  | nil => rfl
  | cons c t ih =>
    show (Jvm.Cond.and c (allAtoms t)).before a st = _
    rw [Jvm.Cond.before_and, ih, List.all_cons]
def words1 : List Jvm.Cond := Jvm.Cond.code x code maxLocals ret :: tables_1
/-- a 'code' word, met by the world's own term for the bytes: nothing is compared byte by byte -/
theorem code_word {y : MethodName} {bytes : ByteArray} {mx : Nat} {rt : Option FieldType} {a : Array Value} {s : State} {m : MethodId} {meth : Method} {c : Code} (h1 : s.methodNamed? y = some m) (h2 : s.vm.method? m = some meth) (h3 : meth.code = some c) (h4 : c.code = bytes)
    (h5 : (c.maxLocals == mx && c.exceptionTable.isEmpty && decide (c.maxStack ≤ mostOperands) && decide (meth.sig.returnType = rt) && !meth.locks && decide (parseMethodDescriptor y.desc = some meth.sig)) = true) : (Jvm.Cond.code y bytes mx rt).before a s = true := by
  simp only [Bool.and_eq_true, beq_iff_eq, Bool.not_eq_true', decide_eq_true_eq] at h5
  obtain ⟨⟨⟨⟨⟨g1, g2⟩, g3⟩, g4⟩, g5⟩, g6⟩ := h5
  simp [Cond.before, Cond.holds, Cond.value, h1, h2, h3, h4, g1, g2, g3, g4, g5, g6]
def isCode : Jvm.Cond → Bool
  | .code _ _ _ _ => true
  | _ => false
theorem all_split {L : List Jvm.Cond} {P : Jvm.Cond → Bool} (h1 : L.all (fun c => isCode c || P c) = true) (h2 : ∀ c ∈ L.filter isCode, P c = true) : L.all P = true := by
  refine List.all_eq_true.mpr fun c hc => ?_
  have h := List.all_eq_true.mp h1 c hc
  rcases Bool.eq_false_or_eq_true (isCode c) with hi | hi
  · exact h2 c (List.mem_filter.mpr ⟨hc, hi⟩)
  · simpa [hi] using h
set_option maxRecDepth 65536 in
theorem w_c0 : (Jvm.Cond.code x code maxLocals ret).before args0 about1 = true := code_word (m := ⟨1, 1⟩) (meth := k1m1) (c := k1c1) (by decide +kernel) rfl rfl rfl (by decide +kernel)
set_option maxRecDepth 65536 in
theorem w_c1 : (Jvm.Cond.code ({ cls := "com/example/concordant/concordant/rules/LevelIsAtLeastPinLaw", name := "pick", desc := "(I)Lcom/example/concordant/concordant/rules/Level;" } : Jvm.MethodName) method_3_code (1 : Nat) (Option.some (Jvm.ClassFile.FieldType.object "com/example/concordant/concordant/rules/Level"))).before args0 about1 = true := code_word (m := ⟨1, 2⟩) (meth := k1m2) (c := k1c2) (by decide +kernel) rfl rfl rfl (by decide +kernel)
set_option maxRecDepth 65536 in
theorem w_c2 : (Jvm.Cond.code ({ cls := "com/example/concordant/concordant/rules/LevelIsAtLeastPinLaw", name := "severity", desc := "(I)I" } : Jvm.MethodName) method_4_code (1 : Nat) (Option.some Jvm.ClassFile.FieldType.int)).before args0 about1 = true := code_word (m := ⟨1, 3⟩) (meth := k1m3) (c := k1c3) (by decide +kernel) rfl rfl rfl (by decide +kernel)
set_option maxRecDepth 65536 in
theorem w_c3 : (Jvm.Cond.code ({ cls := "com/example/concordant/concordant/rules/Level", name := "isAtLeast", desc := "(Lcom/example/concordant/concordant/rules/Level;)Z" } : Jvm.MethodName) prog_25_method_4_code (2 : Nat) (Option.some Jvm.ClassFile.FieldType.boolean)).before args0 about1 = true := code_word (m := ⟨6, 0⟩) (meth := k6m0) (c := k6c0) (by decide +kernel) rfl rfl rfl (by decide +kernel)
set_option maxRecDepth 65536 in
theorem w_c4 : (Jvm.Cond.code ({ cls := "java/lang/Enum", name := "compareTo", desc := "(Ljava/lang/Enum;)I" } : Jvm.MethodName) jdk_37_method_8_code (4 : Nat) (Option.some Jvm.ClassFile.FieldType.int)).before args0 about1 = true := code_word (m := ⟨5, 0⟩) (meth := k5m0) (c := k5c0) (by decide +kernel) rfl rfl rfl (by decide +kernel)
def codes1 : List Jvm.Cond := [Jvm.Cond.code x code maxLocals ret, Jvm.Cond.code ({ cls := "com/example/concordant/concordant/rules/LevelIsAtLeastPinLaw", name := "pick", desc := "(I)Lcom/example/concordant/concordant/rules/Level;" } : Jvm.MethodName) method_3_code (1 : Nat) (Option.some (Jvm.ClassFile.FieldType.object "com/example/concordant/concordant/rules/Level")), Jvm.Cond.code ({ cls := "com/example/concordant/concordant/rules/LevelIsAtLeastPinLaw", name := "severity", desc := "(I)I" } : Jvm.MethodName) method_4_code (1 : Nat) (Option.some Jvm.ClassFile.FieldType.int), Jvm.Cond.code ({ cls := "com/example/concordant/concordant/rules/Level", name := "isAtLeast", desc := "(Lcom/example/concordant/concordant/rules/Level;)Z" } : Jvm.MethodName) prog_25_method_4_code (2 : Nat) (Option.some Jvm.ClassFile.FieldType.boolean), Jvm.Cond.code ({ cls := "java/lang/Enum", name := "compareTo", desc := "(Ljava/lang/Enum;)I" } : Jvm.MethodName) jdk_37_method_8_code (4 : Nat) (Option.some Jvm.ClassFile.FieldType.int)]
set_option maxRecDepth 65536 in
theorem codes_eq : words1.filter isCode = codes1 := rfl
theorem w_codes : ∀ c ∈ words1.filter isCode, c.before args0 about1 = true := by
  rw [codes_eq]
  intro c hc
  simp only [codes1, List.mem_cons, List.not_mem_nil, or_false] at hc
  rcases hc with rfl | rfl | rfl | rfl | rfl
  · exact w_c0
  · exact w_c1
  · exact w_c2
  · exact w_c3
  · exact w_c4
set_option maxRecDepth 65536 in
theorem w_t1 : (words1.take 24).all (fun c => isCode c || c.before args0 about1) = true := by decide +kernel
set_option maxRecDepth 65536 in
theorem w_t2 : (words1.drop 24).all (fun c => isCode c || c.before args0 about1) = true := by decide +kernel
theorem w_tables : (allAtoms (Jvm.Cond.code x code maxLocals ret :: tables_1)).before args0 about1 = true := by
  rw [allAtoms_all]
  show words1.all (fun c => c.before args0 about1) = true
  refine all_split ?_ w_codes
  rw [← List.take_append_drop 24 words1, List.all_append, w_t1, w_t2]
  rfl
set_option maxRecDepth 65536 in
theorem w_case : (Jvm.Cond.and given_1 narrow_1).before args0 about1 = true := by decide +kernel
theorem w_applies : (headSpec (Jvm.Cond.code x code maxLocals ret :: tables_1) room_1).applies x e0.platform about1 = true :=
  (Spec.applies_iff w_frames).mpr ⟨w_running, w_runnable, w_alone, w_named, w_hears, w_ripe, w_room, w_tables⟩
theorem atStart : AtStart classFile x code maxLocals ret World_1 tables_1 room_1 Calls_1 rest_1 Pre_1 launch0 p0 e0 about1 theMethod args0 below0 :=
  ⟨lists_1, trivial, launch0.admits_env _ _ _, launch0.least_env, fairChoices_fair.cas, fairChoices_fair.clock, w_frames, w_args, w_heap, w_applies, ⟨⟨6, k6, 4, by decide +kernel, rfl, rfl, _, rfl, rfl⟩, trivial⟩, trivial, w_case⟩
end start1
theorem witness_1 : WitnessClaimed_1 := ⟨start1.p0, start1.e0, start1.about1, start1.theMethod, start1.args0, start1.below0, start1.atStart⟩
end Jvm.Pilot.@@N@@
