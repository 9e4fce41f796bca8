import JvmDerived
import JvmDerived.Pilot.@@N@@Statement
import JvmDerived.Pilot.@@N@@Code
set_option linter.unusedVariables false
set_option linter.unusedSimpArgs false
namespace Jvm.RoadKit
open Sem ClassFile Op Lib Jvm.Stand Jvm.Free Jvm.LawKit
section New
variable {p : Program} {l : Launch} {e : Env} {R : Room} {s : State} {m : MethodId} {args : Array Value} {below : List Frame} {meth : Method} {c : Code} {T : State} {locs : List Loc} {cells slots : Nat}
theorem retI (X : Stand p l e R s m args below meth c T locs cells slots) (hx : p.tables.exec = Jvm.exec) {pc : Nat} {Ls : Array Slot} {z : Int32} {rest : List Value} (hret : meth.sig.returnType = some .int) (hd : decode c.code pc = .ok (.ireturn, 1)) {fs : List Frame}
    (hl : ∀ (f : JFrame) (acts : List Action), f.method = m → f.locked = none → f.entered = [] → (doReturn e (T.setTop f) acts (some (.int z))).1 = T.setFrames fs) : Steps p.tables e below (T.setTop (mkF m pc Ls (.int z :: rest))) (T.setFrames fs) := by
  have hm' : T.vm.method? m = some meth := X.method'
  have hn : narrow .int (.int z) = .int z := rfl
  show Steps p.tables e below (T.setTop { method := m, pc := pc, locals := Ls, stack := _ :: rest, locked := none }) _
  jvm_step X.here [X.here.top, hx, hd, hm', hret, hn]
  first | (intro acts; rw [hl _ acts rfl rfl rfl]) | rw [hl _ _ rfl rfl rfl]
  exact Steps.refl _
/-- the return of a reference, null or not -/
theorem own_retR (X : Stand p l e R s m args below meth c T locs cells slots) (hx : p.tables.exec = Jvm.exec) {pc : Nat} {Ls : Array Slot} {w : Value} {ty : FieldType} {rest : List Value} (hret : meth.sig.returnType = some ty) (ht : ty.isReference = true) (hw : w.isRef = true) (hd : decode c.code pc = .ok (.areturn, 1)) {fs : List Frame}
    (hl : ∀ (f : JFrame) (acts : List Action), f.method = m → f.locked = none → f.entered = [] → (doReturn e (T.setTop f) acts (some w)).1 = T.setFrames fs) : Steps p.tables e below (T.setTop (mkF m pc Ls (w :: rest))) (T.setFrames fs) := by
  have hm' : T.vm.method? m = some meth := X.method'
  show Steps p.tables e below (T.setTop { method := m, pc := pc, locals := Ls, stack := _ :: rest, locked := none }) _
  rcases ref_cases hw with rfl | ⟨z, rfl⟩
  all_goals
    jvm_step X.here [X.here.top, hx, hd, hm', hret, ht, Value.isRef]
    first | (intro acts; rw [hl _ acts rfl rfl rfl]) | rw [hl _ _ rfl rfl rfl]
    exact Steps.refl _
/-- what a walk owes from a state and a frame on -/
def own_G (p : Program) (e : Env) (below : List Frame) (s : State) (C N : Nat) (Q : Option Value → Heap → List Loc → Prop) (T : State) (g : JFrame) : Prop :=
  ∃ s₂ o, Steps p.tables e below (T.setTop g) s₂ ∧ s₂.status = .running ∧ Ended s₂ below o ∧ ∃ v L, o = .returned v ∧ Q v s₂.heap L ∧ FrameEnd s o s₂ L C N
variable {C N : Nat} {Q : Option Value → Heap → List Loc → Prop} {T' : State} {g g' : JFrame} {h : Heap}
theorem own_G.step (k : ∀ t, Steps p.tables e below (T'.setTop g') t → Steps p.tables e below (T.setTop g) t) (H : own_G p e below s C N Q T' g') : own_G p e below s C N Q T g := by
  obtain ⟨s₂, o, h1, r⟩ := H
  exact ⟨s₂, o, k _ h1, r⟩
theorem own_G.cast (q : g = g') (H : own_G p e below s C N Q T g') : own_G p e below s C N Q T g := by
  subst q
  exact H
theorem own_G.start (q : g = g') (H : own_G p e below s C N Q T g') : ∃ s₂ o, Steps p.tables e below (T.setTop g) s₂ ∧ s₂.status = .running ∧ Ended s₂ below o ∧ ∃ v L, o = .returned v ∧ Q v s₂.heap L ∧ FrameEnd s o s₂ L C N := by
  subst q
  exact H
theorem own_ret (X : Stand p l e R s m args below meth c T locs cells slots) (eT : T.heap = h) {v : Option Value} (hv : meth.sig.returnType = none → v = none) (hlk : meth.locks = false) (hq : Q v h locs) (hc : cells ≤ C) (hn : slots ≤ N)
    (st : ∀ fs, (∀ (f : JFrame) (acts : List Action), f.method = m → f.locked = none → f.entered = [] → (doReturn e (T.setTop f) acts v).1 = T.setFrames fs) → Steps p.tables e below (T.setTop g) (T.setFrames fs)) : own_G p e below s C N Q T g := by
  obtain ⟨fs, hr, hrun, hended, hW, hsame⟩ := X.leave (v := v) hv hlk
  subst eT
  exact ⟨_, _, st fs hr, hrun, hended, _, _, rfl, hq, ⟨_, rfl⟩, hW, hsame.mono hc hn⟩
/-- the same where String constants may be made on the way -/
def own_GW (p : Program) (e : Env) (below : List Frame) (s : State) (C N : Nat) (Q : Option Value → Heap → List Loc → Prop) (T : State) (g : JFrame) : Prop :=
  ∃ s₂ o, Steps p.tables e below (T.setTop g) s₂ ∧ s₂.status = .running ∧ Ended s₂ below o ∧ ∃ v L, o = .returned v ∧ Q v s₂.heap L ∧ ReturnedEndW s o s₂ L C N
theorem own_GW.step (k : ∀ t, Steps p.tables e below (T'.setTop g') t → Steps p.tables e below (T.setTop g) t) (H : own_GW p e below s C N Q T' g') : own_GW p e below s C N Q T g := by
  obtain ⟨s₂, o, h1, r⟩ := H
  exact ⟨s₂, o, k _ h1, r⟩
theorem own_GW.cast (q : g = g') (H : own_GW p e below s C N Q T g') : own_GW p e below s C N Q T g := by
  subst q
  exact H
theorem own_GW.start (q : g = g') (H : own_GW p e below s C N Q T g') : ∃ s₂ o, Steps p.tables e below (T.setTop g) s₂ ∧ s₂.status = .running ∧ Ended s₂ below o ∧ ∃ v L, o = .returned v ∧ Q v s₂.heap L ∧ ReturnedEndW s o s₂ L C N := by
  subst q
  exact H
theorem own_retW {vm₁ : Vm} {k : Nat} (X : Stand p l e R (s.setVm vm₁) m args below meth c T locs cells slots) (hS : s.Since vm₁ k) (eT : T.heap = h) (hk : k ≤ h.size) {v : Option Value} (hv : meth.sig.returnType = none → v = none) (hlk : meth.locks = false) (hq : Q v h locs) (hc : cells ≤ C) (hn : slots ≤ N)
    (st : ∀ fs, (∀ (f : JFrame) (acts : List Action), f.method = m → f.locked = none → f.entered = [] → (doReturn e (T.setTop f) acts v).1 = T.setFrames fs) → Steps p.tables e below (T.setTop g) (T.setFrames fs)) : own_GW p e below s C N Q T g := by
  obtain ⟨fs, hr, hrun, hended, hW, hsame⟩ := X.leave (v := v) hv hlk
  subst eT
  obtain ⟨a, b, d⟩ := hS.ended (U := T.setFrames fs) hW hk hsame
  exact ⟨_, _, st fs hr, hrun, hended, _, _, rfl, hq, ⟨_, rfl⟩, a, b, d.mono hc hn⟩
/-- the same where the held String constants are kept too -/
def own_GH (Z : State) (EL : List (String × Nat)) (p : Program) (e : Env) (below : List Frame) (s : State) (C N : Nat) (Q : Option Value → Heap → List Loc → Prop) (T : State) (g : JFrame) : Prop :=
  ∃ s₂ o, Steps p.tables e below (T.setTop g) s₂ ∧ s₂.status = .running ∧ Ended s₂ below o ∧ ∃ v L, o = .returned v ∧ Q v s₂.heap L ∧ CHr Z EL s.vm s.heap s₂.vm s₂.heap ∧ ReturnedEndW s o s₂ L C N
section HeldEnd
variable {Z : State} {EL : List (String × Nat)}
theorem own_GH.step (k : ∀ t, Steps p.tables e below (T'.setTop g') t → Steps p.tables e below (T.setTop g) t) (H : own_GH Z EL p e below s C N Q T' g') : own_GH Z EL p e below s C N Q T g := by
  obtain ⟨s₂, o, h1, r⟩ := H
  exact ⟨s₂, o, k _ h1, r⟩
theorem own_GH.cast (q : g = g') (H : own_GH Z EL p e below s C N Q T g') : own_GH Z EL p e below s C N Q T g := by
  subst q
  exact H
theorem own_GH.start (q : g = g') (H : own_GH Z EL p e below s C N Q T g') : ∃ s₂ o, Steps p.tables e below (T.setTop g) s₂ ∧ s₂.status = .running ∧ Ended s₂ below o ∧ ∃ v L, o = .returned v ∧ Q v s₂.heap L ∧ CHr Z EL s.vm s.heap s₂.vm s₂.heap ∧ ReturnedEndW s o s₂ L C N := by
  subst q
  exact H
theorem own_retH {vm₁ : Vm} {k : Nat} {h0 : Heap} {a0 : Array Value} (X : Stand p l e R (s.setVm vm₁) m args below meth c T locs cells slots) (hS : s.Since vm₁ k) (eT : T.heap = h) (hk : k ≤ h.size) (hZ : Z.Warmed39 vm₁) (ew : EW Z a0 EL) (hH : CHv Z EL vm₁ h) (hh : s.heap = h0) (hR : CHr Z EL s.vm h0 vm₁ h) {v : Option Value} (hv : meth.sig.returnType = none → v = none) (hlk : meth.locks = false) (hq : Q v h locs) (hc : cells ≤ C) (hn : slots ≤ N)
    (st : ∀ fs, (∀ (f : JFrame) (acts : List Action), f.method = m → f.locked = none → f.entered = [] → (doReturn e (T.setTop f) acts v).1 = T.setFrames fs) → Steps p.tables e below (T.setTop g) (T.setFrames fs)) : own_GH Z EL p e below s C N Q T g := by
  obtain ⟨fs, hr, hrun, hended, hW, hsame⟩ := X.leave (v := v) hv hlk
  subst eT
  subst hh
  have q := CHv.at X hZ ew hH
  obtain ⟨a, b, d⟩ := hS.ended (U := T.setFrames fs) hW hk hsame
  exact ⟨_, _, st fs hr, hrun, hended, _, _, rfl, hq, (show CHr Z EL s.vm s.heap (T.setFrames fs).vm (T.setFrames fs).heap from hR.trans q), ⟨_, rfl⟩, a, b, d.mono hc hn⟩
end HeldEnd
/-- an array of that length -/
def own_Len (Z : State) (h : Heap) (a : Addr) (n : Int32) : Prop := ∃ (c : Cell) (ty : FieldType), Arr Z h a c ty ∧ c.slots.size = n.toNatClampNeg ∧ ¬ n < 0
theorem own_Len.lt {Z : State} {a : Addr} {n : Int32} (F : own_Len Z h a n) : a < h.size := by
  obtain ⟨c, ty, A, -⟩ := F
  exact A.lt
theorem own_Len.ext {Z : State} {h' : Heap} {a : Addr} {n : Int32} (F : own_Len Z h a n) (E : Ext h h') : own_Len Z h' a n := by
  obtain ⟨c, ty, A, r⟩ := F
  exact ⟨c, ty, A.ext E, r⟩
theorem own_Len.other {Z : State} {h' : Heap} {a b : Addr} {n : Int32} {sl : Nat} {v : Value} (F : own_Len Z h b n) (W : Wr h h' a sl v) (q : b ≠ a) : own_Len Z h' b n := by
  obtain ⟨c, ty, A, r⟩ := F
  exact ⟨c, ty, A.other W q, r⟩
theorem own_Len.keep {Z : State} {h' : Heap} {a : Addr} {n : Int32} {ws : List Addr} (F : own_Len Z h a n) (K : Keep h h' ws) (q : a ∉ ws) : own_Len Z h' a n := by
  obtain ⟨c, ty, A, r⟩ := F
  exact ⟨c, ty, ⟨K.2.1 _ _ A.1 q, A.2⟩, r⟩
theorem own_Len.arv {Z : State} {a : Addr} {k : ClassId} {ty : FieldType} {n : Int32} {vs : List Value} {d : Value} (F : Arv Z h a k ty n vs d) : own_Len Z h a n := by
  obtain ⟨c, A, -, S, N, -⟩ := F
  exact ⟨c, ty, A, S, N⟩
theorem own_Len.start {Z : State} {a : Addr} {c : Cell} {ty : FieldType} {z : Int32} (A : Arr Z h a c ty) (q : c.slots.size < 2 ^ 31) (e : c.slots.size.toInt32 = z) (hz : ¬ z < 0) : own_Len Z h a z :=
  ⟨c, ty, A, by rw [← e]; simp only [Int32.toNatClampNeg, len_toInt q]; rfl, hz⟩
theorem own_join {α : Sort _} {P : α → Prop} {G : JFrame → Prop} {g : JFrame} (F : α → JFrame) (h1 : ∀ t, P t → G (F t)) (h2 : (∀ t, P t → G (F t)) → G g) : G g := h2 h1
/-- a byte of a byte[] -/
def own_At (Z : State) (h : Heap) (a : Addr) (i b : Int32) : Prop := ∃ c : Cell, Arr Z h a c .byte ∧ ¬ (i < 0 ∨ c.slots.size ≤ i.toNatClampNeg) ∧ c.slots[i.toNatClampNeg]? = some (.int b)
theorem own_At.arv {Z : State} {a : Addr} {k : ClassId} {n i b : Int32} {vs : List Value} {d : Value} (F : Arv Z h a k .byte n vs d) (h1 : ¬ i < 0 ∧ i < n) (h2 : vs.getD i.toNatClampNeg d = .int b) : own_At Z h a i b := by
  obtain ⟨c, A, -, S, N, H, -⟩ := F
  exact ⟨c, A, inb_of S h1, H.at (inb_of S h1) h2⟩
theorem own_cat {v : Value} (hv : v.isRef = true) : v.category = 1 := by rcases ref_cases hv with rfl | ⟨z, rfl⟩ <;> rfl
theorem own_fits {v : Value} {ty : FieldType} (hv : v.isRef = true) (ht : ty.isReference = true) : fits ty v = true := by
  rcases ref_cases hv with rfl | ⟨z, rfl⟩ <;> cases ty <;> first | rfl | (cases ht; done) | simp [fits]
theorem own_narrow {v : Value} {ty : FieldType} (hv : v.isRef = true) (ht : ty.isReference = true) : narrow ty v = v := by
  rcases ref_cases hv with rfl | ⟨z, rfl⟩ <;> cases ty <;> first | rfl | (cases ht; done)
theorem Old.le {Z : State} {n0 : Nat} (X : Old Z n0 h) : n0 ≤ h.size := X.1 ▸ X.2.1
end New
end Jvm.RoadKit
namespace Jvm.Pilot.@@N@@
open Jvm Jvm.ClassFile Sem Op Lib Jvm.Free Jvm.Stand Jvm.LawKit Jvm.RoadKit Bundle Jvm.Pilot.@@N@@.Jvm.D
theorem own_toInt {a b : Int32} (h : a.toInt = b.toInt) : a = b := Int32.toInt_inj.mp h
theorem own_shr0 (n : Int32) : (n >>> ((0 : Int32) &&& 31)) = n := by
  apply own_toInt
  rw [c_ishr n (0 : Int32) 0 (by decide)]
  simp
def own_emp (n : Int32) : Int32 := if n = (0 : Int32) then 1 else 0
def own_chr (b : Int32) : Int32 := (b &&& (255 : Int32)).toUInt32.toUInt16.toUInt32.toInt32
theorem own_nar_c (x : Int32) : nar .char (x.toUInt32.toUInt16.toUInt32.toInt32) = x.toUInt32.toUInt16.toUInt32.toInt32 := by
  show (x.toUInt32.toUInt16.toUInt32.toInt32).toUInt32.toUInt16.toUInt32.toInt32 = _
  simp only [UInt32.toUInt32_toInt32, UInt16.toUInt16_toUInt32]
theorem own_nar_b (x : Int32) : nar .byte (x.toInt8.toInt32) = x.toInt8.toInt32 := by
  show (x.toInt8.toInt32).toInt8.toInt32 = _
  apply own_toInt
  have a1 := c_i2b x
  have a2 := c_i2b x.toInt8.toInt32
  omega
theorem own_chr_of {x : Int32} (h1 : ¬ x < (0 : Int32)) (h2 : ¬ (255 : Int32) < x) : own_chr (x.toInt8.toInt32) = x := by
  simp only [Int32.lt_iff_toInt_lt] at h1 h2
  have e0 : (0 : Int32).toInt = 0 := by decide
  have e1 : (255 : Int32).toInt = 255 := by decide
  have a1 := c_i2b x
  have a2 := c_mask (x.toInt8.toInt32) (255 : Int32) 8 (by decide) (by decide)
  have a3 := c_i2c ((x.toInt8.toInt32) &&& (255 : Int32))
  apply own_toInt
  show (((x.toInt8.toInt32) &&& (255 : Int32)).toUInt32.toUInt16.toUInt32.toInt32).toInt = x.toInt
  omega
theorem own_three (x : Int32) : (x &&& (2147483647 : Int32)) % (3 : Int32) = (0 : Int32) ∨ (x &&& (2147483647 : Int32)) % (3 : Int32) = (1 : Int32) ∨ (x &&& (2147483647 : Int32)) % (3 : Int32) = (2 : Int32) := by
  have h1 := c_mask x (2147483647 : Int32) 31 (by decide) (by decide)
  have h2 := (c_irem (x &&& (2147483647 : Int32)) (3 : Int32) 3 (by decide)).1 (by rw [h1]; omega)
  have h3 : ((x &&& (2147483647 : Int32)) % (3 : Int32)).toInt = 0 ∨ ((x &&& (2147483647 : Int32)) % (3 : Int32)).toInt = 1 ∨ ((x &&& (2147483647 : Int32)) % (3 : Int32)).toInt = 2 := by omega
  rcases h3 with h | h | h
  · exact Or.inl (own_toInt h)
  · exact Or.inr (Or.inl (own_toInt h))
  · exact Or.inr (Or.inr ((own_toInt h)))
theorem d7_0 : decode jdk_30_method_1_code 0 = .ok (.aload_n 0, 1) := by decide +kernel
theorem d7_1 : decode jdk_30_method_1_code 1 = .ok (.invokespecial 1, 3) := by decide +kernel
theorem d7_4 : decode jdk_30_method_1_code 4 = .ok (.return_, 1) := by decide +kernel
theorem pn_java_2flang_2fRecord : plainName "java/lang/Record" = true := by first | (simp [plainName, overriddenIn]; done) | decide +kernel
theorem ef_recinit (m : MethodId) (a : Addr) : entryFrame m #[(.ref a)] 1 = mkF m 0 #[.val (.ref a)] [] := by
  first | (simp [entryFrame, mkF, argsToLocals, Value.category]; done) | rfl
def Q_recinit (Z : State) (a : Addr) (h0 : Heap) (n0 : Nat) (v : Option Value) (h : Heap) (L : List Loc) : Prop := v = none ∧ Fr n0 L ∧ h = h0
set_option maxRecDepth 65536 in
set_option maxHeartbeats 40000000 in
theorem rm_recinit (l : Launch) (Z : State) (a0 : Array Value) (hw : ∀ d ∈ tables_1, d.before a0 Z = true) (ws : List Jvm.Cond) (a : Addr) (h0 : Heap) (n0 : Nat) (O0 : Old Z n0 h0) :
    MetFree l (⟨"java/lang/Record", "<init>", "()V"⟩ : MethodName) (head1 (Jvm.Cond.code (⟨"java/lang/Record", "<init>", "()V"⟩ : MethodName) jdk_30_method_1_code 1 none :: ws) ({ frames := 1, cells := 0, slots := 0, locals := 12 } : Room)) (fun aq_ Uq_ => aq_ = #[(.ref a)] ∧ Z.Warmed39 Uq_.vm ∧ Uq_.heap = h0) (fun _ _ _ _ _ => True) (fun _ Uq_ oq_ Ur_ => ∃ vq_ Lq_, oq_ = .returned vq_ ∧ Q_recinit Z a h0 n0 vq_ Ur_.heap Lq_ ∧ FrameEnd Uq_ oq_ Ur_ Lq_ ({ frames := 1, cells := 0, slots := 0, locals := 12 } : Room).cells ({ frames := 1, cells := 0, slots := 0, locals := 12 } : Room).slots) := by
  refine MetFree.of_bodySF (plainFor_of_name pn_java_2flang_2fRecord) hisR ?_
  intro p e s m args below meth c s₁ Bd hml0 hP hK
  obtain ⟨rfl, hZ, hh⟩ := hP
  have hx := Bd.exec
  have hby := Bd.bytes
  have hml : c.maxLocals = 1 := hml0
  have hown : s.vm.findClass "java/lang/Record" = some m.cls := findClass_of_methodNamed Bd.named
  have hnm := (name_of_methodNamed Bd.named Bd.method).1
  have X0 : Stand p l e ({ frames := 1, cells := 0, slots := 0, locals := 12 } : Room) s m #[(.ref a)] below meth c s₁ [] 0 0 := Stand.of_body Bd
  have e0 : s₁.heap = h0 := by rw [← hh, Bd.state]; rfl
  have N0 := Fr.nil n0
  have K0 := Keep.refl h0 []
  refine own_G.start (Q := Q_recinit Z a h0 n0) (ef_recinit m a) ?_
  refine own_G.step (g' := (mkF m 1 #[.val (.ref a)] [(.ref a)])) (fun tq_ kq_ => XS.aloadN X0.here hx rfl (hb hby d7_0) rfl rfl kq_) ?_
  obtain ⟨T1, X1, e1, st1⟩ := initO X0 hx hZ hown (hw _ (List.mem_of_getElem? (i := 42) rfl)) (hw _ (List.mem_of_getElem? (i := 28) rfl)) (hw _ (List.mem_of_getElem? (i := 29) rfl)) e0 (g := (mkF m 1 #[.val (.ref a)] [(.ref a)])) rfl (by rw [hml]; rfl) rfl (hb hby d7_1) (by decide) (W := 0) (by show 2 * 0 + _ ≤ _; exact Nat.le_of_eq rfl) (by decide)
  refine own_G.step (T' := T1) (g' := (mkF m 4 #[.val (.ref a)] [])) st1 ?_
  exact own_ret X1 e1 (v := none) (fun _ => rfl) Bd.notSynchronized ⟨rfl, N0, rfl⟩ (by decide) (by decide) (fun fs hr => X1.returnOut hx Bd.returns (hb hby d7_4) hr)
theorem d8_0 : decode jdk_31_method_11_code 0 = .ok (.aload_n 0, 1) := by decide +kernel
theorem d8_1 : decode jdk_31_method_11_code 1 = .ok (.ifnonnull 12, 3) := by decide +kernel
theorem d8_13 : decode jdk_31_method_11_code 13 = .ok (.aload_n 0, 1) := by decide +kernel
theorem d8_14 : decode jdk_31_method_11_code 14 = .ok (.areturn, 1) := by decide +kernel
theorem pn_java_2futil_2fObjects : plainName "java/util/Objects" = true := by first | (simp [plainName, overriddenIn]; done) | decide +kernel
theorem ef_rnn (m : MethodId) (o : Addr) (ms : Addr) : entryFrame m #[(.ref o), (.ref ms)] 2 = mkF m 0 #[.val (.ref o), .val (.ref ms)] [] := by
  first | (simp [entryFrame, mkF, argsToLocals, Value.category]; done) | rfl
def Q_rnn (Z : State) (o : Addr) (ms : Addr) (h0 : Heap) (n0 : Nat) (v : Option Value) (h : Heap) (L : List Loc) : Prop := v = some (.ref o) ∧ Fr n0 L ∧ h = h0
set_option maxRecDepth 65536 in
set_option maxHeartbeats 40000000 in
theorem rm_rnn (l : Launch) (Z : State) (a0 : Array Value) (hw : ∀ d ∈ tables_1, d.before a0 Z = true) (ws : List Jvm.Cond) (o : Addr) (ms : Addr) (h0 : Heap) (n0 : Nat) (O0 : Old Z n0 h0) :
    MetFree l (⟨"java/util/Objects", "requireNonNull", "(Ljava/lang/Object;Ljava/lang/String;)Ljava/lang/Object;"⟩ : MethodName) (head1 (Jvm.Cond.code (⟨"java/util/Objects", "requireNonNull", "(Ljava/lang/Object;Ljava/lang/String;)Ljava/lang/Object;"⟩ : MethodName) jdk_31_method_11_code 2 (some (.object "java/lang/Object")) :: ws) ({ frames := 0, cells := 0, slots := 0, locals := 0 } : Room)) (fun aq_ Uq_ => aq_ = #[(.ref o), (.ref ms)] ∧ Z.Warmed39 Uq_.vm ∧ Uq_.heap = h0) (fun _ _ _ _ _ => True) (fun _ Uq_ oq_ Ur_ => ∃ vq_ Lq_, oq_ = .returned vq_ ∧ Q_rnn Z o ms h0 n0 vq_ Ur_.heap Lq_ ∧ FrameEnd Uq_ oq_ Ur_ Lq_ ({ frames := 0, cells := 0, slots := 0, locals := 0 } : Room).cells ({ frames := 0, cells := 0, slots := 0, locals := 0 } : Room).slots) := by
  refine MetFree.of_bodySF (plainFor_of_name pn_java_2futil_2fObjects) hisR ?_
  intro p e s m args below meth c s₁ Bd hml0 hP hK
  obtain ⟨rfl, hZ, hh⟩ := hP
  have hx := Bd.exec
  have hby := Bd.bytes
  have hml : c.maxLocals = 2 := hml0
  have hown : s.vm.findClass "java/util/Objects" = some m.cls := findClass_of_methodNamed Bd.named
  have hnm := (name_of_methodNamed Bd.named Bd.method).1
  have X0 : Stand p l e ({ frames := 0, cells := 0, slots := 0, locals := 0 } : Room) s m #[(.ref o), (.ref ms)] below meth c s₁ [] 0 0 := Stand.of_body Bd
  have e0 : s₁.heap = h0 := by rw [← hh, Bd.state]; rfl
  have N0 := Fr.nil n0
  have K0 := Keep.refl h0 []
  refine own_G.start (Q := Q_rnn Z o ms h0 n0) (ef_rnn m o ms) ?_
  refine own_G.step (g' := (mkF m 1 #[.val (.ref o), .val (.ref ms)] [(.ref o)])) (fun tq_ kq_ => XS.aloadN X0.here hx rfl (hb hby d8_0) rfl rfl kq_) ?_
  refine own_G.step (g' := (mkF m 13 #[.val (.ref o), .val (.ref ms)] [])) (fun tq_ kq_ => XS.ifnonnullYes X0.here hx rfl (pc0 := 1) (pc' := 13) rfl (hb hby d8_1) rfl (by decide) (by decide) kq_) ?_
  refine own_G.step (g' := (mkF m 14 #[.val (.ref o), .val (.ref ms)] [(.ref o)])) (fun tq_ kq_ => XS.aloadN X0.here hx rfl (hb hby d8_13) rfl rfl kq_) ?_
  exact own_ret X0 e0 (v := some (.ref o)) (fun h => by rw [Bd.returns] at h; cases h) Bd.notSynchronized ⟨rfl, N0, rfl⟩ (by decide) (by decide) (fun fs hr => own_retR X0 hx Bd.returns rfl rfl (hb hby d8_14) hr)
theorem d11_0 : decode jdk_42_method_152_code 0 = .ok (.getstatic 38, 3) := by decide +kernel
theorem d11_3 : decode jdk_42_method_152_code 3 = .ok (.ifCond .eq 10, 3) := by decide +kernel
theorem d11_6 : decode jdk_42_method_152_code 6 = .ok (.aload_n 0, 1) := by decide +kernel
theorem d11_7 : decode jdk_42_method_152_code 7 = .ok (.getfield 15, 3) := by decide +kernel
theorem d11_10 : decode jdk_42_method_152_code 10 = .ok (.goto 4, 3) := by decide +kernel
theorem d11_14 : decode jdk_42_method_152_code 14 = .ok (.ireturn, 1) := by decide +kernel
theorem pn_java_2flang_2fString : plainName "java/lang/String" = true := by first | (simp [plainName, overriddenIn]; done) | decide +kernel
theorem ef_coder (m : MethodId) (a : Addr) : entryFrame m #[(.ref a)] 1 = mkF m 0 #[.val (.ref a)] [] := by
  first | (simp [entryFrame, mkF, argsToLocals, Value.category]; done) | rfl
def Q_coder (Z : State) (a : Addr) (csz : Int32) (h0 : Heap) (n0 : Nat) (v : Option Value) (h : Heap) (L : List Loc) : Prop := v = some (.int 0) ∧ Fr n0 L ∧ h = h0
set_option maxRecDepth 65536 in
set_option maxHeartbeats 40000000 in
theorem rm_coder (l : Launch) (Z : State) (a0 : Array Value) (hw : ∀ d ∈ tables_1, d.before a0 Z = true) (ws : List Jvm.Cond) (a : Addr) (csz : Int32) (h0 : Heap) (n0 : Nat) (O0 : Old Z n0 h0) (S_CS : Sta Z Z.heap "java/lang/String" "COMPACT_STRINGS" "Z" (.int csz)) (hcs : ¬ csz = (0 : Int32)) (Fc : Fld Z h0 a "java/lang/String" "coder" "B" (.int 0)) :
    MetFree l (⟨"java/lang/String", "coder", "()B"⟩ : MethodName) (head1 (Jvm.Cond.code (⟨"java/lang/String", "coder", "()B"⟩ : MethodName) jdk_42_method_152_code 1 (some .byte) :: ws) ({ frames := 0, cells := 0, slots := 0, locals := 0 } : Room)) (fun aq_ Uq_ => aq_ = #[(.ref a)] ∧ Z.Warmed39 Uq_.vm ∧ Uq_.heap = h0) (fun _ _ _ _ _ => True) (fun _ Uq_ oq_ Ur_ => ∃ vq_ Lq_, oq_ = .returned vq_ ∧ Q_coder Z a csz h0 n0 vq_ Ur_.heap Lq_ ∧ FrameEnd Uq_ oq_ Ur_ Lq_ ({ frames := 0, cells := 0, slots := 0, locals := 0 } : Room).cells ({ frames := 0, cells := 0, slots := 0, locals := 0 } : Room).slots) := by
  refine MetFree.of_bodySF (plainFor_of_name pn_java_2flang_2fString) hisR ?_
  intro p e s m args below meth c s₁ Bd hml0 hP hK
  obtain ⟨rfl, hZ, hh⟩ := hP
  have hx := Bd.exec
  have hby := Bd.bytes
  have hml : c.maxLocals = 1 := hml0
  have hown : s.vm.findClass "java/lang/String" = some m.cls := findClass_of_methodNamed Bd.named
  have hnm := (name_of_methodNamed Bd.named Bd.method).1
  have X0 : Stand p l e ({ frames := 0, cells := 0, slots := 0, locals := 0 } : Room) s m #[(.ref a)] below meth c s₁ [] 0 0 := Stand.of_body Bd
  have e0 : s₁.heap = h0 := by rw [← hh, Bd.state]; rfl
  have N0 := Fr.nil n0
  have K0 := Keep.refl h0 []
  refine own_G.start (Q := Q_coder Z a csz h0 n0) (ef_coder m a) ?_
  obtain ⟨T1, X1, e1, st1⟩ := getS2 X0 hx hZ hown (host := "") (Or.inl (hw _ (List.mem_of_getElem? (i := 12) rfl))) Via.refl e0 (Sta.ext O0.2 S_CS) (g := (mkF m 0 #[.val (.ref a)] [])) rfl (hb hby d11_0)
  refine own_G.step (T' := T1) (g' := (mkF m 3 #[.val (.ref a)] [(.int csz)])) st1 ?_
  have hc3 : ¬ (csz = (0 : Int32)) := hcs
  refine own_G.step (g' := (mkF m 6 #[.val (.ref a)] [])) (fun tq_ kq_ => XS.ifNo X1.here hx rfl (hb hby d11_3) rfl ((if0 _ _).trans (feq hc3).1) kq_) ?_
  refine own_G.step (g' := (mkF m 7 #[.val (.ref a)] [(.ref a)])) (fun tq_ kq_ => XS.aloadN X1.here hx rfl (hb hby d11_6) rfl rfl kq_) ?_
  obtain ⟨T2, X2, e2, st2⟩ := getF X1 hx hZ hown (host := "") (Or.inl (hw _ (List.mem_of_getElem? (i := 32) rfl))) Via.refl e1 Fc (g := (mkF m 7 #[.val (.ref a)] [(.ref a)])) rfl rfl (hb hby d11_7)
  refine own_G.step (T' := T2) (g' := (mkF m 10 #[.val (.ref a)] [(.int (0 : Int32))])) st2 ?_
  refine own_G.step (g' := (mkF m 14 #[.val (.ref a)] [(.int (0 : Int32))])) (fun tq_ kq_ => XS.goto X2.here hx rfl (pc0 := 10) (pc' := 14) rfl (hb hby d11_10) (by decide) (by decide) kq_) ?_
  exact own_ret X2 e2 (v := some (.int (nar .byte (0 : Int32)))) (fun h => by rw [Bd.returns] at h; cases h) Bd.notSynchronized ⟨rfl, N0, rfl⟩ (by decide) (by decide) (fun fs hr => retN X2 hx (t := .byte) Bd.returns (by simp) (hb hby d11_14) hr)
theorem d13_0 : decode jdk_42_method_154_code 0 = .ok (.getstatic 38, 3) := by decide +kernel
theorem d13_3 : decode jdk_42_method_154_code 3 = .ok (.ifCond .eq 14, 3) := by decide +kernel
theorem d13_6 : decode jdk_42_method_154_code 6 = .ok (.aload_n 0, 1) := by decide +kernel
theorem d13_7 : decode jdk_42_method_154_code 7 = .ok (.getfield 15, 3) := by decide +kernel
theorem d13_10 : decode jdk_42_method_154_code 10 = .ok (.ifCond .ne 7, 3) := by decide +kernel
theorem d13_13 : decode jdk_42_method_154_code 13 = .ok (.iconst 1, 1) := by decide +kernel
theorem d13_14 : decode jdk_42_method_154_code 14 = .ok (.goto 4, 3) := by decide +kernel
theorem d13_18 : decode jdk_42_method_154_code 18 = .ok (.ireturn, 1) := by decide +kernel
theorem ef_isLat (m : MethodId) (a : Addr) : entryFrame m #[(.ref a)] 1 = mkF m 0 #[.val (.ref a)] [] := by
  first | (simp [entryFrame, mkF, argsToLocals, Value.category]; done) | rfl
def Q_isLat (Z : State) (a : Addr) (csz : Int32) (h0 : Heap) (n0 : Nat) (v : Option Value) (h : Heap) (L : List Loc) : Prop := v = some (.int 1) ∧ Fr n0 L ∧ h = h0
set_option maxRecDepth 65536 in
set_option maxHeartbeats 40000000 in
theorem rm_isLat (l : Launch) (Z : State) (a0 : Array Value) (hw : ∀ d ∈ tables_1, d.before a0 Z = true) (ws : List Jvm.Cond) (a : Addr) (csz : Int32) (h0 : Heap) (n0 : Nat) (O0 : Old Z n0 h0) (S_CS : Sta Z Z.heap "java/lang/String" "COMPACT_STRINGS" "Z" (.int csz)) (hcs : ¬ csz = (0 : Int32)) (Fc : Fld Z h0 a "java/lang/String" "coder" "B" (.int 0)) :
    MetFree l (⟨"java/lang/String", "isLatin1", "()Z"⟩ : MethodName) (head1 (Jvm.Cond.code (⟨"java/lang/String", "isLatin1", "()Z"⟩ : MethodName) jdk_42_method_154_code 1 (some .boolean) :: ws) ({ frames := 0, cells := 0, slots := 0, locals := 0 } : Room)) (fun aq_ Uq_ => aq_ = #[(.ref a)] ∧ Z.Warmed39 Uq_.vm ∧ Uq_.heap = h0) (fun _ _ _ _ _ => True) (fun _ Uq_ oq_ Ur_ => ∃ vq_ Lq_, oq_ = .returned vq_ ∧ Q_isLat Z a csz h0 n0 vq_ Ur_.heap Lq_ ∧ FrameEnd Uq_ oq_ Ur_ Lq_ ({ frames := 0, cells := 0, slots := 0, locals := 0 } : Room).cells ({ frames := 0, cells := 0, slots := 0, locals := 0 } : Room).slots) := by
  refine MetFree.of_bodySF (plainFor_of_name pn_java_2flang_2fString) hisR ?_
  intro p e s m args below meth c s₁ Bd hml0 hP hK
  obtain ⟨rfl, hZ, hh⟩ := hP
  have hx := Bd.exec
  have hby := Bd.bytes
  have hml : c.maxLocals = 1 := hml0
  have hown : s.vm.findClass "java/lang/String" = some m.cls := findClass_of_methodNamed Bd.named
  have hnm := (name_of_methodNamed Bd.named Bd.method).1
  have X0 : Stand p l e ({ frames := 0, cells := 0, slots := 0, locals := 0 } : Room) s m #[(.ref a)] below meth c s₁ [] 0 0 := Stand.of_body Bd
  have e0 : s₁.heap = h0 := by rw [← hh, Bd.state]; rfl
  have N0 := Fr.nil n0
  have K0 := Keep.refl h0 []
  refine own_G.start (Q := Q_isLat Z a csz h0 n0) (ef_isLat m a) ?_
  obtain ⟨T1, X1, e1, st1⟩ := getS2 X0 hx hZ hown (host := "") (Or.inl (hw _ (List.mem_of_getElem? (i := 12) rfl))) Via.refl e0 (Sta.ext O0.2 S_CS) (g := (mkF m 0 #[.val (.ref a)] [])) rfl (hb hby d13_0)
  refine own_G.step (T' := T1) (g' := (mkF m 3 #[.val (.ref a)] [(.int csz)])) st1 ?_
  have hc3 : ¬ (csz = (0 : Int32)) := hcs
  refine own_G.step (g' := (mkF m 6 #[.val (.ref a)] [])) (fun tq_ kq_ => XS.ifNo X1.here hx rfl (hb hby d13_3) rfl ((if0 _ _).trans (feq hc3).1) kq_) ?_
  refine own_G.step (g' := (mkF m 7 #[.val (.ref a)] [(.ref a)])) (fun tq_ kq_ => XS.aloadN X1.here hx rfl (hb hby d13_6) rfl rfl kq_) ?_
  obtain ⟨T2, X2, e2, st2⟩ := getF X1 hx hZ hown (host := "") (Or.inl (hw _ (List.mem_of_getElem? (i := 32) rfl))) Via.refl e1 Fc (g := (mkF m 7 #[.val (.ref a)] [(.ref a)])) rfl rfl (hb hby d13_7)
  refine own_G.step (T' := T2) (g' := (mkF m 10 #[.val (.ref a)] [(.int (0 : Int32))])) st2 ?_
  have hc10 : (0 : Int32) = (0 : Int32) := rfl
  refine own_G.step (g' := (mkF m 13 #[.val (.ref a)] [])) (fun tq_ kq_ => XS.ifNo X2.here hx rfl (hb hby d13_10) rfl ((if0 _ _).trans (teq hc10).2) kq_) ?_
  refine own_G.step (g' := (mkF m 14 #[.val (.ref a)] [(.int (1 : Int32))])) (fun tq_ kq_ => XS.iconst X2.here hx rfl (hb hby d13_13) kq_) ?_
  refine own_G.step (g' := (mkF m 18 #[.val (.ref a)] [(.int (1 : Int32))])) (fun tq_ kq_ => XS.goto X2.here hx rfl (pc0 := 14) (pc' := 18) rfl (hb hby d13_14) (by decide) (by decide) kq_) ?_
  exact own_ret X2 e2 (v := some (.int (1 : Int32))) (fun h => by rw [Bd.returns] at h; cases h) Bd.notSynchronized ⟨rfl, N0, rfl⟩ (by decide) (by decide) (fun fs hr => retN X2 hx (t := .boolean) Bd.returns (by simp) (hb hby d13_18) hr)
theorem pd__28_29B : parseMethodDescriptor "()B" = some ⟨[], some .byte⟩ := by decide +kernel
theorem d10_0 : decode jdk_42_method_54_code 0 = .ok (.aload_n 0, 1) := by decide +kernel
theorem d10_1 : decode jdk_42_method_54_code 1 = .ok (.getfield 9, 3) := by decide +kernel
theorem d10_4 : decode jdk_42_method_54_code 4 = .ok (.arraylength, 1) := by decide +kernel
theorem d10_5 : decode jdk_42_method_54_code 5 = .ok (.aload_n 0, 1) := by decide +kernel
theorem d10_6 : decode jdk_42_method_54_code 6 = .ok (.invokevirtual 335, 3) := by decide +kernel
theorem d10_9 : decode jdk_42_method_54_code 9 = .ok (.ishr, 1) := by decide +kernel
theorem d10_10 : decode jdk_42_method_54_code 10 = .ok (.ireturn, 1) := by decide +kernel
theorem ef_strlen (m : MethodId) (a : Addr) : entryFrame m #[(.ref a)] 1 = mkF m 0 #[.val (.ref a)] [] := by
  first | (simp [entryFrame, mkF, argsToLocals, Value.category]; done) | rfl
def Q_strlen (Z : State) (a : Addr) (csz : Int32) (t : Addr) (n : Int32) (h0 : Heap) (n0 : Nat) (v : Option Value) (h : Heap) (L : List Loc) : Prop := v = some (.int n) ∧ Fr n0 L ∧ h = h0
set_option maxRecDepth 65536 in
set_option maxHeartbeats 40000000 in
theorem rm_strlen (l : Launch) (Z : State) (a0 : Array Value) (hw : ∀ d ∈ tables_1, d.before a0 Z = true) (ws : List Jvm.Cond) (a : Addr) (csz : Int32) (t : Addr) (n : Int32) (h0 : Heap) (n0 : Nat) (O0 : Old Z n0 h0) (S_CS : Sta Z Z.heap "java/lang/String" "COMPACT_STRINGS" "Z" (.int csz)) (hcs : ¬ csz = (0 : Int32)) (Fc : Fld Z h0 a "java/lang/String" "coder" "B" (.int 0)) (Fv : Fld Z h0 a "java/lang/String" "value" "[B" (.ref t)) (LN : own_Len Z h0 t n) (Ea : Exa Z h0 a "java/lang/String") :
    MetFree l (⟨"java/lang/String", "length", "()I"⟩ : MethodName) (head1 (Jvm.Cond.code (⟨"java/lang/String", "length", "()I"⟩ : MethodName) jdk_42_method_54_code 1 (some .int) :: ws) ({ frames := 1, cells := 0, slots := 0, locals := 13 } : Room)) (fun aq_ Uq_ => aq_ = #[(.ref a)] ∧ Z.Warmed39 Uq_.vm ∧ Uq_.heap = h0) (fun _ _ _ _ _ => True) (fun _ Uq_ oq_ Ur_ => ∃ vq_ Lq_, oq_ = .returned vq_ ∧ Q_strlen Z a csz t n h0 n0 vq_ Ur_.heap Lq_ ∧ FrameEnd Uq_ oq_ Ur_ Lq_ ({ frames := 1, cells := 0, slots := 0, locals := 13 } : Room).cells ({ frames := 1, cells := 0, slots := 0, locals := 13 } : Room).slots) := by
  refine MetFree.of_bodySF (plainFor_of_name pn_java_2flang_2fString) hisR ?_
  intro p e s m args below meth c s₁ Bd hml0 hP hK
  obtain ⟨rfl, hZ, hh⟩ := hP
  have hx := Bd.exec
  have hby := Bd.bytes
  have hml : c.maxLocals = 1 := hml0
  have hown : s.vm.findClass "java/lang/String" = some m.cls := findClass_of_methodNamed Bd.named
  have hnm := (name_of_methodNamed Bd.named Bd.method).1
  have X0 : Stand p l e ({ frames := 1, cells := 0, slots := 0, locals := 13 } : Room) s m #[(.ref a)] below meth c s₁ [] 0 0 := Stand.of_body Bd
  have e0 : s₁.heap = h0 := by rw [← hh, Bd.state]; rfl
  have N0 := Fr.nil n0
  have K0 := Keep.refl h0 []
  refine own_G.start (Q := Q_strlen Z a csz t n h0 n0) (ef_strlen m a) ?_
  refine own_G.step (g' := (mkF m 1 #[.val (.ref a)] [(.ref a)])) (fun tq_ kq_ => XS.aloadN X0.here hx rfl (hb hby d10_0) rfl rfl kq_) ?_
  obtain ⟨T1, X1, e1, st1⟩ := getF X0 hx hZ hown (host := "") (Or.inl (hw _ (List.mem_of_getElem? (i := 30) rfl))) Via.refl e0 Fv (g := (mkF m 1 #[.val (.ref a)] [(.ref a)])) rfl rfl (hb hby d10_1)
  refine own_G.step (T' := T1) (g' := (mkF m 4 #[.val (.ref a)] [(.ref t)])) st1 ?_
  obtain ⟨cl2, ty2, Ar2, Sz2, Nz2⟩ := id LN
  refine own_G.step (g' := (mkF m 5 #[.val (.ref a)] [(.int n)])) (fun tq_ kq_ => X1.arraylength hx (by rw [e1]; exact Ar2.1) (State.isArrayOf_alike hZ.alike Ar2.2.1) (g := (mkF m 4 #[.val (.ref a)] [(.ref t)])) rfl rfl (hb hby d10_4) _ (by rw [len_of Sz2 Nz2]; exact kq_)) ?_
  refine own_G.step (g' := (mkF m 6 #[.val (.ref a)] [(.ref a), (.int n)])) (fun tq_ kq_ => XS.aloadN X1.here hx rfl (hb hby d10_5) rfl rfl kq_) ?_
  obtain ⟨cq3, kq3, q3a, q3b, q3c⟩ := isOf hZ e1 Ea
  obtain ⟨_, _, ⟨T3, L3, k3, n3⟩, -, X3, ⟨Lc3, hQ3, l3, y3, z3⟩, st3⟩ := X1.virtualBack hx (y := (⟨"java/lang/String", "coder", "()B"⟩ : MethodName)) (z := (⟨"java/lang/String", "coder", "()B"⟩ : MethodName)) hown (mvT hZ (hw _ (List.mem_of_getElem? (i := 61) rfl))) (mvT hZ (hw _ (List.mem_of_getElem? (i := 62) rfl))) (notFace_of_selects (args := #[]) (mvT hZ (hw _ (List.mem_of_getElem? (i := 64) rfl)))) (mvT hZ (hw _ (List.mem_of_getElem? (i := 64) rfl))) (mvT hZ (hw _ (List.mem_of_getElem? (i := 63) rfl))) (by decide) (backOf (W := 1) (rm_coder l Z a0 hw [] a csz h0 n0 O0 S_CS hcs Fc) hZ (hw _ (List.mem_of_getElem? (i := 65) rfl)) (hw _ (List.mem_of_getElem? (i := 10) rfl)) (by decide) (by decide)) q3a q3c (g := (mkF m 6 #[.val (.ref a)] [(.ref a), (.int n)])) rfl (by rw [hml]; rfl) (Steps.refl _) (argsL := []) (rest := [(.int n)]) (lenOf pd__28_29B rfl) rfl (by show 2 * 0 + _ ≤ _; exact Nat.le_of_eq rfl) (hb hby d10_6) (fun _ _ => ⟨rfl, e1, (by decide : 0 + 0 ≤ _), (by decide : 0 + 0 ≤ _)⟩)
  dsimp only [Pt.U, Pt.locs, Pt.cells, Pt.slots] at X3 l3 y3 z3 st3 hQ3
  subst l3 y3 z3
  obtain ⟨rfl, Nq3, P4⟩ := hQ3
  have N3 := Fr.app N0 Nq3
  refine own_G.step (T' := T3) (g' := (mkF m 9 #[.val (.ref a)] [(.int (0 : Int32)), (.int n)])) (fun tq_ kq_ => st3.trans kq_) ?_
  refine own_G.step (g' := (mkF m 10 #[.val (.ref a)] [(.int (n >>> ((0 : Int32) &&& 31)))])) (fun tq_ kq_ => XS.ishr X3.here hx rfl (hb hby d10_9) rfl kq_) ?_
  exact own_ret X3 P4 (v := some (.int (n >>> ((0 : Int32) &&& 31)))) (fun h => by rw [Bd.returns] at h; cases h) Bd.notSynchronized ⟨(by rw [own_shr0]), N3, rfl⟩ (by decide) (by decide) (fun fs hr => retI X3 hx Bd.returns (hb hby d10_10) hr)
theorem d9_0 : decode jdk_42_method_55_code 0 = .ok (.aload_n 0, 1) := by decide +kernel
theorem d9_1 : decode jdk_42_method_55_code 1 = .ok (.getfield 9, 3) := by decide +kernel
theorem d9_4 : decode jdk_42_method_55_code 4 = .ok (.arraylength, 1) := by decide +kernel
theorem d9_5 : decode jdk_42_method_55_code 5 = .ok (.ifCond .ne 7, 3) := by decide +kernel
theorem d9_8 : decode jdk_42_method_55_code 8 = .ok (.iconst 1, 1) := by decide +kernel
theorem d9_9 : decode jdk_42_method_55_code 9 = .ok (.goto 4, 3) := by decide +kernel
theorem d9_12 : decode jdk_42_method_55_code 12 = .ok (.iconst 0, 1) := by decide +kernel
theorem d9_13 : decode jdk_42_method_55_code 13 = .ok (.ireturn, 1) := by decide +kernel
theorem ef_isEmp (m : MethodId) (a : Addr) : entryFrame m #[(.ref a)] 1 = mkF m 0 #[.val (.ref a)] [] := by
  first | (simp [entryFrame, mkF, argsToLocals, Value.category]; done) | rfl
def Q_isEmp (Z : State) (a : Addr) (t : Addr) (n : Int32) (h0 : Heap) (n0 : Nat) (v : Option Value) (h : Heap) (L : List Loc) : Prop := v = some (.int (own_emp n)) ∧ Fr n0 L ∧ h = h0
set_option maxRecDepth 65536 in
set_option maxHeartbeats 40000000 in
theorem rm_isEmp (l : Launch) (Z : State) (a0 : Array Value) (hw : ∀ d ∈ tables_1, d.before a0 Z = true) (ws : List Jvm.Cond) (a : Addr) (t : Addr) (n : Int32) (h0 : Heap) (n0 : Nat) (O0 : Old Z n0 h0) (Fv : Fld Z h0 a "java/lang/String" "value" "[B" (.ref t)) (LN : own_Len Z h0 t n) :
    MetFree l (⟨"java/lang/String", "isEmpty", "()Z"⟩ : MethodName) (head1 (Jvm.Cond.code (⟨"java/lang/String", "isEmpty", "()Z"⟩ : MethodName) jdk_42_method_55_code 1 (some .boolean) :: ws) ({ frames := 0, cells := 0, slots := 0, locals := 0 } : Room)) (fun aq_ Uq_ => aq_ = #[(.ref a)] ∧ Z.Warmed39 Uq_.vm ∧ Uq_.heap = h0) (fun _ _ _ _ _ => True) (fun _ Uq_ oq_ Ur_ => ∃ vq_ Lq_, oq_ = .returned vq_ ∧ Q_isEmp Z a t n h0 n0 vq_ Ur_.heap Lq_ ∧ FrameEnd Uq_ oq_ Ur_ Lq_ ({ frames := 0, cells := 0, slots := 0, locals := 0 } : Room).cells ({ frames := 0, cells := 0, slots := 0, locals := 0 } : Room).slots) := by
  refine MetFree.of_bodySF (plainFor_of_name pn_java_2flang_2fString) hisR ?_
  intro p e s m args below meth c s₁ Bd hml0 hP hK
  obtain ⟨rfl, hZ, hh⟩ := hP
  have hx := Bd.exec
  have hby := Bd.bytes
  have hml : c.maxLocals = 1 := hml0
  have hown : s.vm.findClass "java/lang/String" = some m.cls := findClass_of_methodNamed Bd.named
  have hnm := (name_of_methodNamed Bd.named Bd.method).1
  have X0 : Stand p l e ({ frames := 0, cells := 0, slots := 0, locals := 0 } : Room) s m #[(.ref a)] below meth c s₁ [] 0 0 := Stand.of_body Bd
  have e0 : s₁.heap = h0 := by rw [← hh, Bd.state]; rfl
  have N0 := Fr.nil n0
  have K0 := Keep.refl h0 []
  refine own_G.start (Q := Q_isEmp Z a t n h0 n0) (ef_isEmp m a) ?_
  refine own_G.step (g' := (mkF m 1 #[.val (.ref a)] [(.ref a)])) (fun tq_ kq_ => XS.aloadN X0.here hx rfl (hb hby d9_0) rfl rfl kq_) ?_
  obtain ⟨T1, X1, e1, st1⟩ := getF X0 hx hZ hown (host := "") (Or.inl (hw _ (List.mem_of_getElem? (i := 30) rfl))) Via.refl e0 Fv (g := (mkF m 1 #[.val (.ref a)] [(.ref a)])) rfl rfl (hb hby d9_1)
  refine own_G.step (T' := T1) (g' := (mkF m 4 #[.val (.ref a)] [(.ref t)])) st1 ?_
  obtain ⟨cl2, ty2, Ar2, Sz2, Nz2⟩ := id LN
  refine own_G.step (g' := (mkF m 5 #[.val (.ref a)] [(.int n)])) (fun tq_ kq_ => X1.arraylength hx (by rw [e1]; exact Ar2.1) (State.isArrayOf_alike hZ.alike Ar2.2.1) (g := (mkF m 4 #[.val (.ref a)] [(.ref t)])) rfl rfl (hb hby d9_4) _ (by rw [len_of Sz2 Nz2]; exact kq_)) ?_
  rcases Classical.em (n = (0 : Int32)) with hc5 | hc5
  · refine own_G.step (g' := (mkF m 8 #[.val (.ref a)] [])) (fun tq_ kq_ => XS.ifNo X1.here hx rfl (hb hby d9_5) rfl ((if0 _ _).trans (teq hc5).2) kq_) ?_
    refine own_G.step (g' := (mkF m 9 #[.val (.ref a)] [(.int (1 : Int32))])) (fun tq_ kq_ => XS.iconst X1.here hx rfl (hb hby d9_8) kq_) ?_
    refine own_G.step (g' := (mkF m 13 #[.val (.ref a)] [(.int (1 : Int32))])) (fun tq_ kq_ => XS.goto X1.here hx rfl (pc0 := 9) (pc' := 13) rfl (hb hby d9_9) (by decide) (by decide) kq_) ?_
    exact own_ret X1 e1 (v := some (.int (1 : Int32))) (fun h => by rw [Bd.returns] at h; cases h) Bd.notSynchronized ⟨(by simp [own_emp, hc5]), N0, rfl⟩ (by decide) (by decide) (fun fs hr => retN X1 hx (t := .boolean) Bd.returns (by simp) (hb hby d9_13) hr)
  · refine own_G.step (g' := (mkF m 12 #[.val (.ref a)] [])) (fun tq_ kq_ => XS.ifYes X1.here hx rfl (pc0 := 5) (pc' := 12) rfl (hb hby d9_5) rfl ((if0 _ _).trans (feq hc5).2) (by decide) (by decide) kq_) ?_
    refine own_G.step (g' := (mkF m 13 #[.val (.ref a)] [(.int (0 : Int32))])) (fun tq_ kq_ => XS.iconst X1.here hx rfl (hb hby d9_12) kq_) ?_
    exact own_ret X1 e1 (v := some (.int (0 : Int32))) (fun h => by rw [Bd.returns] at h; cases h) Bd.notSynchronized ⟨(by simp [own_emp, hc5]), N0, rfl⟩ (by decide) (by decide) (fun fs hr => retN X1 hx (t := .boolean) Bd.returns (by simp) (hb hby d9_13) hr)
theorem d16_0 : decode jdk_41_method_11_code 0 = .ok (.iload_n 0, 1) := by decide +kernel
theorem d16_1 : decode jdk_41_method_11_code 1 = .ok (.ifCond .lt 8, 3) := by decide +kernel
theorem d16_4 : decode jdk_41_method_11_code 4 = .ok (.iload_n 0, 1) := by decide +kernel
theorem d16_5 : decode jdk_41_method_11_code 5 = .ok (.iload_n 1, 1) := by decide +kernel
theorem d16_6 : decode jdk_41_method_11_code 6 = .ok (.if_icmp .lt 10, 3) := by decide +kernel
theorem d16_16 : decode jdk_41_method_11_code 16 = .ok (.iload_n 0, 1) := by decide +kernel
theorem d16_17 : decode jdk_41_method_11_code 17 = .ok (.ireturn, 1) := by decide +kernel
theorem pn_jdk_2finternal_2futil_2fPreconditions : plainName "jdk/internal/util/Preconditions" = true := by first | (simp [plainName, overriddenIn]; done) | decide +kernel
theorem ef_pchk (m : MethodId) (i : Int32) (n : Int32) (f : Value) (rf : f.isRef = true) : entryFrame m #[(.int i), (.int n), f] 3 = mkF m 0 #[.val (.int i), .val (.int n), .val f] [] := by
  rcases ref_cases rf with rfl | ⟨z, rfl⟩ <;> first | (simp [entryFrame, mkF, argsToLocals, Value.category]; done) | rfl
def Q_pchk (Z : State) (i : Int32) (n : Int32) (f : Value) (h0 : Heap) (n0 : Nat) (v : Option Value) (h : Heap) (L : List Loc) : Prop := v = some (.int i) ∧ Fr n0 L ∧ h = h0
set_option maxRecDepth 65536 in
set_option maxHeartbeats 40000000 in
theorem rm_pchk (l : Launch) (Z : State) (a0 : Array Value) (hw : ∀ d ∈ tables_1, d.before a0 Z = true) (ws : List Jvm.Cond) (i : Int32) (n : Int32) (f : Value) (h0 : Heap) (n0 : Nat) (O0 : Old Z n0 h0) (rf : f.isRef = true) (h1 : ¬ i < (0 : Int32)) (h2 : i < n) :
    MetFree l (⟨"jdk/internal/util/Preconditions", "checkIndex", "(IILjava/util/function/BiFunction;)I"⟩ : MethodName) (head1 (Jvm.Cond.code (⟨"jdk/internal/util/Preconditions", "checkIndex", "(IILjava/util/function/BiFunction;)I"⟩ : MethodName) jdk_41_method_11_code 3 (some .int) :: ws) ({ frames := 0, cells := 0, slots := 0, locals := 0 } : Room)) (fun aq_ Uq_ => aq_ = #[(.int i), (.int n), f] ∧ Z.Warmed39 Uq_.vm ∧ Uq_.heap = h0) (fun _ _ _ _ _ => True) (fun _ Uq_ oq_ Ur_ => ∃ vq_ Lq_, oq_ = .returned vq_ ∧ Q_pchk Z i n f h0 n0 vq_ Ur_.heap Lq_ ∧ FrameEnd Uq_ oq_ Ur_ Lq_ ({ frames := 0, cells := 0, slots := 0, locals := 0 } : Room).cells ({ frames := 0, cells := 0, slots := 0, locals := 0 } : Room).slots) := by
  refine MetFree.of_bodySF (plainFor_of_name pn_jdk_2finternal_2futil_2fPreconditions) hisR ?_
  intro p e s m args below meth c s₁ Bd hml0 hP hK
  obtain ⟨rfl, hZ, hh⟩ := hP
  have hx := Bd.exec
  have hby := Bd.bytes
  have hml : c.maxLocals = 3 := hml0
  have hown : s.vm.findClass "jdk/internal/util/Preconditions" = some m.cls := findClass_of_methodNamed Bd.named
  have hnm := (name_of_methodNamed Bd.named Bd.method).1
  have X0 : Stand p l e ({ frames := 0, cells := 0, slots := 0, locals := 0 } : Room) s m #[(.int i), (.int n), f] below meth c s₁ [] 0 0 := Stand.of_body Bd
  have e0 : s₁.heap = h0 := by rw [← hh, Bd.state]; rfl
  have N0 := Fr.nil n0
  have K0 := Keep.refl h0 []
  refine own_G.start (Q := Q_pchk Z i n f h0 n0) (ef_pchk m i n f rf) ?_
  refine own_G.step (g' := (mkF m 1 #[.val (.int i), .val (.int n), .val f] [(.int i)])) (fun tq_ kq_ => XS.iloadN X0.here hx rfl (hb hby d16_0) rfl kq_) ?_
  have hc1 : ¬ (i < (0 : Int32)) := h1
  refine own_G.step (g' := (mkF m 4 #[.val (.int i), .val (.int n), .val f] [])) (fun tq_ kq_ => XS.ifNo X0.here hx rfl (hb hby d16_1) rfl ((if0 _ _).trans (flt hc1).1) kq_) ?_
  refine own_G.step (g' := (mkF m 5 #[.val (.int i), .val (.int n), .val f] [(.int i)])) (fun tq_ kq_ => XS.iloadN X0.here hx rfl (hb hby d16_4) rfl kq_) ?_
  refine own_G.step (g' := (mkF m 6 #[.val (.int i), .val (.int n), .val f] [(.int n), (.int i)])) (fun tq_ kq_ => XS.iloadN X0.here hx rfl (hb hby d16_5) rfl kq_) ?_
  have hc6 : i < n := h2
  refine own_G.step (g' := (mkF m 16 #[.val (.int i), .val (.int n), .val f] [])) (fun tq_ kq_ => XS.icmpYes X0.here hx rfl (pc0 := 6) (pc' := 16) rfl (hb hby d16_6) rfl (tlt hc6).1 (by decide) (by decide) kq_) ?_
  refine own_G.step (g' := (mkF m 17 #[.val (.int i), .val (.int n), .val f] [(.int i)])) (fun tq_ kq_ => XS.iloadN X0.here hx rfl (hb hby d16_16) rfl kq_) ?_
  exact own_ret X0 e0 (v := some (.int i)) (fun h => by rw [Bd.returns] at h; cases h) Bd.notSynchronized ⟨rfl, N0, rfl⟩ (by decide) (by decide) (fun fs hr => retI X0 hx Bd.returns (hb hby d16_17) hr)
theorem pd__28IILjava_2futil_2ffunction_2fBiFunction_3b_29I : parseMethodDescriptor "(IILjava/util/function/BiFunction;)I" = some ⟨[.int, .int, (.object "java/util/function/BiFunction")], some .int⟩ := by decide +kernel
theorem d15_0 : decode jdk_42_method_155_code 0 = .ok (.iload_n 0, 1) := by decide +kernel
theorem d15_1 : decode jdk_42_method_155_code 1 = .ok (.iload_n 1, 1) := by decide +kernel
theorem d15_2 : decode jdk_42_method_155_code 2 = .ok (.getstatic 1053, 3) := by decide +kernel
theorem d15_5 : decode jdk_42_method_155_code 5 = .ok (.invokestatic 1059, 3) := by decide +kernel
theorem d15_8 : decode jdk_42_method_155_code 8 = .ok (.pop, 1) := by decide +kernel
theorem d15_9 : decode jdk_42_method_155_code 9 = .ok (.return_, 1) := by decide +kernel
theorem ef_schk (m : MethodId) (i : Int32) (n : Int32) : entryFrame m #[(.int i), (.int n)] 2 = mkF m 0 #[.val (.int i), .val (.int n)] [] := by
  first | (simp [entryFrame, mkF, argsToLocals, Value.category]; done) | rfl
def Q_schk (Z : State) (i : Int32) (n : Int32) (fm : Value) (h0 : Heap) (n0 : Nat) (v : Option Value) (h : Heap) (L : List Loc) : Prop := v = none ∧ Fr n0 L ∧ h = h0
set_option maxRecDepth 65536 in
set_option maxHeartbeats 40000000 in
theorem rm_schk (l : Launch) (Z : State) (a0 : Array Value) (hw : ∀ d ∈ tables_1, d.before a0 Z = true) (ws : List Jvm.Cond) (i : Int32) (n : Int32) (fm : Value) (h0 : Heap) (n0 : Nat) (O0 : Old Z n0 h0) (S_IO : Sta Z Z.heap "jdk/internal/util/Preconditions" "SIOOBE_FORMATTER" "Ljava/util/function/BiFunction;" fm) (hio : fm.isRef = true) (h1 : ¬ i < (0 : Int32)) (h2 : i < n) :
    MetFree l (⟨"java/lang/String", "checkIndex", "(II)V"⟩ : MethodName) (head1 (Jvm.Cond.code (⟨"java/lang/String", "checkIndex", "(II)V"⟩ : MethodName) jdk_42_method_155_code 2 none :: ws) ({ frames := 1, cells := 0, slots := 0, locals := 14 } : Room)) (fun aq_ Uq_ => aq_ = #[(.int i), (.int n)] ∧ Z.Warmed39 Uq_.vm ∧ Uq_.heap = h0) (fun _ _ _ _ _ => True) (fun _ Uq_ oq_ Ur_ => ∃ vq_ Lq_, oq_ = .returned vq_ ∧ Q_schk Z i n fm h0 n0 vq_ Ur_.heap Lq_ ∧ FrameEnd Uq_ oq_ Ur_ Lq_ ({ frames := 1, cells := 0, slots := 0, locals := 14 } : Room).cells ({ frames := 1, cells := 0, slots := 0, locals := 14 } : Room).slots) := by
  refine MetFree.of_bodySF (plainFor_of_name pn_java_2flang_2fString) hisR ?_
  intro p e s m args below meth c s₁ Bd hml0 hP hK
  obtain ⟨rfl, hZ, hh⟩ := hP
  have hx := Bd.exec
  have hby := Bd.bytes
  have hml : c.maxLocals = 2 := hml0
  have hown : s.vm.findClass "java/lang/String" = some m.cls := findClass_of_methodNamed Bd.named
  have hnm := (name_of_methodNamed Bd.named Bd.method).1
  have X0 : Stand p l e ({ frames := 1, cells := 0, slots := 0, locals := 14 } : Room) s m #[(.int i), (.int n)] below meth c s₁ [] 0 0 := Stand.of_body Bd
  have e0 : s₁.heap = h0 := by rw [← hh, Bd.state]; rfl
  have N0 := Fr.nil n0
  have K0 := Keep.refl h0 []
  refine own_G.start (Q := Q_schk Z i n fm h0 n0) (ef_schk m i n) ?_
  refine own_G.step (g' := (mkF m 1 #[.val (.int i), .val (.int n)] [(.int i)])) (fun tq_ kq_ => XS.iloadN X0.here hx rfl (hb hby d15_0) rfl kq_) ?_
  refine own_G.step (g' := (mkF m 2 #[.val (.int i), .val (.int n)] [(.int n), (.int i)])) (fun tq_ kq_ => XS.iloadN X0.here hx rfl (hb hby d15_1) rfl kq_) ?_
  obtain ⟨T1, X1, e1, st1⟩ := getS2 X0 hx hZ hown (host := "") (Or.inl (hw _ (List.mem_of_getElem? (i := 82) rfl))) Via.refl e0 (Sta.ext O0.2 S_IO) (g := (mkF m 2 #[.val (.int i), .val (.int n)] [(.int n), (.int i)])) rfl (hb hby d15_2)
  refine own_G.step (T' := T1) (g' := (mkF m 5 #[.val (.int i), .val (.int n)] [fm, (.int n), (.int i)])) st1 ?_
  obtain ⟨_, _, ⟨T2, L2, k2, n2⟩, -, X2, ⟨Lc2, hQ2, l2, y2, z2⟩, st2⟩ := Jvm.LawKit.callS X1 hx (y := (⟨"jdk/internal/util/Preconditions", "checkIndex", "(IILjava/util/function/BiFunction;)I"⟩ : MethodName)) hown (mvT hZ (hw _ (List.mem_of_getElem? (i := 84) rfl))) (mvT hZ (hw _ (List.mem_of_getElem? (i := 85) rfl))) (mvT hZ (hw _ (List.mem_of_getElem? (i := 83) rfl))) (mvT hZ (hw _ (List.mem_of_getElem? (i := 86) rfl))) (by decide) (backOf (W := 0) (rm_pchk l Z a0 hw [] i n fm h0 n0 O0 hio h1 h2) hZ (hw _ (List.mem_of_getElem? (i := 86) rfl)) (hw _ (List.mem_of_getElem? (i := 83) rfl)) (by decide) (by decide)) (g := (mkF m 5 #[.val (.int i), .val (.int n)] [fm, (.int n), (.int i)])) rfl (by rw [hml]; rfl) (argsL := [(.int i), (.int n), fm]) (rest := []) (lenOf pd__28IILjava_2futil_2ffunction_2fBiFunction_3b_29I rfl) rfl (by show 2 * 0 + _ ≤ _; exact Nat.le_of_eq rfl) (hb hby d15_5) (fun _ _ => ⟨rfl, e1, (by decide : 0 + 0 ≤ _), (by decide : 0 + 0 ≤ _)⟩)
  dsimp only [Pt.U, Pt.locs, Pt.cells, Pt.slots] at X2 l2 y2 z2 st2 hQ2
  subst l2 y2 z2
  obtain ⟨rfl, Nq2, P3⟩ := hQ2
  have N2 := Fr.app N0 Nq2
  refine own_G.step (T' := T2) (g' := (mkF m 8 #[.val (.int i), .val (.int n)] [(.int i)])) (fun tq_ kq_ => st2 _ kq_) ?_
  refine own_G.step (g' := (mkF m 9 #[.val (.int i), .val (.int n)] [])) (fun tq_ kq_ => XS.pop X2.here hx rfl (hb hby d15_8) rfl rfl kq_) ?_
  exact own_ret X2 P3 (v := none) (fun _ => rfl) Bd.notSynchronized ⟨rfl, N2, rfl⟩ (by decide) (by decide) (fun fs hr => X2.returnOut hx Bd.returns (hb hby d15_9) hr)
theorem pd__28II_29V : parseMethodDescriptor "(II)V" = some ⟨[.int, .int], none⟩ := by decide +kernel
theorem d14_0 : decode jdk_43_method_2_code 0 = .ok (.iload_n 1, 1) := by decide +kernel
theorem d14_1 : decode jdk_43_method_2_code 1 = .ok (.aload_n 0, 1) := by decide +kernel
theorem d14_2 : decode jdk_43_method_2_code 2 = .ok (.arraylength, 1) := by decide +kernel
theorem d14_3 : decode jdk_43_method_2_code 3 = .ok (.invokestatic 9, 3) := by decide +kernel
theorem d14_6 : decode jdk_43_method_2_code 6 = .ok (.aload_n 0, 1) := by decide +kernel
theorem d14_7 : decode jdk_43_method_2_code 7 = .ok (.iload_n 1, 1) := by decide +kernel
theorem d14_8 : decode jdk_43_method_2_code 8 = .ok (.baload, 1) := by decide +kernel
theorem d14_9 : decode jdk_43_method_2_code 9 = .ok (.sipush 255, 3) := by decide +kernel
theorem d14_12 : decode jdk_43_method_2_code 12 = .ok (.iand, 1) := by decide +kernel
theorem d14_13 : decode jdk_43_method_2_code 13 = .ok (.i2c, 1) := by decide +kernel
theorem d14_14 : decode jdk_43_method_2_code 14 = .ok (.ireturn, 1) := by decide +kernel
theorem pn_java_2flang_2fStringLatin1 : plainName "java/lang/StringLatin1" = true := by first | (simp [plainName, overriddenIn]; done) | decide +kernel
theorem ef_lchar (m : MethodId) (t : Addr) (i : Int32) : entryFrame m #[(.ref t), (.int i)] 2 = mkF m 0 #[.val (.ref t), .val (.int i)] [] := by
  first | (simp [entryFrame, mkF, argsToLocals, Value.category]; done) | rfl
def Q_lchar (Z : State) (t : Addr) (i : Int32) (fm : Value) (n : Int32) (b : Int32) (h0 : Heap) (n0 : Nat) (v : Option Value) (h : Heap) (L : List Loc) : Prop := v = some (.int (own_chr b)) ∧ Fr n0 L ∧ h = h0
set_option maxRecDepth 65536 in
set_option maxHeartbeats 40000000 in
theorem rm_lchar (l : Launch) (Z : State) (a0 : Array Value) (hw : ∀ d ∈ tables_1, d.before a0 Z = true) (ws : List Jvm.Cond) (t : Addr) (i : Int32) (fm : Value) (n : Int32) (b : Int32) (h0 : Heap) (n0 : Nat) (O0 : Old Z n0 h0) (S_IO : Sta Z Z.heap "jdk/internal/util/Preconditions" "SIOOBE_FORMATTER" "Ljava/util/function/BiFunction;" fm) (hio : fm.isRef = true) (LN : own_Len Z h0 t n) (AT : own_At Z h0 t i b) (h1 : ¬ i < (0 : Int32)) (h2 : i < n) :
    MetFree l (⟨"java/lang/StringLatin1", "charAt", "([BI)C"⟩ : MethodName) (head1 (Jvm.Cond.code (⟨"java/lang/StringLatin1", "charAt", "([BI)C"⟩ : MethodName) jdk_43_method_2_code 2 (some .char) :: ws) ({ frames := 2, cells := 0, slots := 0, locals := 27 } : Room)) (fun aq_ Uq_ => aq_ = #[(.ref t), (.int i)] ∧ Z.Warmed39 Uq_.vm ∧ Uq_.heap = h0) (fun _ _ _ _ _ => True) (fun _ Uq_ oq_ Ur_ => ∃ vq_ Lq_, oq_ = .returned vq_ ∧ Q_lchar Z t i fm n b h0 n0 vq_ Ur_.heap Lq_ ∧ FrameEnd Uq_ oq_ Ur_ Lq_ ({ frames := 2, cells := 0, slots := 0, locals := 27 } : Room).cells ({ frames := 2, cells := 0, slots := 0, locals := 27 } : Room).slots) := by
  refine MetFree.of_bodySF (plainFor_of_name pn_java_2flang_2fStringLatin1) hisR ?_
  intro p e s m args below meth c s₁ Bd hml0 hP hK
  obtain ⟨rfl, hZ, hh⟩ := hP
  have hx := Bd.exec
  have hby := Bd.bytes
  have hml : c.maxLocals = 2 := hml0
  have hown : s.vm.findClass "java/lang/StringLatin1" = some m.cls := findClass_of_methodNamed Bd.named
  have hnm := (name_of_methodNamed Bd.named Bd.method).1
  have X0 : Stand p l e ({ frames := 2, cells := 0, slots := 0, locals := 27 } : Room) s m #[(.ref t), (.int i)] below meth c s₁ [] 0 0 := Stand.of_body Bd
  have e0 : s₁.heap = h0 := by rw [← hh, Bd.state]; rfl
  have N0 := Fr.nil n0
  have K0 := Keep.refl h0 []
  refine own_G.start (Q := Q_lchar Z t i fm n b h0 n0) (ef_lchar m t i) ?_
  refine own_G.step (g' := (mkF m 1 #[.val (.ref t), .val (.int i)] [(.int i)])) (fun tq_ kq_ => XS.iloadN X0.here hx rfl (hb hby d14_0) rfl kq_) ?_
  refine own_G.step (g' := (mkF m 2 #[.val (.ref t), .val (.int i)] [(.ref t), (.int i)])) (fun tq_ kq_ => XS.aloadN X0.here hx rfl (hb hby d14_1) rfl rfl kq_) ?_
  obtain ⟨cl1, ty1, Ar1, Sz1, Nz1⟩ := id LN
  refine own_G.step (g' := (mkF m 3 #[.val (.ref t), .val (.int i)] [(.int n), (.int i)])) (fun tq_ kq_ => X0.arraylength hx (by rw [e0]; exact Ar1.1) (State.isArrayOf_alike hZ.alike Ar1.2.1) (g := (mkF m 2 #[.val (.ref t), .val (.int i)] [(.ref t), (.int i)])) rfl rfl (hb hby d14_2) _ (by rw [len_of Sz1 Nz1]; exact kq_)) ?_
  obtain ⟨_, _, ⟨T2, L2, k2, n2⟩, -, X2, ⟨Lc2, hQ2, l2, y2, z2⟩, st2⟩ := Jvm.LawKit.callS X0 hx (y := (⟨"java/lang/String", "checkIndex", "(II)V"⟩ : MethodName)) hown (mvT hZ (hw _ (List.mem_of_getElem? (i := 79) rfl))) (mvT hZ (hw _ (List.mem_of_getElem? (i := 80) rfl))) (mvT hZ (hw _ (List.mem_of_getElem? (i := 10) rfl))) (mvT hZ (hw _ (List.mem_of_getElem? (i := 81) rfl))) (by decide) (backOf (W := 0) (rm_schk l Z a0 hw [] i n fm h0 n0 O0 S_IO hio h1 h2) hZ (hw _ (List.mem_of_getElem? (i := 81) rfl)) (hw _ (List.mem_of_getElem? (i := 10) rfl)) (by decide) (by decide)) (g := (mkF m 3 #[.val (.ref t), .val (.int i)] [(.int n), (.int i)])) rfl (by rw [hml]; rfl) (argsL := [(.int i), (.int n)]) (rest := []) (lenOf pd__28II_29V rfl) rfl (by show 2 * 0 + _ ≤ _; exact Nat.le_of_eq rfl) (hb hby d14_3) (fun _ _ => ⟨rfl, e0, (by decide : 0 + 0 ≤ _), (by decide : 0 + 0 ≤ _)⟩)
  dsimp only [Pt.U, Pt.locs, Pt.cells, Pt.slots] at X2 l2 y2 z2 st2 hQ2
  subst l2 y2 z2
  obtain ⟨rfl, Nq2, P3⟩ := hQ2
  have N2 := Fr.app N0 Nq2
  refine own_G.step (T' := T2) (g' := (mkF m 6 #[.val (.ref t), .val (.int i)] [])) (fun tq_ kq_ => st2 _ kq_) ?_
  refine own_G.step (g' := (mkF m 7 #[.val (.ref t), .val (.int i)] [(.ref t)])) (fun tq_ kq_ => XS.aloadN X2.here hx rfl (hb hby d14_6) rfl rfl kq_) ?_
  refine own_G.step (g' := (mkF m 8 #[.val (.ref t), .val (.int i)] [(.int i), (.ref t)])) (fun tq_ kq_ => XS.iloadN X2.here hx rfl (hb hby d14_7) rfl kq_) ?_
  obtain ⟨cl4, Ar4, hin4, hat4⟩ := id AT
  refine own_G.step (g' := (mkF m 9 #[.val (.ref t), .val (.int i)] [(.int b)])) (fun tq_ kq_ => X2.baloadBytes hx (j := i) (v := (.int b)) (by rw [P3]; exact Ar4.1) (State.isArrayOf_alike hZ.alike Ar4.2.1) Ar4.2.2 hin4 hat4 (g := (mkF m 8 #[.val (.ref t), .val (.int i)] [(.int i), (.ref t)])) rfl rfl (hb hby d14_8) _ kq_) ?_
  refine own_G.step (g' := (mkF m 12 #[.val (.ref t), .val (.int i)] [(.int (255 : Int32)), (.int b)])) (fun tq_ kq_ => XS.sipush X2.here hx rfl (hb hby d14_9) kq_) ?_
  refine own_G.step (g' := (mkF m 13 #[.val (.ref t), .val (.int i)] [(.int (b &&& (255 : Int32)))])) (fun tq_ kq_ => XS.iand X2.here hx rfl (hb hby d14_12) rfl kq_) ?_
  refine own_G.step (g' := (mkF m 14 #[.val (.ref t), .val (.int i)] [(.int ((b &&& (255 : Int32)).toUInt32.toUInt16.toUInt32.toInt32))])) (fun tq_ kq_ => XS.i2c X2.here hx rfl (hb hby d14_13) rfl kq_) ?_
  exact own_ret X2 P3 (v := some (.int (nar .char ((b &&& (255 : Int32)).toUInt32.toUInt16.toUInt32.toInt32)))) (fun h => by rw [Bd.returns] at h; cases h) Bd.notSynchronized ⟨(by rw [own_nar_c]; rfl), N2, rfl⟩ (by decide) (by decide) (fun fs hr => retN X2 hx (t := .char) Bd.returns (by simp) (hb hby d14_14) hr)
theorem pd__28_29Z : parseMethodDescriptor "()Z" = some ⟨[], some .boolean⟩ := by decide +kernel
theorem pd__28_5bBI_29C : parseMethodDescriptor "([BI)C" = some ⟨[(.array .byte), .int], some .char⟩ := by decide +kernel
theorem d12_0 : decode jdk_42_method_56_code 0 = .ok (.aload_n 0, 1) := by decide +kernel
theorem d12_1 : decode jdk_42_method_56_code 1 = .ok (.invokevirtual 492, 3) := by decide +kernel
theorem d12_4 : decode jdk_42_method_56_code 4 = .ok (.ifCond .eq 12, 3) := by decide +kernel
theorem d12_7 : decode jdk_42_method_56_code 7 = .ok (.aload_n 0, 1) := by decide +kernel
theorem d12_8 : decode jdk_42_method_56_code 8 = .ok (.getfield 9, 3) := by decide +kernel
theorem d12_11 : decode jdk_42_method_56_code 11 = .ok (.iload_n 1, 1) := by decide +kernel
theorem d12_12 : decode jdk_42_method_56_code 12 = .ok (.invokestatic 495, 3) := by decide +kernel
theorem d12_15 : decode jdk_42_method_56_code 15 = .ok (.ireturn, 1) := by decide +kernel
theorem ef_charAt (m : MethodId) (a : Addr) (i : Int32) : entryFrame m #[(.ref a), (.int i)] 2 = mkF m 0 #[.val (.ref a), .val (.int i)] [] := by
  first | (simp [entryFrame, mkF, argsToLocals, Value.category]; done) | rfl
def Q_charAt (Z : State) (a : Addr) (i : Int32) (csz : Int32) (fm : Value) (t : Addr) (n : Int32) (b : Int32) (h0 : Heap) (n0 : Nat) (v : Option Value) (h : Heap) (L : List Loc) : Prop := v = some (.int (own_chr b)) ∧ Fr n0 L ∧ h = h0
set_option maxRecDepth 65536 in
set_option maxHeartbeats 40000000 in
theorem rm_charAt (l : Launch) (Z : State) (a0 : Array Value) (hw : ∀ d ∈ tables_1, d.before a0 Z = true) (ws : List Jvm.Cond) (a : Addr) (i : Int32) (csz : Int32) (fm : Value) (t : Addr) (n : Int32) (b : Int32) (h0 : Heap) (n0 : Nat) (O0 : Old Z n0 h0) (S_CS : Sta Z Z.heap "java/lang/String" "COMPACT_STRINGS" "Z" (.int csz)) (hcs : ¬ csz = (0 : Int32)) (S_IO : Sta Z Z.heap "jdk/internal/util/Preconditions" "SIOOBE_FORMATTER" "Ljava/util/function/BiFunction;" fm) (hio : fm.isRef = true) (Ea : Exa Z h0 a "java/lang/String") (Fv : Fld Z h0 a "java/lang/String" "value" "[B" (.ref t)) (Fc : Fld Z h0 a "java/lang/String" "coder" "B" (.int 0)) (LN : own_Len Z h0 t n) (AT : own_At Z h0 t i b) (h1 : ¬ i < (0 : Int32)) (h2 : i < n) :
    MetFree l (⟨"java/lang/String", "charAt", "(I)C"⟩ : MethodName) (head1 (Jvm.Cond.code (⟨"java/lang/String", "charAt", "(I)C"⟩ : MethodName) jdk_42_method_56_code 2 (some .char) :: ws) ({ frames := 3, cells := 0, slots := 0, locals := 40 } : Room)) (fun aq_ Uq_ => aq_ = #[(.ref a), (.int i)] ∧ Z.Warmed39 Uq_.vm ∧ Uq_.heap = h0) (fun _ _ _ _ _ => True) (fun _ Uq_ oq_ Ur_ => ∃ vq_ Lq_, oq_ = .returned vq_ ∧ Q_charAt Z a i csz fm t n b h0 n0 vq_ Ur_.heap Lq_ ∧ FrameEnd Uq_ oq_ Ur_ Lq_ ({ frames := 3, cells := 0, slots := 0, locals := 40 } : Room).cells ({ frames := 3, cells := 0, slots := 0, locals := 40 } : Room).slots) := by
  refine MetFree.of_bodySF (plainFor_of_name pn_java_2flang_2fString) hisR ?_
  intro p e s m args below meth c s₁ Bd hml0 hP hK
  obtain ⟨rfl, hZ, hh⟩ := hP
  have hx := Bd.exec
  have hby := Bd.bytes
  have hml : c.maxLocals = 2 := hml0
  have hown : s.vm.findClass "java/lang/String" = some m.cls := findClass_of_methodNamed Bd.named
  have hnm := (name_of_methodNamed Bd.named Bd.method).1
  have X0 : Stand p l e ({ frames := 3, cells := 0, slots := 0, locals := 40 } : Room) s m #[(.ref a), (.int i)] below meth c s₁ [] 0 0 := Stand.of_body Bd
  have e0 : s₁.heap = h0 := by rw [← hh, Bd.state]; rfl
  have N0 := Fr.nil n0
  have K0 := Keep.refl h0 []
  refine own_G.start (Q := Q_charAt Z a i csz fm t n b h0 n0) (ef_charAt m a i) ?_
  refine own_G.step (g' := (mkF m 1 #[.val (.ref a), .val (.int i)] [(.ref a)])) (fun tq_ kq_ => XS.aloadN X0.here hx rfl (hb hby d12_0) rfl rfl kq_) ?_
  obtain ⟨cq1, kq1, q1a, q1b, q1c⟩ := isOf hZ e0 Ea
  obtain ⟨_, _, ⟨T1, L1, k1, n1⟩, -, X1, ⟨Lc1, hQ1, l1, y1, z1⟩, st1⟩ := X0.virtualBack hx (y := (⟨"java/lang/String", "isLatin1", "()Z"⟩ : MethodName)) (z := (⟨"java/lang/String", "isLatin1", "()Z"⟩ : MethodName)) hown (mvT hZ (hw _ (List.mem_of_getElem? (i := 71) rfl))) (mvT hZ (hw _ (List.mem_of_getElem? (i := 72) rfl))) (notFace_of_selects (args := #[]) (mvT hZ (hw _ (List.mem_of_getElem? (i := 74) rfl)))) (mvT hZ (hw _ (List.mem_of_getElem? (i := 74) rfl))) (mvT hZ (hw _ (List.mem_of_getElem? (i := 73) rfl))) (by decide) (backOf (W := 0) (rm_isLat l Z a0 hw [] a csz h0 n0 O0 S_CS hcs Fc) hZ (hw _ (List.mem_of_getElem? (i := 75) rfl)) (hw _ (List.mem_of_getElem? (i := 10) rfl)) (by decide) (by decide)) q1a q1c (g := (mkF m 1 #[.val (.ref a), .val (.int i)] [(.ref a)])) rfl (by rw [hml]; rfl) (Steps.refl _) (argsL := []) (rest := []) (lenOf pd__28_29Z rfl) rfl (by show 2 * 0 + _ ≤ _; exact Nat.le_of_eq rfl) (hb hby d12_1) (fun _ _ => ⟨rfl, e0, (by decide : 0 + 0 ≤ _), (by decide : 0 + 0 ≤ _)⟩)
  dsimp only [Pt.U, Pt.locs, Pt.cells, Pt.slots] at X1 l1 y1 z1 st1 hQ1
  subst l1 y1 z1
  obtain ⟨rfl, Nq1, P2⟩ := hQ1
  have N1 := Fr.app N0 Nq1
  refine own_G.step (T' := T1) (g' := (mkF m 4 #[.val (.ref a), .val (.int i)] [(.int (1 : Int32))])) (fun tq_ kq_ => st1.trans kq_) ?_
  have hc4 : ¬ ((1 : Int32) = (0 : Int32)) := by decide
  refine own_G.step (g' := (mkF m 7 #[.val (.ref a), .val (.int i)] [])) (fun tq_ kq_ => XS.ifNo X1.here hx rfl (hb hby d12_4) rfl ((if0 _ _).trans (feq hc4).1) kq_) ?_
  refine own_G.step (g' := (mkF m 8 #[.val (.ref a), .val (.int i)] [(.ref a)])) (fun tq_ kq_ => XS.aloadN X1.here hx rfl (hb hby d12_7) rfl rfl kq_) ?_
  obtain ⟨T3, X3, e3, st3⟩ := getF X1 hx hZ hown (host := "") (Or.inl (hw _ (List.mem_of_getElem? (i := 30) rfl))) Via.refl P2 Fv (g := (mkF m 8 #[.val (.ref a), .val (.int i)] [(.ref a)])) rfl rfl (hb hby d12_8)
  refine own_G.step (T' := T3) (g' := (mkF m 11 #[.val (.ref a), .val (.int i)] [(.ref t)])) st3 ?_
  refine own_G.step (g' := (mkF m 12 #[.val (.ref a), .val (.int i)] [(.int i), (.ref t)])) (fun tq_ kq_ => XS.iloadN X3.here hx rfl (hb hby d12_11) rfl kq_) ?_
  obtain ⟨_, _, ⟨T4, L4, k4, n4⟩, -, X4, ⟨Lc4, hQ4, l4, y4, z4⟩, st4⟩ := Jvm.LawKit.callS X3 hx (y := (⟨"java/lang/StringLatin1", "charAt", "([BI)C"⟩ : MethodName)) hown (mvT hZ (hw _ (List.mem_of_getElem? (i := 76) rfl))) (mvT hZ (hw _ (List.mem_of_getElem? (i := 77) rfl))) (mvT hZ (hw _ (List.mem_of_getElem? (i := 15) rfl))) (mvT hZ (hw _ (List.mem_of_getElem? (i := 78) rfl))) (by decide) (backOf (W := 0) (rm_lchar l Z a0 hw [] t i fm n b h0 n0 O0 S_IO hio LN AT h1 h2) hZ (hw _ (List.mem_of_getElem? (i := 78) rfl)) (hw _ (List.mem_of_getElem? (i := 15) rfl)) (by decide) (by decide)) (g := (mkF m 12 #[.val (.ref a), .val (.int i)] [(.int i), (.ref t)])) rfl (by rw [hml]; rfl) (argsL := [(.ref t), (.int i)]) (rest := []) (lenOf pd__28_5bBI_29C rfl) rfl (by show 2 * 0 + _ ≤ _; exact Nat.le_of_eq rfl) (hb hby d12_12) (fun _ _ => ⟨rfl, e3, (by decide : 0 + 0 ≤ _), (by decide : 0 + 0 ≤ _)⟩)
  dsimp only [Pt.U, Pt.locs, Pt.cells, Pt.slots] at X4 l4 y4 z4 st4 hQ4
  subst l4 y4 z4
  obtain ⟨rfl, Nq4, P5⟩ := hQ4
  have N4 := Fr.app N1 Nq4
  refine own_G.step (T' := T4) (g' := (mkF m 15 #[.val (.ref a), .val (.int i)] [(.int (own_chr b))])) (fun tq_ kq_ => st4 _ kq_) ?_
  exact own_ret X4 P5 (v := some (.int (nar .char (own_chr b)))) (fun h => by rw [Bd.returns] at h; cases h) Bd.notSynchronized ⟨(by rw [own_chr, own_nar_c]), N4, rfl⟩ (by decide) (by decide) (fun fs hr => retN X4 hx (t := .char) Bd.returns (by simp) (hb hby d12_15) hr)
theorem d2_0 : decode jdk_43_method_3_code 0 = .ok (.iload_n 0, 1) := by decide +kernel
theorem d2_1 : decode jdk_43_method_3_code 1 = .ok (.sipush 255, 3) := by decide +kernel
theorem d2_4 : decode jdk_43_method_3_code 4 = .ok (.if_icmp .gt 7, 3) := by decide +kernel
theorem d2_7 : decode jdk_43_method_3_code 7 = .ok (.iconst 1, 1) := by decide +kernel
theorem d2_8 : decode jdk_43_method_3_code 8 = .ok (.goto 4, 3) := by decide +kernel
theorem d2_12 : decode jdk_43_method_3_code 12 = .ok (.ireturn, 1) := by decide +kernel
theorem ef_canEnc (m : MethodId) (i : Int32) : entryFrame m #[(.int i)] 1 = mkF m 0 #[.val (.int i)] [] := by
  first | (simp [entryFrame, mkF, argsToLocals, Value.category]; done) | rfl
def Q_canEnc (Z : State) (i : Int32) (h0 : Heap) (n0 : Nat) (v : Option Value) (h : Heap) (L : List Loc) : Prop := v = some (.int 1) ∧ Fr n0 L ∧ h = h0
set_option maxRecDepth 65536 in
set_option maxHeartbeats 40000000 in
theorem rm_canEnc (l : Launch) (Z : State) (a0 : Array Value) (hw : ∀ d ∈ tables_1, d.before a0 Z = true) (ws : List Jvm.Cond) (i : Int32) (h0 : Heap) (n0 : Nat) (O0 : Old Z n0 h0) (h2 : ¬ (255 : Int32) < i) :
    MetFree l (⟨"java/lang/StringLatin1", "canEncode", "(C)Z"⟩ : MethodName) (head1 (Jvm.Cond.code (⟨"java/lang/StringLatin1", "canEncode", "(C)Z"⟩ : MethodName) jdk_43_method_3_code 1 (some .boolean) :: ws) ({ frames := 0, cells := 0, slots := 0, locals := 0 } : Room)) (fun aq_ Uq_ => aq_ = #[(.int i)] ∧ Z.Warmed39 Uq_.vm ∧ Uq_.heap = h0) (fun _ _ _ _ _ => True) (fun _ Uq_ oq_ Ur_ => ∃ vq_ Lq_, oq_ = .returned vq_ ∧ Q_canEnc Z i h0 n0 vq_ Ur_.heap Lq_ ∧ FrameEnd Uq_ oq_ Ur_ Lq_ ({ frames := 0, cells := 0, slots := 0, locals := 0 } : Room).cells ({ frames := 0, cells := 0, slots := 0, locals := 0 } : Room).slots) := by
  refine MetFree.of_bodySF (plainFor_of_name pn_java_2flang_2fStringLatin1) hisR ?_
  intro p e s m args below meth c s₁ Bd hml0 hP hK
  obtain ⟨rfl, hZ, hh⟩ := hP
  have hx := Bd.exec
  have hby := Bd.bytes
  have hml : c.maxLocals = 1 := hml0
  have hown : s.vm.findClass "java/lang/StringLatin1" = some m.cls := findClass_of_methodNamed Bd.named
  have hnm := (name_of_methodNamed Bd.named Bd.method).1
  have X0 : Stand p l e ({ frames := 0, cells := 0, slots := 0, locals := 0 } : Room) s m #[(.int i)] below meth c s₁ [] 0 0 := Stand.of_body Bd
  have e0 : s₁.heap = h0 := by rw [← hh, Bd.state]; rfl
  have N0 := Fr.nil n0
  have K0 := Keep.refl h0 []
  refine own_G.start (Q := Q_canEnc Z i h0 n0) (ef_canEnc m i) ?_
  refine own_G.step (g' := (mkF m 1 #[.val (.int i)] [(.int i)])) (fun tq_ kq_ => XS.iloadN X0.here hx rfl (hb hby d2_0) rfl kq_) ?_
  refine own_G.step (g' := (mkF m 4 #[.val (.int i)] [(.int (255 : Int32)), (.int i)])) (fun tq_ kq_ => XS.sipush X0.here hx rfl (hb hby d2_1) kq_) ?_
  have hc4 : ¬ ((255 : Int32) < i) := h2
  refine own_G.step (g' := (mkF m 7 #[.val (.int i)] [])) (fun tq_ kq_ => XS.icmpNo X0.here hx rfl (hb hby d2_4) rfl (flt hc4).2.2.1 kq_) ?_
  refine own_G.step (g' := (mkF m 8 #[.val (.int i)] [(.int (1 : Int32))])) (fun tq_ kq_ => XS.iconst X0.here hx rfl (hb hby d2_7) kq_) ?_
  refine own_G.step (g' := (mkF m 12 #[.val (.int i)] [(.int (1 : Int32))])) (fun tq_ kq_ => XS.goto X0.here hx rfl (pc0 := 8) (pc' := 12) rfl (hb hby d2_8) (by decide) (by decide) kq_) ?_
  exact own_ret X0 e0 (v := some (.int (1 : Int32))) (fun h => by rw [Bd.returns] at h; cases h) Bd.notSynchronized ⟨rfl, N0, rfl⟩ (by decide) (by decide) (fun fs hr => retN X0 hx (t := .boolean) Bd.returns (by simp) (hb hby d2_12) hr)
theorem d3_0 : decode jdk_43_method_46_code 0 = .ok (.iconst 1, 1) := by decide +kernel
theorem d3_1 : decode jdk_43_method_46_code 1 = .ok (.newarray .byte, 2) := by decide +kernel
theorem d3_3 : decode jdk_43_method_46_code 3 = .ok (.dup, 1) := by decide +kernel
theorem d3_4 : decode jdk_43_method_46_code 4 = .ok (.iconst 0, 1) := by decide +kernel
theorem d3_5 : decode jdk_43_method_46_code 5 = .ok (.iload_n 0, 1) := by decide +kernel
theorem d3_6 : decode jdk_43_method_46_code 6 = .ok (.i2b, 1) := by decide +kernel
theorem d3_7 : decode jdk_43_method_46_code 7 = .ok (.bastore, 1) := by decide +kernel
theorem d3_8 : decode jdk_43_method_46_code 8 = .ok (.areturn, 1) := by decide +kernel
theorem ef_toB (m : MethodId) (i : Int32) : entryFrame m #[(.int i)] 1 = mkF m 0 #[.val (.int i)] [] := by
  first | (simp [entryFrame, mkF, argsToLocals, Value.category]; done) | rfl
def Q_toB (Z : State) (i : Int32) (h0 : Heap) (n0 : Nat) (v : Option Value) (h : Heap) (L : List Loc) : Prop := ∃ (t : Addr), ∃ (kb : ClassId), v = some (.ref t) ∧ Fr n0 L ∧ Keep h0 h [] ∧ h0.size ≤ t ∧ Arv Z h t kb .byte (1 : Int32) [(.int (i.toInt8.toInt32))] (.int (0 : Int32))
set_option maxRecDepth 65536 in
set_option maxHeartbeats 40000000 in
theorem rm_toB (l : Launch) (Z : State) (a0 : Array Value) (hw : ∀ d ∈ tables_1, d.before a0 Z = true) (ws : List Jvm.Cond) (i : Int32) (h0 : Heap) (n0 : Nat) (O0 : Old Z n0 h0) :
    MetFree l (⟨"java/lang/StringLatin1", "toBytes", "(C)[B"⟩ : MethodName) (head1 (Jvm.Cond.code (⟨"java/lang/StringLatin1", "toBytes", "(C)[B"⟩ : MethodName) jdk_43_method_46_code 1 (some (.array .byte)) :: ws) ({ frames := 0, cells := 1, slots := 1, locals := 0 } : Room)) (fun aq_ Uq_ => aq_ = #[(.int i)] ∧ Z.Warmed39 Uq_.vm ∧ Uq_.heap = h0) (fun _ _ _ _ _ => True) (fun _ Uq_ oq_ Ur_ => ∃ vq_ Lq_, oq_ = .returned vq_ ∧ Q_toB Z i h0 n0 vq_ Ur_.heap Lq_ ∧ FrameEnd Uq_ oq_ Ur_ Lq_ ({ frames := 0, cells := 1, slots := 1, locals := 0 } : Room).cells ({ frames := 0, cells := 1, slots := 1, locals := 0 } : Room).slots) := by
  refine MetFree.of_bodySF (plainFor_of_name pn_java_2flang_2fStringLatin1) hisR ?_
  intro p e s m args below meth c s₁ Bd hml0 hP hK
  obtain ⟨rfl, hZ, hh⟩ := hP
  have hx := Bd.exec
  have hby := Bd.bytes
  have hml : c.maxLocals = 1 := hml0
  have hown : s.vm.findClass "java/lang/StringLatin1" = some m.cls := findClass_of_methodNamed Bd.named
  have hnm := (name_of_methodNamed Bd.named Bd.method).1
  have X0 : Stand p l e ({ frames := 0, cells := 1, slots := 1, locals := 0 } : Room) s m #[(.int i)] below meth c s₁ [] 0 0 := Stand.of_body Bd
  have e0 : s₁.heap = h0 := by rw [← hh, Bd.state]; rfl
  have N0 := Fr.nil n0
  have K0 := Keep.refl h0 []
  refine own_G.start (Q := Q_toB Z i h0 n0) (ef_toB m i) ?_
  refine own_G.step (g' := (mkF m 1 #[.val (.int i)] [(.int (1 : Int32))])) (fun tq_ kq_ => XS.iconst X0.here hx rfl (hb hby d3_0) kq_) ?_
  obtain ⟨T1, h1, k1, X1, e1, E1, A1, st1⟩ := newP X0 hx hZ (hw _ (List.mem_of_getElem? (i := 22) rfl)) e0 (g := (mkF m 1 #[.val (.int i)] [(.int (1 : Int32))])) rfl (hb hby d3_1) rfl (by decide) (cap := 1) (by decide) (by decide) (by decide) (by decide)
  obtain ⟨b1, g1⟩ : ∃ z, z = h0.size := ⟨_, rfl⟩
  rw [← g1] at A1 st1
  have g2 : n0 ≤ b1 := Nat.le_trans O0.le (Nat.le_of_eq g1.symm)
  have z3 : h0.size ≤ b1 := Nat.le_trans K0.1 (Nat.le_of_eq g1.symm)
  have O4 := O0.ext E1
  have K5 := K0.ext E1
  have F6 : Arv Z h1 b1 k1 .byte (1 : Int32) [(.int (0 : Int32))] (.int (0 : Int32)) := (Arv.new A1 (by decide)).pad (pad_rep [] (.int (0 : Int32)) 1)
  refine own_G.step (T' := T1) (g' := (mkF m 3 #[.val (.int i)] [(.ref b1)])) st1 ?_
  refine own_G.step (g' := (mkF m 4 #[.val (.int i)] [(.ref b1), (.ref b1)])) (fun tq_ kq_ => XS.dup X1.here hx rfl (hb hby d3_3) rfl rfl kq_) ?_
  refine own_G.step (g' := (mkF m 5 #[.val (.int i)] [(.int (0 : Int32)), (.ref b1), (.ref b1)])) (fun tq_ kq_ => XS.iconst X1.here hx rfl (hb hby d3_4) kq_) ?_
  refine own_G.step (g' := (mkF m 6 #[.val (.int i)] [(.int i), (.int (0 : Int32)), (.ref b1), (.ref b1)])) (fun tq_ kq_ => XS.iloadN X1.here hx rfl (hb hby d3_5) rfl kq_) ?_
  refine own_G.step (g' := (mkF m 7 #[.val (.int i)] [(.int (i.toInt8.toInt32)), (.int (0 : Int32)), (.ref b1), (.ref b1)])) (fun tq_ kq_ => XS.i2b X1.here hx rfl (hb hby d3_6) rfl kq_) ?_
  obtain ⟨cl7, Ar7, q17, Sz7, Nz7, Hh7, Gg7⟩ := id F6
  obtain ⟨T7, h7, X7, e7, W7, st7⟩ := stB X1 hx hZ e1 Ar7 (j := (0 : Int32)) (inb_of Sz7 ⟨by decide, by decide⟩) (g := (mkF m 7 #[.val (.int i)] [(.int (i.toInt8.toInt32)), (.int (0 : Int32)), (.ref b1), (.ref b1)])) rfl rfl (hb hby d3_7)
  have F8 : Arv Z h7 b1 k1 .byte (1 : Int32) [(.int (nar .byte (i.toInt8.toInt32)))] (.int (0 : Int32)) := Arv.set Ar7 q17 Sz7 Nz7 Hh7 Gg7 (fits_nar_byte _) W7 0 rfl (Nat.le_of_ble_eq_true rfl)
  have N7 := Fr.snoc X7 N0 g2
  have O10 := O4.wr W7 g2
  have K11 := K5.wr W7 (Or.inr z3)
  refine own_G.step (T' := T7) (g' := (mkF m 8 #[.val (.int i)] [(.ref b1)])) st7 ?_
  exact own_ret X7 e7 (v := some (.ref b1)) (fun h => by rw [Bd.returns] at h; cases h) Bd.notSynchronized ⟨b1, k1, rfl, N7, K11, z3, (by have q := F8; rw [own_nar_b] at q; exact q)⟩ (by decide) (by decide) (fun fs hr => own_retR X7 hx Bd.returns rfl rfl (hb hby d3_8) hr)
theorem d4_0 : decode jdk_42_method_151_code 0 = .ok (.aload_n 0, 1) := by decide +kernel
theorem d4_1 : decode jdk_42_method_151_code 1 = .ok (.invokespecial 1, 3) := by decide +kernel
theorem d4_4 : decode jdk_42_method_151_code 4 = .ok (.aload_n 0, 1) := by decide +kernel
theorem d4_5 : decode jdk_42_method_151_code 5 = .ok (.aload_n 1, 1) := by decide +kernel
theorem d4_6 : decode jdk_42_method_151_code 6 = .ok (.putfield 9, 3) := by decide +kernel
theorem d4_9 : decode jdk_42_method_151_code 9 = .ok (.aload_n 0, 1) := by decide +kernel
theorem d4_10 : decode jdk_42_method_151_code 10 = .ok (.iload_n 2, 1) := by decide +kernel
theorem d4_11 : decode jdk_42_method_151_code 11 = .ok (.putfield 15, 3) := by decide +kernel
theorem d4_14 : decode jdk_42_method_151_code 14 = .ok (.return_, 1) := by decide +kernel
theorem ef_sinit (m : MethodId) (a : Addr) (t : Addr) : entryFrame m #[(.ref a), (.ref t), (.int (0 : Int32))] 3 = mkF m 0 #[.val (.ref a), .val (.ref t), .val (.int (0 : Int32))] [] := by
  first | (simp [entryFrame, mkF, argsToLocals, Value.category]; done) | rfl
def Q_sinit (Z : State) (a : Addr) (t : Addr) (h0 : Heap) (n0 : Nat) (v : Option Value) (h : Heap) (L : List Loc) : Prop := v = none ∧ Fr n0 L ∧ Keep h0 h [a] ∧ Exa Z h a "java/lang/String" ∧ Fld Z h a "java/lang/String" "value" "[B" (.ref t) ∧ Fld Z h a "java/lang/String" "coder" "B" (.int 0)
set_option maxRecDepth 65536 in
set_option maxHeartbeats 40000000 in
theorem rm_sinit (l : Launch) (Z : State) (a0 : Array Value) (hw : ∀ d ∈ tables_1, d.before a0 Z = true) (ws : List Jvm.Cond) (a : Addr) (t : Addr) (h0 : Heap) (n0 : Nat) (O0 : Old Z n0 h0) (F1 : Fld Z h0 a "java/lang/String" "value" "[B" .null) (F2 : Fld Z h0 a "java/lang/String" "coder" "B" (.int (0 : Int32))) (E0 : Exa Z h0 a "java/lang/String") (ga : n0 ≤ a) :
    MetFree l (⟨"java/lang/String", "<init>", "([BB)V"⟩ : MethodName) (head1 (Jvm.Cond.code (⟨"java/lang/String", "<init>", "([BB)V"⟩ : MethodName) jdk_42_method_151_code 3 none :: ws) ({ frames := 1, cells := 0, slots := 0, locals := 12 } : Room)) (fun aq_ Uq_ => aq_ = #[(.ref a), (.ref t), (.int (0 : Int32))] ∧ Z.Warmed39 Uq_.vm ∧ Uq_.heap = h0) (fun _ _ _ _ _ => True) (fun _ Uq_ oq_ Ur_ => ∃ vq_ Lq_, oq_ = .returned vq_ ∧ Q_sinit Z a t h0 n0 vq_ Ur_.heap Lq_ ∧ FrameEnd Uq_ oq_ Ur_ Lq_ ({ frames := 1, cells := 0, slots := 0, locals := 12 } : Room).cells ({ frames := 1, cells := 0, slots := 0, locals := 12 } : Room).slots) := by
  refine MetFree.of_bodySF (plainFor_of_name pn_java_2flang_2fString) hisR ?_
  intro p e s m args below meth c s₁ Bd hml0 hP hK
  obtain ⟨rfl, hZ, hh⟩ := hP
  have hx := Bd.exec
  have hby := Bd.bytes
  have hml : c.maxLocals = 3 := hml0
  have hown : s.vm.findClass "java/lang/String" = some m.cls := findClass_of_methodNamed Bd.named
  have hnm := (name_of_methodNamed Bd.named Bd.method).1
  have X0 : Stand p l e ({ frames := 1, cells := 0, slots := 0, locals := 12 } : Room) s m #[(.ref a), (.ref t), (.int (0 : Int32))] below meth c s₁ [] 0 0 := Stand.of_body Bd
  have e0 : s₁.heap = h0 := by rw [← hh, Bd.state]; rfl
  have N0 := Fr.nil n0
  have K0 := Keep.refl h0 [a]
  refine own_G.start (Q := Q_sinit Z a t h0 n0) (ef_sinit m a t) ?_
  refine own_G.step (g' := (mkF m 1 #[.val (.ref a), .val (.ref t), .val (.int (0 : Int32))] [(.ref a)])) (fun tq_ kq_ => XS.aloadN X0.here hx rfl (hb hby d4_0) rfl rfl kq_) ?_
  obtain ⟨T1, X1, e1, st1⟩ := initO X0 hx hZ hown (hw _ (List.mem_of_getElem? (i := 27) rfl)) (hw _ (List.mem_of_getElem? (i := 28) rfl)) (hw _ (List.mem_of_getElem? (i := 29) rfl)) e0 (g := (mkF m 1 #[.val (.ref a), .val (.ref t), .val (.int (0 : Int32))] [(.ref a)])) rfl (by rw [hml]; rfl) rfl (hb hby d4_1) (by decide) (W := 0) (by show 2 * 0 + _ ≤ _; exact Nat.le_of_eq rfl) (by decide)
  refine own_G.step (T' := T1) (g' := (mkF m 4 #[.val (.ref a), .val (.ref t), .val (.int (0 : Int32))] [])) st1 ?_
  refine own_G.step (g' := (mkF m 5 #[.val (.ref a), .val (.ref t), .val (.int (0 : Int32))] [(.ref a)])) (fun tq_ kq_ => XS.aloadN X1.here hx rfl (hb hby d4_4) rfl rfl kq_) ?_
  refine own_G.step (g' := (mkF m 6 #[.val (.ref a), .val (.ref t), .val (.int (0 : Int32))] [(.ref t), (.ref a)])) (fun tq_ kq_ => XS.aloadN X1.here hx rfl (hb hby d4_5) rfl rfl kq_) ?_
  obtain ⟨T2, h2, X2, e2, W2, st2⟩ := putF X1 hx hZ hown (host := "") (Or.inl (hw _ (List.mem_of_getElem? (i := 30) rfl))) Via.refl e1 F1 E0 (Or.inr ⟨(hw _ (List.mem_of_getElem? (i := 31) rfl)), rfl, hnm⟩) (hw _ (List.mem_of_getElem? (i := 18) rfl)) (ty := (.array .byte)) (by decide) rfl rfl (g := (mkF m 6 #[.val (.ref a), .val (.ref t), .val (.int (0 : Int32))] [(.ref t), (.ref a)])) rfl rfl (hb hby d4_6)
  have N2 := Fr.snoc X2 N0 ga
  have F3 := F1.same W2
  have F4 := F2.other W2 (Or.inr (slot_ne (Or.inr (hw _ (List.mem_of_getElem? (i := 33) rfl))) (Or.inr (hw _ (List.mem_of_getElem? (i := 31) rfl))) (by decide) (t := .byte) (t' := (.array .byte)) (by decide) (by decide)))
  have F5 := E0.wr W2
  have O6 := O0.wr W2 ga
  have K7 := K0.wr W2 (Or.inl (List.mem_of_getElem? (i := 0) rfl))
  refine own_G.step (T' := T2) (g' := (mkF m 9 #[.val (.ref a), .val (.ref t), .val (.int (0 : Int32))] [])) st2 ?_
  refine own_G.step (g' := (mkF m 10 #[.val (.ref a), .val (.ref t), .val (.int (0 : Int32))] [(.ref a)])) (fun tq_ kq_ => XS.aloadN X2.here hx rfl (hb hby d4_9) rfl rfl kq_) ?_
  refine own_G.step (g' := (mkF m 11 #[.val (.ref a), .val (.ref t), .val (.int (0 : Int32))] [(.int (0 : Int32)), (.ref a)])) (fun tq_ kq_ => XS.iloadN X2.here hx rfl (hb hby d4_10) rfl kq_) ?_
  obtain ⟨T8, h8, X8, e8, W8, st8⟩ := putFN X2 hx hZ hown (hw _ (List.mem_of_getElem? (i := 32) rfl)) Via.refl e2 F4 F5 (Or.inr ⟨(hw _ (List.mem_of_getElem? (i := 33) rfl)), rfl, hnm⟩) (hw _ (List.mem_of_getElem? (i := 18) rfl)) (ty := .byte) (v' := (.int (nar .byte (0 : Int32)))) (by decide) rfl (fits_nar_byte _) (g := (mkF m 11 #[.val (.ref a), .val (.ref t), .val (.int (0 : Int32))] [(.int (0 : Int32)), (.ref a)])) rfl rfl (hb hby d4_11)
  have N8 := Fr.snoc X8 N2 ga
  have F9 := F3.other W8 (Or.inr (slot_ne (Or.inr (hw _ (List.mem_of_getElem? (i := 31) rfl))) (Or.inr (hw _ (List.mem_of_getElem? (i := 33) rfl))) (by decide) (t := (.array .byte)) (t' := .byte) (by decide) (by decide)))
  have F10 := F4.same W8
  have F11 := F5.wr W8
  have O12 := O6.wr W8 ga
  have K13 := K7.wr W8 (Or.inl (List.mem_of_getElem? (i := 0) rfl))
  refine own_G.step (T' := T8) (g' := (mkF m 14 #[.val (.ref a), .val (.ref t), .val (.int (0 : Int32))] [])) st8 ?_
  exact own_ret X8 e8 (v := none) (fun _ => rfl) Bd.notSynchronized ⟨rfl, N8, K13, F11, F9, F10⟩ (by decide) (by decide) (fun fs hr => X8.returnOut hx Bd.returns (hb hby d4_14) hr)
theorem pd__28C_29Z : parseMethodDescriptor "(C)Z" = some ⟨[.char], some .boolean⟩ := by decide +kernel
theorem pd__28C_29_5bB : parseMethodDescriptor "(C)[B" = some ⟨[.char], some (.array .byte)⟩ := by decide +kernel
theorem pd__28_5bBB_29V : parseMethodDescriptor "([BB)V" = some ⟨[(.array .byte), .byte], none⟩ := by decide +kernel
theorem d1_0 : decode jdk_42_method_139_code 0 = .ok (.getstatic 38, 3) := by decide +kernel
theorem d1_3 : decode jdk_42_method_139_code 3 = .ok (.ifCond .eq 23, 3) := by decide +kernel
theorem d1_6 : decode jdk_42_method_139_code 6 = .ok (.iload_n 0, 1) := by decide +kernel
theorem d1_7 : decode jdk_42_method_139_code 7 = .ok (.invokestatic 1015, 3) := by decide +kernel
theorem d1_10 : decode jdk_42_method_139_code 10 = .ok (.ifCond .eq 16, 3) := by decide +kernel
theorem d1_13 : decode jdk_42_method_139_code 13 = .ok (.new 10, 3) := by decide +kernel
theorem d1_16 : decode jdk_42_method_139_code 16 = .ok (.dup, 1) := by decide +kernel
theorem d1_17 : decode jdk_42_method_139_code 17 = .ok (.iload_n 0, 1) := by decide +kernel
theorem d1_18 : decode jdk_42_method_139_code 18 = .ok (.invokestatic 1018, 3) := by decide +kernel
theorem d1_21 : decode jdk_42_method_139_code 21 = .ok (.iconst 0, 1) := by decide +kernel
theorem d1_22 : decode jdk_42_method_139_code 22 = .ok (.invokespecial 209, 3) := by decide +kernel
theorem d1_25 : decode jdk_42_method_139_code 25 = .ok (.areturn, 1) := by decide +kernel
theorem ef_vofc (m : MethodId) (i : Int32) : entryFrame m #[(.int i)] 1 = mkF m 0 #[.val (.int i)] [] := by
  first | (simp [entryFrame, mkF, argsToLocals, Value.category]; done) | rfl
def Q_vofc (Z : State) (i : Int32) (csz : Int32) (h0 : Heap) (n0 : Nat) (v : Option Value) (h : Heap) (L : List Loc) : Prop := ∃ (r : Addr), ∃ (t : Addr), ∃ (kb : ClassId), v = some (.ref r) ∧ Fr n0 L ∧ Keep h0 h [] ∧ h0.size ≤ r ∧ h0.size ≤ t ∧ Exa Z h r "java/lang/String" ∧ Fld Z h r "java/lang/String" "value" "[B" (.ref t) ∧ Fld Z h r "java/lang/String" "coder" "B" (.int 0) ∧ Arv Z h t kb .byte (1 : Int32) [(.int (i.toInt8.toInt32))] (.int (0 : Int32))
set_option maxRecDepth 65536 in
set_option maxHeartbeats 40000000 in
theorem rm_vofc (l : Launch) (Z : State) (a0 : Array Value) (hw : ∀ d ∈ tables_1, d.before a0 Z = true) (ws : List Jvm.Cond) (i : Int32) (csz : Int32) (h0 : Heap) (n0 : Nat) (O0 : Old Z n0 h0) (S_CS : Sta Z Z.heap "java/lang/String" "COMPACT_STRINGS" "Z" (.int csz)) (hcs : ¬ csz = (0 : Int32)) (h2 : ¬ (255 : Int32) < i) :
    MetFree l (⟨"java/lang/String", "valueOf", "(C)Ljava/lang/String;"⟩ : MethodName) (head1 (Jvm.Cond.code (⟨"java/lang/String", "valueOf", "(C)Ljava/lang/String;"⟩ : MethodName) jdk_42_method_139_code 1 (some (.object "java/lang/String")) :: ws) ({ frames := 2, cells := 2, slots := 5, locals := 27 } : Room)) (fun aq_ Uq_ => aq_ = #[(.int i)] ∧ Z.Warmed39 Uq_.vm ∧ Uq_.heap = h0) (fun _ _ _ _ _ => True) (fun _ Uq_ oq_ Ur_ => ∃ vq_ Lq_, oq_ = .returned vq_ ∧ Q_vofc Z i csz h0 n0 vq_ Ur_.heap Lq_ ∧ FrameEnd Uq_ oq_ Ur_ Lq_ ({ frames := 2, cells := 2, slots := 5, locals := 27 } : Room).cells ({ frames := 2, cells := 2, slots := 5, locals := 27 } : Room).slots) := by
  refine MetFree.of_bodySF (plainFor_of_name pn_java_2flang_2fString) hisR ?_
  intro p e s m args below meth c s₁ Bd hml0 hP hK
  obtain ⟨rfl, hZ, hh⟩ := hP
  have hx := Bd.exec
  have hby := Bd.bytes
  have hml : c.maxLocals = 1 := hml0
  have hown : s.vm.findClass "java/lang/String" = some m.cls := findClass_of_methodNamed Bd.named
  have hnm := (name_of_methodNamed Bd.named Bd.method).1
  have X0 : Stand p l e ({ frames := 2, cells := 2, slots := 5, locals := 27 } : Room) s m #[(.int i)] below meth c s₁ [] 0 0 := Stand.of_body Bd
  have e0 : s₁.heap = h0 := by rw [← hh, Bd.state]; rfl
  have N0 := Fr.nil n0
  have K0 := Keep.refl h0 []
  refine own_G.start (Q := Q_vofc Z i csz h0 n0) (ef_vofc m i) ?_
  obtain ⟨T1, X1, e1, st1⟩ := getS2 X0 hx hZ hown (host := "") (Or.inl (hw _ (List.mem_of_getElem? (i := 12) rfl))) Via.refl e0 (Sta.ext O0.2 S_CS) (g := (mkF m 0 #[.val (.int i)] [])) rfl (hb hby d1_0)
  refine own_G.step (T' := T1) (g' := (mkF m 3 #[.val (.int i)] [(.int csz)])) st1 ?_
  have hc3 : ¬ (csz = (0 : Int32)) := hcs
  refine own_G.step (g' := (mkF m 6 #[.val (.int i)] [])) (fun tq_ kq_ => XS.ifNo X1.here hx rfl (hb hby d1_3) rfl ((if0 _ _).trans (feq hc3).1) kq_) ?_
  refine own_G.step (g' := (mkF m 7 #[.val (.int i)] [(.int i)])) (fun tq_ kq_ => XS.iloadN X1.here hx rfl (hb hby d1_6) rfl kq_) ?_
  obtain ⟨_, _, ⟨T2, L2, k2, n2⟩, -, X2, ⟨Lc2, hQ2, l2, y2, z2⟩, st2⟩ := Jvm.LawKit.callS X1 hx (y := (⟨"java/lang/StringLatin1", "canEncode", "(C)Z"⟩ : MethodName)) hown (mvT hZ (hw _ (List.mem_of_getElem? (i := 13) rfl))) (mvT hZ (hw _ (List.mem_of_getElem? (i := 14) rfl))) (mvT hZ (hw _ (List.mem_of_getElem? (i := 15) rfl))) (mvT hZ (hw _ (List.mem_of_getElem? (i := 16) rfl))) (by decide) (backOf (W := 0) (rm_canEnc l Z a0 hw [] i h0 n0 O0 h2) hZ (hw _ (List.mem_of_getElem? (i := 16) rfl)) (hw _ (List.mem_of_getElem? (i := 15) rfl)) (by decide) (by decide)) (g := (mkF m 7 #[.val (.int i)] [(.int i)])) rfl (by rw [hml]; rfl) (argsL := [(.int i)]) (rest := []) (lenOf pd__28C_29Z rfl) rfl (by show 2 * 0 + _ ≤ _; exact Nat.le_of_eq rfl) (hb hby d1_7) (fun _ _ => ⟨rfl, e1, (by decide : 0 + 0 ≤ _), (by decide : 0 + 0 ≤ _)⟩)
  dsimp only [Pt.U, Pt.locs, Pt.cells, Pt.slots] at X2 l2 y2 z2 st2 hQ2
  subst l2 y2 z2
  obtain ⟨rfl, Nq2, P3⟩ := hQ2
  have N2 := Fr.app N0 Nq2
  refine own_G.step (T' := T2) (g' := (mkF m 10 #[.val (.int i)] [(.int (1 : Int32))])) (fun tq_ kq_ => st2 _ kq_) ?_
  have hc10 : ¬ ((1 : Int32) = (0 : Int32)) := by decide
  refine own_G.step (g' := (mkF m 13 #[.val (.int i)] [])) (fun tq_ kq_ => XS.ifNo X2.here hx rfl (hb hby d1_10) rfl ((if0 _ _).trans (feq hc10).1) kq_) ?_
  obtain ⟨T4, h4, X4, e4, E4, A4, D4, -, st4⟩ := newO X2 hx hZ hown (hw _ (List.mem_of_getElem? (i := 17) rfl)) (hw _ (List.mem_of_getElem? (i := 18) rfl)) (hw _ (List.mem_of_getElem? (i := 10) rfl)) P3 (g := (mkF m 13 #[.val (.int i)] [])) rfl (hb hby d1_13) (by decide) (by decide)
  obtain ⟨b4, g4⟩ : ∃ z, z = h0.size := ⟨_, rfl⟩
  rw [← g4] at A4 D4 st4
  have g5 : n0 ≤ b4 := Nat.le_trans O0.le (Nat.le_of_eq g4.symm)
  have z6 : h0.size ≤ b4 := Nat.le_trans K0.1 (Nat.le_of_eq g4.symm)
  have O7 := O0.ext E4
  have K8 := K0.ext E4
  have F9 : Fld Z h4 b4 "java/lang/String" "value" "[B" .null := D4 (Or.inr (hw _ (List.mem_of_getElem? (i := 31) rfl))) (ty := (.array .byte)) (by decide)
  have F10 : Fld Z h4 b4 "java/lang/String" "coder" "B" (.int (0 : Int32)) := D4 (Or.inr (hw _ (List.mem_of_getElem? (i := 33) rfl))) (ty := .byte) (by decide)
  refine own_G.step (T' := T4) (g' := (mkF m 16 #[.val (.int i)] [(.ref b4)])) st4 ?_
  refine own_G.step (g' := (mkF m 17 #[.val (.int i)] [(.ref b4), (.ref b4)])) (fun tq_ kq_ => XS.dup X4.here hx rfl (hb hby d1_16) rfl rfl kq_) ?_
  refine own_G.step (g' := (mkF m 18 #[.val (.int i)] [(.int i), (.ref b4), (.ref b4)])) (fun tq_ kq_ => XS.iloadN X4.here hx rfl (hb hby d1_17) rfl kq_) ?_
  obtain ⟨_, _, ⟨T11, L11, k11, n11⟩, -, X11, ⟨Lc11, hQ11, l11, y11, z11⟩, st11⟩ := Jvm.LawKit.callS X4 hx (y := (⟨"java/lang/StringLatin1", "toBytes", "(C)[B"⟩ : MethodName)) hown (mvT hZ (hw _ (List.mem_of_getElem? (i := 19) rfl))) (mvT hZ (hw _ (List.mem_of_getElem? (i := 20) rfl))) (mvT hZ (hw _ (List.mem_of_getElem? (i := 15) rfl))) (mvT hZ (hw _ (List.mem_of_getElem? (i := 21) rfl))) (by decide) (backOf (W := 2) (rm_toB l Z a0 hw [] i h4 n0 O7 ) hZ (hw _ (List.mem_of_getElem? (i := 21) rfl)) (hw _ (List.mem_of_getElem? (i := 15) rfl)) (by decide) (by decide)) (g := (mkF m 18 #[.val (.int i)] [(.int i), (.ref b4), (.ref b4)])) rfl (by rw [hml]; rfl) (argsL := [(.int i)]) (rest := [(.ref b4), (.ref b4)]) (lenOf pd__28C_29_5bB rfl) rfl (by show 2 * 0 + _ ≤ _; exact Nat.le_of_eq rfl) (hb hby d1_18) (fun _ _ => ⟨rfl, e4, (by decide : 1 + 1 ≤ _), (by decide : 4 + 1 ≤ _)⟩)
  dsimp only [Pt.U, Pt.locs, Pt.cells, Pt.slots] at X11 l11 y11 z11 st11 hQ11
  subst l11 y11 z11
  obtain ⟨b12, x13, rfl, Nq11, P14, P15, P16⟩ := hQ11
  have N11 := Fr.app N2 Nq11
  have ne17 : b4 ≠ b12 := Nat.ne_of_lt (Nat.lt_of_lt_of_le A4.lt P15)
  have g18 : n0 ≤ b12 := Nat.le_trans O7.le P15
  have z19 : h0.size ≤ b12 := Nat.le_trans K8.1 P15
  have F20 := A4.keep P14
  have F21 := F9.keep P14 nin0
  have F22 := F10.keep P14 nin0
  have O23 := O7.keep P14 all0
  have K24 := K8.trans P14 all0
  refine own_G.step (T' := T11) (g' := (mkF m 21 #[.val (.int i)] [(.ref b12), (.ref b4), (.ref b4)])) (fun tq_ kq_ => st11 _ kq_) ?_
  refine own_G.step (g' := (mkF m 22 #[.val (.int i)] [(.int (0 : Int32)), (.ref b12), (.ref b4), (.ref b4)])) (fun tq_ kq_ => XS.iconst X11.here hx rfl (hb hby d1_21) kq_) ?_
  obtain ⟨_, _, ⟨T25, L25, k25, n25⟩, -, X25, ⟨Lc25, hQ25, l25, y25, z25⟩, st25⟩ := X11.specialBack hx (y := (⟨"java/lang/String", "<init>", "([BB)V"⟩ : MethodName)) rfl hown (mvT hZ (hw _ (List.mem_of_getElem? (i := 23) rfl))) (mvT hZ (hw _ (List.mem_of_getElem? (i := 24) rfl))) (mvT hZ (hw _ (List.mem_of_getElem? (i := 26) rfl))) (by decide) (backOf (W := 1) (rm_sinit l Z a0 hw [] b4 b12 T11.heap n0 O23 F21 F22 F20 g5) hZ (hw _ (List.mem_of_getElem? (i := 26) rfl)) (hw _ (List.mem_of_getElem? (i := 10) rfl)) (by decide) (by decide)) (g := (mkF m 22 #[.val (.int i)] [(.int (0 : Int32)), (.ref b12), (.ref b4), (.ref b4)])) rfl (by rw [hml]; rfl) (Steps.refl _) (a := b4) (argsL := [(.ref b12), (.int (0 : Int32))]) (rest := [(.ref b4)]) (lenOf pd__28_5bBB_29V rfl) rfl (by show 2 * 0 + _ ≤ _; exact Nat.le_of_eq rfl) (hb hby d1_22) (fun _ _ => ⟨rfl, rfl, (by decide : 2 + 0 ≤ _), (by decide : 5 + 0 ≤ _)⟩)
  dsimp only [Pt.U, Pt.locs, Pt.cells, Pt.slots] at X25 l25 y25 z25 st25 hQ25
  subst l25 y25 z25
  obtain ⟨rfl, Nq25, P26, P27, P28, P29⟩ := hQ25
  have N25 := Fr.app N11 Nq25
  have F30 := F20.keep P26
  have F31 := P16.keep P26 (ninS (Ne.symm ne17) nin0)
  have O32 := O23.keep P26 (allS g5 all0)
  have K33 := K24.trans P26 (allS (Or.inr z6) all0)
  refine own_G.step (T' := T25) (g' := (mkF m 25 #[.val (.int i)] [(.ref b4)])) (fun tq_ kq_ => st25.trans kq_) ?_
  exact own_ret X25 rfl (v := some (.ref b4)) (fun h => by rw [Bd.returns] at h; cases h) Bd.notSynchronized ⟨b4, b12, x13, rfl, N25, K33, z6, z19, P27, P28, P29, F31⟩ (by decide) (by decide) (fun fs hr => own_retR X25 hx Bd.returns rfl rfl (hb hby d1_25) hr)
theorem own_c255 {x : Int32} (h : ¬ (126 : Int32) < x) : ¬ (255 : Int32) < x := by
  simp only [Int32.lt_iff_toInt_lt] at h ⊢
  have e0 : (126 : Int32).toInt = 126 := by decide
  have e1 : (255 : Int32).toInt = 255 := by decide
  omega
theorem own_c0 {x : Int32} (h : ¬ x < (32 : Int32)) : ¬ x < (0 : Int32) := by
  simp only [Int32.lt_iff_toInt_lt] at h ⊢
  have e0 : (32 : Int32).toInt = 32 := by decide
  have e1 : (0 : Int32).toInt = 0 := by decide
  omega
theorem pd__28_29V : parseMethodDescriptor "()V" = some ⟨[], none⟩ := by decide +kernel
theorem pd__28Ljava_2flang_2fObject_3bLjava_2flang_2fString_3b_29Ljava_2flang_2fObject_3b : parseMethodDescriptor "(Ljava/lang/Object;Ljava/lang/String;)Ljava/lang/Object;" = some ⟨[(.object "java/lang/Object"), (.object "java/lang/String")], some (.object "java/lang/Object")⟩ := by decide +kernel
theorem pd__28_29I : parseMethodDescriptor "()I" = some ⟨[], some .int⟩ := by decide +kernel
theorem pd__28I_29C : parseMethodDescriptor "(I)C" = some ⟨[.int], some .char⟩ := by decide +kernel
theorem d6_0 : decode prog_8_method_1_code 0 = .ok (.aload_n 0, 1) := by decide +kernel
theorem d6_1 : decode prog_8_method_1_code 1 = .ok (.invokespecial 3, 3) := by decide +kernel
theorem d6_4 : decode prog_8_method_1_code 4 = .ok (.aload_n 1, 1) := by decide +kernel
theorem d6_5 : decode prog_8_method_1_code 5 = .ok (.ldc 9, 2) := by decide +kernel
theorem d6_7 : decode prog_8_method_1_code 7 = .ok (.invokestatic 11, 3) := by decide +kernel
theorem d6_10 : decode prog_8_method_1_code 10 = .ok (.pop, 1) := by decide +kernel
theorem d6_11 : decode prog_8_method_1_code 11 = .ok (.aload 5, 2) := by decide +kernel
theorem d6_13 : decode prog_8_method_1_code 13 = .ok (.ldc 17, 2) := by decide +kernel
theorem d6_15 : decode prog_8_method_1_code 15 = .ok (.invokestatic 11, 3) := by decide +kernel
theorem d6_18 : decode prog_8_method_1_code 18 = .ok (.pop, 1) := by decide +kernel
theorem d6_19 : decode prog_8_method_1_code 19 = .ok (.aload_n 1, 1) := by decide +kernel
theorem d6_20 : decode prog_8_method_1_code 20 = .ok (.invokevirtual 19, 3) := by decide +kernel
theorem d6_23 : decode prog_8_method_1_code 23 = .ok (.ifCond .ne 13, 3) := by decide +kernel
theorem d6_26 : decode prog_8_method_1_code 26 = .ok (.aload_n 1, 1) := by decide +kernel
theorem d6_27 : decode prog_8_method_1_code 27 = .ok (.invokevirtual 25, 3) := by decide +kernel
theorem d6_30 : decode prog_8_method_1_code 30 = .ok (.sipush 255, 3) := by decide +kernel
theorem d6_33 : decode prog_8_method_1_code 33 = .ok (.if_icmp .le 17, 3) := by decide +kernel
theorem d6_50 : decode prog_8_method_1_code 50 = .ok (.iconst 0, 1) := by decide +kernel
theorem d6_51 : decode prog_8_method_1_code 51 = .ok (.istore 6, 2) := by decide +kernel
theorem d6_53 : decode prog_8_method_1_code 53 = .ok (.iload 6, 2) := by decide +kernel
theorem d6_55 : decode prog_8_method_1_code 55 = .ok (.aload_n 1, 1) := by decide +kernel
theorem d6_56 : decode prog_8_method_1_code 56 = .ok (.invokevirtual 25, 3) := by decide +kernel
theorem d6_59 : decode prog_8_method_1_code 59 = .ok (.if_icmp .ge 52, 3) := by decide +kernel
theorem d6_62 : decode prog_8_method_1_code 62 = .ok (.aload_n 1, 1) := by decide +kernel
theorem d6_63 : decode prog_8_method_1_code 63 = .ok (.iload 6, 2) := by decide +kernel
theorem d6_65 : decode prog_8_method_1_code 65 = .ok (.invokevirtual 40, 3) := by decide +kernel
theorem d6_68 : decode prog_8_method_1_code 68 = .ok (.istore 7, 2) := by decide +kernel
theorem d6_70 : decode prog_8_method_1_code 70 = .ok (.iload 7, 2) := by decide +kernel
theorem d6_72 : decode prog_8_method_1_code 72 = .ok (.bipush 32, 2) := by decide +kernel
theorem d6_74 : decode prog_8_method_1_code 74 = .ok (.if_icmp .lt 17, 3) := by decide +kernel
theorem d6_77 : decode prog_8_method_1_code 77 = .ok (.iload 7, 2) := by decide +kernel
theorem d6_79 : decode prog_8_method_1_code 79 = .ok (.bipush 126, 2) := by decide +kernel
theorem d6_81 : decode prog_8_method_1_code 81 = .ok (.if_icmp .gt 10, 3) := by decide +kernel
theorem d6_84 : decode prog_8_method_1_code 84 = .ok (.iload 7, 2) := by decide +kernel
theorem d6_86 : decode prog_8_method_1_code 86 = .ok (.bipush 58, 2) := by decide +kernel
theorem d6_88 : decode prog_8_method_1_code 88 = .ok (.if_icmp .ne 17, 3) := by decide +kernel
theorem d6_105 : decode prog_8_method_1_code 105 = .ok (.iinc 6 1, 3) := by decide +kernel
theorem d6_108 : decode prog_8_method_1_code 108 = .ok (.goto (-55), 3) := by decide +kernel
theorem d6_111 : decode prog_8_method_1_code 111 = .ok (.iload_n 2, 1) := by decide +kernel
theorem d6_112 : decode prog_8_method_1_code 112 = .ok (.iconst 1, 1) := by decide +kernel
theorem d6_113 : decode prog_8_method_1_code 113 = .ok (.if_icmp .ge 17, 3) := by decide +kernel
theorem d6_130 : decode prog_8_method_1_code 130 = .ok (.iload_n 3, 1) := by decide +kernel
theorem d6_131 : decode prog_8_method_1_code 131 = .ok (.iconst 1, 1) := by decide +kernel
theorem d6_132 : decode prog_8_method_1_code 132 = .ok (.if_icmp .ge 17, 3) := by decide +kernel
theorem d6_149 : decode prog_8_method_1_code 149 = .ok (.iload 4, 2) := by decide +kernel
theorem d6_151 : decode prog_8_method_1_code 151 = .ok (.sipush 1024, 3) := by decide +kernel
theorem d6_154 : decode prog_8_method_1_code 154 = .ok (.if_icmp .lt 10, 3) := by decide +kernel
theorem d6_157 : decode prog_8_method_1_code 157 = .ok (.iload 4, 2) := by decide +kernel
theorem d6_159 : decode prog_8_method_1_code 159 = .ok (.ldc 49, 2) := by decide +kernel
theorem d6_161 : decode prog_8_method_1_code 161 = .ok (.if_icmp .le 18, 3) := by decide +kernel
theorem d6_179 : decode prog_8_method_1_code 179 = .ok (.aload_n 0, 1) := by decide +kernel
theorem d6_180 : decode prog_8_method_1_code 180 = .ok (.aload_n 1, 1) := by decide +kernel
theorem d6_181 : decode prog_8_method_1_code 181 = .ok (.putfield 51, 3) := by decide +kernel
theorem d6_184 : decode prog_8_method_1_code 184 = .ok (.aload_n 0, 1) := by decide +kernel
theorem d6_185 : decode prog_8_method_1_code 185 = .ok (.iload_n 2, 1) := by decide +kernel
theorem d6_186 : decode prog_8_method_1_code 186 = .ok (.putfield 54, 3) := by decide +kernel
theorem d6_189 : decode prog_8_method_1_code 189 = .ok (.aload_n 0, 1) := by decide +kernel
theorem d6_190 : decode prog_8_method_1_code 190 = .ok (.iload_n 3, 1) := by decide +kernel
theorem d6_191 : decode prog_8_method_1_code 191 = .ok (.putfield 58, 3) := by decide +kernel
theorem d6_194 : decode prog_8_method_1_code 194 = .ok (.aload_n 0, 1) := by decide +kernel
theorem d6_195 : decode prog_8_method_1_code 195 = .ok (.iload 4, 2) := by decide +kernel
theorem d6_197 : decode prog_8_method_1_code 197 = .ok (.putfield 61, 3) := by decide +kernel
theorem d6_200 : decode prog_8_method_1_code 200 = .ok (.aload_n 0, 1) := by decide +kernel
theorem d6_201 : decode prog_8_method_1_code 201 = .ok (.aload 5, 2) := by decide +kernel
theorem d6_203 : decode prog_8_method_1_code 203 = .ok (.putfield 64, 3) := by decide +kernel
theorem d6_206 : decode prog_8_method_1_code 206 = .ok (.return_, 1) := by decide +kernel
theorem pn_com_2fexample_2fevenkey_2fevenkey_2fmodel_2fFamilyDescriptor : plainName "com/example/evenkey/evenkey/model/FamilyDescriptor" = true := by first | (simp [plainName, overriddenIn]; done) | decide +kernel
theorem ef_fdi (m : MethodId) (a : Addr) (sn : Addr) (mv : Int32) (ttl : Int32) (bs : Int32) (bl : Addr) : entryFrame m #[(.ref a), (.ref sn), (.int mv), (.int ttl), (.int bs), (.ref bl)] 8 = mkF m 0 #[.val (.ref a), .val (.ref sn), .val (.int mv), .val (.int ttl), .val (.int bs), .val (.ref bl), .unset, .unset] [] := by
  first | (simp [entryFrame, mkF, argsToLocals, Value.category]; done) | rfl
def Q_fdi (Z : State) (a : Addr) (sn : Addr) (mv : Int32) (ttl : Int32) (bs : Int32) (bl : Addr) (csz : Int32) (fm : Value) (t : Addr) (kb : ClassId) (ch : Int32) (h0 : Heap) (n0 : Nat) (v : Option Value) (h : Heap) (L : List Loc) : Prop := v = none ∧ Fr n0 L ∧ Keep h0 h [a] ∧ Exa Z h a "com/example/evenkey/evenkey/model/FamilyDescriptor" ∧ Fld Z h a "com/example/evenkey/evenkey/model/FamilyDescriptor" "timeToLive" "I" (.int ttl)
set_option maxRecDepth 65536 in
set_option maxHeartbeats 40000000 in
theorem rm_fdi (l : Launch) (Z : State) (a0 : Array Value) (hw : ∀ d ∈ tables_1, d.before a0 Z = true) (ws : List Jvm.Cond) (a : Addr) (sn : Addr) (mv : Int32) (ttl : Int32) (bs : Int32) (bl : Addr) (csz : Int32) (fm : Value) (t : Addr) (kb : ClassId) (ch : Int32) (h0 : Heap) (n0 : Nat) (O0 : Old Z n0 h0) (S_CS : Sta Z Z.heap "java/lang/String" "COMPACT_STRINGS" "Z" (.int csz)) (hcs : ¬ csz = (0 : Int32)) (S_IO : Sta Z Z.heap "jdk/internal/util/Preconditions" "SIOOBE_FORMATTER" "Ljava/util/function/BiFunction;" fm) (hio : fm.isRef = true) (F_name : Fld Z h0 a "com/example/evenkey/evenkey/model/FamilyDescriptor" "name" "Ljava/lang/String;" .null) (F_maxVersions : Fld Z h0 a "com/example/evenkey/evenkey/model/FamilyDescriptor" "maxVersions" "I" (.int (0 : Int32))) (F_timeToLive : Fld Z h0 a "com/example/evenkey/evenkey/model/FamilyDescriptor" "timeToLive" "I" (.int (0 : Int32))) (F_blockSize : Fld Z h0 a "com/example/evenkey/evenkey/model/FamilyDescriptor" "blockSize" "I" (.int (0 : Int32))) (F_bloomFilter : Fld Z h0 a "com/example/evenkey/evenkey/model/FamilyDescriptor" "bloomFilter" "Lcom/example/evenkey/evenkey/model/BloomFilterType;" .null) (E0 : Exa Z h0 a "com/example/evenkey/evenkey/model/FamilyDescriptor") (ga : n0 ≤ a) (Es : Exa Z h0 sn "java/lang/String") (Fv : Fld Z h0 sn "java/lang/String" "value" "[B" (.ref t)) (Fc : Fld Z h0 sn "java/lang/String" "coder" "B" (.int 0)) (AT : Arv Z h0 t kb .byte (1 : Int32) [(.int (ch.toInt8.toInt32))] (.int (0 : Int32))) (nta : t ≠ a) (hc1 : ¬ ch < (32 : Int32)) (hc2 : ¬ (126 : Int32) < ch) (hc3 : ¬ ch = (58 : Int32)) (hv : ¬ mv < (1 : Int32)) (ht : ¬ ttl < (1 : Int32)) (hb1 : ¬ bs < (1024 : Int32)) (hb2 : ¬ (16777216 : Int32) < bs) :
    MetFree l (⟨"com/example/evenkey/evenkey/model/FamilyDescriptor", "<init>", "(Ljava/lang/String;IIILcom/example/evenkey/evenkey/model/BloomFilterType;)V"⟩ : MethodName) (head1 (Jvm.Cond.code (⟨"com/example/evenkey/evenkey/model/FamilyDescriptor", "<init>", "(Ljava/lang/String;IIILcom/example/evenkey/evenkey/model/BloomFilterType;)V"⟩ : MethodName) prog_8_method_1_code 8 none :: ws) ({ frames := 4, cells := 4, slots := 68, locals := 53 } : Room)) (fun aq_ Uq_ => aq_ = #[(.ref a), (.ref sn), (.int mv), (.int ttl), (.int bs), (.ref bl)] ∧ Z.Warmed39 Uq_.vm ∧ Uq_.heap = h0) (fun _ _ _ _ _ => True) (fun _ Uq_ oq_ Ur_ => ∃ vq_ Lq_, oq_ = .returned vq_ ∧ Q_fdi Z a sn mv ttl bs bl csz fm t kb ch h0 n0 vq_ Ur_.heap Lq_ ∧ ReturnedEndW Uq_ oq_ Ur_ Lq_ ({ frames := 4, cells := 4, slots := 68, locals := 53 } : Room).cells ({ frames := 4, cells := 4, slots := 68, locals := 53 } : Room).slots) := by
  refine MetFree.of_bodySF (plainFor_of_name pn_com_2fexample_2fevenkey_2fevenkey_2fmodel_2fFamilyDescriptor) hisR ?_
  intro p e s m args below meth c s₁ Bd hml0 hP hK
  obtain ⟨rfl, hZ, hh⟩ := hP
  have hx := Bd.exec
  have hby := Bd.bytes
  have hml : c.maxLocals = 8 := hml0
  have hown : s.vm.findClass "com/example/evenkey/evenkey/model/FamilyDescriptor" = some m.cls := findClass_of_methodNamed Bd.named
  have hnm := (name_of_methodNamed Bd.named Bd.method).1
  have X0 : Stand p l e ({ frames := 4, cells := 4, slots := 68, locals := 53 } : Room) (s.setVm s.vm) m #[(.ref a), (.ref sn), (.int mv), (.int ttl), (.int bs), (.ref bl)] below meth c s₁ [] 0 0 := Stand.of_body Bd
  have e0 : s₁.heap = h0 := by rw [← hh, Bd.state]; rfl
  have N0 := Fr.nil n0
  have K0 := Keep.refl h0 [a]
  have hS : s.Since s.vm s.heap.size := (State.WarmedH.refl s).since _
  have hkS : s.heap.size ≤ h0.size := by rw [hh]; exact Nat.le_refl _
  have hZ : Z.Warmed39 (s.setVm s.vm).vm := hZ
  have hown : (s.setVm s.vm).vm.findClass "com/example/evenkey/evenkey/model/FamilyDescriptor" = some m.cls := hown
  have own_wS : ∀ a ∈ Bundle.stringAtoms, a.before a0 Z = true := fun d hd => hw d ((by decide +kernel : ∀ d ∈ Bundle.stringAtoms, d ∈ tables_1) d hd)
  refine own_GW.start (Q := Q_fdi Z a sn mv ttl bs bl csz fm t kb ch h0 n0) (ef_fdi m a sn mv ttl bs bl) ?_
  refine own_GW.step (g' := (mkF m 1 #[.val (.ref a), .val (.ref sn), .val (.int mv), .val (.int ttl), .val (.int bs), .val (.ref bl), .unset, .unset] [(.ref a)])) (fun tq_ kq_ => XS.aloadN X0.here hx rfl (hb hby d6_0) rfl rfl kq_) ?_
  obtain ⟨_, _, ⟨T1, L1, k1, n1⟩, -, X1, ⟨Lc1, hQ1, l1, y1, z1⟩, st1⟩ := X0.specialBack hx (y := (⟨"java/lang/Record", "<init>", "()V"⟩ : MethodName)) rfl hown (mvT hZ (hw _ (List.mem_of_getElem? (i := 37) rfl))) (mvT hZ (hw _ (List.mem_of_getElem? (i := 38) rfl))) (mvT hZ (hw _ (List.mem_of_getElem? (i := 41) rfl))) (by decide) (backOf (W := 0) (rm_recinit l Z a0 hw [] a h0 n0 O0 ) hZ (hw _ (List.mem_of_getElem? (i := 41) rfl)) (hw _ (List.mem_of_getElem? (i := 40) rfl)) (by decide) (by decide)) (g := (mkF m 1 #[.val (.ref a), .val (.ref sn), .val (.int mv), .val (.int ttl), .val (.int bs), .val (.ref bl), .unset, .unset] [(.ref a)])) rfl (by rw [hml]; rfl) (Steps.refl _) (a := a) (argsL := []) (rest := []) (lenOf pd__28_29V rfl) rfl (by show 2 * 0 + _ ≤ _; exact Nat.le_of_eq rfl) (hb hby d6_1) (fun _ _ => ⟨rfl, e0, (by decide : 0 + 0 ≤ _), (by decide : 0 + 0 ≤ _)⟩)
  dsimp only [Pt.U, Pt.locs, Pt.cells, Pt.slots] at X1 l1 y1 z1 st1 hQ1
  subst l1 y1 z1
  obtain ⟨rfl, Nq1, P2⟩ := hQ1
  have N1 := Fr.app N0 Nq1
  refine own_GW.step (T' := T1) (g' := (mkF m 4 #[.val (.ref a), .val (.ref sn), .val (.int mv), .val (.int ttl), .val (.int bs), .val (.ref bl), .unset, .unset] [])) (fun tq_ kq_ => st1.trans kq_) ?_
  refine own_GW.step (g' := (mkF m 5 #[.val (.ref a), .val (.ref sn), .val (.int mv), .val (.int ttl), .val (.int bs), .val (.ref bl), .unset, .unset] [(.ref sn)])) (fun tq_ kq_ => XS.aloadN X1.here hx rfl (hb hby d6_4) rfl rfl kq_) ?_
  obtain ⟨a3, T3, h3, k3, X3, e3, E3, hS, hkS, hZ, hown, st3⟩ := ldcS (vm0 := s.vm) X1 hx hZ hown (hw _ (List.mem_of_getElem? (i := 43) rfl)) own_wS P2 hS hkS (g := (mkF m 5 #[.val (.ref a), .val (.ref sn), .val (.int mv), .val (.int ttl), .val (.int bs), .val (.ref bl), .unset, .unset] [(.ref sn)])) rfl (hb hby d6_5) (n := 16) (by decide +kernel) (by decide) (by decide) (by decide)
  have F4 := F_name.ext E3
  have F5 := F_maxVersions.ext E3
  have F6 := F_timeToLive.ext E3
  have F7 := F_blockSize.ext E3
  have F8 := F_bloomFilter.ext E3
  have F9 := E0.ext E3
  have F10 := Es.ext E3
  have F11 := Fv.ext E3
  have F12 := Fc.ext E3
  have F13 := AT.ext E3
  have O14 := O0.ext E3
  have K15 := K0.ext E3
  refine own_GW.step (T' := T3) (g' := (mkF m 7 #[.val (.ref a), .val (.ref sn), .val (.int mv), .val (.int ttl), .val (.int bs), .val (.ref bl), .unset, .unset] [(.ref a3), (.ref sn)])) st3 ?_
  obtain ⟨_, _, ⟨T16, L16, k16, n16⟩, -, X16, ⟨Lc16, hQ16, l16, y16, z16⟩, st16⟩ := Jvm.LawKit.callS X3 hx (y := (⟨"java/util/Objects", "requireNonNull", "(Ljava/lang/Object;Ljava/lang/String;)Ljava/lang/Object;"⟩ : MethodName)) hown (mvT hZ (hw _ (List.mem_of_getElem? (i := 46) rfl))) (mvT hZ (hw _ (List.mem_of_getElem? (i := 47) rfl))) (mvT hZ (hw _ (List.mem_of_getElem? (i := 48) rfl))) (mvT hZ (hw _ (List.mem_of_getElem? (i := 49) rfl))) (by decide) (backOf (W := 0) (rm_rnn l Z a0 hw [] sn a3 h3 n0 O14 ) hZ (hw _ (List.mem_of_getElem? (i := 49) rfl)) (hw _ (List.mem_of_getElem? (i := 48) rfl)) (by decide) (by decide)) (g := (mkF m 7 #[.val (.ref a), .val (.ref sn), .val (.int mv), .val (.int ttl), .val (.int bs), .val (.ref bl), .unset, .unset] [(.ref a3), (.ref sn)])) rfl (by rw [hml]; rfl) (argsL := [(.ref sn), (.ref a3)]) (rest := []) (lenOf pd__28Ljava_2flang_2fObject_3bLjava_2flang_2fString_3b_29Ljava_2flang_2fObject_3b rfl) rfl (by show 2 * 0 + _ ≤ _; exact Nat.le_of_eq rfl) (hb hby d6_7) (fun _ _ => ⟨rfl, e3, (by decide : 2 + 0 ≤ _), (by decide : 20 + 0 ≤ _)⟩)
  dsimp only [Pt.U, Pt.locs, Pt.cells, Pt.slots] at X16 l16 y16 z16 st16 hQ16
  subst l16 y16 z16
  obtain ⟨rfl, Nq16, P17⟩ := hQ16
  have N16 := Fr.app N1 Nq16
  refine own_GW.step (T' := T16) (g' := (mkF m 10 #[.val (.ref a), .val (.ref sn), .val (.int mv), .val (.int ttl), .val (.int bs), .val (.ref bl), .unset, .unset] [(.ref sn)])) (fun tq_ kq_ => st16 _ kq_) ?_
  refine own_GW.step (g' := (mkF m 11 #[.val (.ref a), .val (.ref sn), .val (.int mv), .val (.int ttl), .val (.int bs), .val (.ref bl), .unset, .unset] [])) (fun tq_ kq_ => XS.pop X16.here hx rfl (hb hby d6_10) rfl rfl kq_) ?_
  refine own_GW.step (g' := (mkF m 13 #[.val (.ref a), .val (.ref sn), .val (.int mv), .val (.int ttl), .val (.int bs), .val (.ref bl), .unset, .unset] [(.ref bl)])) (fun tq_ kq_ => XS.aload X16.here hx rfl (hb hby d6_11) rfl rfl kq_) ?_
  obtain ⟨a18, T18, h18, k18, X18, e18, E18, hS, hkS, hZ, hown, st18⟩ := ldcS (vm0 := T3.vm) X16 hx hZ hown (hw _ (List.mem_of_getElem? (i := 50) rfl)) own_wS P17 hS hkS (g := (mkF m 13 #[.val (.ref a), .val (.ref sn), .val (.int mv), .val (.int ttl), .val (.int bs), .val (.ref bl), .unset, .unset] [(.ref bl)])) rfl (hb hby d6_13) (n := 44) (by decide +kernel) (by decide) (by decide) (by decide)
  have F19 := F4.ext E18
  have F20 := F5.ext E18
  have F21 := F6.ext E18
  have F22 := F7.ext E18
  have F23 := F8.ext E18
  have F24 := F9.ext E18
  have F25 := F10.ext E18
  have F26 := F11.ext E18
  have F27 := F12.ext E18
  have F28 := F13.ext E18
  have O29 := O14.ext E18
  have K30 := K15.ext E18
  refine own_GW.step (T' := T18) (g' := (mkF m 15 #[.val (.ref a), .val (.ref sn), .val (.int mv), .val (.int ttl), .val (.int bs), .val (.ref bl), .unset, .unset] [(.ref a18), (.ref bl)])) st18 ?_
  obtain ⟨_, _, ⟨T31, L31, k31, n31⟩, -, X31, ⟨Lc31, hQ31, l31, y31, z31⟩, st31⟩ := Jvm.LawKit.callS X18 hx (y := (⟨"java/util/Objects", "requireNonNull", "(Ljava/lang/Object;Ljava/lang/String;)Ljava/lang/Object;"⟩ : MethodName)) hown (mvT hZ (hw _ (List.mem_of_getElem? (i := 46) rfl))) (mvT hZ (hw _ (List.mem_of_getElem? (i := 47) rfl))) (mvT hZ (hw _ (List.mem_of_getElem? (i := 48) rfl))) (mvT hZ (hw _ (List.mem_of_getElem? (i := 49) rfl))) (by decide) (backOf (W := 0) (rm_rnn l Z a0 hw [] bl a18 h18 n0 O29 ) hZ (hw _ (List.mem_of_getElem? (i := 49) rfl)) (hw _ (List.mem_of_getElem? (i := 48) rfl)) (by decide) (by decide)) (g := (mkF m 15 #[.val (.ref a), .val (.ref sn), .val (.int mv), .val (.int ttl), .val (.int bs), .val (.ref bl), .unset, .unset] [(.ref a18), (.ref bl)])) rfl (by rw [hml]; rfl) (argsL := [(.ref bl), (.ref a18)]) (rest := []) (lenOf pd__28Ljava_2flang_2fObject_3bLjava_2flang_2fString_3b_29Ljava_2flang_2fObject_3b rfl) rfl (by show 2 * 0 + _ ≤ _; exact Nat.le_of_eq rfl) (hb hby d6_15) (fun _ _ => ⟨rfl, e18, (by decide : 4 + 0 ≤ _), (by decide : 68 + 0 ≤ _)⟩)
  dsimp only [Pt.U, Pt.locs, Pt.cells, Pt.slots] at X31 l31 y31 z31 st31 hQ31
  subst l31 y31 z31
  obtain ⟨rfl, Nq31, P32⟩ := hQ31
  have N31 := Fr.app N16 Nq31
  refine own_GW.step (T' := T31) (g' := (mkF m 18 #[.val (.ref a), .val (.ref sn), .val (.int mv), .val (.int ttl), .val (.int bs), .val (.ref bl), .unset, .unset] [(.ref bl)])) (fun tq_ kq_ => st31 _ kq_) ?_
  refine own_GW.step (g' := (mkF m 19 #[.val (.ref a), .val (.ref sn), .val (.int mv), .val (.int ttl), .val (.int bs), .val (.ref bl), .unset, .unset] [])) (fun tq_ kq_ => XS.pop X31.here hx rfl (hb hby d6_18) rfl rfl kq_) ?_
  refine own_GW.step (g' := (mkF m 20 #[.val (.ref a), .val (.ref sn), .val (.int mv), .val (.int ttl), .val (.int bs), .val (.ref bl), .unset, .unset] [(.ref sn)])) (fun tq_ kq_ => XS.aloadN X31.here hx rfl (hb hby d6_19) rfl rfl kq_) ?_
  obtain ⟨cq33, kq33, q33a, q33b, q33c⟩ := isOf hZ P32 F25
  obtain ⟨_, _, ⟨T33, L33, k33, n33⟩, -, X33, ⟨Lc33, hQ33, l33, y33, z33⟩, st33⟩ := X31.virtualBack hx (y := (⟨"java/lang/String", "isEmpty", "()Z"⟩ : MethodName)) (z := (⟨"java/lang/String", "isEmpty", "()Z"⟩ : MethodName)) hown (mvT hZ (hw _ (List.mem_of_getElem? (i := 51) rfl))) (mvT hZ (hw _ (List.mem_of_getElem? (i := 52) rfl))) (notFace_of_selects (args := #[]) (mvT hZ (hw _ (List.mem_of_getElem? (i := 54) rfl)))) (mvT hZ (hw _ (List.mem_of_getElem? (i := 54) rfl))) (mvT hZ (hw _ (List.mem_of_getElem? (i := 53) rfl))) (by decide) (backOf (W := 0) (rm_isEmp l Z a0 hw [] sn t (1 : Int32) h18 n0 O29 F26 (own_Len.arv F28)) hZ (hw _ (List.mem_of_getElem? (i := 55) rfl)) (hw _ (List.mem_of_getElem? (i := 10) rfl)) (by decide) (by decide)) q33a q33c (g := (mkF m 20 #[.val (.ref a), .val (.ref sn), .val (.int mv), .val (.int ttl), .val (.int bs), .val (.ref bl), .unset, .unset] [(.ref sn)])) rfl (by rw [hml]; rfl) (Steps.refl _) (argsL := []) (rest := []) (lenOf pd__28_29Z rfl) rfl (by show 2 * 0 + _ ≤ _; exact Nat.le_of_eq rfl) (hb hby d6_20) (fun _ _ => ⟨rfl, P32, (by decide : 4 + 0 ≤ _), (by decide : 68 + 0 ≤ _)⟩)
  dsimp only [Pt.U, Pt.locs, Pt.cells, Pt.slots] at X33 l33 y33 z33 st33 hQ33
  subst l33 y33 z33
  obtain ⟨rfl, Nq33, P34⟩ := hQ33
  have N33 := Fr.app N31 Nq33
  refine own_GW.step (T' := T33) (g' := (mkF m 23 #[.val (.ref a), .val (.ref sn), .val (.int mv), .val (.int ttl), .val (.int bs), .val (.ref bl), .unset, .unset] [(.int (own_emp (1 : Int32)))])) (fun tq_ kq_ => st33.trans kq_) ?_
  have hc23 : (own_emp (1 : Int32)) = (0 : Int32) := by decide
  refine own_GW.step (g' := (mkF m 26 #[.val (.ref a), .val (.ref sn), .val (.int mv), .val (.int ttl), .val (.int bs), .val (.ref bl), .unset, .unset] [])) (fun tq_ kq_ => XS.ifNo X33.here hx rfl (hb hby d6_23) rfl ((if0 _ _).trans (teq hc23).2) kq_) ?_
  refine own_GW.step (g' := (mkF m 27 #[.val (.ref a), .val (.ref sn), .val (.int mv), .val (.int ttl), .val (.int bs), .val (.ref bl), .unset, .unset] [(.ref sn)])) (fun tq_ kq_ => XS.aloadN X33.here hx rfl (hb hby d6_26) rfl rfl kq_) ?_
  obtain ⟨cq35, kq35, q35a, q35b, q35c⟩ := isOf hZ P34 F25
  obtain ⟨_, _, ⟨T35, L35, k35, n35⟩, -, X35, ⟨Lc35, hQ35, l35, y35, z35⟩, st35⟩ := X33.virtualBack hx (y := (⟨"java/lang/String", "length", "()I"⟩ : MethodName)) (z := (⟨"java/lang/String", "length", "()I"⟩ : MethodName)) hown (mvT hZ (hw _ (List.mem_of_getElem? (i := 56) rfl))) (mvT hZ (hw _ (List.mem_of_getElem? (i := 57) rfl))) (notFace_of_selects (args := #[]) (mvT hZ (hw _ (List.mem_of_getElem? (i := 59) rfl)))) (mvT hZ (hw _ (List.mem_of_getElem? (i := 59) rfl))) (mvT hZ (hw _ (List.mem_of_getElem? (i := 58) rfl))) (by decide) (backOf (W := 0) (rm_strlen l Z a0 hw [] sn csz t (1 : Int32) h18 n0 O29 S_CS hcs F27 F26 (own_Len.arv F28) F25) hZ (hw _ (List.mem_of_getElem? (i := 60) rfl)) (hw _ (List.mem_of_getElem? (i := 10) rfl)) (by decide) (by decide)) q35a q35c (g := (mkF m 27 #[.val (.ref a), .val (.ref sn), .val (.int mv), .val (.int ttl), .val (.int bs), .val (.ref bl), .unset, .unset] [(.ref sn)])) rfl (by rw [hml]; rfl) (Steps.refl _) (argsL := []) (rest := []) (lenOf pd__28_29I rfl) rfl (by show 2 * 0 + _ ≤ _; exact Nat.le_of_eq rfl) (hb hby d6_27) (fun _ _ => ⟨rfl, P34, (by decide : 4 + 0 ≤ _), (by decide : 68 + 0 ≤ _)⟩)
  dsimp only [Pt.U, Pt.locs, Pt.cells, Pt.slots] at X35 l35 y35 z35 st35 hQ35
  subst l35 y35 z35
  obtain ⟨rfl, Nq35, P36⟩ := hQ35
  have N35 := Fr.app N33 Nq35
  refine own_GW.step (T' := T35) (g' := (mkF m 30 #[.val (.ref a), .val (.ref sn), .val (.int mv), .val (.int ttl), .val (.int bs), .val (.ref bl), .unset, .unset] [(.int (1 : Int32))])) (fun tq_ kq_ => st35.trans kq_) ?_
  refine own_GW.step (g' := (mkF m 33 #[.val (.ref a), .val (.ref sn), .val (.int mv), .val (.int ttl), .val (.int bs), .val (.ref bl), .unset, .unset] [(.int (255 : Int32)), (.int (1 : Int32))])) (fun tq_ kq_ => XS.sipush X35.here hx rfl (hb hby d6_30) kq_) ?_
  have hc33 : ¬ ((255 : Int32) < (1 : Int32)) := (by decide)
  refine own_GW.step (g' := (mkF m 50 #[.val (.ref a), .val (.ref sn), .val (.int mv), .val (.int ttl), .val (.int bs), .val (.ref bl), .unset, .unset] [])) (fun tq_ kq_ => XS.icmpYes X35.here hx rfl (pc0 := 33) (pc' := 50) rfl (hb hby d6_33) rfl (flt hc33).2.2.2 (by decide) (by decide) kq_) ?_
  refine own_GW.step (g' := (mkF m 51 #[.val (.ref a), .val (.ref sn), .val (.int mv), .val (.int ttl), .val (.int bs), .val (.ref bl), .unset, .unset] [(.int (0 : Int32))])) (fun tq_ kq_ => XS.iconst X35.here hx rfl (hb hby d6_50) kq_) ?_
  refine own_GW.step (g' := (mkF m 53 #[.val (.ref a), .val (.ref sn), .val (.int mv), .val (.int ttl), .val (.int bs), .val (.ref bl), .val (.int (0 : Int32)), .unset] [])) (fun tq_ kq_ => XS.istore X35.here hx rfl (hb hby d6_51) rfl (l' := #[.val (.ref a), .val (.ref sn), .val (.int mv), .val (.int ttl), .val (.int bs), .val (.ref bl), .val (.int (0 : Int32)), .unset]) rfl kq_) ?_
  refine own_GW.step (g' := (mkF m 55 #[.val (.ref a), .val (.ref sn), .val (.int mv), .val (.int ttl), .val (.int bs), .val (.ref bl), .val (.int (0 : Int32)), .unset] [(.int (0 : Int32))])) (fun tq_ kq_ => XS.iload X35.here hx rfl (hb hby d6_53) rfl kq_) ?_
  refine own_GW.step (g' := (mkF m 56 #[.val (.ref a), .val (.ref sn), .val (.int mv), .val (.int ttl), .val (.int bs), .val (.ref bl), .val (.int (0 : Int32)), .unset] [(.ref sn), (.int (0 : Int32))])) (fun tq_ kq_ => XS.aloadN X35.here hx rfl (hb hby d6_55) rfl rfl kq_) ?_
  obtain ⟨cq37, kq37, q37a, q37b, q37c⟩ := isOf hZ P36 F25
  obtain ⟨_, _, ⟨T37, L37, k37, n37⟩, -, X37, ⟨Lc37, hQ37, l37, y37, z37⟩, st37⟩ := X35.virtualBack hx (y := (⟨"java/lang/String", "length", "()I"⟩ : MethodName)) (z := (⟨"java/lang/String", "length", "()I"⟩ : MethodName)) hown (mvT hZ (hw _ (List.mem_of_getElem? (i := 56) rfl))) (mvT hZ (hw _ (List.mem_of_getElem? (i := 57) rfl))) (notFace_of_selects (args := #[]) (mvT hZ (hw _ (List.mem_of_getElem? (i := 59) rfl)))) (mvT hZ (hw _ (List.mem_of_getElem? (i := 59) rfl))) (mvT hZ (hw _ (List.mem_of_getElem? (i := 58) rfl))) (by decide) (backOf (W := 1) (rm_strlen l Z a0 hw [] sn csz t (1 : Int32) h18 n0 O29 S_CS hcs F27 F26 (own_Len.arv F28) F25) hZ (hw _ (List.mem_of_getElem? (i := 60) rfl)) (hw _ (List.mem_of_getElem? (i := 10) rfl)) (by decide) (by decide)) q37a q37c (g := (mkF m 56 #[.val (.ref a), .val (.ref sn), .val (.int mv), .val (.int ttl), .val (.int bs), .val (.ref bl), .val (.int (0 : Int32)), .unset] [(.ref sn), (.int (0 : Int32))])) rfl (by rw [hml]; rfl) (Steps.refl _) (argsL := []) (rest := [(.int (0 : Int32))]) (lenOf pd__28_29I rfl) rfl (by show 2 * 0 + _ ≤ _; exact Nat.le_of_eq rfl) (hb hby d6_56) (fun _ _ => ⟨rfl, P36, (by decide : 4 + 0 ≤ _), (by decide : 68 + 0 ≤ _)⟩)
  dsimp only [Pt.U, Pt.locs, Pt.cells, Pt.slots] at X37 l37 y37 z37 st37 hQ37
  subst l37 y37 z37
  obtain ⟨rfl, Nq37, P38⟩ := hQ37
  have N37 := Fr.app N35 Nq37
  refine own_GW.step (T' := T37) (g' := (mkF m 59 #[.val (.ref a), .val (.ref sn), .val (.int mv), .val (.int ttl), .val (.int bs), .val (.ref bl), .val (.int (0 : Int32)), .unset] [(.int (1 : Int32)), (.int (0 : Int32))])) (fun tq_ kq_ => st37.trans kq_) ?_
  have hc59 : (0 : Int32) < (1 : Int32) := (by decide)
  refine own_GW.step (g' := (mkF m 62 #[.val (.ref a), .val (.ref sn), .val (.int mv), .val (.int ttl), .val (.int bs), .val (.ref bl), .val (.int (0 : Int32)), .unset] [])) (fun tq_ kq_ => XS.icmpNo X37.here hx rfl (hb hby d6_59) rfl (tlt hc59).2.1 kq_) ?_
  refine own_GW.step (g' := (mkF m 63 #[.val (.ref a), .val (.ref sn), .val (.int mv), .val (.int ttl), .val (.int bs), .val (.ref bl), .val (.int (0 : Int32)), .unset] [(.ref sn)])) (fun tq_ kq_ => XS.aloadN X37.here hx rfl (hb hby d6_62) rfl rfl kq_) ?_
  refine own_GW.step (g' := (mkF m 65 #[.val (.ref a), .val (.ref sn), .val (.int mv), .val (.int ttl), .val (.int bs), .val (.ref bl), .val (.int (0 : Int32)), .unset] [(.int (0 : Int32)), (.ref sn)])) (fun tq_ kq_ => XS.iload X37.here hx rfl (hb hby d6_63) rfl kq_) ?_
  obtain ⟨cq39, kq39, q39a, q39b, q39c⟩ := isOf hZ P38 F25
  obtain ⟨_, _, ⟨T39, L39, k39, n39⟩, -, X39, ⟨Lc39, hQ39, l39, y39, z39⟩, st39⟩ := X37.virtualBack hx (y := (⟨"java/lang/String", "charAt", "(I)C"⟩ : MethodName)) (z := (⟨"java/lang/String", "charAt", "(I)C"⟩ : MethodName)) hown (mvT hZ (hw _ (List.mem_of_getElem? (i := 66) rfl))) (mvT hZ (hw _ (List.mem_of_getElem? (i := 67) rfl))) (notFace_of_selects (args := #[]) (mvT hZ (hw _ (List.mem_of_getElem? (i := 69) rfl)))) (mvT hZ (hw _ (List.mem_of_getElem? (i := 69) rfl))) (mvT hZ (hw _ (List.mem_of_getElem? (i := 68) rfl))) (by decide) (backOf (W := 0) (rm_charAt l Z a0 hw [] sn (0 : Int32) csz fm t (1 : Int32) (ch.toInt8.toInt32) h18 n0 O29 S_CS hcs S_IO hio F25 F26 F27 (own_Len.arv F28) (own_At.arv F28 ⟨by decide, by decide⟩ rfl) (by decide) (by decide)) hZ (hw _ (List.mem_of_getElem? (i := 70) rfl)) (hw _ (List.mem_of_getElem? (i := 10) rfl)) (by decide) (by decide)) q39a q39c (g := (mkF m 65 #[.val (.ref a), .val (.ref sn), .val (.int mv), .val (.int ttl), .val (.int bs), .val (.ref bl), .val (.int (0 : Int32)), .unset] [(.int (0 : Int32)), (.ref sn)])) rfl (by rw [hml]; rfl) (Steps.refl _) (argsL := [(.int (0 : Int32))]) (rest := []) (lenOf pd__28I_29C rfl) rfl (by show 2 * 0 + _ ≤ _; exact Nat.le_of_eq rfl) (hb hby d6_65) (fun _ _ => ⟨rfl, P38, (by decide : 4 + 0 ≤ _), (by decide : 68 + 0 ≤ _)⟩)
  dsimp only [Pt.U, Pt.locs, Pt.cells, Pt.slots] at X39 l39 y39 z39 st39 hQ39
  subst l39 y39 z39
  obtain ⟨rfl, Nq39, P40⟩ := hQ39
  have N39 := Fr.app N37 Nq39
  refine own_GW.step (T' := T39) (g' := (mkF m 68 #[.val (.ref a), .val (.ref sn), .val (.int mv), .val (.int ttl), .val (.int bs), .val (.ref bl), .val (.int (0 : Int32)), .unset] [(.int (own_chr (ch.toInt8.toInt32)))])) (fun tq_ kq_ => st39.trans kq_) ?_
  have hch : own_chr (ch.toInt8.toInt32) = ch := own_chr_of (own_c0 hc1) (own_c255 hc2)
  refine own_GW.cast (g' := (mkF m 68 #[.val (.ref a), .val (.ref sn), .val (.int mv), .val (.int ttl), .val (.int bs), .val (.ref bl), .val (.int (0 : Int32)), .unset] [(.int ch)])) (by rw [hch]) ?_
  refine own_GW.step (g' := (mkF m 70 #[.val (.ref a), .val (.ref sn), .val (.int mv), .val (.int ttl), .val (.int bs), .val (.ref bl), .val (.int (0 : Int32)), .val (.int ch)] [])) (fun tq_ kq_ => XS.istore X39.here hx rfl (hb hby d6_68) rfl (l' := #[.val (.ref a), .val (.ref sn), .val (.int mv), .val (.int ttl), .val (.int bs), .val (.ref bl), .val (.int (0 : Int32)), .val (.int ch)]) rfl kq_) ?_
  refine own_GW.step (g' := (mkF m 72 #[.val (.ref a), .val (.ref sn), .val (.int mv), .val (.int ttl), .val (.int bs), .val (.ref bl), .val (.int (0 : Int32)), .val (.int ch)] [(.int ch)])) (fun tq_ kq_ => XS.iload X39.here hx rfl (hb hby d6_70) rfl kq_) ?_
  refine own_GW.step (g' := (mkF m 74 #[.val (.ref a), .val (.ref sn), .val (.int mv), .val (.int ttl), .val (.int bs), .val (.ref bl), .val (.int (0 : Int32)), .val (.int ch)] [(.int (32 : Int32)), (.int ch)])) (fun tq_ kq_ => XS.bipush X39.here hx rfl (hb hby d6_72) kq_) ?_
  have hc74 : ¬ (ch < (32 : Int32)) := hc1
  refine own_GW.step (g' := (mkF m 77 #[.val (.ref a), .val (.ref sn), .val (.int mv), .val (.int ttl), .val (.int bs), .val (.ref bl), .val (.int (0 : Int32)), .val (.int ch)] [])) (fun tq_ kq_ => XS.icmpNo X39.here hx rfl (hb hby d6_74) rfl (flt hc74).1 kq_) ?_
  refine own_GW.step (g' := (mkF m 79 #[.val (.ref a), .val (.ref sn), .val (.int mv), .val (.int ttl), .val (.int bs), .val (.ref bl), .val (.int (0 : Int32)), .val (.int ch)] [(.int ch)])) (fun tq_ kq_ => XS.iload X39.here hx rfl (hb hby d6_77) rfl kq_) ?_
  refine own_GW.step (g' := (mkF m 81 #[.val (.ref a), .val (.ref sn), .val (.int mv), .val (.int ttl), .val (.int bs), .val (.ref bl), .val (.int (0 : Int32)), .val (.int ch)] [(.int (126 : Int32)), (.int ch)])) (fun tq_ kq_ => XS.bipush X39.here hx rfl (hb hby d6_79) kq_) ?_
  have hc81 : ¬ ((126 : Int32) < ch) := hc2
  refine own_GW.step (g' := (mkF m 84 #[.val (.ref a), .val (.ref sn), .val (.int mv), .val (.int ttl), .val (.int bs), .val (.ref bl), .val (.int (0 : Int32)), .val (.int ch)] [])) (fun tq_ kq_ => XS.icmpNo X39.here hx rfl (hb hby d6_81) rfl (flt hc81).2.2.1 kq_) ?_
  refine own_GW.step (g' := (mkF m 86 #[.val (.ref a), .val (.ref sn), .val (.int mv), .val (.int ttl), .val (.int bs), .val (.ref bl), .val (.int (0 : Int32)), .val (.int ch)] [(.int ch)])) (fun tq_ kq_ => XS.iload X39.here hx rfl (hb hby d6_84) rfl kq_) ?_
  refine own_GW.step (g' := (mkF m 88 #[.val (.ref a), .val (.ref sn), .val (.int mv), .val (.int ttl), .val (.int bs), .val (.ref bl), .val (.int (0 : Int32)), .val (.int ch)] [(.int (58 : Int32)), (.int ch)])) (fun tq_ kq_ => XS.bipush X39.here hx rfl (hb hby d6_86) kq_) ?_
  have hc88 : ¬ (ch = (58 : Int32)) := hc3
  refine own_GW.step (g' := (mkF m 105 #[.val (.ref a), .val (.ref sn), .val (.int mv), .val (.int ttl), .val (.int bs), .val (.ref bl), .val (.int (0 : Int32)), .val (.int ch)] [])) (fun tq_ kq_ => XS.icmpYes X39.here hx rfl (pc0 := 88) (pc' := 105) rfl (hb hby d6_88) rfl (feq hc88).2 (by decide) (by decide) kq_) ?_
  refine own_GW.step (g' := (mkF m 108 #[.val (.ref a), .val (.ref sn), .val (.int mv), .val (.int ttl), .val (.int bs), .val (.ref bl), .val (.int ((0 : Int32) + (1 : Int32))), .val (.int ch)] [])) (fun tq_ kq_ => XS.iinc X39.here hx rfl (hb hby d6_105) rfl (l' := #[.val (.ref a), .val (.ref sn), .val (.int mv), .val (.int ttl), .val (.int bs), .val (.ref bl), .val (.int ((0 : Int32) + (1 : Int32))), .val (.int ch)]) rfl kq_) ?_
  have hi1 : ((0 : Int32) + (1 : Int32)) = (1 : Int32) := by decide
  refine own_GW.cast (g' := (mkF m 108 #[.val (.ref a), .val (.ref sn), .val (.int mv), .val (.int ttl), .val (.int bs), .val (.ref bl), .val (.int (1 : Int32)), .val (.int ch)] [])) (by rw [hi1]) ?_
  refine own_GW.step (g' := (mkF m 53 #[.val (.ref a), .val (.ref sn), .val (.int mv), .val (.int ttl), .val (.int bs), .val (.ref bl), .val (.int (1 : Int32)), .val (.int ch)] [])) (fun tq_ kq_ => XS.goto X39.here hx rfl (pc0 := 108) (pc' := 53) rfl (hb hby d6_108) (by decide) (by decide) kq_) ?_
  refine own_GW.step (g' := (mkF m 55 #[.val (.ref a), .val (.ref sn), .val (.int mv), .val (.int ttl), .val (.int bs), .val (.ref bl), .val (.int (1 : Int32)), .val (.int ch)] [(.int (1 : Int32))])) (fun tq_ kq_ => XS.iload X39.here hx rfl (hb hby d6_53) rfl kq_) ?_
  refine own_GW.step (g' := (mkF m 56 #[.val (.ref a), .val (.ref sn), .val (.int mv), .val (.int ttl), .val (.int bs), .val (.ref bl), .val (.int (1 : Int32)), .val (.int ch)] [(.ref sn), (.int (1 : Int32))])) (fun tq_ kq_ => XS.aloadN X39.here hx rfl (hb hby d6_55) rfl rfl kq_) ?_
  obtain ⟨cq41, kq41, q41a, q41b, q41c⟩ := isOf hZ P40 F25
  obtain ⟨_, _, ⟨T41, L41, k41, n41⟩, -, X41, ⟨Lc41, hQ41, l41, y41, z41⟩, st41⟩ := X39.virtualBack hx (y := (⟨"java/lang/String", "length", "()I"⟩ : MethodName)) (z := (⟨"java/lang/String", "length", "()I"⟩ : MethodName)) hown (mvT hZ (hw _ (List.mem_of_getElem? (i := 56) rfl))) (mvT hZ (hw _ (List.mem_of_getElem? (i := 57) rfl))) (notFace_of_selects (args := #[]) (mvT hZ (hw _ (List.mem_of_getElem? (i := 59) rfl)))) (mvT hZ (hw _ (List.mem_of_getElem? (i := 59) rfl))) (mvT hZ (hw _ (List.mem_of_getElem? (i := 58) rfl))) (by decide) (backOf (W := 1) (rm_strlen l Z a0 hw [] sn csz t (1 : Int32) h18 n0 O29 S_CS hcs F27 F26 (own_Len.arv F28) F25) hZ (hw _ (List.mem_of_getElem? (i := 60) rfl)) (hw _ (List.mem_of_getElem? (i := 10) rfl)) (by decide) (by decide)) q41a q41c (g := (mkF m 56 #[.val (.ref a), .val (.ref sn), .val (.int mv), .val (.int ttl), .val (.int bs), .val (.ref bl), .val (.int (1 : Int32)), .val (.int ch)] [(.ref sn), (.int (1 : Int32))])) rfl (by rw [hml]; rfl) (Steps.refl _) (argsL := []) (rest := [(.int (1 : Int32))]) (lenOf pd__28_29I rfl) rfl (by show 2 * 0 + _ ≤ _; exact Nat.le_of_eq rfl) (hb hby d6_56) (fun _ _ => ⟨rfl, P40, (by decide : 4 + 0 ≤ _), (by decide : 68 + 0 ≤ _)⟩)
  dsimp only [Pt.U, Pt.locs, Pt.cells, Pt.slots] at X41 l41 y41 z41 st41 hQ41
  subst l41 y41 z41
  obtain ⟨rfl, Nq41, P42⟩ := hQ41
  have N41 := Fr.app N39 Nq41
  refine own_GW.step (T' := T41) (g' := (mkF m 59 #[.val (.ref a), .val (.ref sn), .val (.int mv), .val (.int ttl), .val (.int bs), .val (.ref bl), .val (.int (1 : Int32)), .val (.int ch)] [(.int (1 : Int32)), (.int (1 : Int32))])) (fun tq_ kq_ => st41.trans kq_) ?_
  have hc59 : ¬ ((1 : Int32) < (1 : Int32)) := (by decide)
  refine own_GW.step (g' := (mkF m 111 #[.val (.ref a), .val (.ref sn), .val (.int mv), .val (.int ttl), .val (.int bs), .val (.ref bl), .val (.int (1 : Int32)), .val (.int ch)] [])) (fun tq_ kq_ => XS.icmpYes X41.here hx rfl (pc0 := 59) (pc' := 111) rfl (hb hby d6_59) rfl (flt hc59).2.1 (by decide) (by decide) kq_) ?_
  refine own_GW.step (g' := (mkF m 112 #[.val (.ref a), .val (.ref sn), .val (.int mv), .val (.int ttl), .val (.int bs), .val (.ref bl), .val (.int (1 : Int32)), .val (.int ch)] [(.int mv)])) (fun tq_ kq_ => XS.iloadN X41.here hx rfl (hb hby d6_111) rfl kq_) ?_
  refine own_GW.step (g' := (mkF m 113 #[.val (.ref a), .val (.ref sn), .val (.int mv), .val (.int ttl), .val (.int bs), .val (.ref bl), .val (.int (1 : Int32)), .val (.int ch)] [(.int (1 : Int32)), (.int mv)])) (fun tq_ kq_ => XS.iconst X41.here hx rfl (hb hby d6_112) kq_) ?_
  have hc113 : ¬ (mv < (1 : Int32)) := hv
  refine own_GW.step (g' := (mkF m 130 #[.val (.ref a), .val (.ref sn), .val (.int mv), .val (.int ttl), .val (.int bs), .val (.ref bl), .val (.int (1 : Int32)), .val (.int ch)] [])) (fun tq_ kq_ => XS.icmpYes X41.here hx rfl (pc0 := 113) (pc' := 130) rfl (hb hby d6_113) rfl (flt hc113).2.1 (by decide) (by decide) kq_) ?_
  refine own_GW.step (g' := (mkF m 131 #[.val (.ref a), .val (.ref sn), .val (.int mv), .val (.int ttl), .val (.int bs), .val (.ref bl), .val (.int (1 : Int32)), .val (.int ch)] [(.int ttl)])) (fun tq_ kq_ => XS.iloadN X41.here hx rfl (hb hby d6_130) rfl kq_) ?_
  refine own_GW.step (g' := (mkF m 132 #[.val (.ref a), .val (.ref sn), .val (.int mv), .val (.int ttl), .val (.int bs), .val (.ref bl), .val (.int (1 : Int32)), .val (.int ch)] [(.int (1 : Int32)), (.int ttl)])) (fun tq_ kq_ => XS.iconst X41.here hx rfl (hb hby d6_131) kq_) ?_
  have hc132 : ¬ (ttl < (1 : Int32)) := ht
  refine own_GW.step (g' := (mkF m 149 #[.val (.ref a), .val (.ref sn), .val (.int mv), .val (.int ttl), .val (.int bs), .val (.ref bl), .val (.int (1 : Int32)), .val (.int ch)] [])) (fun tq_ kq_ => XS.icmpYes X41.here hx rfl (pc0 := 132) (pc' := 149) rfl (hb hby d6_132) rfl (flt hc132).2.1 (by decide) (by decide) kq_) ?_
  refine own_GW.step (g' := (mkF m 151 #[.val (.ref a), .val (.ref sn), .val (.int mv), .val (.int ttl), .val (.int bs), .val (.ref bl), .val (.int (1 : Int32)), .val (.int ch)] [(.int bs)])) (fun tq_ kq_ => XS.iload X41.here hx rfl (hb hby d6_149) rfl kq_) ?_
  refine own_GW.step (g' := (mkF m 154 #[.val (.ref a), .val (.ref sn), .val (.int mv), .val (.int ttl), .val (.int bs), .val (.ref bl), .val (.int (1 : Int32)), .val (.int ch)] [(.int (1024 : Int32)), (.int bs)])) (fun tq_ kq_ => XS.sipush X41.here hx rfl (hb hby d6_151) kq_) ?_
  have hc154 : ¬ (bs < (1024 : Int32)) := hb1
  refine own_GW.step (g' := (mkF m 157 #[.val (.ref a), .val (.ref sn), .val (.int mv), .val (.int ttl), .val (.int bs), .val (.ref bl), .val (.int (1 : Int32)), .val (.int ch)] [])) (fun tq_ kq_ => XS.icmpNo X41.here hx rfl (hb hby d6_154) rfl (flt hc154).1 kq_) ?_
  refine own_GW.step (g' := (mkF m 159 #[.val (.ref a), .val (.ref sn), .val (.int mv), .val (.int ttl), .val (.int bs), .val (.ref bl), .val (.int (1 : Int32)), .val (.int ch)] [(.int bs)])) (fun tq_ kq_ => XS.iload X41.here hx rfl (hb hby d6_157) rfl kq_) ?_
  refine own_GW.step (g' := (mkF m 161 #[.val (.ref a), .val (.ref sn), .val (.int mv), .val (.int ttl), .val (.int bs), .val (.ref bl), .val (.int (1 : Int32)), .val (.int ch)] [(.int (16777216 : Int32)), (.int bs)])) (fun tq_ kq_ => X41.ldcInt hx hown (mvT hZ (hw _ (List.mem_of_getElem? (i := 87) rfl))) (g := (mkF m 159 #[.val (.ref a), .val (.ref sn), .val (.int mv), .val (.int ttl), .val (.int bs), .val (.ref bl), .val (.int (1 : Int32)), .val (.int ch)] [(.int bs)])) rfl (hb hby d6_159) _ kq_) ?_
  have hc161 : ¬ ((16777216 : Int32) < bs) := hb2
  refine own_GW.step (g' := (mkF m 179 #[.val (.ref a), .val (.ref sn), .val (.int mv), .val (.int ttl), .val (.int bs), .val (.ref bl), .val (.int (1 : Int32)), .val (.int ch)] [])) (fun tq_ kq_ => XS.icmpYes X41.here hx rfl (pc0 := 161) (pc' := 179) rfl (hb hby d6_161) rfl (flt hc161).2.2.2 (by decide) (by decide) kq_) ?_
  refine own_GW.step (g' := (mkF m 180 #[.val (.ref a), .val (.ref sn), .val (.int mv), .val (.int ttl), .val (.int bs), .val (.ref bl), .val (.int (1 : Int32)), .val (.int ch)] [(.ref a)])) (fun tq_ kq_ => XS.aloadN X41.here hx rfl (hb hby d6_179) rfl rfl kq_) ?_
  refine own_GW.step (g' := (mkF m 181 #[.val (.ref a), .val (.ref sn), .val (.int mv), .val (.int ttl), .val (.int bs), .val (.ref bl), .val (.int (1 : Int32)), .val (.int ch)] [(.ref sn), (.ref a)])) (fun tq_ kq_ => XS.aloadN X41.here hx rfl (hb hby d6_180) rfl rfl kq_) ?_
  obtain ⟨T43, h43, X43, e43, W43, st43⟩ := putF X41 hx hZ hown (host := "") (Or.inl (hw _ (List.mem_of_getElem? (i := 88) rfl))) Via.refl P42 F19 F24 (Or.inr ⟨(hw _ (List.mem_of_getElem? (i := 89) rfl)), rfl, hnm⟩) (hw _ (List.mem_of_getElem? (i := 6) rfl)) (ty := (.object "java/lang/String")) (by decide) rfl rfl (g := (mkF m 181 #[.val (.ref a), .val (.ref sn), .val (.int mv), .val (.int ttl), .val (.int bs), .val (.ref bl), .val (.int (1 : Int32)), .val (.int ch)] [(.ref sn), (.ref a)])) rfl rfl (hb hby d6_181)
  have N43 := Fr.snoc X43 N41 ga
  have hkS := Nat.le_trans hkS (Keep.of_wr W43).1
  have F44 := F19.same W43
  have F45 := F20.other W43 (Or.inr (slot_ne (Or.inr (hw _ (List.mem_of_getElem? (i := 91) rfl))) (Or.inr (hw _ (List.mem_of_getElem? (i := 89) rfl))) (by decide) (t := .int) (t' := (.object "java/lang/String")) (by decide) (by decide)))
  have F46 := F21.other W43 (Or.inr (slot_ne (Or.inr (hw _ (List.mem_of_getElem? (i := 93) rfl))) (Or.inr (hw _ (List.mem_of_getElem? (i := 89) rfl))) (by decide) (t := .int) (t' := (.object "java/lang/String")) (by decide) (by decide)))
  have F47 := F22.other W43 (Or.inr (slot_ne (Or.inr (hw _ (List.mem_of_getElem? (i := 95) rfl))) (Or.inr (hw _ (List.mem_of_getElem? (i := 89) rfl))) (by decide) (t := .int) (t' := (.object "java/lang/String")) (by decide) (by decide)))
  have F48 := F23.other W43 (Or.inr (slot_ne (Or.inr (hw _ (List.mem_of_getElem? (i := 97) rfl))) (Or.inr (hw _ (List.mem_of_getElem? (i := 89) rfl))) (by decide) (t := (.object "com/example/evenkey/evenkey/model/BloomFilterType")) (t' := (.object "java/lang/String")) (by decide) (by decide)))
  have F49 := F24.wr W43
  have F50 := F25.wr W43
  have F51 := F26.other W43 (Or.inl (ne_exa F25 F24 (by decide)))
  have F52 := F27.other W43 (Or.inl (ne_exa F25 F24 (by decide)))
  have F53 := F28.other W43 nta
  have O54 := O29.wr W43 ga
  have K55 := K30.wr W43 (Or.inl (List.mem_of_getElem? (i := 0) rfl))
  refine own_GW.step (T' := T43) (g' := (mkF m 184 #[.val (.ref a), .val (.ref sn), .val (.int mv), .val (.int ttl), .val (.int bs), .val (.ref bl), .val (.int (1 : Int32)), .val (.int ch)] [])) st43 ?_
  refine own_GW.step (g' := (mkF m 185 #[.val (.ref a), .val (.ref sn), .val (.int mv), .val (.int ttl), .val (.int bs), .val (.ref bl), .val (.int (1 : Int32)), .val (.int ch)] [(.ref a)])) (fun tq_ kq_ => XS.aloadN X43.here hx rfl (hb hby d6_184) rfl rfl kq_) ?_
  refine own_GW.step (g' := (mkF m 186 #[.val (.ref a), .val (.ref sn), .val (.int mv), .val (.int ttl), .val (.int bs), .val (.ref bl), .val (.int (1 : Int32)), .val (.int ch)] [(.int mv), (.ref a)])) (fun tq_ kq_ => XS.iloadN X43.here hx rfl (hb hby d6_185) rfl kq_) ?_
  obtain ⟨T56, h56, X56, e56, W56, st56⟩ := putF X43 hx hZ hown (host := "") (Or.inl (hw _ (List.mem_of_getElem? (i := 90) rfl))) Via.refl e43 F45 F49 (Or.inr ⟨(hw _ (List.mem_of_getElem? (i := 91) rfl)), rfl, hnm⟩) (hw _ (List.mem_of_getElem? (i := 6) rfl)) (ty := .int) (by decide) rfl rfl (g := (mkF m 186 #[.val (.ref a), .val (.ref sn), .val (.int mv), .val (.int ttl), .val (.int bs), .val (.ref bl), .val (.int (1 : Int32)), .val (.int ch)] [(.int mv), (.ref a)])) rfl rfl (hb hby d6_186)
  have N56 := Fr.snoc X56 N43 ga
  have hkS := Nat.le_trans hkS (Keep.of_wr W56).1
  have F57 := F44.other W56 (Or.inr (slot_ne (Or.inr (hw _ (List.mem_of_getElem? (i := 89) rfl))) (Or.inr (hw _ (List.mem_of_getElem? (i := 91) rfl))) (by decide) (t := (.object "java/lang/String")) (t' := .int) (by decide) (by decide)))
  have F58 := F45.same W56
  have F59 := F46.other W56 (Or.inr (slot_ne (Or.inr (hw _ (List.mem_of_getElem? (i := 93) rfl))) (Or.inr (hw _ (List.mem_of_getElem? (i := 91) rfl))) (by decide) (t := .int) (t' := .int) (by decide) (by decide)))
  have F60 := F47.other W56 (Or.inr (slot_ne (Or.inr (hw _ (List.mem_of_getElem? (i := 95) rfl))) (Or.inr (hw _ (List.mem_of_getElem? (i := 91) rfl))) (by decide) (t := .int) (t' := .int) (by decide) (by decide)))
  have F61 := F48.other W56 (Or.inr (slot_ne (Or.inr (hw _ (List.mem_of_getElem? (i := 97) rfl))) (Or.inr (hw _ (List.mem_of_getElem? (i := 91) rfl))) (by decide) (t := (.object "com/example/evenkey/evenkey/model/BloomFilterType")) (t' := .int) (by decide) (by decide)))
  have F62 := F49.wr W56
  have F63 := F50.wr W56
  have F64 := F51.other W56 (Or.inl (ne_exa F50 F49 (by decide)))
  have F65 := F52.other W56 (Or.inl (ne_exa F50 F49 (by decide)))
  have F66 := F53.other W56 nta
  have O67 := O54.wr W56 ga
  have K68 := K55.wr W56 (Or.inl (List.mem_of_getElem? (i := 0) rfl))
  refine own_GW.step (T' := T56) (g' := (mkF m 189 #[.val (.ref a), .val (.ref sn), .val (.int mv), .val (.int ttl), .val (.int bs), .val (.ref bl), .val (.int (1 : Int32)), .val (.int ch)] [])) st56 ?_
  refine own_GW.step (g' := (mkF m 190 #[.val (.ref a), .val (.ref sn), .val (.int mv), .val (.int ttl), .val (.int bs), .val (.ref bl), .val (.int (1 : Int32)), .val (.int ch)] [(.ref a)])) (fun tq_ kq_ => XS.aloadN X56.here hx rfl (hb hby d6_189) rfl rfl kq_) ?_
  refine own_GW.step (g' := (mkF m 191 #[.val (.ref a), .val (.ref sn), .val (.int mv), .val (.int ttl), .val (.int bs), .val (.ref bl), .val (.int (1 : Int32)), .val (.int ch)] [(.int ttl), (.ref a)])) (fun tq_ kq_ => XS.iloadN X56.here hx rfl (hb hby d6_190) rfl kq_) ?_
  obtain ⟨T69, h69, X69, e69, W69, st69⟩ := putF X56 hx hZ hown (host := "") (Or.inl (hw _ (List.mem_of_getElem? (i := 92) rfl))) Via.refl e56 F59 F62 (Or.inr ⟨(hw _ (List.mem_of_getElem? (i := 93) rfl)), rfl, hnm⟩) (hw _ (List.mem_of_getElem? (i := 6) rfl)) (ty := .int) (by decide) rfl rfl (g := (mkF m 191 #[.val (.ref a), .val (.ref sn), .val (.int mv), .val (.int ttl), .val (.int bs), .val (.ref bl), .val (.int (1 : Int32)), .val (.int ch)] [(.int ttl), (.ref a)])) rfl rfl (hb hby d6_191)
  have N69 := Fr.snoc X69 N56 ga
  have hkS := Nat.le_trans hkS (Keep.of_wr W69).1
  have F70 := F57.other W69 (Or.inr (slot_ne (Or.inr (hw _ (List.mem_of_getElem? (i := 89) rfl))) (Or.inr (hw _ (List.mem_of_getElem? (i := 93) rfl))) (by decide) (t := (.object "java/lang/String")) (t' := .int) (by decide) (by decide)))
  have F71 := F58.other W69 (Or.inr (slot_ne (Or.inr (hw _ (List.mem_of_getElem? (i := 91) rfl))) (Or.inr (hw _ (List.mem_of_getElem? (i := 93) rfl))) (by decide) (t := .int) (t' := .int) (by decide) (by decide)))
  have F72 := F59.same W69
  have F73 := F60.other W69 (Or.inr (slot_ne (Or.inr (hw _ (List.mem_of_getElem? (i := 95) rfl))) (Or.inr (hw _ (List.mem_of_getElem? (i := 93) rfl))) (by decide) (t := .int) (t' := .int) (by decide) (by decide)))
  have F74 := F61.other W69 (Or.inr (slot_ne (Or.inr (hw _ (List.mem_of_getElem? (i := 97) rfl))) (Or.inr (hw _ (List.mem_of_getElem? (i := 93) rfl))) (by decide) (t := (.object "com/example/evenkey/evenkey/model/BloomFilterType")) (t' := .int) (by decide) (by decide)))
  have F75 := F62.wr W69
  have F76 := F63.wr W69
  have F77 := F64.other W69 (Or.inl (ne_exa F63 F62 (by decide)))
  have F78 := F65.other W69 (Or.inl (ne_exa F63 F62 (by decide)))
  have F79 := F66.other W69 nta
  have O80 := O67.wr W69 ga
  have K81 := K68.wr W69 (Or.inl (List.mem_of_getElem? (i := 0) rfl))
  refine own_GW.step (T' := T69) (g' := (mkF m 194 #[.val (.ref a), .val (.ref sn), .val (.int mv), .val (.int ttl), .val (.int bs), .val (.ref bl), .val (.int (1 : Int32)), .val (.int ch)] [])) st69 ?_
  refine own_GW.step (g' := (mkF m 195 #[.val (.ref a), .val (.ref sn), .val (.int mv), .val (.int ttl), .val (.int bs), .val (.ref bl), .val (.int (1 : Int32)), .val (.int ch)] [(.ref a)])) (fun tq_ kq_ => XS.aloadN X69.here hx rfl (hb hby d6_194) rfl rfl kq_) ?_
  refine own_GW.step (g' := (mkF m 197 #[.val (.ref a), .val (.ref sn), .val (.int mv), .val (.int ttl), .val (.int bs), .val (.ref bl), .val (.int (1 : Int32)), .val (.int ch)] [(.int bs), (.ref a)])) (fun tq_ kq_ => XS.iload X69.here hx rfl (hb hby d6_195) rfl kq_) ?_
  obtain ⟨T82, h82, X82, e82, W82, st82⟩ := putF X69 hx hZ hown (host := "") (Or.inl (hw _ (List.mem_of_getElem? (i := 94) rfl))) Via.refl e69 F73 F75 (Or.inr ⟨(hw _ (List.mem_of_getElem? (i := 95) rfl)), rfl, hnm⟩) (hw _ (List.mem_of_getElem? (i := 6) rfl)) (ty := .int) (by decide) rfl rfl (g := (mkF m 197 #[.val (.ref a), .val (.ref sn), .val (.int mv), .val (.int ttl), .val (.int bs), .val (.ref bl), .val (.int (1 : Int32)), .val (.int ch)] [(.int bs), (.ref a)])) rfl rfl (hb hby d6_197)
  have N82 := Fr.snoc X82 N69 ga
  have hkS := Nat.le_trans hkS (Keep.of_wr W82).1
  have F83 := F70.other W82 (Or.inr (slot_ne (Or.inr (hw _ (List.mem_of_getElem? (i := 89) rfl))) (Or.inr (hw _ (List.mem_of_getElem? (i := 95) rfl))) (by decide) (t := (.object "java/lang/String")) (t' := .int) (by decide) (by decide)))
  have F84 := F71.other W82 (Or.inr (slot_ne (Or.inr (hw _ (List.mem_of_getElem? (i := 91) rfl))) (Or.inr (hw _ (List.mem_of_getElem? (i := 95) rfl))) (by decide) (t := .int) (t' := .int) (by decide) (by decide)))
  have F85 := F72.other W82 (Or.inr (slot_ne (Or.inr (hw _ (List.mem_of_getElem? (i := 93) rfl))) (Or.inr (hw _ (List.mem_of_getElem? (i := 95) rfl))) (by decide) (t := .int) (t' := .int) (by decide) (by decide)))
  have F86 := F73.same W82
  have F87 := F74.other W82 (Or.inr (slot_ne (Or.inr (hw _ (List.mem_of_getElem? (i := 97) rfl))) (Or.inr (hw _ (List.mem_of_getElem? (i := 95) rfl))) (by decide) (t := (.object "com/example/evenkey/evenkey/model/BloomFilterType")) (t' := .int) (by decide) (by decide)))
  have F88 := F75.wr W82
  have F89 := F76.wr W82
  have F90 := F77.other W82 (Or.inl (ne_exa F76 F75 (by decide)))
  have F91 := F78.other W82 (Or.inl (ne_exa F76 F75 (by decide)))
  have F92 := F79.other W82 nta
  have O93 := O80.wr W82 ga
  have K94 := K81.wr W82 (Or.inl (List.mem_of_getElem? (i := 0) rfl))
  refine own_GW.step (T' := T82) (g' := (mkF m 200 #[.val (.ref a), .val (.ref sn), .val (.int mv), .val (.int ttl), .val (.int bs), .val (.ref bl), .val (.int (1 : Int32)), .val (.int ch)] [])) st82 ?_
  refine own_GW.step (g' := (mkF m 201 #[.val (.ref a), .val (.ref sn), .val (.int mv), .val (.int ttl), .val (.int bs), .val (.ref bl), .val (.int (1 : Int32)), .val (.int ch)] [(.ref a)])) (fun tq_ kq_ => XS.aloadN X82.here hx rfl (hb hby d6_200) rfl rfl kq_) ?_
  refine own_GW.step (g' := (mkF m 203 #[.val (.ref a), .val (.ref sn), .val (.int mv), .val (.int ttl), .val (.int bs), .val (.ref bl), .val (.int (1 : Int32)), .val (.int ch)] [(.ref bl), (.ref a)])) (fun tq_ kq_ => XS.aload X82.here hx rfl (hb hby d6_201) rfl rfl kq_) ?_
  obtain ⟨T95, h95, X95, e95, W95, st95⟩ := putF X82 hx hZ hown (host := "") (Or.inl (hw _ (List.mem_of_getElem? (i := 96) rfl))) Via.refl e82 F87 F88 (Or.inr ⟨(hw _ (List.mem_of_getElem? (i := 97) rfl)), rfl, hnm⟩) (hw _ (List.mem_of_getElem? (i := 6) rfl)) (ty := (.object "com/example/evenkey/evenkey/model/BloomFilterType")) (by decide) rfl rfl (g := (mkF m 203 #[.val (.ref a), .val (.ref sn), .val (.int mv), .val (.int ttl), .val (.int bs), .val (.ref bl), .val (.int (1 : Int32)), .val (.int ch)] [(.ref bl), (.ref a)])) rfl rfl (hb hby d6_203)
  have N95 := Fr.snoc X95 N82 ga
  have hkS := Nat.le_trans hkS (Keep.of_wr W95).1
  have F96 := F83.other W95 (Or.inr (slot_ne (Or.inr (hw _ (List.mem_of_getElem? (i := 89) rfl))) (Or.inr (hw _ (List.mem_of_getElem? (i := 97) rfl))) (by decide) (t := (.object "java/lang/String")) (t' := (.object "com/example/evenkey/evenkey/model/BloomFilterType")) (by decide) (by decide)))
  have F97 := F84.other W95 (Or.inr (slot_ne (Or.inr (hw _ (List.mem_of_getElem? (i := 91) rfl))) (Or.inr (hw _ (List.mem_of_getElem? (i := 97) rfl))) (by decide) (t := .int) (t' := (.object "com/example/evenkey/evenkey/model/BloomFilterType")) (by decide) (by decide)))
  have F98 := F85.other W95 (Or.inr (slot_ne (Or.inr (hw _ (List.mem_of_getElem? (i := 93) rfl))) (Or.inr (hw _ (List.mem_of_getElem? (i := 97) rfl))) (by decide) (t := .int) (t' := (.object "com/example/evenkey/evenkey/model/BloomFilterType")) (by decide) (by decide)))
  have F99 := F86.other W95 (Or.inr (slot_ne (Or.inr (hw _ (List.mem_of_getElem? (i := 95) rfl))) (Or.inr (hw _ (List.mem_of_getElem? (i := 97) rfl))) (by decide) (t := .int) (t' := (.object "com/example/evenkey/evenkey/model/BloomFilterType")) (by decide) (by decide)))
  have F100 := F87.same W95
  have F101 := F88.wr W95
  have F102 := F89.wr W95
  have F103 := F90.other W95 (Or.inl (ne_exa F89 F88 (by decide)))
  have F104 := F91.other W95 (Or.inl (ne_exa F89 F88 (by decide)))
  have F105 := F92.other W95 nta
  have O106 := O93.wr W95 ga
  have K107 := K94.wr W95 (Or.inl (List.mem_of_getElem? (i := 0) rfl))
  refine own_GW.step (T' := T95) (g' := (mkF m 206 #[.val (.ref a), .val (.ref sn), .val (.int mv), .val (.int ttl), .val (.int bs), .val (.ref bl), .val (.int (1 : Int32)), .val (.int ch)] [])) st95 ?_
  exact own_retW X95 hS e95 hkS (v := none) (fun _ => rfl) Bd.notSynchronized ⟨rfl, N95, K107, F101, F98⟩ (by decide) (by decide) (fun fs hr => X95.returnOut hx Bd.returns (hb hby d6_206) hr)
def own_exp (ttl : Int32) (now : Int64) : Int64 := if ttl = (2147483647 : Int32) then (-1 : Int64) else now - (ttl.toInt64 * (1000 : Int64))
theorem d17_0 : decode prog_8_method_8_code 0 = .ok (.aload_n 0, 1) := by decide +kernel
theorem d17_1 : decode prog_8_method_8_code 1 = .ok (.getfield 58, 3) := by decide +kernel
theorem d17_4 : decode prog_8_method_8_code 4 = .ok (.ldc 67, 2) := by decide +kernel
theorem d17_6 : decode prog_8_method_8_code 6 = .ok (.if_icmp .ne 9, 3) := by decide +kernel
theorem d17_9 : decode prog_8_method_8_code 9 = .ok (.ldc2_w 78, 3) := by decide +kernel
theorem d17_12 : decode prog_8_method_8_code 12 = .ok (.goto 14, 3) := by decide +kernel
theorem d17_15 : decode prog_8_method_8_code 15 = .ok (.lload_n 1, 1) := by decide +kernel
theorem d17_16 : decode prog_8_method_8_code 16 = .ok (.aload_n 0, 1) := by decide +kernel
theorem d17_17 : decode prog_8_method_8_code 17 = .ok (.getfield 58, 3) := by decide +kernel
theorem d17_20 : decode prog_8_method_8_code 20 = .ok (.i2l, 1) := by decide +kernel
theorem d17_21 : decode prog_8_method_8_code 21 = .ok (.ldc2_w 80, 3) := by decide +kernel
theorem d17_24 : decode prog_8_method_8_code 24 = .ok (.lmul, 1) := by decide +kernel
theorem d17_25 : decode prog_8_method_8_code 25 = .ok (.lsub, 1) := by decide +kernel
theorem d17_26 : decode prog_8_method_8_code 26 = .ok (.lreturn, 1) := by decide +kernel
theorem ef_expi (m : MethodId) (a : Addr) (now : Int64) : entryFrame m #[(.ref a), (.long now)] 3 = mkF m 0 #[.val (.ref a), .val (.long now), .second] [] := by
  first | (simp [entryFrame, mkF, argsToLocals, Value.category]; done) | rfl
def Q_expi (Z : State) (a : Addr) (now : Int64) (ttl : Int32) (h0 : Heap) (n0 : Nat) (v : Option Value) (h : Heap) (L : List Loc) : Prop := v = some (.long (own_exp ttl now)) ∧ Fr n0 L ∧ h = h0
set_option maxRecDepth 65536 in
set_option maxHeartbeats 40000000 in
theorem rm_expi (l : Launch) (Z : State) (a0 : Array Value) (hw : ∀ d ∈ tables_1, d.before a0 Z = true) (ws : List Jvm.Cond) (a : Addr) (now : Int64) (ttl : Int32) (h0 : Heap) (n0 : Nat) (O0 : Old Z n0 h0) (F1 : Fld Z h0 a "com/example/evenkey/evenkey/model/FamilyDescriptor" "timeToLive" "I" (.int ttl)) :
    MetFree l (⟨"com/example/evenkey/evenkey/model/FamilyDescriptor", "expiredUpTo", "(J)J"⟩ : MethodName) (head1 (Jvm.Cond.code (⟨"com/example/evenkey/evenkey/model/FamilyDescriptor", "expiredUpTo", "(J)J"⟩ : MethodName) prog_8_method_8_code 3 (some .long) :: ws) ({ frames := 0, cells := 0, slots := 0, locals := 0 } : Room)) (fun aq_ Uq_ => aq_ = #[(.ref a), (.long now)] ∧ Z.Warmed39 Uq_.vm ∧ Uq_.heap = h0) (fun _ _ _ _ _ => True) (fun _ Uq_ oq_ Ur_ => ∃ vq_ Lq_, oq_ = .returned vq_ ∧ Q_expi Z a now ttl h0 n0 vq_ Ur_.heap Lq_ ∧ FrameEnd Uq_ oq_ Ur_ Lq_ ({ frames := 0, cells := 0, slots := 0, locals := 0 } : Room).cells ({ frames := 0, cells := 0, slots := 0, locals := 0 } : Room).slots) := by
  refine MetFree.of_bodySF (plainFor_of_name pn_com_2fexample_2fevenkey_2fevenkey_2fmodel_2fFamilyDescriptor) hisR ?_
  intro p e s m args below meth c s₁ Bd hml0 hP hK
  obtain ⟨rfl, hZ, hh⟩ := hP
  have hx := Bd.exec
  have hby := Bd.bytes
  have hml : c.maxLocals = 3 := hml0
  have hown : s.vm.findClass "com/example/evenkey/evenkey/model/FamilyDescriptor" = some m.cls := findClass_of_methodNamed Bd.named
  have hnm := (name_of_methodNamed Bd.named Bd.method).1
  have X0 : Stand p l e ({ frames := 0, cells := 0, slots := 0, locals := 0 } : Room) s m #[(.ref a), (.long now)] below meth c s₁ [] 0 0 := Stand.of_body Bd
  have e0 : s₁.heap = h0 := by rw [← hh, Bd.state]; rfl
  have N0 := Fr.nil n0
  have K0 := Keep.refl h0 []
  refine own_G.start (Q := Q_expi Z a now ttl h0 n0) (ef_expi m a now) ?_
  refine own_G.step (g' := (mkF m 1 #[.val (.ref a), .val (.long now), .second] [(.ref a)])) (fun tq_ kq_ => XS.aloadN X0.here hx rfl (hb hby d17_0) rfl rfl kq_) ?_
  obtain ⟨T1, X1, e1, st1⟩ := getF X0 hx hZ hown (host := "") (Or.inl (hw _ (List.mem_of_getElem? (i := 92) rfl))) Via.refl e0 F1 (g := (mkF m 1 #[.val (.ref a), .val (.long now), .second] [(.ref a)])) rfl rfl (hb hby d17_1)
  refine own_G.step (T' := T1) (g' := (mkF m 4 #[.val (.ref a), .val (.long now), .second] [(.int ttl)])) st1 ?_
  refine own_G.step (g' := (mkF m 6 #[.val (.ref a), .val (.long now), .second] [(.int (2147483647 : Int32)), (.int ttl)])) (fun tq_ kq_ => X1.ldcInt hx hown (mvT hZ (hw _ (List.mem_of_getElem? (i := 103) rfl))) (g := (mkF m 4 #[.val (.ref a), .val (.long now), .second] [(.int ttl)])) rfl (hb hby d17_4) _ kq_) ?_
  rcases Classical.em (ttl = (2147483647 : Int32)) with hc6 | hc6
  · refine own_G.step (g' := (mkF m 9 #[.val (.ref a), .val (.long now), .second] [])) (fun tq_ kq_ => XS.icmpNo X1.here hx rfl (hb hby d17_6) rfl (teq hc6).2 kq_) ?_
    refine own_G.step (g' := (mkF m 12 #[.val (.ref a), .val (.long now), .second] [(.long (-1 : Int64))])) (fun tq_ kq_ => X1.ldc2Long hx hown (mvT hZ (hw _ (List.mem_of_getElem? (i := 108) rfl))) (g := (mkF m 9 #[.val (.ref a), .val (.long now), .second] [])) rfl (hb hby d17_9) _ kq_) ?_
    refine own_G.step (g' := (mkF m 26 #[.val (.ref a), .val (.long now), .second] [(.long (-1 : Int64))])) (fun tq_ kq_ => XS.goto X1.here hx rfl (pc0 := 12) (pc' := 26) rfl (hb hby d17_12) (by decide) (by decide) kq_) ?_
    exact own_ret X1 e1 (v := some (.long (-1 : Int64))) (fun h => by rw [Bd.returns] at h; cases h) Bd.notSynchronized ⟨(by simp [own_exp, hc6]), N0, rfl⟩ (by decide) (by decide) (fun fs hr => (X1.lreturnOut hx Bd.returns (hb hby d17_26) hr))
  · refine own_G.step (g' := (mkF m 15 #[.val (.ref a), .val (.long now), .second] [])) (fun tq_ kq_ => XS.icmpYes X1.here hx rfl (pc0 := 6) (pc' := 15) rfl (hb hby d17_6) rfl (feq hc6).2 (by decide) (by decide) kq_) ?_
    refine own_G.step (g' := (mkF m 16 #[.val (.ref a), .val (.long now), .second] [(.long now)])) (fun tq_ kq_ => XS.lloadN X1.here hx rfl (hb hby d17_15) rfl kq_) ?_
    refine own_G.step (g' := (mkF m 17 #[.val (.ref a), .val (.long now), .second] [(.ref a), (.long now)])) (fun tq_ kq_ => XS.aloadN X1.here hx rfl (hb hby d17_16) rfl rfl kq_) ?_
    obtain ⟨T2, X2, e2, st2⟩ := getF X1 hx hZ hown (host := "") (Or.inl (hw _ (List.mem_of_getElem? (i := 92) rfl))) Via.refl e1 F1 (g := (mkF m 17 #[.val (.ref a), .val (.long now), .second] [(.ref a), (.long now)])) rfl rfl (hb hby d17_17)
    refine own_G.step (T' := T2) (g' := (mkF m 20 #[.val (.ref a), .val (.long now), .second] [(.int ttl), (.long now)])) st2 ?_
    refine own_G.step (g' := (mkF m 21 #[.val (.ref a), .val (.long now), .second] [(.long (ttl.toInt64)), (.long now)])) (fun tq_ kq_ => XS.i2l X2.here hx rfl (hb hby d17_20) rfl kq_) ?_
    refine own_G.step (g' := (mkF m 24 #[.val (.ref a), .val (.long now), .second] [(.long (1000 : Int64)), (.long (ttl.toInt64)), (.long now)])) (fun tq_ kq_ => X2.ldc2Long hx hown (mvT hZ (hw _ (List.mem_of_getElem? (i := 104) rfl))) (g := (mkF m 21 #[.val (.ref a), .val (.long now), .second] [(.long (ttl.toInt64)), (.long now)])) rfl (hb hby d17_21) _ kq_) ?_
    refine own_G.step (g' := (mkF m 25 #[.val (.ref a), .val (.long now), .second] [(.long ((ttl.toInt64) * (1000 : Int64))), (.long now)])) (fun tq_ kq_ => XS.lmul X2.here hx rfl (hb hby d17_24) rfl kq_) ?_
    refine own_G.step (g' := (mkF m 26 #[.val (.ref a), .val (.long now), .second] [(.long (now - ((ttl.toInt64) * (1000 : Int64))))])) (fun tq_ kq_ => XS.lsub X2.here hx rfl (hb hby d17_25) rfl kq_) ?_
    exact own_ret X2 e2 (v := some (.long (now - ((ttl.toInt64) * (1000 : Int64))))) (fun h => by rw [Bd.returns] at h; cases h) Bd.notSynchronized ⟨(by simp [own_exp, hc6]), N0, rfl⟩ (by decide) (by decide) (fun fs hr => (X2.lreturnOut hx Bd.returns (hb hby d17_26) hr))
theorem own_m1 (x : Int32) (h : ¬ (x &&& (2147483647 : Int32)) = (0 : Int32)) : ¬ (x &&& (2147483647 : Int32)) < (1 : Int32) := by
  have h1 := c_mask x (2147483647 : Int32) 31 (by decide) (by decide)
  rw [← Int32.toInt_inj] at h
  simp only [Int32.lt_iff_toInt_lt]
  have e0 : (0 : Int32).toInt = 0 := by decide
  have e1 : (1 : Int32).toInt = 1 := by decide
  omega
theorem own_bk (x : Int32) : ¬ ((1024 : Int32) + ((x &&& (2147483647 : Int32)) % (16776193 : Int32))) < (1024 : Int32) ∧ ¬ (16777216 : Int32) < ((1024 : Int32) + ((x &&& (2147483647 : Int32)) % (16776193 : Int32))) := by
  have h1 := c_mask x (2147483647 : Int32) 31 (by decide) (by decide)
  have h2 := (c_irem (x &&& (2147483647 : Int32)) (16776193 : Int32) 16776193 (by decide)).1 (by omega)
  have h3 := c_iadd (1024 : Int32) ((x &&& (2147483647 : Int32)) % (16776193 : Int32))
  have h4 := rng32 ((1024 : Int32) + ((x &&& (2147483647 : Int32)) % (16776193 : Int32)))
  simp only [Int32.lt_iff_toInt_lt]
  have e0 : (1024 : Int32).toInt = 1024 := by decide
  have e1 : (16777216 : Int32).toInt = 16777216 := by decide
  omega
theorem own_cc (x : Int32) : ¬ (((32 : Int32) + ((x &&& (2147483647 : Int32)) % (95 : Int32))).toUInt32.toUInt16.toUInt32.toInt32) < (32 : Int32) ∧ ¬ (126 : Int32) < (((32 : Int32) + ((x &&& (2147483647 : Int32)) % (95 : Int32))).toUInt32.toUInt16.toUInt32.toInt32) := by
  have h1 := c_mask x (2147483647 : Int32) 31 (by decide) (by decide)
  have h2 := (c_irem (x &&& (2147483647 : Int32)) (95 : Int32) 95 (by decide)).1 (by omega)
  have h3 := c_iadd (32 : Int32) ((x &&& (2147483647 : Int32)) % (95 : Int32))
  have h4 := rng32 ((32 : Int32) + ((x &&& (2147483647 : Int32)) % (95 : Int32)))
  have h5 := c_i2c ((32 : Int32) + ((x &&& (2147483647 : Int32)) % (95 : Int32)))
  simp only [Int32.lt_iff_toInt_lt]
  have e0 : (32 : Int32).toInt = 32 := by decide
  have e1 : (126 : Int32).toInt = 126 := by decide
  omega
theorem own_e1 (now : Int64) : (lcmpW (own_exp (2147483647 : Int32) now) (0 : Int64)) < (0 : Int32) := by
  rw [lw_lt]
  simp [own_exp]
theorem own_e2 {ttl : Int32} (now : Int64) (h : ¬ ttl = (2147483647 : Int32)) : (lcmpW (own_exp ttl now + (ttl.toInt64 * (1000 : Int64))) now) = (0 : Int32) := by
  rw [lw_eq]
  simp [own_exp, h]
theorem pd__28C_29Ljava_2flang_2fString_3b : parseMethodDescriptor "(C)Ljava/lang/String;" = some ⟨[.char], some (.object "java/lang/String")⟩ := by decide +kernel
theorem pd__28Ljava_2flang_2fString_3bIIILcom_2fexample_2fevenkey_2fevenkey_2fmodel_2fBloomFilterType_3b_29V : parseMethodDescriptor "(Ljava/lang/String;IIILcom/example/evenkey/evenkey/model/BloomFilterType;)V" = some ⟨[(.object "java/lang/String"), .int, .int, .int, (.object "com/example/evenkey/evenkey/model/BloomFilterType")], none⟩ := by decide +kernel
theorem pd__28J_29J : parseMethodDescriptor "(J)J" = some ⟨[.long], some .long⟩ := by decide +kernel
theorem pn_com_2fexample_2fevenkey_2fevenkey_2fmodel_2fFamilyDescriptorExpiredUpToPinLaw : plainName "com/example/evenkey/evenkey/model/FamilyDescriptorExpiredUpToPinLaw" = true := by first | (simp [plainName, overriddenIn]; done) | decide +kernel
theorem ef_law (m : MethodId) (i0 : Int32) (i1 : Int32) (i2 : Int64) (i3 : Int32) (i4 : Int32) (i5 : Int32) : entryFrame m #[(.int i0), (.int i1), (.long i2), (.int i3), (.int i4), (.int i5)] maxLocals = mkF m 0 #[.val (.int i0), .val (.int i1), .val (.long i2), .second, .val (.int i3), .val (.int i4), .val (.int i5), .unset, .unset, .unset, .unset, .unset, .unset, .unset, .unset, .unset, .unset, .unset] [] := by
  first | (simp [entryFrame, mkF, argsToLocals, Value.category, maxLocals]; done) | rfl
def Q_law (Z : State) (i0 : Int32) (i1 : Int32) (i2 : Int64) (i3 : Int32) (i4 : Int32) (i5 : Int32) (w0 : Addr) (w1 : Addr) (w2 : Addr) (csz : Int32) (fm : Value) (h0 : Heap) (n0 : Nat) (v : Option Value) (h : Heap) (L : List Loc) : Prop := v = some (.int 1) ∧ Fr n0 L
set_option maxRecDepth 65536 in
set_option maxHeartbeats 40000000 in
theorem rm_law (l : Launch) (Z : State) (a0 : Array Value) (hw : ∀ d ∈ tables_1, d.before a0 Z = true) (ws : List Jvm.Cond) (i0 : Int32) (i1 : Int32) (i2 : Int64) (i3 : Int32) (i4 : Int32) (i5 : Int32) (w0 : Addr) (w1 : Addr) (w2 : Addr) (csz : Int32) (fm : Value) (h0 : Heap) (n0 : Nat) (O0 : Old Z n0 h0) (S_NONE : Sta Z Z.heap "com/example/evenkey/evenkey/model/BloomFilterType" "NONE" "Lcom/example/evenkey/evenkey/model/BloomFilterType;" (.ref w0)) (S_ROW : Sta Z Z.heap "com/example/evenkey/evenkey/model/BloomFilterType" "ROW" "Lcom/example/evenkey/evenkey/model/BloomFilterType;" (.ref w1)) (S_ROWCOL : Sta Z Z.heap "com/example/evenkey/evenkey/model/BloomFilterType" "ROWCOL" "Lcom/example/evenkey/evenkey/model/BloomFilterType;" (.ref w2)) (S_CS : Sta Z Z.heap "java/lang/String" "COMPACT_STRINGS" "Z" (.int csz)) (hcs : ¬ csz = (0 : Int32)) (S_IO : Sta Z Z.heap "jdk/internal/util/Preconditions" "SIOOBE_FORMATTER" "Ljava/util/function/BiFunction;" fm) (hio : fm.isRef = true) :
    MetFree l x (head1 (Jvm.Cond.code x code maxLocals ret :: ws) room_1) (fun aq_ Uq_ => aq_ = #[(.int i0), (.int i1), (.long i2), (.int i3), (.int i4), (.int i5)] ∧ Z.Warmed39 Uq_.vm ∧ Uq_.heap = h0) (fun _ _ _ _ _ => True) (fun _ Uq_ oq_ Ur_ => ∃ vq_ Lq_, oq_ = .returned vq_ ∧ Q_law Z i0 i1 i2 i3 i4 i5 w0 w1 w2 csz fm h0 n0 vq_ Ur_.heap Lq_ ∧ ReturnedEndW Uq_ oq_ Ur_ Lq_ 7 78) := by
  refine MetFree.of_bodySF (plainFor_of_name pn_com_2fexample_2fevenkey_2fevenkey_2fmodel_2fFamilyDescriptorExpiredUpToPinLaw) hisR ?_
  intro p e s m args below meth c s₁ Bd hml0 hP hK
  obtain ⟨rfl, hZ, hh⟩ := hP
  have hx := Bd.exec
  have hby := Bd.bytes
  have hml : c.maxLocals = 18 := hml0
  have hown : s.vm.findClass "com/example/evenkey/evenkey/model/FamilyDescriptorExpiredUpToPinLaw" = some m.cls := findClass_of_methodNamed Bd.named
  have hnm := (name_of_methodNamed Bd.named Bd.method).1
  have X0 : Stand p l e room_1 (s.setVm s.vm) m #[(.int i0), (.int i1), (.long i2), (.int i3), (.int i4), (.int i5)] below meth c s₁ [] 0 0 := Stand.of_body Bd
  have e0 : s₁.heap = h0 := by rw [← hh, Bd.state]; rfl
  have N0 := Fr.nil n0
  have K0 := Keep.refl h0 []
  have hS : s.Since s.vm s.heap.size := (State.WarmedH.refl s).since _
  have hkS : s.heap.size ≤ h0.size := by rw [hh]; exact Nat.le_refl _
  have hZ : Z.Warmed39 (s.setVm s.vm).vm := hZ
  have hown : (s.setVm s.vm).vm.findClass "com/example/evenkey/evenkey/model/FamilyDescriptorExpiredUpToPinLaw" = some m.cls := hown
  refine own_GW.start (Q := Q_law Z i0 i1 i2 i3 i4 i5 w0 w1 w2 csz fm h0 n0) (ef_law m i0 i1 i2 i3 i4 i5) ?_
  refine own_GW.step (g' := (mkF m 1 #[.val (.int i0), .val (.int i1), .val (.long i2), .second, .val (.int i3), .val (.int i4), .val (.int i5), .unset, .unset, .unset, .unset, .unset, .unset, .unset, .unset, .unset, .unset, .unset] [(.int i1)])) (fun tq_ kq_ => XS.iloadN X0.here hx rfl (hb hby at_0) rfl kq_) ?_
  refine own_GW.step (g' := (mkF m 3 #[.val (.int i0), .val (.int i1), .val (.long i2), .second, .val (.int i3), .val (.int i4), .val (.int i5), .unset, .unset, .unset, .unset, .unset, .unset, .unset, .unset, .unset, .unset, .unset] [(.int (2147483647 : Int32)), (.int i1)])) (fun tq_ kq_ => X0.ldcInt hx hown (mvT hZ (hw _ (List.mem_of_getElem? (i := 0) rfl))) (g := (mkF m 1 #[.val (.int i0), .val (.int i1), .val (.long i2), .second, .val (.int i3), .val (.int i4), .val (.int i5), .unset, .unset, .unset, .unset, .unset, .unset, .unset, .unset, .unset, .unset, .unset] [(.int i1)])) rfl (hb hby at_1) _ kq_) ?_
  refine own_GW.step (g' := (mkF m 4 #[.val (.int i0), .val (.int i1), .val (.long i2), .second, .val (.int i3), .val (.int i4), .val (.int i5), .unset, .unset, .unset, .unset, .unset, .unset, .unset, .unset, .unset, .unset, .unset] [(.int (i1 &&& (2147483647 : Int32)))])) (fun tq_ kq_ => XS.iand X0.here hx rfl (hb hby at_3) rfl kq_) ?_
  refine own_GW.step (g' := (mkF m 6 #[.val (.int i0), .val (.int i1), .val (.long i2), .second, .val (.int i3), .val (.int i4), .val (.int i5), .val (.int (i1 &&& (2147483647 : Int32))), .unset, .unset, .unset, .unset, .unset, .unset, .unset, .unset, .unset, .unset] [])) (fun tq_ kq_ => XS.istore X0.here hx rfl (hb hby at_4) rfl (l' := #[.val (.int i0), .val (.int i1), .val (.long i2), .second, .val (.int i3), .val (.int i4), .val (.int i5), .val (.int (i1 &&& (2147483647 : Int32))), .unset, .unset, .unset, .unset, .unset, .unset, .unset, .unset, .unset, .unset]) rfl kq_) ?_
  refine own_join (G := fun g => own_GW p e below s _ _ _ s₁ g) (P := fun ttl : Int32 => ¬ ttl < (1 : Int32)) (fun ttl : Int32 => (mkF m 24 #[.val (.int i0), .val (.int i1), .val (.long i2), .second, .val (.int i3), .val (.int i4), .val (.int i5), .val (.int ttl), .unset, .unset, .unset, .unset, .unset, .unset, .unset, .unset, .unset, .unset] [])) ?_ ?_
  · intro ttl httl
    show own_GW p e below s _ _ _ s₁ (mkF m 24 #[.val (.int i0), .val (.int i1), .val (.long i2), .second, .val (.int i3), .val (.int i4), .val (.int i5), .val (.int ttl), .unset, .unset, .unset, .unset, .unset, .unset, .unset, .unset, .unset, .unset] [])
    refine own_GW.step (g' := (mkF m 26 #[.val (.int i0), .val (.int i1), .val (.long i2), .second, .val (.int i3), .val (.int i4), .val (.int i5), .val (.int ttl), .unset, .unset, .unset, .unset, .unset, .unset, .unset, .unset, .unset, .unset] [(.int i3)])) (fun tq_ kq_ => XS.iload X0.here hx rfl (hb hby at_24) rfl kq_) ?_
    refine own_GW.step (g' := (mkF m 28 #[.val (.int i0), .val (.int i1), .val (.long i2), .second, .val (.int i3), .val (.int i4), .val (.int i5), .val (.int ttl), .unset, .unset, .unset, .unset, .unset, .unset, .unset, .unset, .unset, .unset] [(.int (2147483647 : Int32)), (.int i3)])) (fun tq_ kq_ => X0.ldcInt hx hown (mvT hZ (hw _ (List.mem_of_getElem? (i := 0) rfl))) (g := (mkF m 26 #[.val (.int i0), .val (.int i1), .val (.long i2), .second, .val (.int i3), .val (.int i4), .val (.int i5), .val (.int ttl), .unset, .unset, .unset, .unset, .unset, .unset, .unset, .unset, .unset, .unset] [(.int i3)])) rfl (hb hby at_26) _ kq_) ?_
    refine own_GW.step (g' := (mkF m 29 #[.val (.int i0), .val (.int i1), .val (.long i2), .second, .val (.int i3), .val (.int i4), .val (.int i5), .val (.int ttl), .unset, .unset, .unset, .unset, .unset, .unset, .unset, .unset, .unset, .unset] [(.int (i3 &&& (2147483647 : Int32)))])) (fun tq_ kq_ => XS.iand X0.here hx rfl (hb hby at_28) rfl kq_) ?_
    refine own_GW.step (g' := (mkF m 31 #[.val (.int i0), .val (.int i1), .val (.long i2), .second, .val (.int i3), .val (.int i4), .val (.int i5), .val (.int ttl), .val (.int (i3 &&& (2147483647 : Int32))), .unset, .unset, .unset, .unset, .unset, .unset, .unset, .unset, .unset] [])) (fun tq_ kq_ => XS.istore X0.here hx rfl (hb hby at_29) rfl (l' := #[.val (.int i0), .val (.int i1), .val (.long i2), .second, .val (.int i3), .val (.int i4), .val (.int i5), .val (.int ttl), .val (.int (i3 &&& (2147483647 : Int32))), .unset, .unset, .unset, .unset, .unset, .unset, .unset, .unset, .unset]) rfl kq_) ?_
    refine own_join (G := fun g => own_GW p e below s _ _ _ s₁ g) (P := fun ver : Int32 => ¬ ver < (1 : Int32)) (fun ver : Int32 => (mkF m 39 #[.val (.int i0), .val (.int i1), .val (.long i2), .second, .val (.int i3), .val (.int i4), .val (.int i5), .val (.int ttl), .val (.int ver), .unset, .unset, .unset, .unset, .unset, .unset, .unset, .unset, .unset] [])) ?_ ?_
    · intro ver hver
      show own_GW p e below s _ _ _ s₁ (mkF m 39 #[.val (.int i0), .val (.int i1), .val (.long i2), .second, .val (.int i3), .val (.int i4), .val (.int i5), .val (.int ttl), .val (.int ver), .unset, .unset, .unset, .unset, .unset, .unset, .unset, .unset, .unset] [])
      refine own_GW.step (g' := (mkF m 42 #[.val (.int i0), .val (.int i1), .val (.long i2), .second, .val (.int i3), .val (.int i4), .val (.int i5), .val (.int ttl), .val (.int ver), .unset, .unset, .unset, .unset, .unset, .unset, .unset, .unset, .unset] [(.int (1024 : Int32))])) (fun tq_ kq_ => XS.sipush X0.here hx rfl (hb hby at_39) kq_) ?_
      refine own_GW.step (g' := (mkF m 44 #[.val (.int i0), .val (.int i1), .val (.long i2), .second, .val (.int i3), .val (.int i4), .val (.int i5), .val (.int ttl), .val (.int ver), .unset, .unset, .unset, .unset, .unset, .unset, .unset, .unset, .unset] [(.int i4), (.int (1024 : Int32))])) (fun tq_ kq_ => XS.iload X0.here hx rfl (hb hby at_42) rfl kq_) ?_
      refine own_GW.step (g' := (mkF m 46 #[.val (.int i0), .val (.int i1), .val (.long i2), .second, .val (.int i3), .val (.int i4), .val (.int i5), .val (.int ttl), .val (.int ver), .unset, .unset, .unset, .unset, .unset, .unset, .unset, .unset, .unset] [(.int (2147483647 : Int32)), (.int i4), (.int (1024 : Int32))])) (fun tq_ kq_ => X0.ldcInt hx hown (mvT hZ (hw _ (List.mem_of_getElem? (i := 0) rfl))) (g := (mkF m 44 #[.val (.int i0), .val (.int i1), .val (.long i2), .second, .val (.int i3), .val (.int i4), .val (.int i5), .val (.int ttl), .val (.int ver), .unset, .unset, .unset, .unset, .unset, .unset, .unset, .unset, .unset] [(.int i4), (.int (1024 : Int32))])) rfl (hb hby at_44) _ kq_) ?_
      refine own_GW.step (g' := (mkF m 47 #[.val (.int i0), .val (.int i1), .val (.long i2), .second, .val (.int i3), .val (.int i4), .val (.int i5), .val (.int ttl), .val (.int ver), .unset, .unset, .unset, .unset, .unset, .unset, .unset, .unset, .unset] [(.int (i4 &&& (2147483647 : Int32))), (.int (1024 : Int32))])) (fun tq_ kq_ => XS.iand X0.here hx rfl (hb hby at_46) rfl kq_) ?_
      refine own_GW.step (g' := (mkF m 49 #[.val (.int i0), .val (.int i1), .val (.long i2), .second, .val (.int i3), .val (.int i4), .val (.int i5), .val (.int ttl), .val (.int ver), .unset, .unset, .unset, .unset, .unset, .unset, .unset, .unset, .unset] [(.int (16776193 : Int32)), (.int (i4 &&& (2147483647 : Int32))), (.int (1024 : Int32))])) (fun tq_ kq_ => X0.ldcInt hx hown (mvT hZ (hw _ (List.mem_of_getElem? (i := 1) rfl))) (g := (mkF m 47 #[.val (.int i0), .val (.int i1), .val (.long i2), .second, .val (.int i3), .val (.int i4), .val (.int i5), .val (.int ttl), .val (.int ver), .unset, .unset, .unset, .unset, .unset, .unset, .unset, .unset, .unset] [(.int (i4 &&& (2147483647 : Int32))), (.int (1024 : Int32))])) rfl (hb hby at_47) _ kq_) ?_
      refine own_GW.step (g' := (mkF m 50 #[.val (.int i0), .val (.int i1), .val (.long i2), .second, .val (.int i3), .val (.int i4), .val (.int i5), .val (.int ttl), .val (.int ver), .unset, .unset, .unset, .unset, .unset, .unset, .unset, .unset, .unset] [(.int ((i4 &&& (2147483647 : Int32)) % (16776193 : Int32))), (.int (1024 : Int32))])) (fun tq_ kq_ => iremM (g := (mkF m 49 #[.val (.int i0), .val (.int i1), .val (.long i2), .second, .val (.int i3), .val (.int i4), .val (.int i5), .val (.int ttl), .val (.int ver), .unset, .unset, .unset, .unset, .unset, .unset, .unset, .unset, .unset] [(.int (16776193 : Int32)), (.int (i4 &&& (2147483647 : Int32))), (.int (1024 : Int32))])) X0 hx rfl (hb hby at_49) rfl (by decide) kq_) ?_
      refine own_GW.step (g' := (mkF m 51 #[.val (.int i0), .val (.int i1), .val (.long i2), .second, .val (.int i3), .val (.int i4), .val (.int i5), .val (.int ttl), .val (.int ver), .unset, .unset, .unset, .unset, .unset, .unset, .unset, .unset, .unset] [(.int ((1024 : Int32) + ((i4 &&& (2147483647 : Int32)) % (16776193 : Int32))))])) (fun tq_ kq_ => XS.iadd X0.here hx rfl (hb hby at_50) rfl kq_) ?_
      refine own_GW.step (g' := (mkF m 53 #[.val (.int i0), .val (.int i1), .val (.long i2), .second, .val (.int i3), .val (.int i4), .val (.int i5), .val (.int ttl), .val (.int ver), .val (.int ((1024 : Int32) + ((i4 &&& (2147483647 : Int32)) % (16776193 : Int32)))), .unset, .unset, .unset, .unset, .unset, .unset, .unset, .unset] [])) (fun tq_ kq_ => XS.istore X0.here hx rfl (hb hby at_51) rfl (l' := #[.val (.int i0), .val (.int i1), .val (.long i2), .second, .val (.int i3), .val (.int i4), .val (.int i5), .val (.int ttl), .val (.int ver), .val (.int ((1024 : Int32) + ((i4 &&& (2147483647 : Int32)) % (16776193 : Int32)))), .unset, .unset, .unset, .unset, .unset, .unset, .unset, .unset]) rfl kq_) ?_
      refine own_GW.step (g' := (mkF m 55 #[.val (.int i0), .val (.int i1), .val (.long i2), .second, .val (.int i3), .val (.int i4), .val (.int i5), .val (.int ttl), .val (.int ver), .val (.int ((1024 : Int32) + ((i4 &&& (2147483647 : Int32)) % (16776193 : Int32)))), .unset, .unset, .unset, .unset, .unset, .unset, .unset, .unset] [(.int (32 : Int32))])) (fun tq_ kq_ => XS.bipush X0.here hx rfl (hb hby at_53) kq_) ?_
      refine own_GW.step (g' := (mkF m 57 #[.val (.int i0), .val (.int i1), .val (.long i2), .second, .val (.int i3), .val (.int i4), .val (.int i5), .val (.int ttl), .val (.int ver), .val (.int ((1024 : Int32) + ((i4 &&& (2147483647 : Int32)) % (16776193 : Int32)))), .unset, .unset, .unset, .unset, .unset, .unset, .unset, .unset] [(.int i5), (.int (32 : Int32))])) (fun tq_ kq_ => XS.iload X0.here hx rfl (hb hby at_55) rfl kq_) ?_
      refine own_GW.step (g' := (mkF m 59 #[.val (.int i0), .val (.int i1), .val (.long i2), .second, .val (.int i3), .val (.int i4), .val (.int i5), .val (.int ttl), .val (.int ver), .val (.int ((1024 : Int32) + ((i4 &&& (2147483647 : Int32)) % (16776193 : Int32)))), .unset, .unset, .unset, .unset, .unset, .unset, .unset, .unset] [(.int (2147483647 : Int32)), (.int i5), (.int (32 : Int32))])) (fun tq_ kq_ => X0.ldcInt hx hown (mvT hZ (hw _ (List.mem_of_getElem? (i := 0) rfl))) (g := (mkF m 57 #[.val (.int i0), .val (.int i1), .val (.long i2), .second, .val (.int i3), .val (.int i4), .val (.int i5), .val (.int ttl), .val (.int ver), .val (.int ((1024 : Int32) + ((i4 &&& (2147483647 : Int32)) % (16776193 : Int32)))), .unset, .unset, .unset, .unset, .unset, .unset, .unset, .unset] [(.int i5), (.int (32 : Int32))])) rfl (hb hby at_57) _ kq_) ?_
      refine own_GW.step (g' := (mkF m 60 #[.val (.int i0), .val (.int i1), .val (.long i2), .second, .val (.int i3), .val (.int i4), .val (.int i5), .val (.int ttl), .val (.int ver), .val (.int ((1024 : Int32) + ((i4 &&& (2147483647 : Int32)) % (16776193 : Int32)))), .unset, .unset, .unset, .unset, .unset, .unset, .unset, .unset] [(.int (i5 &&& (2147483647 : Int32))), (.int (32 : Int32))])) (fun tq_ kq_ => XS.iand X0.here hx rfl (hb hby at_59) rfl kq_) ?_
      refine own_GW.step (g' := (mkF m 62 #[.val (.int i0), .val (.int i1), .val (.long i2), .second, .val (.int i3), .val (.int i4), .val (.int i5), .val (.int ttl), .val (.int ver), .val (.int ((1024 : Int32) + ((i4 &&& (2147483647 : Int32)) % (16776193 : Int32)))), .unset, .unset, .unset, .unset, .unset, .unset, .unset, .unset] [(.int (95 : Int32)), (.int (i5 &&& (2147483647 : Int32))), (.int (32 : Int32))])) (fun tq_ kq_ => XS.bipush X0.here hx rfl (hb hby at_60) kq_) ?_
      refine own_GW.step (g' := (mkF m 63 #[.val (.int i0), .val (.int i1), .val (.long i2), .second, .val (.int i3), .val (.int i4), .val (.int i5), .val (.int ttl), .val (.int ver), .val (.int ((1024 : Int32) + ((i4 &&& (2147483647 : Int32)) % (16776193 : Int32)))), .unset, .unset, .unset, .unset, .unset, .unset, .unset, .unset] [(.int ((i5 &&& (2147483647 : Int32)) % (95 : Int32))), (.int (32 : Int32))])) (fun tq_ kq_ => iremM (g := (mkF m 62 #[.val (.int i0), .val (.int i1), .val (.long i2), .second, .val (.int i3), .val (.int i4), .val (.int i5), .val (.int ttl), .val (.int ver), .val (.int ((1024 : Int32) + ((i4 &&& (2147483647 : Int32)) % (16776193 : Int32)))), .unset, .unset, .unset, .unset, .unset, .unset, .unset, .unset] [(.int (95 : Int32)), (.int (i5 &&& (2147483647 : Int32))), (.int (32 : Int32))])) X0 hx rfl (hb hby at_62) rfl (by decide) kq_) ?_
      refine own_GW.step (g' := (mkF m 64 #[.val (.int i0), .val (.int i1), .val (.long i2), .second, .val (.int i3), .val (.int i4), .val (.int i5), .val (.int ttl), .val (.int ver), .val (.int ((1024 : Int32) + ((i4 &&& (2147483647 : Int32)) % (16776193 : Int32)))), .unset, .unset, .unset, .unset, .unset, .unset, .unset, .unset] [(.int ((32 : Int32) + ((i5 &&& (2147483647 : Int32)) % (95 : Int32))))])) (fun tq_ kq_ => XS.iadd X0.here hx rfl (hb hby at_63) rfl kq_) ?_
      refine own_GW.step (g' := (mkF m 65 #[.val (.int i0), .val (.int i1), .val (.long i2), .second, .val (.int i3), .val (.int i4), .val (.int i5), .val (.int ttl), .val (.int ver), .val (.int ((1024 : Int32) + ((i4 &&& (2147483647 : Int32)) % (16776193 : Int32)))), .unset, .unset, .unset, .unset, .unset, .unset, .unset, .unset] [(.int (((32 : Int32) + ((i5 &&& (2147483647 : Int32)) % (95 : Int32))).toUInt32.toUInt16.toUInt32.toInt32))])) (fun tq_ kq_ => XS.i2c X0.here hx rfl (hb hby at_64) rfl kq_) ?_
      refine own_GW.step (g' := (mkF m 67 #[.val (.int i0), .val (.int i1), .val (.long i2), .second, .val (.int i3), .val (.int i4), .val (.int i5), .val (.int ttl), .val (.int ver), .val (.int ((1024 : Int32) + ((i4 &&& (2147483647 : Int32)) % (16776193 : Int32)))), .val (.int (((32 : Int32) + ((i5 &&& (2147483647 : Int32)) % (95 : Int32))).toUInt32.toUInt16.toUInt32.toInt32)), .unset, .unset, .unset, .unset, .unset, .unset, .unset] [])) (fun tq_ kq_ => XS.istore X0.here hx rfl (hb hby at_65) rfl (l' := #[.val (.int i0), .val (.int i1), .val (.long i2), .second, .val (.int i3), .val (.int i4), .val (.int i5), .val (.int ttl), .val (.int ver), .val (.int ((1024 : Int32) + ((i4 &&& (2147483647 : Int32)) % (16776193 : Int32)))), .val (.int (((32 : Int32) + ((i5 &&& (2147483647 : Int32)) % (95 : Int32))).toUInt32.toUInt16.toUInt32.toInt32)), .unset, .unset, .unset, .unset, .unset, .unset, .unset]) rfl kq_) ?_
      refine own_join (G := fun g => own_GW p e below s _ _ _ s₁ g) (P := fun ch : Int32 => ¬ ch < (32 : Int32) ∧ ¬ (126 : Int32) < ch ∧ ¬ ch = (58 : Int32)) (fun ch : Int32 => (mkF m 78 #[.val (.int i0), .val (.int i1), .val (.long i2), .second, .val (.int i3), .val (.int i4), .val (.int i5), .val (.int ttl), .val (.int ver), .val (.int ((1024 : Int32) + ((i4 &&& (2147483647 : Int32)) % (16776193 : Int32)))), .val (.int ch), .unset, .unset, .unset, .unset, .unset, .unset, .unset] [])) ?_ ?_
      · intro ch hch
        show own_GW p e below s _ _ _ s₁ (mkF m 78 #[.val (.int i0), .val (.int i1), .val (.long i2), .second, .val (.int i3), .val (.int i4), .val (.int i5), .val (.int ttl), .val (.int ver), .val (.int ((1024 : Int32) + ((i4 &&& (2147483647 : Int32)) % (16776193 : Int32)))), .val (.int ch), .unset, .unset, .unset, .unset, .unset, .unset, .unset] [])
        refine own_GW.step (g' := (mkF m 79 #[.val (.int i0), .val (.int i1), .val (.long i2), .second, .val (.int i3), .val (.int i4), .val (.int i5), .val (.int ttl), .val (.int ver), .val (.int ((1024 : Int32) + ((i4 &&& (2147483647 : Int32)) % (16776193 : Int32)))), .val (.int ch), .unset, .unset, .unset, .unset, .unset, .unset, .unset] [(.int i0)])) (fun tq_ kq_ => XS.iloadN X0.here hx rfl (hb hby at_78) rfl kq_) ?_
        refine own_GW.step (g' := (mkF m 80 #[.val (.int i0), .val (.int i1), .val (.long i2), .second, .val (.int i3), .val (.int i4), .val (.int i5), .val (.int ttl), .val (.int ver), .val (.int ((1024 : Int32) + ((i4 &&& (2147483647 : Int32)) % (16776193 : Int32)))), .val (.int ch), .unset, .unset, .unset, .unset, .unset, .unset, .unset] [(.int (1 : Int32)), (.int i0)])) (fun tq_ kq_ => XS.iconst X0.here hx rfl (hb hby at_79) kq_) ?_
        refine own_GW.step (g' := (mkF m 81 #[.val (.int i0), .val (.int i1), .val (.long i2), .second, .val (.int i3), .val (.int i4), .val (.int i5), .val (.int ttl), .val (.int ver), .val (.int ((1024 : Int32) + ((i4 &&& (2147483647 : Int32)) % (16776193 : Int32)))), .val (.int ch), .unset, .unset, .unset, .unset, .unset, .unset, .unset] [(.int ((i0.toUInt32 >>> ((1 : Int32) &&& 31).toUInt32).toInt32))])) (fun tq_ kq_ => XS.iushr X0.here hx rfl (hb hby at_80) rfl kq_) ?_
        refine own_GW.step (g' := (mkF m 83 #[.val (.int i0), .val (.int i1), .val (.long i2), .second, .val (.int i3), .val (.int i4), .val (.int i5), .val (.int ttl), .val (.int ver), .val (.int ((1024 : Int32) + ((i4 &&& (2147483647 : Int32)) % (16776193 : Int32)))), .val (.int ch), .unset, .unset, .unset, .unset, .unset, .unset, .unset] [(.int (2147483647 : Int32)), (.int ((i0.toUInt32 >>> ((1 : Int32) &&& 31).toUInt32).toInt32))])) (fun tq_ kq_ => X0.ldcInt hx hown (mvT hZ (hw _ (List.mem_of_getElem? (i := 0) rfl))) (g := (mkF m 81 #[.val (.int i0), .val (.int i1), .val (.long i2), .second, .val (.int i3), .val (.int i4), .val (.int i5), .val (.int ttl), .val (.int ver), .val (.int ((1024 : Int32) + ((i4 &&& (2147483647 : Int32)) % (16776193 : Int32)))), .val (.int ch), .unset, .unset, .unset, .unset, .unset, .unset, .unset] [(.int ((i0.toUInt32 >>> ((1 : Int32) &&& 31).toUInt32).toInt32))])) rfl (hb hby at_81) _ kq_) ?_
        refine own_GW.step (g' := (mkF m 84 #[.val (.int i0), .val (.int i1), .val (.long i2), .second, .val (.int i3), .val (.int i4), .val (.int i5), .val (.int ttl), .val (.int ver), .val (.int ((1024 : Int32) + ((i4 &&& (2147483647 : Int32)) % (16776193 : Int32)))), .val (.int ch), .unset, .unset, .unset, .unset, .unset, .unset, .unset] [(.int (((i0.toUInt32 >>> ((1 : Int32) &&& 31).toUInt32).toInt32) &&& (2147483647 : Int32)))])) (fun tq_ kq_ => XS.iand X0.here hx rfl (hb hby at_83) rfl kq_) ?_
        refine own_GW.step (g' := (mkF m 85 #[.val (.int i0), .val (.int i1), .val (.long i2), .second, .val (.int i3), .val (.int i4), .val (.int i5), .val (.int ttl), .val (.int ver), .val (.int ((1024 : Int32) + ((i4 &&& (2147483647 : Int32)) % (16776193 : Int32)))), .val (.int ch), .unset, .unset, .unset, .unset, .unset, .unset, .unset] [(.int (3 : Int32)), (.int (((i0.toUInt32 >>> ((1 : Int32) &&& 31).toUInt32).toInt32) &&& (2147483647 : Int32)))])) (fun tq_ kq_ => XS.iconst X0.here hx rfl (hb hby at_84) kq_) ?_
        refine own_GW.step (g' := (mkF m 86 #[.val (.int i0), .val (.int i1), .val (.long i2), .second, .val (.int i3), .val (.int i4), .val (.int i5), .val (.int ttl), .val (.int ver), .val (.int ((1024 : Int32) + ((i4 &&& (2147483647 : Int32)) % (16776193 : Int32)))), .val (.int ch), .unset, .unset, .unset, .unset, .unset, .unset, .unset] [(.int ((((i0.toUInt32 >>> ((1 : Int32) &&& 31).toUInt32).toInt32) &&& (2147483647 : Int32)) % (3 : Int32)))])) (fun tq_ kq_ => iremM (g := (mkF m 85 #[.val (.int i0), .val (.int i1), .val (.long i2), .second, .val (.int i3), .val (.int i4), .val (.int i5), .val (.int ttl), .val (.int ver), .val (.int ((1024 : Int32) + ((i4 &&& (2147483647 : Int32)) % (16776193 : Int32)))), .val (.int ch), .unset, .unset, .unset, .unset, .unset, .unset, .unset] [(.int (3 : Int32)), (.int (((i0.toUInt32 >>> ((1 : Int32) &&& 31).toUInt32).toInt32) &&& (2147483647 : Int32)))])) X0 hx rfl (hb hby at_85) rfl (by decide) kq_) ?_
        refine own_GW.step (g' := (mkF m 88 #[.val (.int i0), .val (.int i1), .val (.long i2), .second, .val (.int i3), .val (.int i4), .val (.int i5), .val (.int ttl), .val (.int ver), .val (.int ((1024 : Int32) + ((i4 &&& (2147483647 : Int32)) % (16776193 : Int32)))), .val (.int ch), .val (.int ((((i0.toUInt32 >>> ((1 : Int32) &&& 31).toUInt32).toInt32) &&& (2147483647 : Int32)) % (3 : Int32))), .unset, .unset, .unset, .unset, .unset, .unset] [])) (fun tq_ kq_ => XS.istore X0.here hx rfl (hb hby at_86) rfl (l' := #[.val (.int i0), .val (.int i1), .val (.long i2), .second, .val (.int i3), .val (.int i4), .val (.int i5), .val (.int ttl), .val (.int ver), .val (.int ((1024 : Int32) + ((i4 &&& (2147483647 : Int32)) % (16776193 : Int32)))), .val (.int ch), .val (.int ((((i0.toUInt32 >>> ((1 : Int32) &&& 31).toUInt32).toInt32) &&& (2147483647 : Int32)) % (3 : Int32))), .unset, .unset, .unset, .unset, .unset, .unset]) rfl kq_) ?_
        obtain ⟨k, hk⟩ : ∃ z, z = ((((i0.toUInt32 >>> ((1 : Int32) &&& 31).toUInt32).toInt32) &&& (2147483647 : Int32)) % (3 : Int32)) := ⟨_, rfl⟩
        refine own_GW.cast (g' := (mkF m 88 #[.val (.int i0), .val (.int i1), .val (.long i2), .second, .val (.int i3), .val (.int i4), .val (.int i5), .val (.int ttl), .val (.int ver), .val (.int ((1024 : Int32) + ((i4 &&& (2147483647 : Int32)) % (16776193 : Int32)))), .val (.int ch), .val (.int k), .unset, .unset, .unset, .unset, .unset, .unset] [])) (by rw [hk]) ?_
        have hk3 := own_three ((i0.toUInt32 >>> ((1 : Int32) &&& 31).toUInt32).toInt32)
        rw [← hk] at hk3
        refine own_GW.step (g' := (mkF m 90 #[.val (.int i0), .val (.int i1), .val (.long i2), .second, .val (.int i3), .val (.int i4), .val (.int i5), .val (.int ttl), .val (.int ver), .val (.int ((1024 : Int32) + ((i4 &&& (2147483647 : Int32)) % (16776193 : Int32)))), .val (.int ch), .val (.int k), .unset, .unset, .unset, .unset, .unset, .unset] [(.int k)])) (fun tq_ kq_ => XS.iload X0.here hx rfl (hb hby at_88) rfl kq_) ?_
        rcases Classical.em (k = (0 : Int32)) with hc90 | hc90
        · refine own_GW.step (g' := (mkF m 93 #[.val (.int i0), .val (.int i1), .val (.long i2), .second, .val (.int i3), .val (.int i4), .val (.int i5), .val (.int ttl), .val (.int ver), .val (.int ((1024 : Int32) + ((i4 &&& (2147483647 : Int32)) % (16776193 : Int32)))), .val (.int ch), .val (.int k), .unset, .unset, .unset, .unset, .unset, .unset] [])) (fun tq_ kq_ => XS.ifNo X0.here hx rfl (hb hby at_90) rfl ((if0 _ _).trans (teq hc90).2) kq_) ?_
          obtain ⟨T4, X4, e4, st4⟩ := getS2 X0 hx hZ hown (host := "") (Or.inl (hw _ (List.mem_of_getElem? (i := 2) rfl))) Via.refl e0 (Sta.ext O0.2 S_NONE) (g := (mkF m 93 #[.val (.int i0), .val (.int i1), .val (.long i2), .second, .val (.int i3), .val (.int i4), .val (.int i5), .val (.int ttl), .val (.int ver), .val (.int ((1024 : Int32) + ((i4 &&& (2147483647 : Int32)) % (16776193 : Int32)))), .val (.int ch), .val (.int k), .unset, .unset, .unset, .unset, .unset, .unset] [])) rfl (hb hby at_93)
          refine own_GW.step (T' := T4) (g' := (mkF m 96 #[.val (.int i0), .val (.int i1), .val (.long i2), .second, .val (.int i3), .val (.int i4), .val (.int i5), .val (.int ttl), .val (.int ver), .val (.int ((1024 : Int32) + ((i4 &&& (2147483647 : Int32)) % (16776193 : Int32)))), .val (.int ch), .val (.int k), .unset, .unset, .unset, .unset, .unset, .unset] [(.ref w0)])) st4 ?_
          refine own_GW.step (g' := (mkF m 114 #[.val (.int i0), .val (.int i1), .val (.long i2), .second, .val (.int i3), .val (.int i4), .val (.int i5), .val (.int ttl), .val (.int ver), .val (.int ((1024 : Int32) + ((i4 &&& (2147483647 : Int32)) % (16776193 : Int32)))), .val (.int ch), .val (.int k), .unset, .unset, .unset, .unset, .unset, .unset] [(.ref w0)])) (fun tq_ kq_ => XS.goto X4.here hx rfl (pc0 := 96) (pc' := 114) rfl (hb hby at_96) (by decide) (by decide) kq_) ?_
          refine own_GW.step (g' := (mkF m 116 #[.val (.int i0), .val (.int i1), .val (.long i2), .second, .val (.int i3), .val (.int i4), .val (.int i5), .val (.int ttl), .val (.int ver), .val (.int ((1024 : Int32) + ((i4 &&& (2147483647 : Int32)) % (16776193 : Int32)))), .val (.int ch), .val (.int k), .val (.ref w0), .unset, .unset, .unset, .unset, .unset] [])) (fun tq_ kq_ => XS.astore X4.here hx rfl (hb hby at_114) rfl rfl (l' := #[.val (.int i0), .val (.int i1), .val (.long i2), .second, .val (.int i3), .val (.int i4), .val (.int i5), .val (.int ttl), .val (.int ver), .val (.int ((1024 : Int32) + ((i4 &&& (2147483647 : Int32)) % (16776193 : Int32)))), .val (.int ch), .val (.int k), .val (.ref w0), .unset, .unset, .unset, .unset, .unset]) rfl kq_) ?_
          obtain ⟨T5, h5, X5, e5, E5, A5, D5, -, st5⟩ := newO X4 hx hZ hown (hw _ (List.mem_of_getElem? (i := 5) rfl)) (hw _ (List.mem_of_getElem? (i := 6) rfl)) (hw _ (List.mem_of_getElem? (i := 7) rfl)) e4 (g := (mkF m 116 #[.val (.int i0), .val (.int i1), .val (.long i2), .second, .val (.int i3), .val (.int i4), .val (.int i5), .val (.int ttl), .val (.int ver), .val (.int ((1024 : Int32) + ((i4 &&& (2147483647 : Int32)) % (16776193 : Int32)))), .val (.int ch), .val (.int k), .val (.ref w0), .unset, .unset, .unset, .unset, .unset] [])) rfl (hb hby at_116) (by decide) (by decide)
          obtain ⟨b5, g5⟩ : ∃ z, z = h0.size := ⟨_, rfl⟩
          rw [← g5] at A5 D5 st5
          have g6 : n0 ≤ b5 := Nat.le_trans O0.le (Nat.le_of_eq g5.symm)
          have z7 : h0.size ≤ b5 := Nat.le_trans K0.1 (Nat.le_of_eq g5.symm)
          have hkS := Nat.le_trans hkS E5.1
          have O8 := O0.ext E5
          have K9 := K0.ext E5
          have F10 : Fld Z h5 b5 "com/example/evenkey/evenkey/model/FamilyDescriptor" "name" "Ljava/lang/String;" .null := D5 (Or.inr (hw _ (List.mem_of_getElem? (i := 89) rfl))) (ty := (.object "java/lang/String")) (by decide)
          have F11 : Fld Z h5 b5 "com/example/evenkey/evenkey/model/FamilyDescriptor" "maxVersions" "I" (.int (0 : Int32)) := D5 (Or.inr (hw _ (List.mem_of_getElem? (i := 91) rfl))) (ty := .int) (by decide)
          have F12 : Fld Z h5 b5 "com/example/evenkey/evenkey/model/FamilyDescriptor" "timeToLive" "I" (.int (0 : Int32)) := D5 (Or.inr (hw _ (List.mem_of_getElem? (i := 93) rfl))) (ty := .int) (by decide)
          have F13 : Fld Z h5 b5 "com/example/evenkey/evenkey/model/FamilyDescriptor" "blockSize" "I" (.int (0 : Int32)) := D5 (Or.inr (hw _ (List.mem_of_getElem? (i := 95) rfl))) (ty := .int) (by decide)
          have F14 : Fld Z h5 b5 "com/example/evenkey/evenkey/model/FamilyDescriptor" "bloomFilter" "Lcom/example/evenkey/evenkey/model/BloomFilterType;" .null := D5 (Or.inr (hw _ (List.mem_of_getElem? (i := 97) rfl))) (ty := (.object "com/example/evenkey/evenkey/model/BloomFilterType")) (by decide)
          refine own_GW.step (T' := T5) (g' := (mkF m 119 #[.val (.int i0), .val (.int i1), .val (.long i2), .second, .val (.int i3), .val (.int i4), .val (.int i5), .val (.int ttl), .val (.int ver), .val (.int ((1024 : Int32) + ((i4 &&& (2147483647 : Int32)) % (16776193 : Int32)))), .val (.int ch), .val (.int k), .val (.ref w0), .unset, .unset, .unset, .unset, .unset] [(.ref b5)])) st5 ?_
          refine own_GW.step (g' := (mkF m 120 #[.val (.int i0), .val (.int i1), .val (.long i2), .second, .val (.int i3), .val (.int i4), .val (.int i5), .val (.int ttl), .val (.int ver), .val (.int ((1024 : Int32) + ((i4 &&& (2147483647 : Int32)) % (16776193 : Int32)))), .val (.int ch), .val (.int k), .val (.ref w0), .unset, .unset, .unset, .unset, .unset] [(.ref b5), (.ref b5)])) (fun tq_ kq_ => XS.dup X5.here hx rfl (hb hby at_119) rfl rfl kq_) ?_
          refine own_GW.step (g' := (mkF m 122 #[.val (.int i0), .val (.int i1), .val (.long i2), .second, .val (.int i3), .val (.int i4), .val (.int i5), .val (.int ttl), .val (.int ver), .val (.int ((1024 : Int32) + ((i4 &&& (2147483647 : Int32)) % (16776193 : Int32)))), .val (.int ch), .val (.int k), .val (.ref w0), .unset, .unset, .unset, .unset, .unset] [(.int ch), (.ref b5), (.ref b5)])) (fun tq_ kq_ => XS.iload X5.here hx rfl (hb hby at_120) rfl kq_) ?_
          obtain ⟨_, _, ⟨T15, L15, k15, n15⟩, -, X15, ⟨Lc15, hQ15, l15, y15, z15⟩, st15⟩ := Jvm.LawKit.callS X5 hx (y := (⟨"java/lang/String", "valueOf", "(C)Ljava/lang/String;"⟩ : MethodName)) hown (mvT hZ (hw _ (List.mem_of_getElem? (i := 8) rfl))) (mvT hZ (hw _ (List.mem_of_getElem? (i := 9) rfl))) (mvT hZ (hw _ (List.mem_of_getElem? (i := 10) rfl))) (mvT hZ (hw _ (List.mem_of_getElem? (i := 11) rfl))) (by decide) (backOf (W := 2) (rm_vofc l Z a0 hw [] ch csz h5 n0 O8 S_CS hcs (own_c255 hch.2.1)) hZ (hw _ (List.mem_of_getElem? (i := 11) rfl)) (hw _ (List.mem_of_getElem? (i := 10) rfl)) (by decide) (by decide)) (g := (mkF m 122 #[.val (.int i0), .val (.int i1), .val (.long i2), .second, .val (.int i3), .val (.int i4), .val (.int i5), .val (.int ttl), .val (.int ver), .val (.int ((1024 : Int32) + ((i4 &&& (2147483647 : Int32)) % (16776193 : Int32)))), .val (.int ch), .val (.int k), .val (.ref w0), .unset, .unset, .unset, .unset, .unset] [(.int ch), (.ref b5), (.ref b5)])) rfl (by rw [hml]; rfl) (argsL := [(.int ch)]) (rest := [(.ref b5), (.ref b5)]) (lenOf pd__28C_29Ljava_2flang_2fString_3b rfl) rfl (by show 2 * 0 + _ ≤ _; exact Nat.le_of_eq rfl) (hb hby at_122) (fun _ _ => ⟨rfl, e5, (by decide : 1 + 2 ≤ _), (by decide : 5 + 5 ≤ _)⟩)
          dsimp only [Pt.U, Pt.locs, Pt.cells, Pt.slots] at X15 l15 y15 z15 st15 hQ15
          subst l15 y15 z15
          obtain ⟨b16, b17, x18, rfl, Nq15, P19, P20, P21, P22, P23, P24, P25⟩ := hQ15
          have N15 := Fr.app N0 Nq15
          have ne26 : b5 ≠ b16 := Nat.ne_of_lt (Nat.lt_of_lt_of_le A5.lt P20)
          have g27 : n0 ≤ b16 := Nat.le_trans O8.le P20
          have z28 : h0.size ≤ b16 := Nat.le_trans K9.1 P20
          have ne29 : b5 ≠ b17 := Nat.ne_of_lt (Nat.lt_of_lt_of_le A5.lt P21)
          have g30 : n0 ≤ b17 := Nat.le_trans O8.le P21
          have z31 : h0.size ≤ b17 := Nat.le_trans K9.1 P21
          have hkS := Nat.le_trans hkS P19.1
          have F32 := A5.keep P19
          have F33 := F10.keep P19 nin0
          have F34 := F11.keep P19 nin0
          have F35 := F12.keep P19 nin0
          have F36 := F13.keep P19 nin0
          have F37 := F14.keep P19 nin0
          have O38 := O8.keep P19 all0
          have K39 := K9.trans P19 all0
          refine own_GW.step (T' := T15) (g' := (mkF m 125 #[.val (.int i0), .val (.int i1), .val (.long i2), .second, .val (.int i3), .val (.int i4), .val (.int i5), .val (.int ttl), .val (.int ver), .val (.int ((1024 : Int32) + ((i4 &&& (2147483647 : Int32)) % (16776193 : Int32)))), .val (.int ch), .val (.int k), .val (.ref w0), .unset, .unset, .unset, .unset, .unset] [(.ref b16), (.ref b5), (.ref b5)])) (fun tq_ kq_ => st15 _ kq_) ?_
          refine own_GW.step (g' := (mkF m 127 #[.val (.int i0), .val (.int i1), .val (.long i2), .second, .val (.int i3), .val (.int i4), .val (.int i5), .val (.int ttl), .val (.int ver), .val (.int ((1024 : Int32) + ((i4 &&& (2147483647 : Int32)) % (16776193 : Int32)))), .val (.int ch), .val (.int k), .val (.ref w0), .unset, .unset, .unset, .unset, .unset] [(.int ver), (.ref b16), (.ref b5), (.ref b5)])) (fun tq_ kq_ => XS.iload X15.here hx rfl (hb hby at_125) rfl kq_) ?_
          refine own_GW.step (g' := (mkF m 129 #[.val (.int i0), .val (.int i1), .val (.long i2), .second, .val (.int i3), .val (.int i4), .val (.int i5), .val (.int ttl), .val (.int ver), .val (.int ((1024 : Int32) + ((i4 &&& (2147483647 : Int32)) % (16776193 : Int32)))), .val (.int ch), .val (.int k), .val (.ref w0), .unset, .unset, .unset, .unset, .unset] [(.int ttl), (.int ver), (.ref b16), (.ref b5), (.ref b5)])) (fun tq_ kq_ => XS.iload X15.here hx rfl (hb hby at_127) rfl kq_) ?_
          refine own_GW.step (g' := (mkF m 131 #[.val (.int i0), .val (.int i1), .val (.long i2), .second, .val (.int i3), .val (.int i4), .val (.int i5), .val (.int ttl), .val (.int ver), .val (.int ((1024 : Int32) + ((i4 &&& (2147483647 : Int32)) % (16776193 : Int32)))), .val (.int ch), .val (.int k), .val (.ref w0), .unset, .unset, .unset, .unset, .unset] [(.int ((1024 : Int32) + ((i4 &&& (2147483647 : Int32)) % (16776193 : Int32)))), (.int ttl), (.int ver), (.ref b16), (.ref b5), (.ref b5)])) (fun tq_ kq_ => XS.iload X15.here hx rfl (hb hby at_129) rfl kq_) ?_
          refine own_GW.step (g' := (mkF m 133 #[.val (.int i0), .val (.int i1), .val (.long i2), .second, .val (.int i3), .val (.int i4), .val (.int i5), .val (.int ttl), .val (.int ver), .val (.int ((1024 : Int32) + ((i4 &&& (2147483647 : Int32)) % (16776193 : Int32)))), .val (.int ch), .val (.int k), .val (.ref w0), .unset, .unset, .unset, .unset, .unset] [(.ref w0), (.int ((1024 : Int32) + ((i4 &&& (2147483647 : Int32)) % (16776193 : Int32)))), (.int ttl), (.int ver), (.ref b16), (.ref b5), (.ref b5)])) (fun tq_ kq_ => XS.aload X15.here hx rfl (hb hby at_131) rfl rfl kq_) ?_
          have hbk := own_bk i4
          obtain ⟨_, _, ⟨T40, L40, k40, n40⟩, -, X40, sS40, gS40, ⟨Lc40, hQ40, l40, y40, z40⟩, st40⟩ := X15.specialBackS hx (y := (⟨"com/example/evenkey/evenkey/model/FamilyDescriptor", "<init>", "(Ljava/lang/String;IIILcom/example/evenkey/evenkey/model/BloomFilterType;)V"⟩ : MethodName)) rfl hown (mvT hZ (hw _ (List.mem_of_getElem? (i := 34) rfl))) (mvT hZ (hw _ (List.mem_of_getElem? (i := 35) rfl))) (mvT hZ (hw _ (List.mem_of_getElem? (i := 36) rfl))) (by decide) (backOfS (W := 1) (rm_fdi l Z a0 hw [] b5 b16 ver ttl ((1024 : Int32) + ((i4 &&& (2147483647 : Int32)) % (16776193 : Int32))) w0 csz fm b17 x18 ch T15.heap n0 O38 S_CS hcs S_IO hio F33 F34 F35 F36 F37 F32 g6 P22 P23 P24 P25 (Ne.symm ne29) hch.1 hch.2.1 hch.2.2 hver httl hbk.1 hbk.2) hZ (hw _ (List.mem_of_getElem? (i := 36) rfl)) (hw _ (List.mem_of_getElem? (i := 7) rfl)) (by decide) (by decide)) (g := (mkF m 133 #[.val (.int i0), .val (.int i1), .val (.long i2), .second, .val (.int i3), .val (.int i4), .val (.int i5), .val (.int ttl), .val (.int ver), .val (.int ((1024 : Int32) + ((i4 &&& (2147483647 : Int32)) % (16776193 : Int32)))), .val (.int ch), .val (.int k), .val (.ref w0), .unset, .unset, .unset, .unset, .unset] [(.ref w0), (.int ((1024 : Int32) + ((i4 &&& (2147483647 : Int32)) % (16776193 : Int32)))), (.int ttl), (.int ver), (.ref b16), (.ref b5), (.ref b5)])) rfl (by rw [hml]; rfl) (Steps.refl _) (a := b5) (argsL := [(.ref b16), (.int ver), (.int ttl), (.int ((1024 : Int32) + ((i4 &&& (2147483647 : Int32)) % (16776193 : Int32)))), (.ref w0)]) (rest := [(.ref b5)]) (lenOf pd__28Ljava_2flang_2fString_3bIIILcom_2fexample_2fevenkey_2fevenkey_2fmodel_2fBloomFilterType_3b_29V rfl) rfl (by show 2 * 0 + _ ≤ _; exact Nat.le_of_eq rfl) (hb hby at_133) (fun _ _ => ⟨rfl, rfl, (by decide : 3 + 4 ≤ _), (by decide : 10 + 68 ≤ _)⟩)
          dsimp only [Pt.U, Pt.locs, Pt.cells, Pt.slots] at X40 l40 y40 z40 st40 hQ40 sS40 gS40
          subst l40 y40 z40
          obtain ⟨X40, hS, hZ, hown⟩ := rebS (vm0 := s.vm) hS hkS X40 sS40 gS40 hZ hown
          obtain ⟨rfl, Nq40, P41, P42, P43⟩ := hQ40
          have N40 := Fr.app N15 Nq40
          have hkS := Nat.le_trans hkS P41.1
          have F44 := F32.keep P41
          have F45 := P22.keep P41
          have F46 := P23.keep P41 (ninS (Ne.symm ne26) nin0)
          have F47 := P24.keep P41 (ninS (Ne.symm ne26) nin0)
          have F48 := P25.keep P41 (ninS (Ne.symm ne29) nin0)
          have O49 := O38.keep P41 (allS g6 all0)
          have K50 := K39.trans P41 (allS (Or.inr z7) all0)
          have hkS : T40.heap.size ≤ T40.heap.size := Nat.le_refl _
          refine own_GW.step (T' := T40) (g' := (mkF m 136 #[.val (.int i0), .val (.int i1), .val (.long i2), .second, .val (.int i3), .val (.int i4), .val (.int i5), .val (.int ttl), .val (.int ver), .val (.int ((1024 : Int32) + ((i4 &&& (2147483647 : Int32)) % (16776193 : Int32)))), .val (.int ch), .val (.int k), .val (.ref w0), .unset, .unset, .unset, .unset, .unset] [(.ref b5)])) (fun tq_ kq_ => st40.trans kq_) ?_
          refine own_GW.step (g' := (mkF m 138 #[.val (.int i0), .val (.int i1), .val (.long i2), .second, .val (.int i3), .val (.int i4), .val (.int i5), .val (.int ttl), .val (.int ver), .val (.int ((1024 : Int32) + ((i4 &&& (2147483647 : Int32)) % (16776193 : Int32)))), .val (.int ch), .val (.int k), .val (.ref w0), .val (.ref b5), .unset, .unset, .unset, .unset] [])) (fun tq_ kq_ => XS.astore X40.here hx rfl (hb hby at_136) rfl rfl (l' := #[.val (.int i0), .val (.int i1), .val (.long i2), .second, .val (.int i3), .val (.int i4), .val (.int i5), .val (.int ttl), .val (.int ver), .val (.int ((1024 : Int32) + ((i4 &&& (2147483647 : Int32)) % (16776193 : Int32)))), .val (.int ch), .val (.int k), .val (.ref w0), .val (.ref b5), .unset, .unset, .unset, .unset]) rfl kq_) ?_
          refine own_GW.step (g' := (mkF m 140 #[.val (.int i0), .val (.int i1), .val (.long i2), .second, .val (.int i3), .val (.int i4), .val (.int i5), .val (.int ttl), .val (.int ver), .val (.int ((1024 : Int32) + ((i4 &&& (2147483647 : Int32)) % (16776193 : Int32)))), .val (.int ch), .val (.int k), .val (.ref w0), .val (.ref b5), .unset, .unset, .unset, .unset] [(.ref b5)])) (fun tq_ kq_ => XS.aload X40.here hx rfl (hb hby at_138) rfl rfl kq_) ?_
          refine own_GW.step (g' := (mkF m 141 #[.val (.int i0), .val (.int i1), .val (.long i2), .second, .val (.int i3), .val (.int i4), .val (.int i5), .val (.int ttl), .val (.int ver), .val (.int ((1024 : Int32) + ((i4 &&& (2147483647 : Int32)) % (16776193 : Int32)))), .val (.int ch), .val (.int k), .val (.ref w0), .val (.ref b5), .unset, .unset, .unset, .unset] [(.long i2), (.ref b5)])) (fun tq_ kq_ => XS.lloadN X40.here hx rfl (hb hby at_140) rfl kq_) ?_
          obtain ⟨cq51, kq51, q51a, q51b, q51c⟩ := isOf hZ rfl P42
          obtain ⟨_, _, ⟨T51, L51, k51, n51⟩, -, X51, ⟨Lc51, hQ51, l51, y51, z51⟩, st51⟩ := X40.virtualBack hx (y := (⟨"com/example/evenkey/evenkey/model/FamilyDescriptor", "expiredUpTo", "(J)J"⟩ : MethodName)) (z := (⟨"com/example/evenkey/evenkey/model/FamilyDescriptor", "expiredUpTo", "(J)J"⟩ : MethodName)) hown (mvT hZ (hw _ (List.mem_of_getElem? (i := 98) rfl))) (mvT hZ (hw _ (List.mem_of_getElem? (i := 99) rfl))) (notFace_of_selects (args := #[]) (mvT hZ (hw _ (List.mem_of_getElem? (i := 101) rfl)))) (mvT hZ (hw _ (List.mem_of_getElem? (i := 101) rfl))) (mvT hZ (hw _ (List.mem_of_getElem? (i := 100) rfl))) (by decide) (backOf (W := 0) (rm_expi l Z a0 hw [] b5 i2 ttl T40.heap n0 O49 P43) hZ (hw _ (List.mem_of_getElem? (i := 102) rfl)) (hw _ (List.mem_of_getElem? (i := 7) rfl)) (by decide) (by decide)) q51a q51c (g := (mkF m 141 #[.val (.int i0), .val (.int i1), .val (.long i2), .second, .val (.int i3), .val (.int i4), .val (.int i5), .val (.int ttl), .val (.int ver), .val (.int ((1024 : Int32) + ((i4 &&& (2147483647 : Int32)) % (16776193 : Int32)))), .val (.int ch), .val (.int k), .val (.ref w0), .val (.ref b5), .unset, .unset, .unset, .unset] [(.long i2), (.ref b5)])) rfl (by rw [hml]; rfl) (Steps.refl _) (argsL := [(.long i2)]) (rest := []) (lenOf pd__28J_29J rfl) rfl (by show 2 * 0 + _ ≤ _; exact Nat.le_of_eq rfl) (hb hby at_141) (fun _ _ => ⟨rfl, rfl, (by decide : 7 + 0 ≤ _), (by decide : 78 + 0 ≤ _)⟩)
          dsimp only [Pt.U, Pt.locs, Pt.cells, Pt.slots] at X51 l51 y51 z51 st51 hQ51
          subst l51 y51 z51
          obtain ⟨rfl, Nq51, P52⟩ := hQ51
          have N51 := Fr.app N40 Nq51
          refine own_GW.step (T' := T51) (g' := (mkF m 144 #[.val (.int i0), .val (.int i1), .val (.long i2), .second, .val (.int i3), .val (.int i4), .val (.int i5), .val (.int ttl), .val (.int ver), .val (.int ((1024 : Int32) + ((i4 &&& (2147483647 : Int32)) % (16776193 : Int32)))), .val (.int ch), .val (.int k), .val (.ref w0), .val (.ref b5), .unset, .unset, .unset, .unset] [(.long (own_exp ttl i2))])) (fun tq_ kq_ => st51.trans kq_) ?_
          refine own_GW.step (g' := (mkF m 146 #[.val (.int i0), .val (.int i1), .val (.long i2), .second, .val (.int i3), .val (.int i4), .val (.int i5), .val (.int ttl), .val (.int ver), .val (.int ((1024 : Int32) + ((i4 &&& (2147483647 : Int32)) % (16776193 : Int32)))), .val (.int ch), .val (.int k), .val (.ref w0), .val (.ref b5), .val (.long (own_exp ttl i2)), .second, .unset, .unset] [])) (fun tq_ kq_ => XS.lstore X51.here hx rfl (hb hby at_144) rfl (l' := #[.val (.int i0), .val (.int i1), .val (.long i2), .second, .val (.int i3), .val (.int i4), .val (.int i5), .val (.int ttl), .val (.int ver), .val (.int ((1024 : Int32) + ((i4 &&& (2147483647 : Int32)) % (16776193 : Int32)))), .val (.int ch), .val (.int k), .val (.ref w0), .val (.ref b5), .val (.long (own_exp ttl i2)), .second, .unset, .unset]) rfl kq_) ?_
          refine own_GW.step (g' := (mkF m 148 #[.val (.int i0), .val (.int i1), .val (.long i2), .second, .val (.int i3), .val (.int i4), .val (.int i5), .val (.int ttl), .val (.int ver), .val (.int ((1024 : Int32) + ((i4 &&& (2147483647 : Int32)) % (16776193 : Int32)))), .val (.int ch), .val (.int k), .val (.ref w0), .val (.ref b5), .val (.long (own_exp ttl i2)), .second, .unset, .unset] [(.int ttl)])) (fun tq_ kq_ => XS.iload X51.here hx rfl (hb hby at_146) rfl kq_) ?_
          refine own_GW.step (g' := (mkF m 150 #[.val (.int i0), .val (.int i1), .val (.long i2), .second, .val (.int i3), .val (.int i4), .val (.int i5), .val (.int ttl), .val (.int ver), .val (.int ((1024 : Int32) + ((i4 &&& (2147483647 : Int32)) % (16776193 : Int32)))), .val (.int ch), .val (.int k), .val (.ref w0), .val (.ref b5), .val (.long (own_exp ttl i2)), .second, .unset, .unset] [(.int (2147483647 : Int32)), (.int ttl)])) (fun tq_ kq_ => X51.ldcInt hx hown (mvT hZ (hw _ (List.mem_of_getElem? (i := 0) rfl))) (g := (mkF m 148 #[.val (.int i0), .val (.int i1), .val (.long i2), .second, .val (.int i3), .val (.int i4), .val (.int i5), .val (.int ttl), .val (.int ver), .val (.int ((1024 : Int32) + ((i4 &&& (2147483647 : Int32)) % (16776193 : Int32)))), .val (.int ch), .val (.int k), .val (.ref w0), .val (.ref b5), .val (.long (own_exp ttl i2)), .second, .unset, .unset] [(.int ttl)])) rfl (hb hby at_148) _ kq_) ?_
          rcases Classical.em (ttl = (2147483647 : Int32)) with hc150 | hc150
          · refine own_GW.step (g' := (mkF m 153 #[.val (.int i0), .val (.int i1), .val (.long i2), .second, .val (.int i3), .val (.int i4), .val (.int i5), .val (.int ttl), .val (.int ver), .val (.int ((1024 : Int32) + ((i4 &&& (2147483647 : Int32)) % (16776193 : Int32)))), .val (.int ch), .val (.int k), .val (.ref w0), .val (.ref b5), .val (.long (own_exp ttl i2)), .second, .unset, .unset] [])) (fun tq_ kq_ => XS.icmpNo X51.here hx rfl (hb hby at_150) rfl (teq hc150).2 kq_) ?_
            refine own_GW.step (g' := (mkF m 155 #[.val (.int i0), .val (.int i1), .val (.long i2), .second, .val (.int i3), .val (.int i4), .val (.int i5), .val (.int ttl), .val (.int ver), .val (.int ((1024 : Int32) + ((i4 &&& (2147483647 : Int32)) % (16776193 : Int32)))), .val (.int ch), .val (.int k), .val (.ref w0), .val (.ref b5), .val (.long (own_exp ttl i2)), .second, .unset, .unset] [(.long (own_exp ttl i2))])) (fun tq_ kq_ => XS.lload X51.here hx rfl (hb hby at_153) rfl kq_) ?_
            refine own_GW.step (g' := (mkF m 156 #[.val (.int i0), .val (.int i1), .val (.long i2), .second, .val (.int i3), .val (.int i4), .val (.int i5), .val (.int ttl), .val (.int ver), .val (.int ((1024 : Int32) + ((i4 &&& (2147483647 : Int32)) % (16776193 : Int32)))), .val (.int ch), .val (.int k), .val (.ref w0), .val (.ref b5), .val (.long (own_exp ttl i2)), .second, .unset, .unset] [(.long (0 : Int64)), (.long (own_exp ttl i2))])) (fun tq_ kq_ => XS.lconst X51.here hx rfl (hb hby at_155) kq_) ?_
            refine own_GW.step (g' := (mkF m 157 #[.val (.int i0), .val (.int i1), .val (.long i2), .second, .val (.int i3), .val (.int i4), .val (.int i5), .val (.int ttl), .val (.int ver), .val (.int ((1024 : Int32) + ((i4 &&& (2147483647 : Int32)) % (16776193 : Int32)))), .val (.int ch), .val (.int k), .val (.ref w0), .val (.ref b5), .val (.long (own_exp ttl i2)), .second, .unset, .unset] [(.int (lcmpW (own_exp ttl i2) (0 : Int64)))])) (fun tq_ kq_ => XS.lcmp X51.here hx rfl (hb hby at_156) rfl kq_) ?_
            have hc157 : (lcmpW (own_exp ttl i2) (0 : Int64)) < (0 : Int32) := by rw [hc150]; exact own_e1 i2
            refine own_GW.step (g' := (mkF m 160 #[.val (.int i0), .val (.int i1), .val (.long i2), .second, .val (.int i3), .val (.int i4), .val (.int i5), .val (.int ttl), .val (.int ver), .val (.int ((1024 : Int32) + ((i4 &&& (2147483647 : Int32)) % (16776193 : Int32)))), .val (.int ch), .val (.int k), .val (.ref w0), .val (.ref b5), .val (.long (own_exp ttl i2)), .second, .unset, .unset] [])) (fun tq_ kq_ => XS.ifNo X51.here hx rfl (hb hby at_157) rfl ((if0 _ _).trans (tlt hc157).2.1) kq_) ?_
            refine own_GW.step (g' := (mkF m 161 #[.val (.int i0), .val (.int i1), .val (.long i2), .second, .val (.int i3), .val (.int i4), .val (.int i5), .val (.int ttl), .val (.int ver), .val (.int ((1024 : Int32) + ((i4 &&& (2147483647 : Int32)) % (16776193 : Int32)))), .val (.int ch), .val (.int k), .val (.ref w0), .val (.ref b5), .val (.long (own_exp ttl i2)), .second, .unset, .unset] [(.int (1 : Int32))])) (fun tq_ kq_ => XS.iconst X51.here hx rfl (hb hby at_160) kq_) ?_
            refine own_GW.step (g' := (mkF m 165 #[.val (.int i0), .val (.int i1), .val (.long i2), .second, .val (.int i3), .val (.int i4), .val (.int i5), .val (.int ttl), .val (.int ver), .val (.int ((1024 : Int32) + ((i4 &&& (2147483647 : Int32)) % (16776193 : Int32)))), .val (.int ch), .val (.int k), .val (.ref w0), .val (.ref b5), .val (.long (own_exp ttl i2)), .second, .unset, .unset] [(.int (1 : Int32))])) (fun tq_ kq_ => XS.goto X51.here hx rfl (pc0 := 161) (pc' := 165) rfl (hb hby at_161) (by decide) (by decide) kq_) ?_
            exact own_retW X51 hS P52 hkS (v := some (.int (1 : Int32))) (fun h => by rw [Bd.returns] at h; cases h) Bd.notSynchronized ⟨rfl, N51⟩ (by decide) (by decide) (fun fs hr => retN X51 hx (t := .boolean) Bd.returns (by simp) (hb hby at_165) hr)
          · refine own_GW.step (g' := (mkF m 166 #[.val (.int i0), .val (.int i1), .val (.long i2), .second, .val (.int i3), .val (.int i4), .val (.int i5), .val (.int ttl), .val (.int ver), .val (.int ((1024 : Int32) + ((i4 &&& (2147483647 : Int32)) % (16776193 : Int32)))), .val (.int ch), .val (.int k), .val (.ref w0), .val (.ref b5), .val (.long (own_exp ttl i2)), .second, .unset, .unset] [])) (fun tq_ kq_ => XS.icmpYes X51.here hx rfl (pc0 := 150) (pc' := 166) rfl (hb hby at_150) rfl (feq hc150).2 (by decide) (by decide) kq_) ?_
            refine own_GW.step (g' := (mkF m 168 #[.val (.int i0), .val (.int i1), .val (.long i2), .second, .val (.int i3), .val (.int i4), .val (.int i5), .val (.int ttl), .val (.int ver), .val (.int ((1024 : Int32) + ((i4 &&& (2147483647 : Int32)) % (16776193 : Int32)))), .val (.int ch), .val (.int k), .val (.ref w0), .val (.ref b5), .val (.long (own_exp ttl i2)), .second, .unset, .unset] [(.int ttl)])) (fun tq_ kq_ => XS.iload X51.here hx rfl (hb hby at_166) rfl kq_) ?_
            refine own_GW.step (g' := (mkF m 169 #[.val (.int i0), .val (.int i1), .val (.long i2), .second, .val (.int i3), .val (.int i4), .val (.int i5), .val (.int ttl), .val (.int ver), .val (.int ((1024 : Int32) + ((i4 &&& (2147483647 : Int32)) % (16776193 : Int32)))), .val (.int ch), .val (.int k), .val (.ref w0), .val (.ref b5), .val (.long (own_exp ttl i2)), .second, .unset, .unset] [(.long (ttl.toInt64))])) (fun tq_ kq_ => XS.i2l X51.here hx rfl (hb hby at_168) rfl kq_) ?_
            refine own_GW.step (g' := (mkF m 172 #[.val (.int i0), .val (.int i1), .val (.long i2), .second, .val (.int i3), .val (.int i4), .val (.int i5), .val (.int ttl), .val (.int ver), .val (.int ((1024 : Int32) + ((i4 &&& (2147483647 : Int32)) % (16776193 : Int32)))), .val (.int ch), .val (.int k), .val (.ref w0), .val (.ref b5), .val (.long (own_exp ttl i2)), .second, .unset, .unset] [(.long (1000 : Int64)), (.long (ttl.toInt64))])) (fun tq_ kq_ => X51.ldc2Long hx hown (mvT hZ (hw _ (List.mem_of_getElem? (i := 105) rfl))) (g := (mkF m 169 #[.val (.int i0), .val (.int i1), .val (.long i2), .second, .val (.int i3), .val (.int i4), .val (.int i5), .val (.int ttl), .val (.int ver), .val (.int ((1024 : Int32) + ((i4 &&& (2147483647 : Int32)) % (16776193 : Int32)))), .val (.int ch), .val (.int k), .val (.ref w0), .val (.ref b5), .val (.long (own_exp ttl i2)), .second, .unset, .unset] [(.long (ttl.toInt64))])) rfl (hb hby at_169) _ kq_) ?_
            refine own_GW.step (g' := (mkF m 173 #[.val (.int i0), .val (.int i1), .val (.long i2), .second, .val (.int i3), .val (.int i4), .val (.int i5), .val (.int ttl), .val (.int ver), .val (.int ((1024 : Int32) + ((i4 &&& (2147483647 : Int32)) % (16776193 : Int32)))), .val (.int ch), .val (.int k), .val (.ref w0), .val (.ref b5), .val (.long (own_exp ttl i2)), .second, .unset, .unset] [(.long ((ttl.toInt64) * (1000 : Int64)))])) (fun tq_ kq_ => XS.lmul X51.here hx rfl (hb hby at_172) rfl kq_) ?_
            refine own_GW.step (g' := (mkF m 175 #[.val (.int i0), .val (.int i1), .val (.long i2), .second, .val (.int i3), .val (.int i4), .val (.int i5), .val (.int ttl), .val (.int ver), .val (.int ((1024 : Int32) + ((i4 &&& (2147483647 : Int32)) % (16776193 : Int32)))), .val (.int ch), .val (.int k), .val (.ref w0), .val (.ref b5), .val (.long (own_exp ttl i2)), .second, .val (.long ((ttl.toInt64) * (1000 : Int64))), .second] [])) (fun tq_ kq_ => XS.lstore X51.here hx rfl (hb hby at_173) rfl (l' := #[.val (.int i0), .val (.int i1), .val (.long i2), .second, .val (.int i3), .val (.int i4), .val (.int i5), .val (.int ttl), .val (.int ver), .val (.int ((1024 : Int32) + ((i4 &&& (2147483647 : Int32)) % (16776193 : Int32)))), .val (.int ch), .val (.int k), .val (.ref w0), .val (.ref b5), .val (.long (own_exp ttl i2)), .second, .val (.long ((ttl.toInt64) * (1000 : Int64))), .second]) rfl kq_) ?_
            refine own_GW.step (g' := (mkF m 177 #[.val (.int i0), .val (.int i1), .val (.long i2), .second, .val (.int i3), .val (.int i4), .val (.int i5), .val (.int ttl), .val (.int ver), .val (.int ((1024 : Int32) + ((i4 &&& (2147483647 : Int32)) % (16776193 : Int32)))), .val (.int ch), .val (.int k), .val (.ref w0), .val (.ref b5), .val (.long (own_exp ttl i2)), .second, .val (.long ((ttl.toInt64) * (1000 : Int64))), .second] [(.long (own_exp ttl i2))])) (fun tq_ kq_ => XS.lload X51.here hx rfl (hb hby at_175) rfl kq_) ?_
            refine own_GW.step (g' := (mkF m 179 #[.val (.int i0), .val (.int i1), .val (.long i2), .second, .val (.int i3), .val (.int i4), .val (.int i5), .val (.int ttl), .val (.int ver), .val (.int ((1024 : Int32) + ((i4 &&& (2147483647 : Int32)) % (16776193 : Int32)))), .val (.int ch), .val (.int k), .val (.ref w0), .val (.ref b5), .val (.long (own_exp ttl i2)), .second, .val (.long ((ttl.toInt64) * (1000 : Int64))), .second] [(.long ((ttl.toInt64) * (1000 : Int64))), (.long (own_exp ttl i2))])) (fun tq_ kq_ => XS.lload X51.here hx rfl (hb hby at_177) rfl kq_) ?_
            refine own_GW.step (g' := (mkF m 180 #[.val (.int i0), .val (.int i1), .val (.long i2), .second, .val (.int i3), .val (.int i4), .val (.int i5), .val (.int ttl), .val (.int ver), .val (.int ((1024 : Int32) + ((i4 &&& (2147483647 : Int32)) % (16776193 : Int32)))), .val (.int ch), .val (.int k), .val (.ref w0), .val (.ref b5), .val (.long (own_exp ttl i2)), .second, .val (.long ((ttl.toInt64) * (1000 : Int64))), .second] [(.long ((own_exp ttl i2) + ((ttl.toInt64) * (1000 : Int64))))])) (fun tq_ kq_ => XS.ladd X51.here hx rfl (hb hby at_179) rfl kq_) ?_
            refine own_GW.step (g' := (mkF m 181 #[.val (.int i0), .val (.int i1), .val (.long i2), .second, .val (.int i3), .val (.int i4), .val (.int i5), .val (.int ttl), .val (.int ver), .val (.int ((1024 : Int32) + ((i4 &&& (2147483647 : Int32)) % (16776193 : Int32)))), .val (.int ch), .val (.int k), .val (.ref w0), .val (.ref b5), .val (.long (own_exp ttl i2)), .second, .val (.long ((ttl.toInt64) * (1000 : Int64))), .second] [(.long i2), (.long ((own_exp ttl i2) + ((ttl.toInt64) * (1000 : Int64))))])) (fun tq_ kq_ => XS.lloadN X51.here hx rfl (hb hby at_180) rfl kq_) ?_
            refine own_GW.step (g' := (mkF m 182 #[.val (.int i0), .val (.int i1), .val (.long i2), .second, .val (.int i3), .val (.int i4), .val (.int i5), .val (.int ttl), .val (.int ver), .val (.int ((1024 : Int32) + ((i4 &&& (2147483647 : Int32)) % (16776193 : Int32)))), .val (.int ch), .val (.int k), .val (.ref w0), .val (.ref b5), .val (.long (own_exp ttl i2)), .second, .val (.long ((ttl.toInt64) * (1000 : Int64))), .second] [(.int (lcmpW ((own_exp ttl i2) + ((ttl.toInt64) * (1000 : Int64))) i2))])) (fun tq_ kq_ => XS.lcmp X51.here hx rfl (hb hby at_181) rfl kq_) ?_
            have hc182 : (lcmpW ((own_exp ttl i2) + ((ttl.toInt64) * (1000 : Int64))) i2) = (0 : Int32) := own_e2 i2 hc150
            refine own_GW.step (g' := (mkF m 185 #[.val (.int i0), .val (.int i1), .val (.long i2), .second, .val (.int i3), .val (.int i4), .val (.int i5), .val (.int ttl), .val (.int ver), .val (.int ((1024 : Int32) + ((i4 &&& (2147483647 : Int32)) % (16776193 : Int32)))), .val (.int ch), .val (.int k), .val (.ref w0), .val (.ref b5), .val (.long (own_exp ttl i2)), .second, .val (.long ((ttl.toInt64) * (1000 : Int64))), .second] [])) (fun tq_ kq_ => XS.ifNo X51.here hx rfl (hb hby at_182) rfl ((if0 _ _).trans (teq hc182).2) kq_) ?_
            refine own_GW.step (g' := (mkF m 186 #[.val (.int i0), .val (.int i1), .val (.long i2), .second, .val (.int i3), .val (.int i4), .val (.int i5), .val (.int ttl), .val (.int ver), .val (.int ((1024 : Int32) + ((i4 &&& (2147483647 : Int32)) % (16776193 : Int32)))), .val (.int ch), .val (.int k), .val (.ref w0), .val (.ref b5), .val (.long (own_exp ttl i2)), .second, .val (.long ((ttl.toInt64) * (1000 : Int64))), .second] [(.int (1 : Int32))])) (fun tq_ kq_ => XS.iconst X51.here hx rfl (hb hby at_185) kq_) ?_
            refine own_GW.step (g' := (mkF m 190 #[.val (.int i0), .val (.int i1), .val (.long i2), .second, .val (.int i3), .val (.int i4), .val (.int i5), .val (.int ttl), .val (.int ver), .val (.int ((1024 : Int32) + ((i4 &&& (2147483647 : Int32)) % (16776193 : Int32)))), .val (.int ch), .val (.int k), .val (.ref w0), .val (.ref b5), .val (.long (own_exp ttl i2)), .second, .val (.long ((ttl.toInt64) * (1000 : Int64))), .second] [(.int (1 : Int32))])) (fun tq_ kq_ => XS.goto X51.here hx rfl (pc0 := 186) (pc' := 190) rfl (hb hby at_186) (by decide) (by decide) kq_) ?_
            exact own_retW X51 hS P52 hkS (v := some (.int (1 : Int32))) (fun h => by rw [Bd.returns] at h; cases h) Bd.notSynchronized ⟨rfl, N51⟩ (by decide) (by decide) (fun fs hr => retN X51 hx (t := .boolean) Bd.returns (by simp) (hb hby at_190) hr)
        · refine own_GW.step (g' := (mkF m 99 #[.val (.int i0), .val (.int i1), .val (.long i2), .second, .val (.int i3), .val (.int i4), .val (.int i5), .val (.int ttl), .val (.int ver), .val (.int ((1024 : Int32) + ((i4 &&& (2147483647 : Int32)) % (16776193 : Int32)))), .val (.int ch), .val (.int k), .unset, .unset, .unset, .unset, .unset, .unset] [])) (fun tq_ kq_ => XS.ifYes X0.here hx rfl (pc0 := 90) (pc' := 99) rfl (hb hby at_90) rfl ((if0 _ _).trans (feq hc90).2) (by decide) (by decide) kq_) ?_
          refine own_GW.step (g' := (mkF m 101 #[.val (.int i0), .val (.int i1), .val (.long i2), .second, .val (.int i3), .val (.int i4), .val (.int i5), .val (.int ttl), .val (.int ver), .val (.int ((1024 : Int32) + ((i4 &&& (2147483647 : Int32)) % (16776193 : Int32)))), .val (.int ch), .val (.int k), .unset, .unset, .unset, .unset, .unset, .unset] [(.int k)])) (fun tq_ kq_ => XS.iload X0.here hx rfl (hb hby at_99) rfl kq_) ?_
          refine own_GW.step (g' := (mkF m 102 #[.val (.int i0), .val (.int i1), .val (.long i2), .second, .val (.int i3), .val (.int i4), .val (.int i5), .val (.int ttl), .val (.int ver), .val (.int ((1024 : Int32) + ((i4 &&& (2147483647 : Int32)) % (16776193 : Int32)))), .val (.int ch), .val (.int k), .unset, .unset, .unset, .unset, .unset, .unset] [(.int (1 : Int32)), (.int k)])) (fun tq_ kq_ => XS.iconst X0.here hx rfl (hb hby at_101) kq_) ?_
          rcases Classical.em (k = (1 : Int32)) with hc102 | hc102
          · refine own_GW.step (g' := (mkF m 105 #[.val (.int i0), .val (.int i1), .val (.long i2), .second, .val (.int i3), .val (.int i4), .val (.int i5), .val (.int ttl), .val (.int ver), .val (.int ((1024 : Int32) + ((i4 &&& (2147483647 : Int32)) % (16776193 : Int32)))), .val (.int ch), .val (.int k), .unset, .unset, .unset, .unset, .unset, .unset] [])) (fun tq_ kq_ => XS.icmpNo X0.here hx rfl (hb hby at_102) rfl (teq hc102).2 kq_) ?_
            obtain ⟨T53, X53, e53, st53⟩ := getS2 X0 hx hZ hown (host := "") (Or.inl (hw _ (List.mem_of_getElem? (i := 109) rfl))) Via.refl e0 (Sta.ext O0.2 S_ROW) (g := (mkF m 105 #[.val (.int i0), .val (.int i1), .val (.long i2), .second, .val (.int i3), .val (.int i4), .val (.int i5), .val (.int ttl), .val (.int ver), .val (.int ((1024 : Int32) + ((i4 &&& (2147483647 : Int32)) % (16776193 : Int32)))), .val (.int ch), .val (.int k), .unset, .unset, .unset, .unset, .unset, .unset] [])) rfl (hb hby at_105)
            refine own_GW.step (T' := T53) (g' := (mkF m 108 #[.val (.int i0), .val (.int i1), .val (.long i2), .second, .val (.int i3), .val (.int i4), .val (.int i5), .val (.int ttl), .val (.int ver), .val (.int ((1024 : Int32) + ((i4 &&& (2147483647 : Int32)) % (16776193 : Int32)))), .val (.int ch), .val (.int k), .unset, .unset, .unset, .unset, .unset, .unset] [(.ref w1)])) st53 ?_
            refine own_GW.step (g' := (mkF m 114 #[.val (.int i0), .val (.int i1), .val (.long i2), .second, .val (.int i3), .val (.int i4), .val (.int i5), .val (.int ttl), .val (.int ver), .val (.int ((1024 : Int32) + ((i4 &&& (2147483647 : Int32)) % (16776193 : Int32)))), .val (.int ch), .val (.int k), .unset, .unset, .unset, .unset, .unset, .unset] [(.ref w1)])) (fun tq_ kq_ => XS.goto X53.here hx rfl (pc0 := 108) (pc' := 114) rfl (hb hby at_108) (by decide) (by decide) kq_) ?_
            refine own_GW.step (g' := (mkF m 116 #[.val (.int i0), .val (.int i1), .val (.long i2), .second, .val (.int i3), .val (.int i4), .val (.int i5), .val (.int ttl), .val (.int ver), .val (.int ((1024 : Int32) + ((i4 &&& (2147483647 : Int32)) % (16776193 : Int32)))), .val (.int ch), .val (.int k), .val (.ref w1), .unset, .unset, .unset, .unset, .unset] [])) (fun tq_ kq_ => XS.astore X53.here hx rfl (hb hby at_114) rfl rfl (l' := #[.val (.int i0), .val (.int i1), .val (.long i2), .second, .val (.int i3), .val (.int i4), .val (.int i5), .val (.int ttl), .val (.int ver), .val (.int ((1024 : Int32) + ((i4 &&& (2147483647 : Int32)) % (16776193 : Int32)))), .val (.int ch), .val (.int k), .val (.ref w1), .unset, .unset, .unset, .unset, .unset]) rfl kq_) ?_
            obtain ⟨T54, h54, X54, e54, E54, A54, D54, -, st54⟩ := newO X53 hx hZ hown (hw _ (List.mem_of_getElem? (i := 5) rfl)) (hw _ (List.mem_of_getElem? (i := 6) rfl)) (hw _ (List.mem_of_getElem? (i := 7) rfl)) e53 (g := (mkF m 116 #[.val (.int i0), .val (.int i1), .val (.long i2), .second, .val (.int i3), .val (.int i4), .val (.int i5), .val (.int ttl), .val (.int ver), .val (.int ((1024 : Int32) + ((i4 &&& (2147483647 : Int32)) % (16776193 : Int32)))), .val (.int ch), .val (.int k), .val (.ref w1), .unset, .unset, .unset, .unset, .unset] [])) rfl (hb hby at_116) (by decide) (by decide)
            obtain ⟨b54, g54⟩ : ∃ z, z = h0.size := ⟨_, rfl⟩
            rw [← g54] at A54 D54 st54
            have g55 : n0 ≤ b54 := Nat.le_trans O0.le (Nat.le_of_eq g54.symm)
            have z56 : h0.size ≤ b54 := Nat.le_trans K0.1 (Nat.le_of_eq g54.symm)
            have hkS := Nat.le_trans hkS E54.1
            have O57 := O0.ext E54
            have K58 := K0.ext E54
            have F59 : Fld Z h54 b54 "com/example/evenkey/evenkey/model/FamilyDescriptor" "name" "Ljava/lang/String;" .null := D54 (Or.inr (hw _ (List.mem_of_getElem? (i := 89) rfl))) (ty := (.object "java/lang/String")) (by decide)
            have F60 : Fld Z h54 b54 "com/example/evenkey/evenkey/model/FamilyDescriptor" "maxVersions" "I" (.int (0 : Int32)) := D54 (Or.inr (hw _ (List.mem_of_getElem? (i := 91) rfl))) (ty := .int) (by decide)
            have F61 : Fld Z h54 b54 "com/example/evenkey/evenkey/model/FamilyDescriptor" "timeToLive" "I" (.int (0 : Int32)) := D54 (Or.inr (hw _ (List.mem_of_getElem? (i := 93) rfl))) (ty := .int) (by decide)
            have F62 : Fld Z h54 b54 "com/example/evenkey/evenkey/model/FamilyDescriptor" "blockSize" "I" (.int (0 : Int32)) := D54 (Or.inr (hw _ (List.mem_of_getElem? (i := 95) rfl))) (ty := .int) (by decide)
            have F63 : Fld Z h54 b54 "com/example/evenkey/evenkey/model/FamilyDescriptor" "bloomFilter" "Lcom/example/evenkey/evenkey/model/BloomFilterType;" .null := D54 (Or.inr (hw _ (List.mem_of_getElem? (i := 97) rfl))) (ty := (.object "com/example/evenkey/evenkey/model/BloomFilterType")) (by decide)
            refine own_GW.step (T' := T54) (g' := (mkF m 119 #[.val (.int i0), .val (.int i1), .val (.long i2), .second, .val (.int i3), .val (.int i4), .val (.int i5), .val (.int ttl), .val (.int ver), .val (.int ((1024 : Int32) + ((i4 &&& (2147483647 : Int32)) % (16776193 : Int32)))), .val (.int ch), .val (.int k), .val (.ref w1), .unset, .unset, .unset, .unset, .unset] [(.ref b54)])) st54 ?_
            refine own_GW.step (g' := (mkF m 120 #[.val (.int i0), .val (.int i1), .val (.long i2), .second, .val (.int i3), .val (.int i4), .val (.int i5), .val (.int ttl), .val (.int ver), .val (.int ((1024 : Int32) + ((i4 &&& (2147483647 : Int32)) % (16776193 : Int32)))), .val (.int ch), .val (.int k), .val (.ref w1), .unset, .unset, .unset, .unset, .unset] [(.ref b54), (.ref b54)])) (fun tq_ kq_ => XS.dup X54.here hx rfl (hb hby at_119) rfl rfl kq_) ?_
            refine own_GW.step (g' := (mkF m 122 #[.val (.int i0), .val (.int i1), .val (.long i2), .second, .val (.int i3), .val (.int i4), .val (.int i5), .val (.int ttl), .val (.int ver), .val (.int ((1024 : Int32) + ((i4 &&& (2147483647 : Int32)) % (16776193 : Int32)))), .val (.int ch), .val (.int k), .val (.ref w1), .unset, .unset, .unset, .unset, .unset] [(.int ch), (.ref b54), (.ref b54)])) (fun tq_ kq_ => XS.iload X54.here hx rfl (hb hby at_120) rfl kq_) ?_
            obtain ⟨_, _, ⟨T64, L64, k64, n64⟩, -, X64, ⟨Lc64, hQ64, l64, y64, z64⟩, st64⟩ := Jvm.LawKit.callS X54 hx (y := (⟨"java/lang/String", "valueOf", "(C)Ljava/lang/String;"⟩ : MethodName)) hown (mvT hZ (hw _ (List.mem_of_getElem? (i := 8) rfl))) (mvT hZ (hw _ (List.mem_of_getElem? (i := 9) rfl))) (mvT hZ (hw _ (List.mem_of_getElem? (i := 10) rfl))) (mvT hZ (hw _ (List.mem_of_getElem? (i := 11) rfl))) (by decide) (backOf (W := 2) (rm_vofc l Z a0 hw [] ch csz h54 n0 O57 S_CS hcs (own_c255 hch.2.1)) hZ (hw _ (List.mem_of_getElem? (i := 11) rfl)) (hw _ (List.mem_of_getElem? (i := 10) rfl)) (by decide) (by decide)) (g := (mkF m 122 #[.val (.int i0), .val (.int i1), .val (.long i2), .second, .val (.int i3), .val (.int i4), .val (.int i5), .val (.int ttl), .val (.int ver), .val (.int ((1024 : Int32) + ((i4 &&& (2147483647 : Int32)) % (16776193 : Int32)))), .val (.int ch), .val (.int k), .val (.ref w1), .unset, .unset, .unset, .unset, .unset] [(.int ch), (.ref b54), (.ref b54)])) rfl (by rw [hml]; rfl) (argsL := [(.int ch)]) (rest := [(.ref b54), (.ref b54)]) (lenOf pd__28C_29Ljava_2flang_2fString_3b rfl) rfl (by show 2 * 0 + _ ≤ _; exact Nat.le_of_eq rfl) (hb hby at_122) (fun _ _ => ⟨rfl, e54, (by decide : 1 + 2 ≤ _), (by decide : 5 + 5 ≤ _)⟩)
            dsimp only [Pt.U, Pt.locs, Pt.cells, Pt.slots] at X64 l64 y64 z64 st64 hQ64
            subst l64 y64 z64
            obtain ⟨b65, b66, x67, rfl, Nq64, P68, P69, P70, P71, P72, P73, P74⟩ := hQ64
            have N64 := Fr.app N0 Nq64
            have ne75 : b54 ≠ b65 := Nat.ne_of_lt (Nat.lt_of_lt_of_le A54.lt P69)
            have g76 : n0 ≤ b65 := Nat.le_trans O57.le P69
            have z77 : h0.size ≤ b65 := Nat.le_trans K58.1 P69
            have ne78 : b54 ≠ b66 := Nat.ne_of_lt (Nat.lt_of_lt_of_le A54.lt P70)
            have g79 : n0 ≤ b66 := Nat.le_trans O57.le P70
            have z80 : h0.size ≤ b66 := Nat.le_trans K58.1 P70
            have hkS := Nat.le_trans hkS P68.1
            have F81 := A54.keep P68
            have F82 := F59.keep P68 nin0
            have F83 := F60.keep P68 nin0
            have F84 := F61.keep P68 nin0
            have F85 := F62.keep P68 nin0
            have F86 := F63.keep P68 nin0
            have O87 := O57.keep P68 all0
            have K88 := K58.trans P68 all0
            refine own_GW.step (T' := T64) (g' := (mkF m 125 #[.val (.int i0), .val (.int i1), .val (.long i2), .second, .val (.int i3), .val (.int i4), .val (.int i5), .val (.int ttl), .val (.int ver), .val (.int ((1024 : Int32) + ((i4 &&& (2147483647 : Int32)) % (16776193 : Int32)))), .val (.int ch), .val (.int k), .val (.ref w1), .unset, .unset, .unset, .unset, .unset] [(.ref b65), (.ref b54), (.ref b54)])) (fun tq_ kq_ => st64 _ kq_) ?_
            refine own_GW.step (g' := (mkF m 127 #[.val (.int i0), .val (.int i1), .val (.long i2), .second, .val (.int i3), .val (.int i4), .val (.int i5), .val (.int ttl), .val (.int ver), .val (.int ((1024 : Int32) + ((i4 &&& (2147483647 : Int32)) % (16776193 : Int32)))), .val (.int ch), .val (.int k), .val (.ref w1), .unset, .unset, .unset, .unset, .unset] [(.int ver), (.ref b65), (.ref b54), (.ref b54)])) (fun tq_ kq_ => XS.iload X64.here hx rfl (hb hby at_125) rfl kq_) ?_
            refine own_GW.step (g' := (mkF m 129 #[.val (.int i0), .val (.int i1), .val (.long i2), .second, .val (.int i3), .val (.int i4), .val (.int i5), .val (.int ttl), .val (.int ver), .val (.int ((1024 : Int32) + ((i4 &&& (2147483647 : Int32)) % (16776193 : Int32)))), .val (.int ch), .val (.int k), .val (.ref w1), .unset, .unset, .unset, .unset, .unset] [(.int ttl), (.int ver), (.ref b65), (.ref b54), (.ref b54)])) (fun tq_ kq_ => XS.iload X64.here hx rfl (hb hby at_127) rfl kq_) ?_
            refine own_GW.step (g' := (mkF m 131 #[.val (.int i0), .val (.int i1), .val (.long i2), .second, .val (.int i3), .val (.int i4), .val (.int i5), .val (.int ttl), .val (.int ver), .val (.int ((1024 : Int32) + ((i4 &&& (2147483647 : Int32)) % (16776193 : Int32)))), .val (.int ch), .val (.int k), .val (.ref w1), .unset, .unset, .unset, .unset, .unset] [(.int ((1024 : Int32) + ((i4 &&& (2147483647 : Int32)) % (16776193 : Int32)))), (.int ttl), (.int ver), (.ref b65), (.ref b54), (.ref b54)])) (fun tq_ kq_ => XS.iload X64.here hx rfl (hb hby at_129) rfl kq_) ?_
            refine own_GW.step (g' := (mkF m 133 #[.val (.int i0), .val (.int i1), .val (.long i2), .second, .val (.int i3), .val (.int i4), .val (.int i5), .val (.int ttl), .val (.int ver), .val (.int ((1024 : Int32) + ((i4 &&& (2147483647 : Int32)) % (16776193 : Int32)))), .val (.int ch), .val (.int k), .val (.ref w1), .unset, .unset, .unset, .unset, .unset] [(.ref w1), (.int ((1024 : Int32) + ((i4 &&& (2147483647 : Int32)) % (16776193 : Int32)))), (.int ttl), (.int ver), (.ref b65), (.ref b54), (.ref b54)])) (fun tq_ kq_ => XS.aload X64.here hx rfl (hb hby at_131) rfl rfl kq_) ?_
            have hbk := own_bk i4
            obtain ⟨_, _, ⟨T89, L89, k89, n89⟩, -, X89, sS89, gS89, ⟨Lc89, hQ89, l89, y89, z89⟩, st89⟩ := X64.specialBackS hx (y := (⟨"com/example/evenkey/evenkey/model/FamilyDescriptor", "<init>", "(Ljava/lang/String;IIILcom/example/evenkey/evenkey/model/BloomFilterType;)V"⟩ : MethodName)) rfl hown (mvT hZ (hw _ (List.mem_of_getElem? (i := 34) rfl))) (mvT hZ (hw _ (List.mem_of_getElem? (i := 35) rfl))) (mvT hZ (hw _ (List.mem_of_getElem? (i := 36) rfl))) (by decide) (backOfS (W := 1) (rm_fdi l Z a0 hw [] b54 b65 ver ttl ((1024 : Int32) + ((i4 &&& (2147483647 : Int32)) % (16776193 : Int32))) w1 csz fm b66 x67 ch T64.heap n0 O87 S_CS hcs S_IO hio F82 F83 F84 F85 F86 F81 g55 P71 P72 P73 P74 (Ne.symm ne78) hch.1 hch.2.1 hch.2.2 hver httl hbk.1 hbk.2) hZ (hw _ (List.mem_of_getElem? (i := 36) rfl)) (hw _ (List.mem_of_getElem? (i := 7) rfl)) (by decide) (by decide)) (g := (mkF m 133 #[.val (.int i0), .val (.int i1), .val (.long i2), .second, .val (.int i3), .val (.int i4), .val (.int i5), .val (.int ttl), .val (.int ver), .val (.int ((1024 : Int32) + ((i4 &&& (2147483647 : Int32)) % (16776193 : Int32)))), .val (.int ch), .val (.int k), .val (.ref w1), .unset, .unset, .unset, .unset, .unset] [(.ref w1), (.int ((1024 : Int32) + ((i4 &&& (2147483647 : Int32)) % (16776193 : Int32)))), (.int ttl), (.int ver), (.ref b65), (.ref b54), (.ref b54)])) rfl (by rw [hml]; rfl) (Steps.refl _) (a := b54) (argsL := [(.ref b65), (.int ver), (.int ttl), (.int ((1024 : Int32) + ((i4 &&& (2147483647 : Int32)) % (16776193 : Int32)))), (.ref w1)]) (rest := [(.ref b54)]) (lenOf pd__28Ljava_2flang_2fString_3bIIILcom_2fexample_2fevenkey_2fevenkey_2fmodel_2fBloomFilterType_3b_29V rfl) rfl (by show 2 * 0 + _ ≤ _; exact Nat.le_of_eq rfl) (hb hby at_133) (fun _ _ => ⟨rfl, rfl, (by decide : 3 + 4 ≤ _), (by decide : 10 + 68 ≤ _)⟩)
            dsimp only [Pt.U, Pt.locs, Pt.cells, Pt.slots] at X89 l89 y89 z89 st89 hQ89 sS89 gS89
            subst l89 y89 z89
            obtain ⟨X89, hS, hZ, hown⟩ := rebS (vm0 := s.vm) hS hkS X89 sS89 gS89 hZ hown
            obtain ⟨rfl, Nq89, P90, P91, P92⟩ := hQ89
            have N89 := Fr.app N64 Nq89
            have hkS := Nat.le_trans hkS P90.1
            have F93 := F81.keep P90
            have F94 := P71.keep P90
            have F95 := P72.keep P90 (ninS (Ne.symm ne75) nin0)
            have F96 := P73.keep P90 (ninS (Ne.symm ne75) nin0)
            have F97 := P74.keep P90 (ninS (Ne.symm ne78) nin0)
            have O98 := O87.keep P90 (allS g55 all0)
            have K99 := K88.trans P90 (allS (Or.inr z56) all0)
            have hkS : T89.heap.size ≤ T89.heap.size := Nat.le_refl _
            refine own_GW.step (T' := T89) (g' := (mkF m 136 #[.val (.int i0), .val (.int i1), .val (.long i2), .second, .val (.int i3), .val (.int i4), .val (.int i5), .val (.int ttl), .val (.int ver), .val (.int ((1024 : Int32) + ((i4 &&& (2147483647 : Int32)) % (16776193 : Int32)))), .val (.int ch), .val (.int k), .val (.ref w1), .unset, .unset, .unset, .unset, .unset] [(.ref b54)])) (fun tq_ kq_ => st89.trans kq_) ?_
            refine own_GW.step (g' := (mkF m 138 #[.val (.int i0), .val (.int i1), .val (.long i2), .second, .val (.int i3), .val (.int i4), .val (.int i5), .val (.int ttl), .val (.int ver), .val (.int ((1024 : Int32) + ((i4 &&& (2147483647 : Int32)) % (16776193 : Int32)))), .val (.int ch), .val (.int k), .val (.ref w1), .val (.ref b54), .unset, .unset, .unset, .unset] [])) (fun tq_ kq_ => XS.astore X89.here hx rfl (hb hby at_136) rfl rfl (l' := #[.val (.int i0), .val (.int i1), .val (.long i2), .second, .val (.int i3), .val (.int i4), .val (.int i5), .val (.int ttl), .val (.int ver), .val (.int ((1024 : Int32) + ((i4 &&& (2147483647 : Int32)) % (16776193 : Int32)))), .val (.int ch), .val (.int k), .val (.ref w1), .val (.ref b54), .unset, .unset, .unset, .unset]) rfl kq_) ?_
            refine own_GW.step (g' := (mkF m 140 #[.val (.int i0), .val (.int i1), .val (.long i2), .second, .val (.int i3), .val (.int i4), .val (.int i5), .val (.int ttl), .val (.int ver), .val (.int ((1024 : Int32) + ((i4 &&& (2147483647 : Int32)) % (16776193 : Int32)))), .val (.int ch), .val (.int k), .val (.ref w1), .val (.ref b54), .unset, .unset, .unset, .unset] [(.ref b54)])) (fun tq_ kq_ => XS.aload X89.here hx rfl (hb hby at_138) rfl rfl kq_) ?_
            refine own_GW.step (g' := (mkF m 141 #[.val (.int i0), .val (.int i1), .val (.long i2), .second, .val (.int i3), .val (.int i4), .val (.int i5), .val (.int ttl), .val (.int ver), .val (.int ((1024 : Int32) + ((i4 &&& (2147483647 : Int32)) % (16776193 : Int32)))), .val (.int ch), .val (.int k), .val (.ref w1), .val (.ref b54), .unset, .unset, .unset, .unset] [(.long i2), (.ref b54)])) (fun tq_ kq_ => XS.lloadN X89.here hx rfl (hb hby at_140) rfl kq_) ?_
            obtain ⟨cq100, kq100, q100a, q100b, q100c⟩ := isOf hZ rfl P91
            obtain ⟨_, _, ⟨T100, L100, k100, n100⟩, -, X100, ⟨Lc100, hQ100, l100, y100, z100⟩, st100⟩ := X89.virtualBack hx (y := (⟨"com/example/evenkey/evenkey/model/FamilyDescriptor", "expiredUpTo", "(J)J"⟩ : MethodName)) (z := (⟨"com/example/evenkey/evenkey/model/FamilyDescriptor", "expiredUpTo", "(J)J"⟩ : MethodName)) hown (mvT hZ (hw _ (List.mem_of_getElem? (i := 98) rfl))) (mvT hZ (hw _ (List.mem_of_getElem? (i := 99) rfl))) (notFace_of_selects (args := #[]) (mvT hZ (hw _ (List.mem_of_getElem? (i := 101) rfl)))) (mvT hZ (hw _ (List.mem_of_getElem? (i := 101) rfl))) (mvT hZ (hw _ (List.mem_of_getElem? (i := 100) rfl))) (by decide) (backOf (W := 0) (rm_expi l Z a0 hw [] b54 i2 ttl T89.heap n0 O98 P92) hZ (hw _ (List.mem_of_getElem? (i := 102) rfl)) (hw _ (List.mem_of_getElem? (i := 7) rfl)) (by decide) (by decide)) q100a q100c (g := (mkF m 141 #[.val (.int i0), .val (.int i1), .val (.long i2), .second, .val (.int i3), .val (.int i4), .val (.int i5), .val (.int ttl), .val (.int ver), .val (.int ((1024 : Int32) + ((i4 &&& (2147483647 : Int32)) % (16776193 : Int32)))), .val (.int ch), .val (.int k), .val (.ref w1), .val (.ref b54), .unset, .unset, .unset, .unset] [(.long i2), (.ref b54)])) rfl (by rw [hml]; rfl) (Steps.refl _) (argsL := [(.long i2)]) (rest := []) (lenOf pd__28J_29J rfl) rfl (by show 2 * 0 + _ ≤ _; exact Nat.le_of_eq rfl) (hb hby at_141) (fun _ _ => ⟨rfl, rfl, (by decide : 7 + 0 ≤ _), (by decide : 78 + 0 ≤ _)⟩)
            dsimp only [Pt.U, Pt.locs, Pt.cells, Pt.slots] at X100 l100 y100 z100 st100 hQ100
            subst l100 y100 z100
            obtain ⟨rfl, Nq100, P101⟩ := hQ100
            have N100 := Fr.app N89 Nq100
            refine own_GW.step (T' := T100) (g' := (mkF m 144 #[.val (.int i0), .val (.int i1), .val (.long i2), .second, .val (.int i3), .val (.int i4), .val (.int i5), .val (.int ttl), .val (.int ver), .val (.int ((1024 : Int32) + ((i4 &&& (2147483647 : Int32)) % (16776193 : Int32)))), .val (.int ch), .val (.int k), .val (.ref w1), .val (.ref b54), .unset, .unset, .unset, .unset] [(.long (own_exp ttl i2))])) (fun tq_ kq_ => st100.trans kq_) ?_
            refine own_GW.step (g' := (mkF m 146 #[.val (.int i0), .val (.int i1), .val (.long i2), .second, .val (.int i3), .val (.int i4), .val (.int i5), .val (.int ttl), .val (.int ver), .val (.int ((1024 : Int32) + ((i4 &&& (2147483647 : Int32)) % (16776193 : Int32)))), .val (.int ch), .val (.int k), .val (.ref w1), .val (.ref b54), .val (.long (own_exp ttl i2)), .second, .unset, .unset] [])) (fun tq_ kq_ => XS.lstore X100.here hx rfl (hb hby at_144) rfl (l' := #[.val (.int i0), .val (.int i1), .val (.long i2), .second, .val (.int i3), .val (.int i4), .val (.int i5), .val (.int ttl), .val (.int ver), .val (.int ((1024 : Int32) + ((i4 &&& (2147483647 : Int32)) % (16776193 : Int32)))), .val (.int ch), .val (.int k), .val (.ref w1), .val (.ref b54), .val (.long (own_exp ttl i2)), .second, .unset, .unset]) rfl kq_) ?_
            refine own_GW.step (g' := (mkF m 148 #[.val (.int i0), .val (.int i1), .val (.long i2), .second, .val (.int i3), .val (.int i4), .val (.int i5), .val (.int ttl), .val (.int ver), .val (.int ((1024 : Int32) + ((i4 &&& (2147483647 : Int32)) % (16776193 : Int32)))), .val (.int ch), .val (.int k), .val (.ref w1), .val (.ref b54), .val (.long (own_exp ttl i2)), .second, .unset, .unset] [(.int ttl)])) (fun tq_ kq_ => XS.iload X100.here hx rfl (hb hby at_146) rfl kq_) ?_
            refine own_GW.step (g' := (mkF m 150 #[.val (.int i0), .val (.int i1), .val (.long i2), .second, .val (.int i3), .val (.int i4), .val (.int i5), .val (.int ttl), .val (.int ver), .val (.int ((1024 : Int32) + ((i4 &&& (2147483647 : Int32)) % (16776193 : Int32)))), .val (.int ch), .val (.int k), .val (.ref w1), .val (.ref b54), .val (.long (own_exp ttl i2)), .second, .unset, .unset] [(.int (2147483647 : Int32)), (.int ttl)])) (fun tq_ kq_ => X100.ldcInt hx hown (mvT hZ (hw _ (List.mem_of_getElem? (i := 0) rfl))) (g := (mkF m 148 #[.val (.int i0), .val (.int i1), .val (.long i2), .second, .val (.int i3), .val (.int i4), .val (.int i5), .val (.int ttl), .val (.int ver), .val (.int ((1024 : Int32) + ((i4 &&& (2147483647 : Int32)) % (16776193 : Int32)))), .val (.int ch), .val (.int k), .val (.ref w1), .val (.ref b54), .val (.long (own_exp ttl i2)), .second, .unset, .unset] [(.int ttl)])) rfl (hb hby at_148) _ kq_) ?_
            rcases Classical.em (ttl = (2147483647 : Int32)) with hc150 | hc150
            · refine own_GW.step (g' := (mkF m 153 #[.val (.int i0), .val (.int i1), .val (.long i2), .second, .val (.int i3), .val (.int i4), .val (.int i5), .val (.int ttl), .val (.int ver), .val (.int ((1024 : Int32) + ((i4 &&& (2147483647 : Int32)) % (16776193 : Int32)))), .val (.int ch), .val (.int k), .val (.ref w1), .val (.ref b54), .val (.long (own_exp ttl i2)), .second, .unset, .unset] [])) (fun tq_ kq_ => XS.icmpNo X100.here hx rfl (hb hby at_150) rfl (teq hc150).2 kq_) ?_
              refine own_GW.step (g' := (mkF m 155 #[.val (.int i0), .val (.int i1), .val (.long i2), .second, .val (.int i3), .val (.int i4), .val (.int i5), .val (.int ttl), .val (.int ver), .val (.int ((1024 : Int32) + ((i4 &&& (2147483647 : Int32)) % (16776193 : Int32)))), .val (.int ch), .val (.int k), .val (.ref w1), .val (.ref b54), .val (.long (own_exp ttl i2)), .second, .unset, .unset] [(.long (own_exp ttl i2))])) (fun tq_ kq_ => XS.lload X100.here hx rfl (hb hby at_153) rfl kq_) ?_
              refine own_GW.step (g' := (mkF m 156 #[.val (.int i0), .val (.int i1), .val (.long i2), .second, .val (.int i3), .val (.int i4), .val (.int i5), .val (.int ttl), .val (.int ver), .val (.int ((1024 : Int32) + ((i4 &&& (2147483647 : Int32)) % (16776193 : Int32)))), .val (.int ch), .val (.int k), .val (.ref w1), .val (.ref b54), .val (.long (own_exp ttl i2)), .second, .unset, .unset] [(.long (0 : Int64)), (.long (own_exp ttl i2))])) (fun tq_ kq_ => XS.lconst X100.here hx rfl (hb hby at_155) kq_) ?_
              refine own_GW.step (g' := (mkF m 157 #[.val (.int i0), .val (.int i1), .val (.long i2), .second, .val (.int i3), .val (.int i4), .val (.int i5), .val (.int ttl), .val (.int ver), .val (.int ((1024 : Int32) + ((i4 &&& (2147483647 : Int32)) % (16776193 : Int32)))), .val (.int ch), .val (.int k), .val (.ref w1), .val (.ref b54), .val (.long (own_exp ttl i2)), .second, .unset, .unset] [(.int (lcmpW (own_exp ttl i2) (0 : Int64)))])) (fun tq_ kq_ => XS.lcmp X100.here hx rfl (hb hby at_156) rfl kq_) ?_
              have hc157 : (lcmpW (own_exp ttl i2) (0 : Int64)) < (0 : Int32) := by rw [hc150]; exact own_e1 i2
              refine own_GW.step (g' := (mkF m 160 #[.val (.int i0), .val (.int i1), .val (.long i2), .second, .val (.int i3), .val (.int i4), .val (.int i5), .val (.int ttl), .val (.int ver), .val (.int ((1024 : Int32) + ((i4 &&& (2147483647 : Int32)) % (16776193 : Int32)))), .val (.int ch), .val (.int k), .val (.ref w1), .val (.ref b54), .val (.long (own_exp ttl i2)), .second, .unset, .unset] [])) (fun tq_ kq_ => XS.ifNo X100.here hx rfl (hb hby at_157) rfl ((if0 _ _).trans (tlt hc157).2.1) kq_) ?_
              refine own_GW.step (g' := (mkF m 161 #[.val (.int i0), .val (.int i1), .val (.long i2), .second, .val (.int i3), .val (.int i4), .val (.int i5), .val (.int ttl), .val (.int ver), .val (.int ((1024 : Int32) + ((i4 &&& (2147483647 : Int32)) % (16776193 : Int32)))), .val (.int ch), .val (.int k), .val (.ref w1), .val (.ref b54), .val (.long (own_exp ttl i2)), .second, .unset, .unset] [(.int (1 : Int32))])) (fun tq_ kq_ => XS.iconst X100.here hx rfl (hb hby at_160) kq_) ?_
              refine own_GW.step (g' := (mkF m 165 #[.val (.int i0), .val (.int i1), .val (.long i2), .second, .val (.int i3), .val (.int i4), .val (.int i5), .val (.int ttl), .val (.int ver), .val (.int ((1024 : Int32) + ((i4 &&& (2147483647 : Int32)) % (16776193 : Int32)))), .val (.int ch), .val (.int k), .val (.ref w1), .val (.ref b54), .val (.long (own_exp ttl i2)), .second, .unset, .unset] [(.int (1 : Int32))])) (fun tq_ kq_ => XS.goto X100.here hx rfl (pc0 := 161) (pc' := 165) rfl (hb hby at_161) (by decide) (by decide) kq_) ?_
              exact own_retW X100 hS P101 hkS (v := some (.int (1 : Int32))) (fun h => by rw [Bd.returns] at h; cases h) Bd.notSynchronized ⟨rfl, N100⟩ (by decide) (by decide) (fun fs hr => retN X100 hx (t := .boolean) Bd.returns (by simp) (hb hby at_165) hr)
            · refine own_GW.step (g' := (mkF m 166 #[.val (.int i0), .val (.int i1), .val (.long i2), .second, .val (.int i3), .val (.int i4), .val (.int i5), .val (.int ttl), .val (.int ver), .val (.int ((1024 : Int32) + ((i4 &&& (2147483647 : Int32)) % (16776193 : Int32)))), .val (.int ch), .val (.int k), .val (.ref w1), .val (.ref b54), .val (.long (own_exp ttl i2)), .second, .unset, .unset] [])) (fun tq_ kq_ => XS.icmpYes X100.here hx rfl (pc0 := 150) (pc' := 166) rfl (hb hby at_150) rfl (feq hc150).2 (by decide) (by decide) kq_) ?_
              refine own_GW.step (g' := (mkF m 168 #[.val (.int i0), .val (.int i1), .val (.long i2), .second, .val (.int i3), .val (.int i4), .val (.int i5), .val (.int ttl), .val (.int ver), .val (.int ((1024 : Int32) + ((i4 &&& (2147483647 : Int32)) % (16776193 : Int32)))), .val (.int ch), .val (.int k), .val (.ref w1), .val (.ref b54), .val (.long (own_exp ttl i2)), .second, .unset, .unset] [(.int ttl)])) (fun tq_ kq_ => XS.iload X100.here hx rfl (hb hby at_166) rfl kq_) ?_
              refine own_GW.step (g' := (mkF m 169 #[.val (.int i0), .val (.int i1), .val (.long i2), .second, .val (.int i3), .val (.int i4), .val (.int i5), .val (.int ttl), .val (.int ver), .val (.int ((1024 : Int32) + ((i4 &&& (2147483647 : Int32)) % (16776193 : Int32)))), .val (.int ch), .val (.int k), .val (.ref w1), .val (.ref b54), .val (.long (own_exp ttl i2)), .second, .unset, .unset] [(.long (ttl.toInt64))])) (fun tq_ kq_ => XS.i2l X100.here hx rfl (hb hby at_168) rfl kq_) ?_
              refine own_GW.step (g' := (mkF m 172 #[.val (.int i0), .val (.int i1), .val (.long i2), .second, .val (.int i3), .val (.int i4), .val (.int i5), .val (.int ttl), .val (.int ver), .val (.int ((1024 : Int32) + ((i4 &&& (2147483647 : Int32)) % (16776193 : Int32)))), .val (.int ch), .val (.int k), .val (.ref w1), .val (.ref b54), .val (.long (own_exp ttl i2)), .second, .unset, .unset] [(.long (1000 : Int64)), (.long (ttl.toInt64))])) (fun tq_ kq_ => X100.ldc2Long hx hown (mvT hZ (hw _ (List.mem_of_getElem? (i := 105) rfl))) (g := (mkF m 169 #[.val (.int i0), .val (.int i1), .val (.long i2), .second, .val (.int i3), .val (.int i4), .val (.int i5), .val (.int ttl), .val (.int ver), .val (.int ((1024 : Int32) + ((i4 &&& (2147483647 : Int32)) % (16776193 : Int32)))), .val (.int ch), .val (.int k), .val (.ref w1), .val (.ref b54), .val (.long (own_exp ttl i2)), .second, .unset, .unset] [(.long (ttl.toInt64))])) rfl (hb hby at_169) _ kq_) ?_
              refine own_GW.step (g' := (mkF m 173 #[.val (.int i0), .val (.int i1), .val (.long i2), .second, .val (.int i3), .val (.int i4), .val (.int i5), .val (.int ttl), .val (.int ver), .val (.int ((1024 : Int32) + ((i4 &&& (2147483647 : Int32)) % (16776193 : Int32)))), .val (.int ch), .val (.int k), .val (.ref w1), .val (.ref b54), .val (.long (own_exp ttl i2)), .second, .unset, .unset] [(.long ((ttl.toInt64) * (1000 : Int64)))])) (fun tq_ kq_ => XS.lmul X100.here hx rfl (hb hby at_172) rfl kq_) ?_
              refine own_GW.step (g' := (mkF m 175 #[.val (.int i0), .val (.int i1), .val (.long i2), .second, .val (.int i3), .val (.int i4), .val (.int i5), .val (.int ttl), .val (.int ver), .val (.int ((1024 : Int32) + ((i4 &&& (2147483647 : Int32)) % (16776193 : Int32)))), .val (.int ch), .val (.int k), .val (.ref w1), .val (.ref b54), .val (.long (own_exp ttl i2)), .second, .val (.long ((ttl.toInt64) * (1000 : Int64))), .second] [])) (fun tq_ kq_ => XS.lstore X100.here hx rfl (hb hby at_173) rfl (l' := #[.val (.int i0), .val (.int i1), .val (.long i2), .second, .val (.int i3), .val (.int i4), .val (.int i5), .val (.int ttl), .val (.int ver), .val (.int ((1024 : Int32) + ((i4 &&& (2147483647 : Int32)) % (16776193 : Int32)))), .val (.int ch), .val (.int k), .val (.ref w1), .val (.ref b54), .val (.long (own_exp ttl i2)), .second, .val (.long ((ttl.toInt64) * (1000 : Int64))), .second]) rfl kq_) ?_
              refine own_GW.step (g' := (mkF m 177 #[.val (.int i0), .val (.int i1), .val (.long i2), .second, .val (.int i3), .val (.int i4), .val (.int i5), .val (.int ttl), .val (.int ver), .val (.int ((1024 : Int32) + ((i4 &&& (2147483647 : Int32)) % (16776193 : Int32)))), .val (.int ch), .val (.int k), .val (.ref w1), .val (.ref b54), .val (.long (own_exp ttl i2)), .second, .val (.long ((ttl.toInt64) * (1000 : Int64))), .second] [(.long (own_exp ttl i2))])) (fun tq_ kq_ => XS.lload X100.here hx rfl (hb hby at_175) rfl kq_) ?_
              refine own_GW.step (g' := (mkF m 179 #[.val (.int i0), .val (.int i1), .val (.long i2), .second, .val (.int i3), .val (.int i4), .val (.int i5), .val (.int ttl), .val (.int ver), .val (.int ((1024 : Int32) + ((i4 &&& (2147483647 : Int32)) % (16776193 : Int32)))), .val (.int ch), .val (.int k), .val (.ref w1), .val (.ref b54), .val (.long (own_exp ttl i2)), .second, .val (.long ((ttl.toInt64) * (1000 : Int64))), .second] [(.long ((ttl.toInt64) * (1000 : Int64))), (.long (own_exp ttl i2))])) (fun tq_ kq_ => XS.lload X100.here hx rfl (hb hby at_177) rfl kq_) ?_
              refine own_GW.step (g' := (mkF m 180 #[.val (.int i0), .val (.int i1), .val (.long i2), .second, .val (.int i3), .val (.int i4), .val (.int i5), .val (.int ttl), .val (.int ver), .val (.int ((1024 : Int32) + ((i4 &&& (2147483647 : Int32)) % (16776193 : Int32)))), .val (.int ch), .val (.int k), .val (.ref w1), .val (.ref b54), .val (.long (own_exp ttl i2)), .second, .val (.long ((ttl.toInt64) * (1000 : Int64))), .second] [(.long ((own_exp ttl i2) + ((ttl.toInt64) * (1000 : Int64))))])) (fun tq_ kq_ => XS.ladd X100.here hx rfl (hb hby at_179) rfl kq_) ?_
              refine own_GW.step (g' := (mkF m 181 #[.val (.int i0), .val (.int i1), .val (.long i2), .second, .val (.int i3), .val (.int i4), .val (.int i5), .val (.int ttl), .val (.int ver), .val (.int ((1024 : Int32) + ((i4 &&& (2147483647 : Int32)) % (16776193 : Int32)))), .val (.int ch), .val (.int k), .val (.ref w1), .val (.ref b54), .val (.long (own_exp ttl i2)), .second, .val (.long ((ttl.toInt64) * (1000 : Int64))), .second] [(.long i2), (.long ((own_exp ttl i2) + ((ttl.toInt64) * (1000 : Int64))))])) (fun tq_ kq_ => XS.lloadN X100.here hx rfl (hb hby at_180) rfl kq_) ?_
              refine own_GW.step (g' := (mkF m 182 #[.val (.int i0), .val (.int i1), .val (.long i2), .second, .val (.int i3), .val (.int i4), .val (.int i5), .val (.int ttl), .val (.int ver), .val (.int ((1024 : Int32) + ((i4 &&& (2147483647 : Int32)) % (16776193 : Int32)))), .val (.int ch), .val (.int k), .val (.ref w1), .val (.ref b54), .val (.long (own_exp ttl i2)), .second, .val (.long ((ttl.toInt64) * (1000 : Int64))), .second] [(.int (lcmpW ((own_exp ttl i2) + ((ttl.toInt64) * (1000 : Int64))) i2))])) (fun tq_ kq_ => XS.lcmp X100.here hx rfl (hb hby at_181) rfl kq_) ?_
              have hc182 : (lcmpW ((own_exp ttl i2) + ((ttl.toInt64) * (1000 : Int64))) i2) = (0 : Int32) := own_e2 i2 hc150
              refine own_GW.step (g' := (mkF m 185 #[.val (.int i0), .val (.int i1), .val (.long i2), .second, .val (.int i3), .val (.int i4), .val (.int i5), .val (.int ttl), .val (.int ver), .val (.int ((1024 : Int32) + ((i4 &&& (2147483647 : Int32)) % (16776193 : Int32)))), .val (.int ch), .val (.int k), .val (.ref w1), .val (.ref b54), .val (.long (own_exp ttl i2)), .second, .val (.long ((ttl.toInt64) * (1000 : Int64))), .second] [])) (fun tq_ kq_ => XS.ifNo X100.here hx rfl (hb hby at_182) rfl ((if0 _ _).trans (teq hc182).2) kq_) ?_
              refine own_GW.step (g' := (mkF m 186 #[.val (.int i0), .val (.int i1), .val (.long i2), .second, .val (.int i3), .val (.int i4), .val (.int i5), .val (.int ttl), .val (.int ver), .val (.int ((1024 : Int32) + ((i4 &&& (2147483647 : Int32)) % (16776193 : Int32)))), .val (.int ch), .val (.int k), .val (.ref w1), .val (.ref b54), .val (.long (own_exp ttl i2)), .second, .val (.long ((ttl.toInt64) * (1000 : Int64))), .second] [(.int (1 : Int32))])) (fun tq_ kq_ => XS.iconst X100.here hx rfl (hb hby at_185) kq_) ?_
              refine own_GW.step (g' := (mkF m 190 #[.val (.int i0), .val (.int i1), .val (.long i2), .second, .val (.int i3), .val (.int i4), .val (.int i5), .val (.int ttl), .val (.int ver), .val (.int ((1024 : Int32) + ((i4 &&& (2147483647 : Int32)) % (16776193 : Int32)))), .val (.int ch), .val (.int k), .val (.ref w1), .val (.ref b54), .val (.long (own_exp ttl i2)), .second, .val (.long ((ttl.toInt64) * (1000 : Int64))), .second] [(.int (1 : Int32))])) (fun tq_ kq_ => XS.goto X100.here hx rfl (pc0 := 186) (pc' := 190) rfl (hb hby at_186) (by decide) (by decide) kq_) ?_
              exact own_retW X100 hS P101 hkS (v := some (.int (1 : Int32))) (fun h => by rw [Bd.returns] at h; cases h) Bd.notSynchronized ⟨rfl, N100⟩ (by decide) (by decide) (fun fs hr => retN X100 hx (t := .boolean) Bd.returns (by simp) (hb hby at_190) hr)
          · refine own_GW.step (g' := (mkF m 111 #[.val (.int i0), .val (.int i1), .val (.long i2), .second, .val (.int i3), .val (.int i4), .val (.int i5), .val (.int ttl), .val (.int ver), .val (.int ((1024 : Int32) + ((i4 &&& (2147483647 : Int32)) % (16776193 : Int32)))), .val (.int ch), .val (.int k), .unset, .unset, .unset, .unset, .unset, .unset] [])) (fun tq_ kq_ => XS.icmpYes X0.here hx rfl (pc0 := 102) (pc' := 111) rfl (hb hby at_102) rfl (feq hc102).2 (by decide) (by decide) kq_) ?_
            obtain ⟨T102, X102, e102, st102⟩ := getS2 X0 hx hZ hown (host := "") (Or.inl (hw _ (List.mem_of_getElem? (i := 106) rfl))) Via.refl e0 (Sta.ext O0.2 S_ROWCOL) (g := (mkF m 111 #[.val (.int i0), .val (.int i1), .val (.long i2), .second, .val (.int i3), .val (.int i4), .val (.int i5), .val (.int ttl), .val (.int ver), .val (.int ((1024 : Int32) + ((i4 &&& (2147483647 : Int32)) % (16776193 : Int32)))), .val (.int ch), .val (.int k), .unset, .unset, .unset, .unset, .unset, .unset] [])) rfl (hb hby at_111)
            refine own_GW.step (T' := T102) (g' := (mkF m 114 #[.val (.int i0), .val (.int i1), .val (.long i2), .second, .val (.int i3), .val (.int i4), .val (.int i5), .val (.int ttl), .val (.int ver), .val (.int ((1024 : Int32) + ((i4 &&& (2147483647 : Int32)) % (16776193 : Int32)))), .val (.int ch), .val (.int k), .unset, .unset, .unset, .unset, .unset, .unset] [(.ref w2)])) st102 ?_
            refine own_GW.step (g' := (mkF m 116 #[.val (.int i0), .val (.int i1), .val (.long i2), .second, .val (.int i3), .val (.int i4), .val (.int i5), .val (.int ttl), .val (.int ver), .val (.int ((1024 : Int32) + ((i4 &&& (2147483647 : Int32)) % (16776193 : Int32)))), .val (.int ch), .val (.int k), .val (.ref w2), .unset, .unset, .unset, .unset, .unset] [])) (fun tq_ kq_ => XS.astore X102.here hx rfl (hb hby at_114) rfl rfl (l' := #[.val (.int i0), .val (.int i1), .val (.long i2), .second, .val (.int i3), .val (.int i4), .val (.int i5), .val (.int ttl), .val (.int ver), .val (.int ((1024 : Int32) + ((i4 &&& (2147483647 : Int32)) % (16776193 : Int32)))), .val (.int ch), .val (.int k), .val (.ref w2), .unset, .unset, .unset, .unset, .unset]) rfl kq_) ?_
            obtain ⟨T103, h103, X103, e103, E103, A103, D103, -, st103⟩ := newO X102 hx hZ hown (hw _ (List.mem_of_getElem? (i := 5) rfl)) (hw _ (List.mem_of_getElem? (i := 6) rfl)) (hw _ (List.mem_of_getElem? (i := 7) rfl)) e102 (g := (mkF m 116 #[.val (.int i0), .val (.int i1), .val (.long i2), .second, .val (.int i3), .val (.int i4), .val (.int i5), .val (.int ttl), .val (.int ver), .val (.int ((1024 : Int32) + ((i4 &&& (2147483647 : Int32)) % (16776193 : Int32)))), .val (.int ch), .val (.int k), .val (.ref w2), .unset, .unset, .unset, .unset, .unset] [])) rfl (hb hby at_116) (by decide) (by decide)
            obtain ⟨b103, g103⟩ : ∃ z, z = h0.size := ⟨_, rfl⟩
            rw [← g103] at A103 D103 st103
            have g104 : n0 ≤ b103 := Nat.le_trans O0.le (Nat.le_of_eq g103.symm)
            have z105 : h0.size ≤ b103 := Nat.le_trans K0.1 (Nat.le_of_eq g103.symm)
            have hkS := Nat.le_trans hkS E103.1
            have O106 := O0.ext E103
            have K107 := K0.ext E103
            have F108 : Fld Z h103 b103 "com/example/evenkey/evenkey/model/FamilyDescriptor" "name" "Ljava/lang/String;" .null := D103 (Or.inr (hw _ (List.mem_of_getElem? (i := 89) rfl))) (ty := (.object "java/lang/String")) (by decide)
            have F109 : Fld Z h103 b103 "com/example/evenkey/evenkey/model/FamilyDescriptor" "maxVersions" "I" (.int (0 : Int32)) := D103 (Or.inr (hw _ (List.mem_of_getElem? (i := 91) rfl))) (ty := .int) (by decide)
            have F110 : Fld Z h103 b103 "com/example/evenkey/evenkey/model/FamilyDescriptor" "timeToLive" "I" (.int (0 : Int32)) := D103 (Or.inr (hw _ (List.mem_of_getElem? (i := 93) rfl))) (ty := .int) (by decide)
            have F111 : Fld Z h103 b103 "com/example/evenkey/evenkey/model/FamilyDescriptor" "blockSize" "I" (.int (0 : Int32)) := D103 (Or.inr (hw _ (List.mem_of_getElem? (i := 95) rfl))) (ty := .int) (by decide)
            have F112 : Fld Z h103 b103 "com/example/evenkey/evenkey/model/FamilyDescriptor" "bloomFilter" "Lcom/example/evenkey/evenkey/model/BloomFilterType;" .null := D103 (Or.inr (hw _ (List.mem_of_getElem? (i := 97) rfl))) (ty := (.object "com/example/evenkey/evenkey/model/BloomFilterType")) (by decide)
            refine own_GW.step (T' := T103) (g' := (mkF m 119 #[.val (.int i0), .val (.int i1), .val (.long i2), .second, .val (.int i3), .val (.int i4), .val (.int i5), .val (.int ttl), .val (.int ver), .val (.int ((1024 : Int32) + ((i4 &&& (2147483647 : Int32)) % (16776193 : Int32)))), .val (.int ch), .val (.int k), .val (.ref w2), .unset, .unset, .unset, .unset, .unset] [(.ref b103)])) st103 ?_
            refine own_GW.step (g' := (mkF m 120 #[.val (.int i0), .val (.int i1), .val (.long i2), .second, .val (.int i3), .val (.int i4), .val (.int i5), .val (.int ttl), .val (.int ver), .val (.int ((1024 : Int32) + ((i4 &&& (2147483647 : Int32)) % (16776193 : Int32)))), .val (.int ch), .val (.int k), .val (.ref w2), .unset, .unset, .unset, .unset, .unset] [(.ref b103), (.ref b103)])) (fun tq_ kq_ => XS.dup X103.here hx rfl (hb hby at_119) rfl rfl kq_) ?_
            refine own_GW.step (g' := (mkF m 122 #[.val (.int i0), .val (.int i1), .val (.long i2), .second, .val (.int i3), .val (.int i4), .val (.int i5), .val (.int ttl), .val (.int ver), .val (.int ((1024 : Int32) + ((i4 &&& (2147483647 : Int32)) % (16776193 : Int32)))), .val (.int ch), .val (.int k), .val (.ref w2), .unset, .unset, .unset, .unset, .unset] [(.int ch), (.ref b103), (.ref b103)])) (fun tq_ kq_ => XS.iload X103.here hx rfl (hb hby at_120) rfl kq_) ?_
            obtain ⟨_, _, ⟨T113, L113, k113, n113⟩, -, X113, ⟨Lc113, hQ113, l113, y113, z113⟩, st113⟩ := Jvm.LawKit.callS X103 hx (y := (⟨"java/lang/String", "valueOf", "(C)Ljava/lang/String;"⟩ : MethodName)) hown (mvT hZ (hw _ (List.mem_of_getElem? (i := 8) rfl))) (mvT hZ (hw _ (List.mem_of_getElem? (i := 9) rfl))) (mvT hZ (hw _ (List.mem_of_getElem? (i := 10) rfl))) (mvT hZ (hw _ (List.mem_of_getElem? (i := 11) rfl))) (by decide) (backOf (W := 2) (rm_vofc l Z a0 hw [] ch csz h103 n0 O106 S_CS hcs (own_c255 hch.2.1)) hZ (hw _ (List.mem_of_getElem? (i := 11) rfl)) (hw _ (List.mem_of_getElem? (i := 10) rfl)) (by decide) (by decide)) (g := (mkF m 122 #[.val (.int i0), .val (.int i1), .val (.long i2), .second, .val (.int i3), .val (.int i4), .val (.int i5), .val (.int ttl), .val (.int ver), .val (.int ((1024 : Int32) + ((i4 &&& (2147483647 : Int32)) % (16776193 : Int32)))), .val (.int ch), .val (.int k), .val (.ref w2), .unset, .unset, .unset, .unset, .unset] [(.int ch), (.ref b103), (.ref b103)])) rfl (by rw [hml]; rfl) (argsL := [(.int ch)]) (rest := [(.ref b103), (.ref b103)]) (lenOf pd__28C_29Ljava_2flang_2fString_3b rfl) rfl (by show 2 * 0 + _ ≤ _; exact Nat.le_of_eq rfl) (hb hby at_122) (fun _ _ => ⟨rfl, e103, (by decide : 1 + 2 ≤ _), (by decide : 5 + 5 ≤ _)⟩)
            dsimp only [Pt.U, Pt.locs, Pt.cells, Pt.slots] at X113 l113 y113 z113 st113 hQ113
            subst l113 y113 z113
            obtain ⟨b114, b115, x116, rfl, Nq113, P117, P118, P119, P120, P121, P122, P123⟩ := hQ113
            have N113 := Fr.app N0 Nq113
            have ne124 : b103 ≠ b114 := Nat.ne_of_lt (Nat.lt_of_lt_of_le A103.lt P118)
            have g125 : n0 ≤ b114 := Nat.le_trans O106.le P118
            have z126 : h0.size ≤ b114 := Nat.le_trans K107.1 P118
            have ne127 : b103 ≠ b115 := Nat.ne_of_lt (Nat.lt_of_lt_of_le A103.lt P119)
            have g128 : n0 ≤ b115 := Nat.le_trans O106.le P119
            have z129 : h0.size ≤ b115 := Nat.le_trans K107.1 P119
            have hkS := Nat.le_trans hkS P117.1
            have F130 := A103.keep P117
            have F131 := F108.keep P117 nin0
            have F132 := F109.keep P117 nin0
            have F133 := F110.keep P117 nin0
            have F134 := F111.keep P117 nin0
            have F135 := F112.keep P117 nin0
            have O136 := O106.keep P117 all0
            have K137 := K107.trans P117 all0
            refine own_GW.step (T' := T113) (g' := (mkF m 125 #[.val (.int i0), .val (.int i1), .val (.long i2), .second, .val (.int i3), .val (.int i4), .val (.int i5), .val (.int ttl), .val (.int ver), .val (.int ((1024 : Int32) + ((i4 &&& (2147483647 : Int32)) % (16776193 : Int32)))), .val (.int ch), .val (.int k), .val (.ref w2), .unset, .unset, .unset, .unset, .unset] [(.ref b114), (.ref b103), (.ref b103)])) (fun tq_ kq_ => st113 _ kq_) ?_
            refine own_GW.step (g' := (mkF m 127 #[.val (.int i0), .val (.int i1), .val (.long i2), .second, .val (.int i3), .val (.int i4), .val (.int i5), .val (.int ttl), .val (.int ver), .val (.int ((1024 : Int32) + ((i4 &&& (2147483647 : Int32)) % (16776193 : Int32)))), .val (.int ch), .val (.int k), .val (.ref w2), .unset, .unset, .unset, .unset, .unset] [(.int ver), (.ref b114), (.ref b103), (.ref b103)])) (fun tq_ kq_ => XS.iload X113.here hx rfl (hb hby at_125) rfl kq_) ?_
            refine own_GW.step (g' := (mkF m 129 #[.val (.int i0), .val (.int i1), .val (.long i2), .second, .val (.int i3), .val (.int i4), .val (.int i5), .val (.int ttl), .val (.int ver), .val (.int ((1024 : Int32) + ((i4 &&& (2147483647 : Int32)) % (16776193 : Int32)))), .val (.int ch), .val (.int k), .val (.ref w2), .unset, .unset, .unset, .unset, .unset] [(.int ttl), (.int ver), (.ref b114), (.ref b103), (.ref b103)])) (fun tq_ kq_ => XS.iload X113.here hx rfl (hb hby at_127) rfl kq_) ?_
            refine own_GW.step (g' := (mkF m 131 #[.val (.int i0), .val (.int i1), .val (.long i2), .second, .val (.int i3), .val (.int i4), .val (.int i5), .val (.int ttl), .val (.int ver), .val (.int ((1024 : Int32) + ((i4 &&& (2147483647 : Int32)) % (16776193 : Int32)))), .val (.int ch), .val (.int k), .val (.ref w2), .unset, .unset, .unset, .unset, .unset] [(.int ((1024 : Int32) + ((i4 &&& (2147483647 : Int32)) % (16776193 : Int32)))), (.int ttl), (.int ver), (.ref b114), (.ref b103), (.ref b103)])) (fun tq_ kq_ => XS.iload X113.here hx rfl (hb hby at_129) rfl kq_) ?_
            refine own_GW.step (g' := (mkF m 133 #[.val (.int i0), .val (.int i1), .val (.long i2), .second, .val (.int i3), .val (.int i4), .val (.int i5), .val (.int ttl), .val (.int ver), .val (.int ((1024 : Int32) + ((i4 &&& (2147483647 : Int32)) % (16776193 : Int32)))), .val (.int ch), .val (.int k), .val (.ref w2), .unset, .unset, .unset, .unset, .unset] [(.ref w2), (.int ((1024 : Int32) + ((i4 &&& (2147483647 : Int32)) % (16776193 : Int32)))), (.int ttl), (.int ver), (.ref b114), (.ref b103), (.ref b103)])) (fun tq_ kq_ => XS.aload X113.here hx rfl (hb hby at_131) rfl rfl kq_) ?_
            have hbk := own_bk i4
            obtain ⟨_, _, ⟨T138, L138, k138, n138⟩, -, X138, sS138, gS138, ⟨Lc138, hQ138, l138, y138, z138⟩, st138⟩ := X113.specialBackS hx (y := (⟨"com/example/evenkey/evenkey/model/FamilyDescriptor", "<init>", "(Ljava/lang/String;IIILcom/example/evenkey/evenkey/model/BloomFilterType;)V"⟩ : MethodName)) rfl hown (mvT hZ (hw _ (List.mem_of_getElem? (i := 34) rfl))) (mvT hZ (hw _ (List.mem_of_getElem? (i := 35) rfl))) (mvT hZ (hw _ (List.mem_of_getElem? (i := 36) rfl))) (by decide) (backOfS (W := 1) (rm_fdi l Z a0 hw [] b103 b114 ver ttl ((1024 : Int32) + ((i4 &&& (2147483647 : Int32)) % (16776193 : Int32))) w2 csz fm b115 x116 ch T113.heap n0 O136 S_CS hcs S_IO hio F131 F132 F133 F134 F135 F130 g104 P120 P121 P122 P123 (Ne.symm ne127) hch.1 hch.2.1 hch.2.2 hver httl hbk.1 hbk.2) hZ (hw _ (List.mem_of_getElem? (i := 36) rfl)) (hw _ (List.mem_of_getElem? (i := 7) rfl)) (by decide) (by decide)) (g := (mkF m 133 #[.val (.int i0), .val (.int i1), .val (.long i2), .second, .val (.int i3), .val (.int i4), .val (.int i5), .val (.int ttl), .val (.int ver), .val (.int ((1024 : Int32) + ((i4 &&& (2147483647 : Int32)) % (16776193 : Int32)))), .val (.int ch), .val (.int k), .val (.ref w2), .unset, .unset, .unset, .unset, .unset] [(.ref w2), (.int ((1024 : Int32) + ((i4 &&& (2147483647 : Int32)) % (16776193 : Int32)))), (.int ttl), (.int ver), (.ref b114), (.ref b103), (.ref b103)])) rfl (by rw [hml]; rfl) (Steps.refl _) (a := b103) (argsL := [(.ref b114), (.int ver), (.int ttl), (.int ((1024 : Int32) + ((i4 &&& (2147483647 : Int32)) % (16776193 : Int32)))), (.ref w2)]) (rest := [(.ref b103)]) (lenOf pd__28Ljava_2flang_2fString_3bIIILcom_2fexample_2fevenkey_2fevenkey_2fmodel_2fBloomFilterType_3b_29V rfl) rfl (by show 2 * 0 + _ ≤ _; exact Nat.le_of_eq rfl) (hb hby at_133) (fun _ _ => ⟨rfl, rfl, (by decide : 3 + 4 ≤ _), (by decide : 10 + 68 ≤ _)⟩)
            dsimp only [Pt.U, Pt.locs, Pt.cells, Pt.slots] at X138 l138 y138 z138 st138 hQ138 sS138 gS138
            subst l138 y138 z138
            obtain ⟨X138, hS, hZ, hown⟩ := rebS (vm0 := s.vm) hS hkS X138 sS138 gS138 hZ hown
            obtain ⟨rfl, Nq138, P139, P140, P141⟩ := hQ138
            have N138 := Fr.app N113 Nq138
            have hkS := Nat.le_trans hkS P139.1
            have F142 := F130.keep P139
            have F143 := P120.keep P139
            have F144 := P121.keep P139 (ninS (Ne.symm ne124) nin0)
            have F145 := P122.keep P139 (ninS (Ne.symm ne124) nin0)
            have F146 := P123.keep P139 (ninS (Ne.symm ne127) nin0)
            have O147 := O136.keep P139 (allS g104 all0)
            have K148 := K137.trans P139 (allS (Or.inr z105) all0)
            have hkS : T138.heap.size ≤ T138.heap.size := Nat.le_refl _
            refine own_GW.step (T' := T138) (g' := (mkF m 136 #[.val (.int i0), .val (.int i1), .val (.long i2), .second, .val (.int i3), .val (.int i4), .val (.int i5), .val (.int ttl), .val (.int ver), .val (.int ((1024 : Int32) + ((i4 &&& (2147483647 : Int32)) % (16776193 : Int32)))), .val (.int ch), .val (.int k), .val (.ref w2), .unset, .unset, .unset, .unset, .unset] [(.ref b103)])) (fun tq_ kq_ => st138.trans kq_) ?_
            refine own_GW.step (g' := (mkF m 138 #[.val (.int i0), .val (.int i1), .val (.long i2), .second, .val (.int i3), .val (.int i4), .val (.int i5), .val (.int ttl), .val (.int ver), .val (.int ((1024 : Int32) + ((i4 &&& (2147483647 : Int32)) % (16776193 : Int32)))), .val (.int ch), .val (.int k), .val (.ref w2), .val (.ref b103), .unset, .unset, .unset, .unset] [])) (fun tq_ kq_ => XS.astore X138.here hx rfl (hb hby at_136) rfl rfl (l' := #[.val (.int i0), .val (.int i1), .val (.long i2), .second, .val (.int i3), .val (.int i4), .val (.int i5), .val (.int ttl), .val (.int ver), .val (.int ((1024 : Int32) + ((i4 &&& (2147483647 : Int32)) % (16776193 : Int32)))), .val (.int ch), .val (.int k), .val (.ref w2), .val (.ref b103), .unset, .unset, .unset, .unset]) rfl kq_) ?_
            refine own_GW.step (g' := (mkF m 140 #[.val (.int i0), .val (.int i1), .val (.long i2), .second, .val (.int i3), .val (.int i4), .val (.int i5), .val (.int ttl), .val (.int ver), .val (.int ((1024 : Int32) + ((i4 &&& (2147483647 : Int32)) % (16776193 : Int32)))), .val (.int ch), .val (.int k), .val (.ref w2), .val (.ref b103), .unset, .unset, .unset, .unset] [(.ref b103)])) (fun tq_ kq_ => XS.aload X138.here hx rfl (hb hby at_138) rfl rfl kq_) ?_
            refine own_GW.step (g' := (mkF m 141 #[.val (.int i0), .val (.int i1), .val (.long i2), .second, .val (.int i3), .val (.int i4), .val (.int i5), .val (.int ttl), .val (.int ver), .val (.int ((1024 : Int32) + ((i4 &&& (2147483647 : Int32)) % (16776193 : Int32)))), .val (.int ch), .val (.int k), .val (.ref w2), .val (.ref b103), .unset, .unset, .unset, .unset] [(.long i2), (.ref b103)])) (fun tq_ kq_ => XS.lloadN X138.here hx rfl (hb hby at_140) rfl kq_) ?_
            obtain ⟨cq149, kq149, q149a, q149b, q149c⟩ := isOf hZ rfl P140
            obtain ⟨_, _, ⟨T149, L149, k149, n149⟩, -, X149, ⟨Lc149, hQ149, l149, y149, z149⟩, st149⟩ := X138.virtualBack hx (y := (⟨"com/example/evenkey/evenkey/model/FamilyDescriptor", "expiredUpTo", "(J)J"⟩ : MethodName)) (z := (⟨"com/example/evenkey/evenkey/model/FamilyDescriptor", "expiredUpTo", "(J)J"⟩ : MethodName)) hown (mvT hZ (hw _ (List.mem_of_getElem? (i := 98) rfl))) (mvT hZ (hw _ (List.mem_of_getElem? (i := 99) rfl))) (notFace_of_selects (args := #[]) (mvT hZ (hw _ (List.mem_of_getElem? (i := 101) rfl)))) (mvT hZ (hw _ (List.mem_of_getElem? (i := 101) rfl))) (mvT hZ (hw _ (List.mem_of_getElem? (i := 100) rfl))) (by decide) (backOf (W := 0) (rm_expi l Z a0 hw [] b103 i2 ttl T138.heap n0 O147 P141) hZ (hw _ (List.mem_of_getElem? (i := 102) rfl)) (hw _ (List.mem_of_getElem? (i := 7) rfl)) (by decide) (by decide)) q149a q149c (g := (mkF m 141 #[.val (.int i0), .val (.int i1), .val (.long i2), .second, .val (.int i3), .val (.int i4), .val (.int i5), .val (.int ttl), .val (.int ver), .val (.int ((1024 : Int32) + ((i4 &&& (2147483647 : Int32)) % (16776193 : Int32)))), .val (.int ch), .val (.int k), .val (.ref w2), .val (.ref b103), .unset, .unset, .unset, .unset] [(.long i2), (.ref b103)])) rfl (by rw [hml]; rfl) (Steps.refl _) (argsL := [(.long i2)]) (rest := []) (lenOf pd__28J_29J rfl) rfl (by show 2 * 0 + _ ≤ _; exact Nat.le_of_eq rfl) (hb hby at_141) (fun _ _ => ⟨rfl, rfl, (by decide : 7 + 0 ≤ _), (by decide : 78 + 0 ≤ _)⟩)
            dsimp only [Pt.U, Pt.locs, Pt.cells, Pt.slots] at X149 l149 y149 z149 st149 hQ149
            subst l149 y149 z149
            obtain ⟨rfl, Nq149, P150⟩ := hQ149
            have N149 := Fr.app N138 Nq149
            refine own_GW.step (T' := T149) (g' := (mkF m 144 #[.val (.int i0), .val (.int i1), .val (.long i2), .second, .val (.int i3), .val (.int i4), .val (.int i5), .val (.int ttl), .val (.int ver), .val (.int ((1024 : Int32) + ((i4 &&& (2147483647 : Int32)) % (16776193 : Int32)))), .val (.int ch), .val (.int k), .val (.ref w2), .val (.ref b103), .unset, .unset, .unset, .unset] [(.long (own_exp ttl i2))])) (fun tq_ kq_ => st149.trans kq_) ?_
            refine own_GW.step (g' := (mkF m 146 #[.val (.int i0), .val (.int i1), .val (.long i2), .second, .val (.int i3), .val (.int i4), .val (.int i5), .val (.int ttl), .val (.int ver), .val (.int ((1024 : Int32) + ((i4 &&& (2147483647 : Int32)) % (16776193 : Int32)))), .val (.int ch), .val (.int k), .val (.ref w2), .val (.ref b103), .val (.long (own_exp ttl i2)), .second, .unset, .unset] [])) (fun tq_ kq_ => XS.lstore X149.here hx rfl (hb hby at_144) rfl (l' := #[.val (.int i0), .val (.int i1), .val (.long i2), .second, .val (.int i3), .val (.int i4), .val (.int i5), .val (.int ttl), .val (.int ver), .val (.int ((1024 : Int32) + ((i4 &&& (2147483647 : Int32)) % (16776193 : Int32)))), .val (.int ch), .val (.int k), .val (.ref w2), .val (.ref b103), .val (.long (own_exp ttl i2)), .second, .unset, .unset]) rfl kq_) ?_
            refine own_GW.step (g' := (mkF m 148 #[.val (.int i0), .val (.int i1), .val (.long i2), .second, .val (.int i3), .val (.int i4), .val (.int i5), .val (.int ttl), .val (.int ver), .val (.int ((1024 : Int32) + ((i4 &&& (2147483647 : Int32)) % (16776193 : Int32)))), .val (.int ch), .val (.int k), .val (.ref w2), .val (.ref b103), .val (.long (own_exp ttl i2)), .second, .unset, .unset] [(.int ttl)])) (fun tq_ kq_ => XS.iload X149.here hx rfl (hb hby at_146) rfl kq_) ?_
            refine own_GW.step (g' := (mkF m 150 #[.val (.int i0), .val (.int i1), .val (.long i2), .second, .val (.int i3), .val (.int i4), .val (.int i5), .val (.int ttl), .val (.int ver), .val (.int ((1024 : Int32) + ((i4 &&& (2147483647 : Int32)) % (16776193 : Int32)))), .val (.int ch), .val (.int k), .val (.ref w2), .val (.ref b103), .val (.long (own_exp ttl i2)), .second, .unset, .unset] [(.int (2147483647 : Int32)), (.int ttl)])) (fun tq_ kq_ => X149.ldcInt hx hown (mvT hZ (hw _ (List.mem_of_getElem? (i := 0) rfl))) (g := (mkF m 148 #[.val (.int i0), .val (.int i1), .val (.long i2), .second, .val (.int i3), .val (.int i4), .val (.int i5), .val (.int ttl), .val (.int ver), .val (.int ((1024 : Int32) + ((i4 &&& (2147483647 : Int32)) % (16776193 : Int32)))), .val (.int ch), .val (.int k), .val (.ref w2), .val (.ref b103), .val (.long (own_exp ttl i2)), .second, .unset, .unset] [(.int ttl)])) rfl (hb hby at_148) _ kq_) ?_
            rcases Classical.em (ttl = (2147483647 : Int32)) with hc150 | hc150
            · refine own_GW.step (g' := (mkF m 153 #[.val (.int i0), .val (.int i1), .val (.long i2), .second, .val (.int i3), .val (.int i4), .val (.int i5), .val (.int ttl), .val (.int ver), .val (.int ((1024 : Int32) + ((i4 &&& (2147483647 : Int32)) % (16776193 : Int32)))), .val (.int ch), .val (.int k), .val (.ref w2), .val (.ref b103), .val (.long (own_exp ttl i2)), .second, .unset, .unset] [])) (fun tq_ kq_ => XS.icmpNo X149.here hx rfl (hb hby at_150) rfl (teq hc150).2 kq_) ?_
              refine own_GW.step (g' := (mkF m 155 #[.val (.int i0), .val (.int i1), .val (.long i2), .second, .val (.int i3), .val (.int i4), .val (.int i5), .val (.int ttl), .val (.int ver), .val (.int ((1024 : Int32) + ((i4 &&& (2147483647 : Int32)) % (16776193 : Int32)))), .val (.int ch), .val (.int k), .val (.ref w2), .val (.ref b103), .val (.long (own_exp ttl i2)), .second, .unset, .unset] [(.long (own_exp ttl i2))])) (fun tq_ kq_ => XS.lload X149.here hx rfl (hb hby at_153) rfl kq_) ?_
              refine own_GW.step (g' := (mkF m 156 #[.val (.int i0), .val (.int i1), .val (.long i2), .second, .val (.int i3), .val (.int i4), .val (.int i5), .val (.int ttl), .val (.int ver), .val (.int ((1024 : Int32) + ((i4 &&& (2147483647 : Int32)) % (16776193 : Int32)))), .val (.int ch), .val (.int k), .val (.ref w2), .val (.ref b103), .val (.long (own_exp ttl i2)), .second, .unset, .unset] [(.long (0 : Int64)), (.long (own_exp ttl i2))])) (fun tq_ kq_ => XS.lconst X149.here hx rfl (hb hby at_155) kq_) ?_
              refine own_GW.step (g' := (mkF m 157 #[.val (.int i0), .val (.int i1), .val (.long i2), .second, .val (.int i3), .val (.int i4), .val (.int i5), .val (.int ttl), .val (.int ver), .val (.int ((1024 : Int32) + ((i4 &&& (2147483647 : Int32)) % (16776193 : Int32)))), .val (.int ch), .val (.int k), .val (.ref w2), .val (.ref b103), .val (.long (own_exp ttl i2)), .second, .unset, .unset] [(.int (lcmpW (own_exp ttl i2) (0 : Int64)))])) (fun tq_ kq_ => XS.lcmp X149.here hx rfl (hb hby at_156) rfl kq_) ?_
              have hc157 : (lcmpW (own_exp ttl i2) (0 : Int64)) < (0 : Int32) := by rw [hc150]; exact own_e1 i2
              refine own_GW.step (g' := (mkF m 160 #[.val (.int i0), .val (.int i1), .val (.long i2), .second, .val (.int i3), .val (.int i4), .val (.int i5), .val (.int ttl), .val (.int ver), .val (.int ((1024 : Int32) + ((i4 &&& (2147483647 : Int32)) % (16776193 : Int32)))), .val (.int ch), .val (.int k), .val (.ref w2), .val (.ref b103), .val (.long (own_exp ttl i2)), .second, .unset, .unset] [])) (fun tq_ kq_ => XS.ifNo X149.here hx rfl (hb hby at_157) rfl ((if0 _ _).trans (tlt hc157).2.1) kq_) ?_
              refine own_GW.step (g' := (mkF m 161 #[.val (.int i0), .val (.int i1), .val (.long i2), .second, .val (.int i3), .val (.int i4), .val (.int i5), .val (.int ttl), .val (.int ver), .val (.int ((1024 : Int32) + ((i4 &&& (2147483647 : Int32)) % (16776193 : Int32)))), .val (.int ch), .val (.int k), .val (.ref w2), .val (.ref b103), .val (.long (own_exp ttl i2)), .second, .unset, .unset] [(.int (1 : Int32))])) (fun tq_ kq_ => XS.iconst X149.here hx rfl (hb hby at_160) kq_) ?_
              refine own_GW.step (g' := (mkF m 165 #[.val (.int i0), .val (.int i1), .val (.long i2), .second, .val (.int i3), .val (.int i4), .val (.int i5), .val (.int ttl), .val (.int ver), .val (.int ((1024 : Int32) + ((i4 &&& (2147483647 : Int32)) % (16776193 : Int32)))), .val (.int ch), .val (.int k), .val (.ref w2), .val (.ref b103), .val (.long (own_exp ttl i2)), .second, .unset, .unset] [(.int (1 : Int32))])) (fun tq_ kq_ => XS.goto X149.here hx rfl (pc0 := 161) (pc' := 165) rfl (hb hby at_161) (by decide) (by decide) kq_) ?_
              exact own_retW X149 hS P150 hkS (v := some (.int (1 : Int32))) (fun h => by rw [Bd.returns] at h; cases h) Bd.notSynchronized ⟨rfl, N149⟩ (by decide) (by decide) (fun fs hr => retN X149 hx (t := .boolean) Bd.returns (by simp) (hb hby at_165) hr)
            · refine own_GW.step (g' := (mkF m 166 #[.val (.int i0), .val (.int i1), .val (.long i2), .second, .val (.int i3), .val (.int i4), .val (.int i5), .val (.int ttl), .val (.int ver), .val (.int ((1024 : Int32) + ((i4 &&& (2147483647 : Int32)) % (16776193 : Int32)))), .val (.int ch), .val (.int k), .val (.ref w2), .val (.ref b103), .val (.long (own_exp ttl i2)), .second, .unset, .unset] [])) (fun tq_ kq_ => XS.icmpYes X149.here hx rfl (pc0 := 150) (pc' := 166) rfl (hb hby at_150) rfl (feq hc150).2 (by decide) (by decide) kq_) ?_
              refine own_GW.step (g' := (mkF m 168 #[.val (.int i0), .val (.int i1), .val (.long i2), .second, .val (.int i3), .val (.int i4), .val (.int i5), .val (.int ttl), .val (.int ver), .val (.int ((1024 : Int32) + ((i4 &&& (2147483647 : Int32)) % (16776193 : Int32)))), .val (.int ch), .val (.int k), .val (.ref w2), .val (.ref b103), .val (.long (own_exp ttl i2)), .second, .unset, .unset] [(.int ttl)])) (fun tq_ kq_ => XS.iload X149.here hx rfl (hb hby at_166) rfl kq_) ?_
              refine own_GW.step (g' := (mkF m 169 #[.val (.int i0), .val (.int i1), .val (.long i2), .second, .val (.int i3), .val (.int i4), .val (.int i5), .val (.int ttl), .val (.int ver), .val (.int ((1024 : Int32) + ((i4 &&& (2147483647 : Int32)) % (16776193 : Int32)))), .val (.int ch), .val (.int k), .val (.ref w2), .val (.ref b103), .val (.long (own_exp ttl i2)), .second, .unset, .unset] [(.long (ttl.toInt64))])) (fun tq_ kq_ => XS.i2l X149.here hx rfl (hb hby at_168) rfl kq_) ?_
              refine own_GW.step (g' := (mkF m 172 #[.val (.int i0), .val (.int i1), .val (.long i2), .second, .val (.int i3), .val (.int i4), .val (.int i5), .val (.int ttl), .val (.int ver), .val (.int ((1024 : Int32) + ((i4 &&& (2147483647 : Int32)) % (16776193 : Int32)))), .val (.int ch), .val (.int k), .val (.ref w2), .val (.ref b103), .val (.long (own_exp ttl i2)), .second, .unset, .unset] [(.long (1000 : Int64)), (.long (ttl.toInt64))])) (fun tq_ kq_ => X149.ldc2Long hx hown (mvT hZ (hw _ (List.mem_of_getElem? (i := 105) rfl))) (g := (mkF m 169 #[.val (.int i0), .val (.int i1), .val (.long i2), .second, .val (.int i3), .val (.int i4), .val (.int i5), .val (.int ttl), .val (.int ver), .val (.int ((1024 : Int32) + ((i4 &&& (2147483647 : Int32)) % (16776193 : Int32)))), .val (.int ch), .val (.int k), .val (.ref w2), .val (.ref b103), .val (.long (own_exp ttl i2)), .second, .unset, .unset] [(.long (ttl.toInt64))])) rfl (hb hby at_169) _ kq_) ?_
              refine own_GW.step (g' := (mkF m 173 #[.val (.int i0), .val (.int i1), .val (.long i2), .second, .val (.int i3), .val (.int i4), .val (.int i5), .val (.int ttl), .val (.int ver), .val (.int ((1024 : Int32) + ((i4 &&& (2147483647 : Int32)) % (16776193 : Int32)))), .val (.int ch), .val (.int k), .val (.ref w2), .val (.ref b103), .val (.long (own_exp ttl i2)), .second, .unset, .unset] [(.long ((ttl.toInt64) * (1000 : Int64)))])) (fun tq_ kq_ => XS.lmul X149.here hx rfl (hb hby at_172) rfl kq_) ?_
              refine own_GW.step (g' := (mkF m 175 #[.val (.int i0), .val (.int i1), .val (.long i2), .second, .val (.int i3), .val (.int i4), .val (.int i5), .val (.int ttl), .val (.int ver), .val (.int ((1024 : Int32) + ((i4 &&& (2147483647 : Int32)) % (16776193 : Int32)))), .val (.int ch), .val (.int k), .val (.ref w2), .val (.ref b103), .val (.long (own_exp ttl i2)), .second, .val (.long ((ttl.toInt64) * (1000 : Int64))), .second] [])) (fun tq_ kq_ => XS.lstore X149.here hx rfl (hb hby at_173) rfl (l' := #[.val (.int i0), .val (.int i1), .val (.long i2), .second, .val (.int i3), .val (.int i4), .val (.int i5), .val (.int ttl), .val (.int ver), .val (.int ((1024 : Int32) + ((i4 &&& (2147483647 : Int32)) % (16776193 : Int32)))), .val (.int ch), .val (.int k), .val (.ref w2), .val (.ref b103), .val (.long (own_exp ttl i2)), .second, .val (.long ((ttl.toInt64) * (1000 : Int64))), .second]) rfl kq_) ?_
              refine own_GW.step (g' := (mkF m 177 #[.val (.int i0), .val (.int i1), .val (.long i2), .second, .val (.int i3), .val (.int i4), .val (.int i5), .val (.int ttl), .val (.int ver), .val (.int ((1024 : Int32) + ((i4 &&& (2147483647 : Int32)) % (16776193 : Int32)))), .val (.int ch), .val (.int k), .val (.ref w2), .val (.ref b103), .val (.long (own_exp ttl i2)), .second, .val (.long ((ttl.toInt64) * (1000 : Int64))), .second] [(.long (own_exp ttl i2))])) (fun tq_ kq_ => XS.lload X149.here hx rfl (hb hby at_175) rfl kq_) ?_
              refine own_GW.step (g' := (mkF m 179 #[.val (.int i0), .val (.int i1), .val (.long i2), .second, .val (.int i3), .val (.int i4), .val (.int i5), .val (.int ttl), .val (.int ver), .val (.int ((1024 : Int32) + ((i4 &&& (2147483647 : Int32)) % (16776193 : Int32)))), .val (.int ch), .val (.int k), .val (.ref w2), .val (.ref b103), .val (.long (own_exp ttl i2)), .second, .val (.long ((ttl.toInt64) * (1000 : Int64))), .second] [(.long ((ttl.toInt64) * (1000 : Int64))), (.long (own_exp ttl i2))])) (fun tq_ kq_ => XS.lload X149.here hx rfl (hb hby at_177) rfl kq_) ?_
              refine own_GW.step (g' := (mkF m 180 #[.val (.int i0), .val (.int i1), .val (.long i2), .second, .val (.int i3), .val (.int i4), .val (.int i5), .val (.int ttl), .val (.int ver), .val (.int ((1024 : Int32) + ((i4 &&& (2147483647 : Int32)) % (16776193 : Int32)))), .val (.int ch), .val (.int k), .val (.ref w2), .val (.ref b103), .val (.long (own_exp ttl i2)), .second, .val (.long ((ttl.toInt64) * (1000 : Int64))), .second] [(.long ((own_exp ttl i2) + ((ttl.toInt64) * (1000 : Int64))))])) (fun tq_ kq_ => XS.ladd X149.here hx rfl (hb hby at_179) rfl kq_) ?_
              refine own_GW.step (g' := (mkF m 181 #[.val (.int i0), .val (.int i1), .val (.long i2), .second, .val (.int i3), .val (.int i4), .val (.int i5), .val (.int ttl), .val (.int ver), .val (.int ((1024 : Int32) + ((i4 &&& (2147483647 : Int32)) % (16776193 : Int32)))), .val (.int ch), .val (.int k), .val (.ref w2), .val (.ref b103), .val (.long (own_exp ttl i2)), .second, .val (.long ((ttl.toInt64) * (1000 : Int64))), .second] [(.long i2), (.long ((own_exp ttl i2) + ((ttl.toInt64) * (1000 : Int64))))])) (fun tq_ kq_ => XS.lloadN X149.here hx rfl (hb hby at_180) rfl kq_) ?_
              refine own_GW.step (g' := (mkF m 182 #[.val (.int i0), .val (.int i1), .val (.long i2), .second, .val (.int i3), .val (.int i4), .val (.int i5), .val (.int ttl), .val (.int ver), .val (.int ((1024 : Int32) + ((i4 &&& (2147483647 : Int32)) % (16776193 : Int32)))), .val (.int ch), .val (.int k), .val (.ref w2), .val (.ref b103), .val (.long (own_exp ttl i2)), .second, .val (.long ((ttl.toInt64) * (1000 : Int64))), .second] [(.int (lcmpW ((own_exp ttl i2) + ((ttl.toInt64) * (1000 : Int64))) i2))])) (fun tq_ kq_ => XS.lcmp X149.here hx rfl (hb hby at_181) rfl kq_) ?_
              have hc182 : (lcmpW ((own_exp ttl i2) + ((ttl.toInt64) * (1000 : Int64))) i2) = (0 : Int32) := own_e2 i2 hc150
              refine own_GW.step (g' := (mkF m 185 #[.val (.int i0), .val (.int i1), .val (.long i2), .second, .val (.int i3), .val (.int i4), .val (.int i5), .val (.int ttl), .val (.int ver), .val (.int ((1024 : Int32) + ((i4 &&& (2147483647 : Int32)) % (16776193 : Int32)))), .val (.int ch), .val (.int k), .val (.ref w2), .val (.ref b103), .val (.long (own_exp ttl i2)), .second, .val (.long ((ttl.toInt64) * (1000 : Int64))), .second] [])) (fun tq_ kq_ => XS.ifNo X149.here hx rfl (hb hby at_182) rfl ((if0 _ _).trans (teq hc182).2) kq_) ?_
              refine own_GW.step (g' := (mkF m 186 #[.val (.int i0), .val (.int i1), .val (.long i2), .second, .val (.int i3), .val (.int i4), .val (.int i5), .val (.int ttl), .val (.int ver), .val (.int ((1024 : Int32) + ((i4 &&& (2147483647 : Int32)) % (16776193 : Int32)))), .val (.int ch), .val (.int k), .val (.ref w2), .val (.ref b103), .val (.long (own_exp ttl i2)), .second, .val (.long ((ttl.toInt64) * (1000 : Int64))), .second] [(.int (1 : Int32))])) (fun tq_ kq_ => XS.iconst X149.here hx rfl (hb hby at_185) kq_) ?_
              refine own_GW.step (g' := (mkF m 190 #[.val (.int i0), .val (.int i1), .val (.long i2), .second, .val (.int i3), .val (.int i4), .val (.int i5), .val (.int ttl), .val (.int ver), .val (.int ((1024 : Int32) + ((i4 &&& (2147483647 : Int32)) % (16776193 : Int32)))), .val (.int ch), .val (.int k), .val (.ref w2), .val (.ref b103), .val (.long (own_exp ttl i2)), .second, .val (.long ((ttl.toInt64) * (1000 : Int64))), .second] [(.int (1 : Int32))])) (fun tq_ kq_ => XS.goto X149.here hx rfl (pc0 := 186) (pc' := 190) rfl (hb hby at_186) (by decide) (by decide) kq_) ?_
              exact own_retW X149 hS P150 hkS (v := some (.int (1 : Int32))) (fun h => by rw [Bd.returns] at h; cases h) Bd.notSynchronized ⟨rfl, N149⟩ (by decide) (by decide) (fun fs hr => retN X149 hx (t := .boolean) Bd.returns (by simp) (hb hby at_190) hr)
      · intro cont3
        refine own_GW.step (g' := (mkF m 69 #[.val (.int i0), .val (.int i1), .val (.long i2), .second, .val (.int i3), .val (.int i4), .val (.int i5), .val (.int ttl), .val (.int ver), .val (.int ((1024 : Int32) + ((i4 &&& (2147483647 : Int32)) % (16776193 : Int32)))), .val (.int (((32 : Int32) + ((i5 &&& (2147483647 : Int32)) % (95 : Int32))).toUInt32.toUInt16.toUInt32.toInt32)), .unset, .unset, .unset, .unset, .unset, .unset, .unset] [(.int (((32 : Int32) + ((i5 &&& (2147483647 : Int32)) % (95 : Int32))).toUInt32.toUInt16.toUInt32.toInt32))])) (fun tq_ kq_ => XS.iload X0.here hx rfl (hb hby at_67) rfl kq_) ?_
        refine own_GW.step (g' := (mkF m 71 #[.val (.int i0), .val (.int i1), .val (.long i2), .second, .val (.int i3), .val (.int i4), .val (.int i5), .val (.int ttl), .val (.int ver), .val (.int ((1024 : Int32) + ((i4 &&& (2147483647 : Int32)) % (16776193 : Int32)))), .val (.int (((32 : Int32) + ((i5 &&& (2147483647 : Int32)) % (95 : Int32))).toUInt32.toUInt16.toUInt32.toInt32)), .unset, .unset, .unset, .unset, .unset, .unset, .unset] [(.int (58 : Int32)), (.int (((32 : Int32) + ((i5 &&& (2147483647 : Int32)) % (95 : Int32))).toUInt32.toUInt16.toUInt32.toInt32))])) (fun tq_ kq_ => XS.bipush X0.here hx rfl (hb hby at_69) kq_) ?_
        rcases Classical.em ((((32 : Int32) + ((i5 &&& (2147483647 : Int32)) % (95 : Int32))).toUInt32.toUInt16.toUInt32.toInt32) = (58 : Int32)) with hc71 | hc71
        · refine own_GW.step (g' := (mkF m 74 #[.val (.int i0), .val (.int i1), .val (.long i2), .second, .val (.int i3), .val (.int i4), .val (.int i5), .val (.int ttl), .val (.int ver), .val (.int ((1024 : Int32) + ((i4 &&& (2147483647 : Int32)) % (16776193 : Int32)))), .val (.int (((32 : Int32) + ((i5 &&& (2147483647 : Int32)) % (95 : Int32))).toUInt32.toUInt16.toUInt32.toInt32)), .unset, .unset, .unset, .unset, .unset, .unset, .unset] [])) (fun tq_ kq_ => XS.icmpNo X0.here hx rfl (hb hby at_71) rfl (teq hc71).2 kq_) ?_
          refine own_GW.step (g' := (mkF m 76 #[.val (.int i0), .val (.int i1), .val (.long i2), .second, .val (.int i3), .val (.int i4), .val (.int i5), .val (.int ttl), .val (.int ver), .val (.int ((1024 : Int32) + ((i4 &&& (2147483647 : Int32)) % (16776193 : Int32)))), .val (.int (((32 : Int32) + ((i5 &&& (2147483647 : Int32)) % (95 : Int32))).toUInt32.toUInt16.toUInt32.toInt32)), .unset, .unset, .unset, .unset, .unset, .unset, .unset] [(.int (97 : Int32))])) (fun tq_ kq_ => XS.bipush X0.here hx rfl (hb hby at_74) kq_) ?_
          refine own_GW.step (g' := (mkF m 78 #[.val (.int i0), .val (.int i1), .val (.long i2), .second, .val (.int i3), .val (.int i4), .val (.int i5), .val (.int ttl), .val (.int ver), .val (.int ((1024 : Int32) + ((i4 &&& (2147483647 : Int32)) % (16776193 : Int32)))), .val (.int (97 : Int32)), .unset, .unset, .unset, .unset, .unset, .unset, .unset] [])) (fun tq_ kq_ => XS.istore X0.here hx rfl (hb hby at_76) rfl (l' := #[.val (.int i0), .val (.int i1), .val (.long i2), .second, .val (.int i3), .val (.int i4), .val (.int i5), .val (.int ttl), .val (.int ver), .val (.int ((1024 : Int32) + ((i4 &&& (2147483647 : Int32)) % (16776193 : Int32)))), .val (.int (97 : Int32)), .unset, .unset, .unset, .unset, .unset, .unset, .unset]) rfl kq_) ?_
          exact cont3 (97 : Int32) ⟨by decide, by decide, by decide⟩
        · refine own_GW.step (g' := (mkF m 78 #[.val (.int i0), .val (.int i1), .val (.long i2), .second, .val (.int i3), .val (.int i4), .val (.int i5), .val (.int ttl), .val (.int ver), .val (.int ((1024 : Int32) + ((i4 &&& (2147483647 : Int32)) % (16776193 : Int32)))), .val (.int (((32 : Int32) + ((i5 &&& (2147483647 : Int32)) % (95 : Int32))).toUInt32.toUInt16.toUInt32.toInt32)), .unset, .unset, .unset, .unset, .unset, .unset, .unset] [])) (fun tq_ kq_ => XS.icmpYes X0.here hx rfl (pc0 := 71) (pc' := 78) rfl (hb hby at_71) rfl (feq hc71).2 (by decide) (by decide) kq_) ?_
          exact cont3 (((32 : Int32) + ((i5 &&& (2147483647 : Int32)) % (95 : Int32))).toUInt32.toUInt16.toUInt32.toInt32) ⟨(own_cc i5).1, (own_cc i5).2, hc71⟩
    · intro cont2
      refine own_GW.step (g' := (mkF m 33 #[.val (.int i0), .val (.int i1), .val (.long i2), .second, .val (.int i3), .val (.int i4), .val (.int i5), .val (.int ttl), .val (.int (i3 &&& (2147483647 : Int32))), .unset, .unset, .unset, .unset, .unset, .unset, .unset, .unset, .unset] [(.int (i3 &&& (2147483647 : Int32)))])) (fun tq_ kq_ => XS.iload X0.here hx rfl (hb hby at_31) rfl kq_) ?_
      rcases Classical.em ((i3 &&& (2147483647 : Int32)) = (0 : Int32)) with hc33 | hc33
      · refine own_GW.step (g' := (mkF m 36 #[.val (.int i0), .val (.int i1), .val (.long i2), .second, .val (.int i3), .val (.int i4), .val (.int i5), .val (.int ttl), .val (.int (i3 &&& (2147483647 : Int32))), .unset, .unset, .unset, .unset, .unset, .unset, .unset, .unset, .unset] [])) (fun tq_ kq_ => XS.ifNo X0.here hx rfl (hb hby at_33) rfl ((if0 _ _).trans (teq hc33).2) kq_) ?_
        refine own_GW.step (g' := (mkF m 37 #[.val (.int i0), .val (.int i1), .val (.long i2), .second, .val (.int i3), .val (.int i4), .val (.int i5), .val (.int ttl), .val (.int (i3 &&& (2147483647 : Int32))), .unset, .unset, .unset, .unset, .unset, .unset, .unset, .unset, .unset] [(.int (1 : Int32))])) (fun tq_ kq_ => XS.iconst X0.here hx rfl (hb hby at_36) kq_) ?_
        refine own_GW.step (g' := (mkF m 39 #[.val (.int i0), .val (.int i1), .val (.long i2), .second, .val (.int i3), .val (.int i4), .val (.int i5), .val (.int ttl), .val (.int (1 : Int32)), .unset, .unset, .unset, .unset, .unset, .unset, .unset, .unset, .unset] [])) (fun tq_ kq_ => XS.istore X0.here hx rfl (hb hby at_37) rfl (l' := #[.val (.int i0), .val (.int i1), .val (.long i2), .second, .val (.int i3), .val (.int i4), .val (.int i5), .val (.int ttl), .val (.int (1 : Int32)), .unset, .unset, .unset, .unset, .unset, .unset, .unset, .unset, .unset]) rfl kq_) ?_
        exact cont2 (1 : Int32) (by decide)
      · refine own_GW.step (g' := (mkF m 39 #[.val (.int i0), .val (.int i1), .val (.long i2), .second, .val (.int i3), .val (.int i4), .val (.int i5), .val (.int ttl), .val (.int (i3 &&& (2147483647 : Int32))), .unset, .unset, .unset, .unset, .unset, .unset, .unset, .unset, .unset] [])) (fun tq_ kq_ => XS.ifYes X0.here hx rfl (pc0 := 33) (pc' := 39) rfl (hb hby at_33) rfl ((if0 _ _).trans (feq hc33).2) (by decide) (by decide) kq_) ?_
        exact cont2 (i3 &&& (2147483647 : Int32)) (own_m1 i3 hc33)
  · intro cont1
    refine own_GW.step (g' := (mkF m 8 #[.val (.int i0), .val (.int i1), .val (.long i2), .second, .val (.int i3), .val (.int i4), .val (.int i5), .val (.int (i1 &&& (2147483647 : Int32))), .unset, .unset, .unset, .unset, .unset, .unset, .unset, .unset, .unset, .unset] [(.int (i1 &&& (2147483647 : Int32)))])) (fun tq_ kq_ => XS.iload X0.here hx rfl (hb hby at_6) rfl kq_) ?_
    rcases Classical.em ((i1 &&& (2147483647 : Int32)) = (0 : Int32)) with hc8 | hc8
    · refine own_GW.step (g' := (mkF m 11 #[.val (.int i0), .val (.int i1), .val (.long i2), .second, .val (.int i3), .val (.int i4), .val (.int i5), .val (.int (i1 &&& (2147483647 : Int32))), .unset, .unset, .unset, .unset, .unset, .unset, .unset, .unset, .unset, .unset] [])) (fun tq_ kq_ => XS.ifNo X0.here hx rfl (hb hby at_8) rfl ((if0 _ _).trans (teq hc8).2) kq_) ?_
      refine own_GW.step (g' := (mkF m 12 #[.val (.int i0), .val (.int i1), .val (.long i2), .second, .val (.int i3), .val (.int i4), .val (.int i5), .val (.int (i1 &&& (2147483647 : Int32))), .unset, .unset, .unset, .unset, .unset, .unset, .unset, .unset, .unset, .unset] [(.int (1 : Int32))])) (fun tq_ kq_ => XS.iconst X0.here hx rfl (hb hby at_11) kq_) ?_
      refine own_GW.step (g' := (mkF m 14 #[.val (.int i0), .val (.int i1), .val (.long i2), .second, .val (.int i3), .val (.int i4), .val (.int i5), .val (.int (1 : Int32)), .unset, .unset, .unset, .unset, .unset, .unset, .unset, .unset, .unset, .unset] [])) (fun tq_ kq_ => XS.istore X0.here hx rfl (hb hby at_12) rfl (l' := #[.val (.int i0), .val (.int i1), .val (.long i2), .second, .val (.int i3), .val (.int i4), .val (.int i5), .val (.int (1 : Int32)), .unset, .unset, .unset, .unset, .unset, .unset, .unset, .unset, .unset, .unset]) rfl kq_) ?_
      refine own_GW.step (g' := (mkF m 15 #[.val (.int i0), .val (.int i1), .val (.long i2), .second, .val (.int i3), .val (.int i4), .val (.int i5), .val (.int (1 : Int32)), .unset, .unset, .unset, .unset, .unset, .unset, .unset, .unset, .unset, .unset] [(.int i0)])) (fun tq_ kq_ => XS.iloadN X0.here hx rfl (hb hby at_14) rfl kq_) ?_
      refine own_GW.step (g' := (mkF m 16 #[.val (.int i0), .val (.int i1), .val (.long i2), .second, .val (.int i3), .val (.int i4), .val (.int i5), .val (.int (1 : Int32)), .unset, .unset, .unset, .unset, .unset, .unset, .unset, .unset, .unset, .unset] [(.int (1 : Int32)), (.int i0)])) (fun tq_ kq_ => XS.iconst X0.here hx rfl (hb hby at_15) kq_) ?_
      refine own_GW.step (g' := (mkF m 17 #[.val (.int i0), .val (.int i1), .val (.long i2), .second, .val (.int i3), .val (.int i4), .val (.int i5), .val (.int (1 : Int32)), .unset, .unset, .unset, .unset, .unset, .unset, .unset, .unset, .unset, .unset] [(.int (i0 &&& (1 : Int32)))])) (fun tq_ kq_ => XS.iand X0.here hx rfl (hb hby at_16) rfl kq_) ?_
      rcases Classical.em ((i0 &&& (1 : Int32)) = (0 : Int32)) with hc17 | hc17
      · refine own_GW.step (g' := (mkF m 24 #[.val (.int i0), .val (.int i1), .val (.long i2), .second, .val (.int i3), .val (.int i4), .val (.int i5), .val (.int (1 : Int32)), .unset, .unset, .unset, .unset, .unset, .unset, .unset, .unset, .unset, .unset] [])) (fun tq_ kq_ => XS.ifYes X0.here hx rfl (pc0 := 17) (pc' := 24) rfl (hb hby at_17) rfl ((if0 _ _).trans (teq hc17).1) (by decide) (by decide) kq_) ?_
        exact cont1 (1 : Int32) (by decide)
      · refine own_GW.step (g' := (mkF m 20 #[.val (.int i0), .val (.int i1), .val (.long i2), .second, .val (.int i3), .val (.int i4), .val (.int i5), .val (.int (1 : Int32)), .unset, .unset, .unset, .unset, .unset, .unset, .unset, .unset, .unset, .unset] [])) (fun tq_ kq_ => XS.ifNo X0.here hx rfl (hb hby at_17) rfl ((if0 _ _).trans (feq hc17).1) kq_) ?_
        refine own_GW.step (g' := (mkF m 22 #[.val (.int i0), .val (.int i1), .val (.long i2), .second, .val (.int i3), .val (.int i4), .val (.int i5), .val (.int (1 : Int32)), .unset, .unset, .unset, .unset, .unset, .unset, .unset, .unset, .unset, .unset] [(.int (2147483647 : Int32))])) (fun tq_ kq_ => X0.ldcInt hx hown (mvT hZ (hw _ (List.mem_of_getElem? (i := 0) rfl))) (g := (mkF m 20 #[.val (.int i0), .val (.int i1), .val (.long i2), .second, .val (.int i3), .val (.int i4), .val (.int i5), .val (.int (1 : Int32)), .unset, .unset, .unset, .unset, .unset, .unset, .unset, .unset, .unset, .unset] [])) rfl (hb hby at_20) _ kq_) ?_
        refine own_GW.step (g' := (mkF m 24 #[.val (.int i0), .val (.int i1), .val (.long i2), .second, .val (.int i3), .val (.int i4), .val (.int i5), .val (.int (2147483647 : Int32)), .unset, .unset, .unset, .unset, .unset, .unset, .unset, .unset, .unset, .unset] [])) (fun tq_ kq_ => XS.istore X0.here hx rfl (hb hby at_22) rfl (l' := #[.val (.int i0), .val (.int i1), .val (.long i2), .second, .val (.int i3), .val (.int i4), .val (.int i5), .val (.int (2147483647 : Int32)), .unset, .unset, .unset, .unset, .unset, .unset, .unset, .unset, .unset, .unset]) rfl kq_) ?_
        exact cont1 (2147483647 : Int32) (by decide)
    · refine own_GW.step (g' := (mkF m 14 #[.val (.int i0), .val (.int i1), .val (.long i2), .second, .val (.int i3), .val (.int i4), .val (.int i5), .val (.int (i1 &&& (2147483647 : Int32))), .unset, .unset, .unset, .unset, .unset, .unset, .unset, .unset, .unset, .unset] [])) (fun tq_ kq_ => XS.ifYes X0.here hx rfl (pc0 := 8) (pc' := 14) rfl (hb hby at_8) rfl ((if0 _ _).trans (feq hc8).2) (by decide) (by decide) kq_) ?_
      refine own_GW.step (g' := (mkF m 15 #[.val (.int i0), .val (.int i1), .val (.long i2), .second, .val (.int i3), .val (.int i4), .val (.int i5), .val (.int (i1 &&& (2147483647 : Int32))), .unset, .unset, .unset, .unset, .unset, .unset, .unset, .unset, .unset, .unset] [(.int i0)])) (fun tq_ kq_ => XS.iloadN X0.here hx rfl (hb hby at_14) rfl kq_) ?_
      refine own_GW.step (g' := (mkF m 16 #[.val (.int i0), .val (.int i1), .val (.long i2), .second, .val (.int i3), .val (.int i4), .val (.int i5), .val (.int (i1 &&& (2147483647 : Int32))), .unset, .unset, .unset, .unset, .unset, .unset, .unset, .unset, .unset, .unset] [(.int (1 : Int32)), (.int i0)])) (fun tq_ kq_ => XS.iconst X0.here hx rfl (hb hby at_15) kq_) ?_
      refine own_GW.step (g' := (mkF m 17 #[.val (.int i0), .val (.int i1), .val (.long i2), .second, .val (.int i3), .val (.int i4), .val (.int i5), .val (.int (i1 &&& (2147483647 : Int32))), .unset, .unset, .unset, .unset, .unset, .unset, .unset, .unset, .unset, .unset] [(.int (i0 &&& (1 : Int32)))])) (fun tq_ kq_ => XS.iand X0.here hx rfl (hb hby at_16) rfl kq_) ?_
      rcases Classical.em ((i0 &&& (1 : Int32)) = (0 : Int32)) with hc17 | hc17
      · refine own_GW.step (g' := (mkF m 24 #[.val (.int i0), .val (.int i1), .val (.long i2), .second, .val (.int i3), .val (.int i4), .val (.int i5), .val (.int (i1 &&& (2147483647 : Int32))), .unset, .unset, .unset, .unset, .unset, .unset, .unset, .unset, .unset, .unset] [])) (fun tq_ kq_ => XS.ifYes X0.here hx rfl (pc0 := 17) (pc' := 24) rfl (hb hby at_17) rfl ((if0 _ _).trans (teq hc17).1) (by decide) (by decide) kq_) ?_
        exact cont1 (i1 &&& (2147483647 : Int32)) (own_m1 i1 hc8)
      · refine own_GW.step (g' := (mkF m 20 #[.val (.int i0), .val (.int i1), .val (.long i2), .second, .val (.int i3), .val (.int i4), .val (.int i5), .val (.int (i1 &&& (2147483647 : Int32))), .unset, .unset, .unset, .unset, .unset, .unset, .unset, .unset, .unset, .unset] [])) (fun tq_ kq_ => XS.ifNo X0.here hx rfl (hb hby at_17) rfl ((if0 _ _).trans (feq hc17).1) kq_) ?_
        refine own_GW.step (g' := (mkF m 22 #[.val (.int i0), .val (.int i1), .val (.long i2), .second, .val (.int i3), .val (.int i4), .val (.int i5), .val (.int (i1 &&& (2147483647 : Int32))), .unset, .unset, .unset, .unset, .unset, .unset, .unset, .unset, .unset, .unset] [(.int (2147483647 : Int32))])) (fun tq_ kq_ => X0.ldcInt hx hown (mvT hZ (hw _ (List.mem_of_getElem? (i := 0) rfl))) (g := (mkF m 20 #[.val (.int i0), .val (.int i1), .val (.long i2), .second, .val (.int i3), .val (.int i4), .val (.int i5), .val (.int (i1 &&& (2147483647 : Int32))), .unset, .unset, .unset, .unset, .unset, .unset, .unset, .unset, .unset, .unset] [])) rfl (hb hby at_20) _ kq_) ?_
        refine own_GW.step (g' := (mkF m 24 #[.val (.int i0), .val (.int i1), .val (.long i2), .second, .val (.int i3), .val (.int i4), .val (.int i5), .val (.int (2147483647 : Int32)), .unset, .unset, .unset, .unset, .unset, .unset, .unset, .unset, .unset, .unset] [])) (fun tq_ kq_ => XS.istore X0.here hx rfl (hb hby at_22) rfl (l' := #[.val (.int i0), .val (.int i1), .val (.long i2), .second, .val (.int i3), .val (.int i4), .val (.int i5), .val (.int (2147483647 : Int32)), .unset, .unset, .unset, .unset, .unset, .unset, .unset, .unset, .unset, .unset]) rfl kq_) ?_
        exact cont1 (2147483647 : Int32) (by decide)
set_option maxRecDepth 65536 in
set_option maxHeartbeats 40000000 in
theorem comes_1 {Post : Tables → Env → Array Value → State → Outcome → State → Prop} (hpost : ∀ tb e args s v u, (limb_1_1.after args s (.returned v) u = true ∧ limb_1_2.after args s (.returned v) u = true ∧ True) → ReturnedEndW s (.returned v) u (Jvm.fieldLocs frame_1_writes args s ++ Jvm.arrayLocs frame_1_arrays args s ++ Jvm.staticLocs frame_1_statics s) 24 2176 → Post tb e args s (.returned v) u) :
    ArmFor flags0 classFile x code maxLocals ret World_1 tables_1 room_1 Calls_1 rest_1 Pre_1 Post := by
  intro l hfl _ _ p e ha hc hk s m args below hf hA hF happ hP
  obtain ⟨hcalls, hrest, hpre⟩ := hP
  obtain ⟨-, -, -, hnamed, -, -, -, hat⟩ := (Spec.applies_iff hf).mp happ
  obtain ⟨hg, hn⟩ := and_e (Cond.before_iff.mp (show (Jvm.Cond.and given_1 narrow_1).before args s = true from hpre))
  obtain ⟨gz1, gz2⟩ := and_e hg
  obtain ⟨gz3, gz4⟩ := and_e gz2
  obtain ⟨gz5, gz6⟩ := and_e gz4
  obtain ⟨gz7, gz8⟩ := and_e gz6
  obtain ⟨gz9, gz10⟩ := and_e gz8
  obtain ⟨gz11, gz12⟩ := and_e gz10
  obtain ⟨gz13, gz14⟩ := and_e hn
  obtain ⟨gz15, gz16⟩ := and_e gz14
  obtain ⟨u0, u1, u2, u3, u4, u5, rfl⟩ : ∃ u0 u1 u2 u3 u4 u5 : Value, args = #[u0, u1, u2, u3, u4, u5] := by
    have hs : args.size = 6 := by simpa [Cond.value, given_1] using gz1
    obtain ⟨L⟩ := args
    match L, hs with
    | [u0, u1, u2, u3, u4, u5], _ => exact ⟨u0, u1, u2, u3, u4, u5, rfl⟩
  have hw := fun d (hd : d ∈ tables_1) => atoms_spec (ws := Jvm.Cond.code x code maxLocals ret :: tables_1) hat d (List.mem_cons_of_mem _ hd)
  have hfit : Fit s := fun {y c} hc i hi => by
    obtain ⟨ha, rfl⟩ := Array.getElem?_eq_some_iff.mp hc
    have q := List.all_eq_true.mp ((Array.all_eq_true_iff_forall_mem.mp hF) _ (Array.getElem_mem ha)) i (List.mem_range.mpr hi)
    simpa [Array.getElem?_eq_getElem hi] using q
  obtain ⟨hsets, hown0⟩ := atoms_of _ (rest_1_c_eq ▸ (show rest_1_c.before _ s = true from hrest))
  have hr0 := Cond.before_iff.mp hown0
  obtain ⟨i0, ei0⟩ := is_v gz3
  obtain rfl : u0 = (.int i0) := Option.some.inj ei0
  obtain ⟨i1, ei1⟩ := is_v gz5
  obtain rfl : u1 = (.int i1) := Option.some.inj ei1
  obtain ⟨i2, ei2⟩ := isL_v gz7
  obtain rfl : u2 = (.long i2) := Option.some.inj ei2
  obtain ⟨i3, ei3⟩ := is_v gz9
  obtain rfl : u3 = (.int i3) := Option.some.inj ei3
  obtain ⟨i4, ei4⟩ := is_v gz11
  obtain rfl : u4 = (.int i4) := Option.some.inj ei4
  obtain ⟨i5, ei5⟩ := is_v gz12
  obtain rfl : u5 = (.int i5) := Option.some.inj ei5
  obtain ⟨w0, ev_NONE⟩ := exa_v gz13
  have S_NONE : Sta s s.heap "com/example/evenkey/evenkey/model/BloomFilterType" "NONE" "Lcom/example/evenkey/evenkey/model/BloomFilterType;" (.ref w0) := Sta.start ev_NONE (Or.inr ⟨(hw _ (List.mem_of_getElem? (i := 3) rfl)), (hw _ (List.mem_of_getElem? (i := 4) rfl))⟩)
  have E_NONE : Exa s s.heap w0 "com/example/evenkey/evenkey/model/BloomFilterType" := Exa.start ev_NONE gz13
  obtain ⟨w2, ev_ROWCOL⟩ := exa_v gz15
  have S_ROWCOL : Sta s s.heap "com/example/evenkey/evenkey/model/BloomFilterType" "ROWCOL" "Lcom/example/evenkey/evenkey/model/BloomFilterType;" (.ref w2) := Sta.start ev_ROWCOL (Or.inr ⟨(hw _ (List.mem_of_getElem? (i := 3) rfl)), (hw _ (List.mem_of_getElem? (i := 107) rfl))⟩)
  have E_ROWCOL : Exa s s.heap w2 "com/example/evenkey/evenkey/model/BloomFilterType" := Exa.start ev_ROWCOL gz15
  obtain ⟨w1, ev_ROW⟩ := exa_v gz16
  have S_ROW : Sta s s.heap "com/example/evenkey/evenkey/model/BloomFilterType" "ROW" "Lcom/example/evenkey/evenkey/model/BloomFilterType;" (.ref w1) := Sta.start ev_ROW (Or.inr ⟨(hw _ (List.mem_of_getElem? (i := 3) rfl)), (hw _ (List.mem_of_getElem? (i := 110) rfl))⟩)
  have E_ROW : Exa s s.heap w1 "com/example/evenkey/evenkey/model/BloomFilterType" := Exa.start ev_ROW gz16
  obtain ⟨csz, ev_csz⟩ := is_v (Cond.before_iff.mp (hsets _ (List.mem_of_getElem? (i := 1) rfl)))
  have S_CS : Sta s s.heap "java/lang/String" "COMPACT_STRINGS" "Z" (.int csz) := Sta.start ev_csz (Or.inl (hsets _ (List.mem_of_getElem? (i := 0) rfl)))
  have hcs : ¬ csz = (0 : Int32) := gotF (Cond.eq_ints ev_csz (Term.int_eval (0))) (not_v (Cond.before_iff.mp (hsets _ (List.mem_of_getElem? (i := 2) rfl))))
  obtain ⟨fm, ev_fm, hio⟩ := isR_v (Cond.before_iff.mp (hsets _ (List.mem_of_getElem? (i := 8) rfl)))
  have S_IO : Sta s s.heap "jdk/internal/util/Preconditions" "SIOOBE_FORMATTER" "Ljava/util/function/BiFunction;" fm := Sta.start ev_fm (Or.inl (hsets _ (List.mem_of_getElem? (i := 7) rfl)))
  obtain ⟨n, o, h1, h2, h3, _, L, rfl, ⟨rfl, N⟩, hq⟩ := rm_law l s _ hw tables_1 i0 i1 i2 i3 i4 i5 w0 w1 w2 csz fm s.heap s.heap.size (Old.start s) S_NONE S_ROW S_ROWCOL S_CS hcs S_IO hio p e ha hc hk s m _ below hf ((Spec.applies_iff_loose hf).mp happ).1 ⟨rfl, State.Warmed39.refl s, rfl⟩ trivial
  refine ⟨n, _, h1, h2, h3, hpost _ _ _ _ _ _ ⟨Cond.after_iff.mpr rfl, Cond.after_iff.mpr (eq_i res_at (Term.int_eval (1)) rfl), trivial⟩ ⟨hq.1, hq.2.1, hq.2.2.1, (hq.2.2.2.sift fun y hy => Or.inr (N y hy)).mono (by decide) (by decide)⟩⟩
theorem main_1_1 : Claimed_1_1 := comes_1 fun _ _ _ _ _ _ h hF => ⟨h.1, hF⟩
theorem main_1_2 : Claimed_1_2 := comes_1 fun _ _ _ _ _ _ h hF => ⟨h.2.1, hF⟩
end Jvm.Pilot.@@N@@
namespace Jvm.Pilot.@@N@@
open Jvm Jvm.ClassFile Sem Op Lib Jvm.Free Jvm.Stand Jvm.Pilot.@@N@@.Jvm.D
/-! MADE BY PROGRAM (witnessworld.py) out of the Statement's table words and the real class files: 21 classes; the members and pool entries that the words name. The judged class is class 1, her method 1. -/
namespace start1
open Jvm.ClassFile
def u (s : String) : CpInfo := .utf8 (stringToUtf16 s)
/-- a pool by its gaps: so many unusable entries, then the entry; so many at the end -/
def gap : Nat → List CpInfo → List CpInfo
  | 0, r => r
  | n + 1, r => .unusable :: gap n r
def poolList (es : List (Nat × CpInfo)) (last : Nat) : List CpInfo := es.foldr (fun e r => gap e.1 (e.2 :: r)) (gap last [])
def pool (es : List (Nat × CpInfo)) (last : Nat) : Array CpInfo := ⟨poolList es last⟩
def fileOf (pool : Array CpInfo) (this : Nat) (attrs : Array Attribute := #[]) (ms : Array MethodInfo := #[]) (fl : Nat := 33) (sup : Nat := 0) (ifs : Array Nat := #[]) (fds : Array FieldInfo := #[]) : ClassFile where
  minorVersion := 0
  majorVersion := 65
  constantPool := pool
  accessFlags := fl
  thisClass := this
  superClass := sup
  interfaces := ifs
  fields := fds
  methods := ms
  attributes := attrs
def plain (name : String) (sup : Option ClassId) : Class where
  name := name
  kind := .ordinary
  loader := none
  accessFlags := 33
  super := sup
  interfaces := #[]
  cf := none
  fields := #[]
  methods := #[]
  instanceTypes := #[]
  staticTypes := #[]
  resolved := #[]
  callSites := []
  init := .initialized
  statics := none
  mirror := none

def pool0 : Array CpInfo := pool [(5, u "<init>"), (0, u "()V"), (1, .class_ 10), (1, u "java/lang/Object")] 113

def k0c0 : Code := { maxStack := 0, maxLocals := 1, code := object_method_1_code, exceptionTable := #[], attributes := #[] }
def k0m0 : Method := { name := "<init>", desc := "()V", sig := { parameters := [], returnType := none }, accessFlags := 1, code := some k0c0 }
/-- java/lang/Object -/
def k0 : Class := { plain "java/lang/Object" none with
  accessFlags := 33
  interfaces := #[]
  cf := some (fileOf pool0 8 #[] #[{ accessFlags := 1, nameIndex := 5, descriptorIndex := 6, attributes := #[] }] 33 0 #[] #[])
  fields := #[]
  methods := #[k0m0]
  instanceTypes := #[]
  staticTypes := #[]
  resolved := Array.replicate 124 none
  statics := none }

def pool1 : Array CpInfo := pool [(2, .class_ 4), (1, u "java/lang/Object"), (0, u "<init>"), (0, u "()V"), (0, .integer 2147483647), (0, .class_ 9), (0, u "com/example/evenkey/evenkey/model/FamilyDescriptor"), (0, .integer 16776193), (0, .fieldref 12 13), (0, .class_ 14), (0, .nameAndType 15 16), (0, u "com/example/evenkey/evenkey/model/BloomFilterType"), (0, u "NONE"), (0, u "Lcom/example/evenkey/evenkey/model/BloomFilterType;"), (0, .fieldref 12 18), (0, .nameAndType 19 16), (0, u "ROW"), (0, .fieldref 12 21), (0, .nameAndType 22 16), (0, u "ROWCOL"), (0, .methodref 24 25), (0, .class_ 26), (0, .nameAndType 27 28), (0, u "java/lang/String"), (0, u "valueOf"), (0, u "(C)Ljava/lang/String;"), (0, .methodref 8 30), (0, .nameAndType 5 31), (0, u "(Ljava/lang/String;IIILcom/example/evenkey/evenkey/model/BloomFilterType;)V"), (0, .methodref 8 33), (0, .nameAndType 34 35), (0, u "expiredUpTo"), (0, u "(J)J"), (0, .long 1000), (1, .class_ 39), (0, u "com/example/evenkey/evenkey/model/FamilyDescriptorExpiredUpToPinLaw"), (2, u "law"), (0, u "(IIJIII)Z")] 3

def k1m0 : Method := { name := "<init>", desc := "()V", sig := { parameters := [], returnType := none }, accessFlags := 1, code := none }
def k1c1 : Code := { maxStack := 7, maxLocals := 18, code := code, exceptionTable := #[], attributes := #[] }
def k1m1 : Method := { name := "law", desc := "(IIJIII)Z", sig := { parameters := [.int, .int, .long, .int, .int, .int], returnType := some .boolean }, accessFlags := 9, code := some k1c1 }
/-- com/example/evenkey/evenkey/model/FamilyDescriptorExpiredUpToPinLaw -/
def k1 : Class := { plain "com/example/evenkey/evenkey/model/FamilyDescriptorExpiredUpToPinLaw" (some 0) with
  accessFlags := 49
  interfaces := #[]
  cf := some (fileOf pool1 38 #[] #[{ accessFlags := 1, nameIndex := 5, descriptorIndex := 6, attributes := #[] }, { accessFlags := 9, nameIndex := 42, descriptorIndex := 43, attributes := #[] }] 49 2 #[] #[])
  fields := #[]
  methods := #[k1m0, k1m1]
  instanceTypes := #[]
  staticTypes := #[]
  resolved := Array.replicate 47 none
  statics := none }

def pool2 : Array CpInfo := pool [(1, .class_ 2), (0, u "java/lang/constant/Constable"), (0, .class_ 4), (0, u "java/lang/Object")] 6

/-- java/lang/constant/Constable -/
def k2 : Class := { plain "java/lang/constant/Constable" (some 0) with
  accessFlags := 1537
  interfaces := #[]
  cf := some (fileOf pool2 1 #[] #[] 1537 3 #[] #[])
  fields := #[]
  methods := #[]
  instanceTypes := #[]
  staticTypes := #[]
  resolved := Array.replicate 11 none
  statics := none }

def pool3 : Array CpInfo := pool [(1, .class_ 2), (0, u "java/lang/Comparable"), (0, .class_ 4), (0, u "java/lang/Object")] 7

/-- java/lang/Comparable -/
def k3 : Class := { plain "java/lang/Comparable" (some 0) with
  accessFlags := 1537
  interfaces := #[]
  cf := some (fileOf pool3 1 #[] #[] 1537 3 #[] #[])
  fields := #[]
  methods := #[]
  instanceTypes := #[]
  staticTypes := #[]
  resolved := Array.replicate 12 none
  statics := none }

def pool4 : Array CpInfo := pool [(1, .class_ 2), (0, u "java/io/Serializable"), (0, .class_ 4), (0, u "java/lang/Object")] 2

/-- java/io/Serializable -/
def k4 : Class := { plain "java/io/Serializable" (some 0) with
  accessFlags := 1537
  interfaces := #[]
  cf := some (fileOf pool4 1 #[] #[] 1537 3 #[] #[])
  fields := #[]
  methods := #[]
  instanceTypes := #[]
  staticTypes := #[]
  resolved := Array.replicate 7 none
  statics := none }

def pool5 : Array CpInfo := pool [(2, .class_ 4), (1, u "java/lang/Enum"), (0, u "name"), (0, u "Ljava/lang/String;"), (2, u "ordinal"), (0, u "I"), (1, .class_ 14), (1, u "java/lang/Object"), (4, u "hash"), (86, .class_ 108), (1, u "java/lang/Enum$EnumDesc"), (2, .class_ 112), (0, u "java/lang/constant/Constable"), (0, .class_ 114), (0, u "java/lang/Comparable"), (0, .class_ 116), (0, u "java/io/Serializable")] 87

/-- java/lang/Enum -/
def k5 : Class := { plain "java/lang/Enum" (some 0) with
  accessFlags := 1057
  interfaces := #[2, 3, 4]
  cf := some (fileOf pool5 2 #[.nestMembers #[106]] #[] 1057 12 #[111, 113, 115] #[{ accessFlags := 18, nameIndex := 5, descriptorIndex := 6, attributes := #[] }, { accessFlags := 18, nameIndex := 9, descriptorIndex := 10, attributes := #[] }, { accessFlags := 2, nameIndex := 19, descriptorIndex := 10, attributes := #[] }])
  fields := #[{ name := "name", type := (.object "java/lang/String"), accessFlags := 18, slot := 0, constantValue := 0 }, { name := "ordinal", type := .int, accessFlags := 18, slot := 1, constantValue := 0 }, { name := "hash", type := .int, accessFlags := 2, slot := 2, constantValue := 0 }]
  methods := #[]
  instanceTypes := #[(.object "java/lang/String"), .int, .int]
  staticTypes := #[]
  resolved := Array.replicate 204 none
  statics := none }

def pool6 : Array CpInfo := pool [(1, .class_ 2), (0, u "com/example/evenkey/evenkey/model/BloomFilterType"), (2, u "NONE"), (0, u "Lcom/example/evenkey/evenkey/model/BloomFilterType;"), (2, u "ROW"), (2, u "ROWCOL"), (2, u "$VALUES"), (0, u "[Lcom/example/evenkey/evenkey/model/BloomFilterType;"), (6, .class_ 25), (1, u "java/lang/Enum")] 25

/-- com/example/evenkey/evenkey/model/BloomFilterType -/
def k6 : Class := { plain "com/example/evenkey/evenkey/model/BloomFilterType" (some 5) with
  accessFlags := 16433
  interfaces := #[]
  cf := some (fileOf pool6 1 #[] #[] 16433 23 #[] #[{ accessFlags := 16409, nameIndex := 5, descriptorIndex := 6, attributes := #[] }, { accessFlags := 16409, nameIndex := 9, descriptorIndex := 6, attributes := #[] }, { accessFlags := 16409, nameIndex := 12, descriptorIndex := 6, attributes := #[] }, { accessFlags := 4122, nameIndex := 15, descriptorIndex := 16, attributes := #[] }])
  fields := #[{ name := "NONE", type := (.object "com/example/evenkey/evenkey/model/BloomFilterType"), accessFlags := 16409, slot := 0, constantValue := 0 }, { name := "ROW", type := (.object "com/example/evenkey/evenkey/model/BloomFilterType"), accessFlags := 16409, slot := 1, constantValue := 0 }, { name := "ROWCOL", type := (.object "com/example/evenkey/evenkey/model/BloomFilterType"), accessFlags := 16409, slot := 2, constantValue := 0 }, { name := "$VALUES", type := (.array (.object "com/example/evenkey/evenkey/model/BloomFilterType")), accessFlags := 4122, slot := 3, constantValue := 0 }]
  methods := #[]
  instanceTypes := #[(.object "java/lang/String"), .int, .int]
  staticTypes := #[(.object "com/example/evenkey/evenkey/model/BloomFilterType"), (.object "com/example/evenkey/evenkey/model/BloomFilterType"), (.object "com/example/evenkey/evenkey/model/BloomFilterType"), (.array (.object "com/example/evenkey/evenkey/model/BloomFilterType"))]
  resolved := Array.replicate 51 none
  statics := some 0 }

def pool7 : Array CpInfo := pool [(1, .methodref 2 3), (0, .class_ 4), (0, .nameAndType 5 6), (0, u "java/lang/Object"), (0, u "<init>"), (0, u "()V"), (0, .class_ 8), (0, u "java/lang/Record")] 13

def k7c0 : Code := { maxStack := 1, maxLocals := 1, code := jdk_30_method_1_code, exceptionTable := #[], attributes := #[] }
def k7m0 : Method := { name := "<init>", desc := "()V", sig := { parameters := [], returnType := none }, accessFlags := 4, code := some k7c0 }
/-- java/lang/Record -/
def k7 : Class := { plain "java/lang/Record" (some 0) with
  accessFlags := 1057
  interfaces := #[]
  cf := some (fileOf pool7 7 #[] #[{ accessFlags := 4, nameIndex := 5, descriptorIndex := 6, attributes := #[] }] 1057 2 #[] #[])
  fields := #[]
  methods := #[k7m0]
  instanceTypes := #[]
  staticTypes := #[]
  resolved := Array.replicate 22 none
  statics := none }

def pool8 : Array CpInfo := pool [(3, .methodref 4 5), (0, .class_ 6), (0, .nameAndType 7 8), (0, u "java/lang/Record"), (0, u "<init>"), (0, u "()V"), (0, .string 10), (0, u "name"), (0, .methodref 12 13), (0, .class_ 14), (0, .nameAndType 15 16), (0, u "java/util/Objects"), (0, u "requireNonNull"), (0, u "(Ljava/lang/Object;Ljava/lang/String;)Ljava/lang/Object;"), (0, .string 18), (0, u "bloomFilter"), (0, .methodref 20 21), (0, .class_ 22), (0, .nameAndType 23 24), (0, u "java/lang/String"), (0, u "isEmpty"), (0, u "()Z"), (0, .methodref 20 26), (0, .nameAndType 27 28), (0, u "length"), (0, u "()I"), (0, .class_ 30), (0, u "com/example/evenkey/evenkey/model/FamilyDescriptor"), (9, .methodref 20 41), (0, .nameAndType 42 43), (0, u "charAt"), (0, u "(I)C"), (5, .integer 16777216), (1, .fieldref 29 52), (0, .nameAndType 10 53), (0, u "Ljava/lang/String;"), (0, .fieldref 29 55), (0, .nameAndType 56 57), (0, u "maxVersions"), (0, u "I"), (0, .fieldref 29 59), (0, .nameAndType 60 57), (0, u "timeToLive"), (0, .fieldref 29 62), (0, .nameAndType 63 57), (0, u "blockSize"), (0, .fieldref 29 65), (0, .nameAndType 18 66), (0, u "Lcom/example/evenkey/evenkey/model/BloomFilterType;"), (0, .integer 2147483647), (3, u "DEFAULT_BLOOM_FILTER"), (2, u "(Ljava/lang/String;IIILcom/example/evenkey/evenkey/model/BloomFilterType;)V"), (3, .long 18446744073709551615), (1, .long 1000), (18, u "DEFAULT_MAX_VERSIONS"), (2, u "FOREVER"), (0, u "DEFAULT_BLOCK_SIZE"), (0, u "MIN_BLOCK_SIZE"), (1, u "MAX_BLOCK_SIZE"), (0, u "MAX_NAME_LENGTH"), (13, u "expiredUpTo"), (0, u "(J)J")] 44

def k8c0 : Code := { maxStack := 3, maxLocals := 8, code := prog_8_method_1_code, exceptionTable := #[], attributes := #[] }
def k8m0 : Method := { name := "<init>", desc := "(Ljava/lang/String;IIILcom/example/evenkey/evenkey/model/BloomFilterType;)V", sig := { parameters := [(.object "java/lang/String"), .int, .int, .int, (.object "com/example/evenkey/evenkey/model/BloomFilterType")], returnType := none }, accessFlags := 1, code := some k8c0 }
def k8c1 : Code := { maxStack := 6, maxLocals := 3, code := prog_8_method_8_code, exceptionTable := #[], attributes := #[] }
def k8m1 : Method := { name := "expiredUpTo", desc := "(J)J", sig := { parameters := [.long], returnType := some .long }, accessFlags := 1, code := some k8c1 }
/-- com/example/evenkey/evenkey/model/FamilyDescriptor -/
def k8 : Class := { plain "com/example/evenkey/evenkey/model/FamilyDescriptor" (some 7) with
  accessFlags := 49
  interfaces := #[]
  cf := some (fileOf pool8 29 #[] #[{ accessFlags := 1, nameIndex := 7, descriptorIndex := 74, attributes := #[] }, { accessFlags := 1, nameIndex := 121, descriptorIndex := 122, attributes := #[] }] 49 4 #[] #[{ accessFlags := 18, nameIndex := 10, descriptorIndex := 53, attributes := #[] }, { accessFlags := 18, nameIndex := 56, descriptorIndex := 57, attributes := #[] }, { accessFlags := 18, nameIndex := 60, descriptorIndex := 57, attributes := #[] }, { accessFlags := 18, nameIndex := 63, descriptorIndex := 57, attributes := #[] }, { accessFlags := 18, nameIndex := 18, descriptorIndex := 66, attributes := #[] }, { accessFlags := 25, nameIndex := 99, descriptorIndex := 57, attributes := #[] }, { accessFlags := 25, nameIndex := 102, descriptorIndex := 57, attributes := #[] }, { accessFlags := 25, nameIndex := 103, descriptorIndex := 57, attributes := #[] }, { accessFlags := 25, nameIndex := 104, descriptorIndex := 57, attributes := #[] }, { accessFlags := 25, nameIndex := 106, descriptorIndex := 57, attributes := #[] }, { accessFlags := 25, nameIndex := 71, descriptorIndex := 66, attributes := #[] }, { accessFlags := 26, nameIndex := 107, descriptorIndex := 57, attributes := #[] }])
  fields := #[{ name := "name", type := (.object "java/lang/String"), accessFlags := 18, slot := 0, constantValue := 0 }, { name := "maxVersions", type := .int, accessFlags := 18, slot := 1, constantValue := 0 }, { name := "timeToLive", type := .int, accessFlags := 18, slot := 2, constantValue := 0 }, { name := "blockSize", type := .int, accessFlags := 18, slot := 3, constantValue := 0 }, { name := "bloomFilter", type := (.object "com/example/evenkey/evenkey/model/BloomFilterType"), accessFlags := 18, slot := 4, constantValue := 0 }, { name := "DEFAULT_MAX_VERSIONS", type := .int, accessFlags := 25, slot := 0, constantValue := 0 }, { name := "FOREVER", type := .int, accessFlags := 25, slot := 1, constantValue := 0 }, { name := "DEFAULT_BLOCK_SIZE", type := .int, accessFlags := 25, slot := 2, constantValue := 0 }, { name := "MIN_BLOCK_SIZE", type := .int, accessFlags := 25, slot := 3, constantValue := 0 }, { name := "MAX_BLOCK_SIZE", type := .int, accessFlags := 25, slot := 4, constantValue := 0 }, { name := "DEFAULT_BLOOM_FILTER", type := (.object "com/example/evenkey/evenkey/model/BloomFilterType"), accessFlags := 25, slot := 5, constantValue := 0 }, { name := "MAX_NAME_LENGTH", type := .int, accessFlags := 26, slot := 6, constantValue := 0 }]
  methods := #[k8m0, k8m1]
  instanceTypes := #[(.object "java/lang/String"), .int, .int, .int, (.object "com/example/evenkey/evenkey/model/BloomFilterType")]
  staticTypes := #[.int, .int, .int, .int, .int, (.object "com/example/evenkey/evenkey/model/BloomFilterType"), .int]
  resolved := Array.replicate 167 none
  statics := none }

def pool9 : Array CpInfo := pool [(2, .class_ 4), (1, u "java/lang/CharSequence"), (42, .class_ 48), (0, u "java/lang/CharSequence$1CodePointIterator"), (10, .class_ 60), (0, u "java/lang/CharSequence$1CharIterator"), (5, .class_ 67), (0, u "java/lang/Object")] 63

/-- java/lang/CharSequence -/
def k9 : Class := { plain "java/lang/CharSequence" (some 0) with
  accessFlags := 1537
  interfaces := #[]
  cf := some (fileOf pool9 2 #[.nestMembers #[47, 59]] #[] 1537 66 #[] #[])
  fields := #[]
  methods := #[]
  instanceTypes := #[]
  staticTypes := #[]
  resolved := Array.replicate 131 none
  statics := none }

def pool10 : Array CpInfo := pool [(1, .class_ 2), (0, u "java/lang/constant/ConstantDesc"), (0, .class_ 4), (0, u "java/lang/Object")] 32

/-- java/lang/constant/ConstantDesc -/
def k10 : Class := { plain "java/lang/constant/ConstantDesc" (some 0) with
  accessFlags := 1537
  interfaces := #[]
  cf := some (fileOf pool10 1 #[] #[] 1537 3 #[] #[])
  fields := #[]
  methods := #[]
  instanceTypes := #[]
  staticTypes := #[]
  resolved := Array.replicate 37 none
  statics := none }

def pool11 : Array CpInfo := pool [(1, .methodref 2 3), (0, .class_ 4), (0, .nameAndType 5 6), (0, u "java/lang/Object"), (0, u "<init>"), (0, u "()V"), (2, .fieldref 10 11), (0, .class_ 12), (0, .nameAndType 13 14), (0, u "java/lang/String"), (0, u "value"), (0, u "[B"), (0, .fieldref 10 16), (0, .nameAndType 17 18), (0, u "coder"), (0, u "B"), (2, u "hash"), (0, u "I"), (2, u "hashIsZero"), (0, u "Z"), (11, .fieldref 10 39), (0, .nameAndType 40 26), (0, u "COMPACT_STRINGS"), (12, u "toBytes"), (53, .class_ 109), (1, u "java/lang/StringLatin1"), (32, u "()Z"), (66, .methodref 10 210), (0, .nameAndType 5 211), (0, u "([BB)V"), (122, u "()I"), (0, .methodref 10 336), (0, .nameAndType 17 337), (0, u "()B"), (25, u "([BI)C"), (5, u "(C)Z"), (21, u "(II)V"), (35, u "(I)C"), (64, .methodref 10 493), (0, .nameAndType 494 142), (0, u "isLatin1"), (0, .methodref 107 496), (0, .nameAndType 497 363), (0, u "charAt"), (3, u "checkIndex"), (5, u "length"), (67, .class_ 576), (0, u "java/lang/CharSequence"), (22, u "CASE_INSENSITIVE_ORDER"), (0, u "Ljava/util/Comparator;"), (91, u "isEmpty"), (89, u "valueOf"), (0, u "(C)Ljava/lang/String;"), (231, .methodref 107 1016), (0, .nameAndType 1017 369), (0, u "canEncode"), (0, .methodref 107 1019), (0, .nameAndType 53 1020), (0, u "(C)[B"), (32, .fieldref 1054 1055), (0, .class_ 1056), (0, .nameAndType 1057 1058), (0, u "jdk/internal/util/Preconditions"), (0, u "SIOOBE_FORMATTER"), (0, u "Ljava/util/function/BiFunction;"), (0, .methodref 1054 1060), (0, .nameAndType 501 1061), (0, u "(IILjava/util/function/BiFunction;)I"), (39, u "serialPersistentFields"), (0, u "[Ljava/io/ObjectStreamField;"), (0, .class_ 1104), (0, u "java/lang/String$CaseInsensitiveComparator"), (1, .class_ 1107), (0, u "java/io/Serializable"), (0, .class_ 1109), (0, u "java/lang/Comparable"), (0, .class_ 1111), (0, u "java/lang/constant/Constable"), (0, .class_ 1113), (0, u "java/lang/constant/ConstantDesc"), (2, u "serialVersionUID"), (0, u "J"), (3, u "REPL"), (0, u "C"), (2, u "LATIN1"), (1, u "UTF16")] 323

def k11m0 : Method := { name := "<init>", desc := "()V", sig := { parameters := [], returnType := none }, accessFlags := 1, code := none }
def k11c1 : Code := { maxStack := 2, maxLocals := 1, code := jdk_42_method_54_code, exceptionTable := #[], attributes := #[] }
def k11m1 : Method := { name := "length", desc := "()I", sig := { parameters := [], returnType := some .int }, accessFlags := 1, code := some k11c1 }
def k11c2 : Code := { maxStack := 1, maxLocals := 1, code := jdk_42_method_55_code, exceptionTable := #[], attributes := #[] }
def k11m2 : Method := { name := "isEmpty", desc := "()Z", sig := { parameters := [], returnType := some .boolean }, accessFlags := 1, code := some k11c2 }
def k11c3 : Code := { maxStack := 2, maxLocals := 2, code := jdk_42_method_56_code, exceptionTable := #[], attributes := #[] }
def k11m3 : Method := { name := "charAt", desc := "(I)C", sig := { parameters := [.int], returnType := some .char }, accessFlags := 1, code := some k11c3 }
def k11c4 : Code := { maxStack := 4, maxLocals := 1, code := jdk_42_method_139_code, exceptionTable := #[], attributes := #[] }
def k11m4 : Method := { name := "valueOf", desc := "(C)Ljava/lang/String;", sig := { parameters := [.char], returnType := some (.object "java/lang/String") }, accessFlags := 9, code := some k11c4 }
def k11c5 : Code := { maxStack := 2, maxLocals := 3, code := jdk_42_method_151_code, exceptionTable := #[], attributes := #[] }
def k11m5 : Method := { name := "<init>", desc := "([BB)V", sig := { parameters := [(.array .byte), .byte], returnType := none }, accessFlags := 0, code := some k11c5 }
def k11c6 : Code := { maxStack := 1, maxLocals := 1, code := jdk_42_method_152_code, exceptionTable := #[], attributes := #[] }
def k11m6 : Method := { name := "coder", desc := "()B", sig := { parameters := [], returnType := some .byte }, accessFlags := 0, code := some k11c6 }
def k11c7 : Code := { maxStack := 1, maxLocals := 1, code := jdk_42_method_154_code, exceptionTable := #[], attributes := #[] }
def k11m7 : Method := { name := "isLatin1", desc := "()Z", sig := { parameters := [], returnType := some .boolean }, accessFlags := 0, code := some k11c7 }
def k11c8 : Code := { maxStack := 3, maxLocals := 2, code := jdk_42_method_155_code, exceptionTable := #[], attributes := #[] }
def k11m8 : Method := { name := "checkIndex", desc := "(II)V", sig := { parameters := [.int, .int], returnType := none }, accessFlags := 8, code := some k11c8 }
/-- java/lang/String -/
def k11 : Class := { plain "java/lang/String" (some 0) with
  accessFlags := 49
  interfaces := #[4, 3, 9, 2, 10]
  cf := some (fileOf pool11 10 #[.nestMembers #[1103]] #[{ accessFlags := 1, nameIndex := 5, descriptorIndex := 6, attributes := #[] }, { accessFlags := 1, nameIndex := 507, descriptorIndex := 334, attributes := #[] }, { accessFlags := 1, nameIndex := 692, descriptorIndex := 142, attributes := #[] }, { accessFlags := 1, nameIndex := 497, descriptorIndex := 427, attributes := #[] }, { accessFlags := 9, nameIndex := 782, descriptorIndex := 783, attributes := #[] }, { accessFlags := 0, nameIndex := 5, descriptorIndex := 211, attributes := #[] }, { accessFlags := 0, nameIndex := 17, descriptorIndex := 337, attributes := #[] }, { accessFlags := 0, nameIndex := 494, descriptorIndex := 142, attributes := #[] }, { accessFlags := 8, nameIndex := 501, descriptorIndex := 391, attributes := #[] }] 49 2 #[1106, 1108, 575, 1110, 1112] #[{ accessFlags := 18, nameIndex := 13, descriptorIndex := 14, attributes := #[] }, { accessFlags := 18, nameIndex := 17, descriptorIndex := 18, attributes := #[] }, { accessFlags := 2, nameIndex := 21, descriptorIndex := 22, attributes := #[] }, { accessFlags := 2, nameIndex := 25, descriptorIndex := 26, attributes := #[] }, { accessFlags := 26, nameIndex := 1116, descriptorIndex := 1117, attributes := #[] }, { accessFlags := 24, nameIndex := 40, descriptorIndex := 26, attributes := #[] }, { accessFlags := 26, nameIndex := 1101, descriptorIndex := 1102, attributes := #[] }, { accessFlags := 26, nameIndex := 1121, descriptorIndex := 1122, attributes := #[] }, { accessFlags := 25, nameIndex := 599, descriptorIndex := 600, attributes := #[] }, { accessFlags := 24, nameIndex := 1125, descriptorIndex := 18, attributes := #[] }, { accessFlags := 24, nameIndex := 1127, descriptorIndex := 18, attributes := #[] }])
  fields := #[{ name := "value", type := (.array .byte), accessFlags := 18, slot := 0, constantValue := 0 }, { name := "coder", type := .byte, accessFlags := 18, slot := 1, constantValue := 0 }, { name := "hash", type := .int, accessFlags := 2, slot := 2, constantValue := 0 }, { name := "hashIsZero", type := .boolean, accessFlags := 2, slot := 3, constantValue := 0 }, { name := "serialVersionUID", type := .long, accessFlags := 26, slot := 0, constantValue := 0 }, { name := "COMPACT_STRINGS", type := .boolean, accessFlags := 24, slot := 1, constantValue := 0 }, { name := "serialPersistentFields", type := (.array (.object "java/io/ObjectStreamField")), accessFlags := 26, slot := 2, constantValue := 0 }, { name := "REPL", type := .char, accessFlags := 26, slot := 3, constantValue := 0 }, { name := "CASE_INSENSITIVE_ORDER", type := (.object "java/util/Comparator"), accessFlags := 25, slot := 4, constantValue := 0 }, { name := "LATIN1", type := .byte, accessFlags := 24, slot := 5, constantValue := 0 }, { name := "UTF16", type := .byte, accessFlags := 24, slot := 6, constantValue := 0 }]
  methods := #[k11m0, k11m1, k11m2, k11m3, k11m4, k11m5, k11m6, k11m7, k11m8]
  instanceTypes := #[(.array .byte), .byte, .int, .boolean]
  staticTypes := #[.long, .boolean, (.array (.object "java/io/ObjectStreamField")), .char, (.object "java/util/Comparator"), .byte, .byte]
  resolved := Array.replicate 1451 none
  statics := some 1 }

def pool12 : Array CpInfo := pool [(1, .class_ 2), (0, u "java/lang/String"), (1, .class_ 6), (1, u "java/lang/Object"), (0, u "<init>"), (0, u "()V"), (0, .methodref 1 10), (0, .nameAndType 11 12), (0, u "checkIndex"), (0, u "(II)V"), (1, .class_ 16), (1, u "java/lang/StringLatin1"), (36, u "([BI)C"), (36, u "canEncode"), (14, u "(C)Z"), (15, u "$assertionsDisabled"), (0, u "Z"), (98, .class_ 223), (1, u "java/lang/StringLatin1$LinesSpliterator"), (28, u "charAt"), (127, u "toBytes"), (1, u "(C)[B"), (7, .class_ 391), (0, u "java/lang/StringLatin1$CharsSpliterator")] 3

def k12m0 : Method := { name := "<init>", desc := "()V", sig := { parameters := [], returnType := none }, accessFlags := 0, code := none }
def k12c1 : Code := { maxStack := 2, maxLocals := 2, code := jdk_43_method_2_code, exceptionTable := #[], attributes := #[] }
def k12m1 : Method := { name := "charAt", desc := "([BI)C", sig := { parameters := [(.array .byte), .int], returnType := some .char }, accessFlags := 9, code := some k12c1 }
def k12c2 : Code := { maxStack := 2, maxLocals := 1, code := jdk_43_method_3_code, exceptionTable := #[], attributes := #[] }
def k12m2 : Method := { name := "canEncode", desc := "(C)Z", sig := { parameters := [.char], returnType := some .boolean }, accessFlags := 9, code := some k12c2 }
def k12c3 : Code := { maxStack := 4, maxLocals := 1, code := jdk_43_method_46_code, exceptionTable := #[], attributes := #[] }
def k12m3 : Method := { name := "toBytes", desc := "(C)[B", sig := { parameters := [.char], returnType := some (.array .byte) }, accessFlags := 9, code := some k12c3 }
/-- java/lang/StringLatin1 -/
def k12 : Class := { plain "java/lang/StringLatin1" (some 0) with
  accessFlags := 48
  interfaces := #[]
  cf := some (fileOf pool12 14 #[.nestMembers #[390, 221]] #[{ accessFlags := 0, nameIndex := 7, descriptorIndex := 8, attributes := #[] }, { accessFlags := 9, nameIndex := 252, descriptorIndex := 53, attributes := #[] }, { accessFlags := 9, nameIndex := 90, descriptorIndex := 105, attributes := #[] }, { accessFlags := 9, nameIndex := 380, descriptorIndex := 382, attributes := #[] }] 48 4 #[] #[{ accessFlags := 4120, nameIndex := 121, descriptorIndex := 122, attributes := #[] }])
  fields := #[{ name := "$assertionsDisabled", type := .boolean, accessFlags := 4120, slot := 0, constantValue := 0 }]
  methods := #[k12m0, k12m1, k12m2, k12m3]
  instanceTypes := #[]
  staticTypes := #[.boolean]
  resolved := Array.replicate 395 none
  statics := none }

def pool13 : Array CpInfo := pool [(2, .class_ 4), (1, u "java/lang/Object"), (0, u "<init>"), (0, u "()V"), (35, .class_ 44), (1, u "java/util/Objects"), (0, u "requireNonNull"), (48, u "(Ljava/lang/Object;Ljava/lang/String;)Ljava/lang/Object;")] 89

def k13m0 : Method := { name := "<init>", desc := "()V", sig := { parameters := [], returnType := none }, accessFlags := 2, code := none }
def k13c1 : Code := { maxStack := 3, maxLocals := 2, code := jdk_31_method_11_code, exceptionTable := #[], attributes := #[] }
def k13m1 : Method := { name := "requireNonNull", desc := "(Ljava/lang/Object;Ljava/lang/String;)Ljava/lang/Object;", sig := { parameters := [(.object "java/lang/Object"), (.object "java/lang/String")], returnType := some (.object "java/lang/Object") }, accessFlags := 9, code := some k13c1 }
/-- java/util/Objects -/
def k13 : Class := { plain "java/util/Objects" (some 0) with
  accessFlags := 49
  interfaces := #[]
  cf := some (fileOf pool13 42 #[] #[{ accessFlags := 2, nameIndex := 5, descriptorIndex := 6, attributes := #[] }, { accessFlags := 9, nameIndex := 45, descriptorIndex := 94, attributes := #[] }] 49 2 #[] #[])
  fields := #[]
  methods := #[k13m0, k13m1]
  instanceTypes := #[]
  staticTypes := #[]
  resolved := Array.replicate 184 none
  statics := none }

def pool14 : Array CpInfo := pool [(2, .class_ 4), (1, u "java/lang/Object"), (0, u "<init>"), (0, u "()V"), (17, .class_ 26), (1, u "jdk/internal/util/Preconditions"), (6, u "checkIndex"), (21, .class_ 56), (0, u "jdk/internal/util/Preconditions$4"), (57, .class_ 115), (0, u "jdk/internal/util/Preconditions$1"), (7, u "SIOOBE_FORMATTER"), (0, u "Ljava/util/function/BiFunction;"), (0, .class_ 126), (0, u "jdk/internal/util/Preconditions$2"), (3, u "AIOOBE_FORMATTER"), (0, .class_ 132), (0, u "jdk/internal/util/Preconditions$3"), (3, u "IOOBE_FORMATTER"), (41, u "(IILjava/util/function/BiFunction;)I")] 15

def k14m0 : Method := { name := "<init>", desc := "()V", sig := { parameters := [], returnType := none }, accessFlags := 1, code := none }
def k14c1 : Code := { maxStack := 3, maxLocals := 3, code := jdk_41_method_11_code, exceptionTable := #[], attributes := #[] }
def k14m1 : Method := { name := "checkIndex", desc := "(IILjava/util/function/BiFunction;)I", sig := { parameters := [.int, .int, (.object "java/util/function/BiFunction")], returnType := some .int }, accessFlags := 9, code := some k14c1 }
/-- jdk/internal/util/Preconditions -/
def k14 : Class := { plain "jdk/internal/util/Preconditions" (some 0) with
  accessFlags := 33
  interfaces := #[]
  cf := some (fileOf pool14 24 #[.nestMembers #[55, 131, 125, 114]] #[{ accessFlags := 1, nameIndex := 5, descriptorIndex := 6, attributes := #[] }, { accessFlags := 9, nameIndex := 33, descriptorIndex := 178, attributes := #[] }] 33 2 #[] #[{ accessFlags := 25, nameIndex := 123, descriptorIndex := 124, attributes := #[] }, { accessFlags := 25, nameIndex := 130, descriptorIndex := 124, attributes := #[] }, { accessFlags := 25, nameIndex := 136, descriptorIndex := 124, attributes := #[] }])
  fields := #[{ name := "SIOOBE_FORMATTER", type := (.object "java/util/function/BiFunction"), accessFlags := 25, slot := 0, constantValue := 0 }, { name := "AIOOBE_FORMATTER", type := (.object "java/util/function/BiFunction"), accessFlags := 25, slot := 1, constantValue := 0 }, { name := "IOOBE_FORMATTER", type := (.object "java/util/function/BiFunction"), accessFlags := 25, slot := 2, constantValue := 0 }]
  methods := #[k14m0, k14m1]
  instanceTypes := #[]
  staticTypes := #[(.object "java/util/function/BiFunction"), (.object "java/util/function/BiFunction"), (.object "java/util/function/BiFunction")]
  resolved := Array.replicate 194 none
  statics := some 2 }

def pool15 : Array CpInfo := pool [(9, u "<init>"), (6, .class_ 18), (1, u "java/lang/Object"), (0, u "()V"), (1, .class_ 23), (1, u "jdk/internal/util/ArraysSupport"), (0, u "LOG2_ARRAY_LONG_INDEX_SCALE"), (0, u "I"), (2, u "U"), (0, u "Ljdk/internal/misc/Unsafe;"), (8, u "BIG_ENDIAN"), (0, u "Z"), (8, u "LOG2_BYTE_BIT_SIZE"), (4, u "LOG2_ARRAY_INT_INDEX_SCALE"), (54, u "JLA"), (0, u "Ljdk/internal/access/JavaLangAccess;"), (11, u "LOG2_ARRAY_BOOLEAN_INDEX_SCALE"), (9, u "LOG2_ARRAY_BYTE_INDEX_SCALE"), (5, u "LOG2_ARRAY_CHAR_INDEX_SCALE"), (5, u "LOG2_ARRAY_SHORT_INDEX_SCALE"), (18, u "LOG2_ARRAY_FLOAT_INDEX_SCALE"), (24, u "LOG2_ARRAY_DOUBLE_INDEX_SCALE"), (89, u "T_BOOLEAN"), (2, u "T_CHAR"), (1, u "T_FLOAT"), (1, u "T_DOUBLE"), (1, u "T_BYTE"), (1, u "T_SHORT"), (1, u "T_INT"), (1, u "T_LONG"), (1, u "SOFT_MAX_ARRAY_LENGTH")] 83

def k15m0 : Method := { name := "<init>", desc := "()V", sig := { parameters := [], returnType := none }, accessFlags := 2, code := none }
/-- jdk/internal/util/ArraysSupport -/
def k15 : Class := { plain "jdk/internal/util/ArraysSupport" (some 0) with
  accessFlags := 33
  interfaces := #[]
  cf := some (fileOf pool15 21 #[] #[{ accessFlags := 2, nameIndex := 9, descriptorIndex := 19, attributes := #[] }] 33 16 #[] #[{ accessFlags := 24, nameIndex := 28, descriptorIndex := 29, attributes := #[] }, { accessFlags := 26, nameIndex := 38, descriptorIndex := 39, attributes := #[] }, { accessFlags := 25, nameIndex := 121, descriptorIndex := 25, attributes := #[] }, { accessFlags := 25, nameIndex := 131, descriptorIndex := 25, attributes := #[] }, { accessFlags := 25, nameIndex := 137, descriptorIndex := 25, attributes := #[] }, { accessFlags := 25, nameIndex := 143, descriptorIndex := 25, attributes := #[] }, { accessFlags := 25, nameIndex := 53, descriptorIndex := 25, attributes := #[] }, { accessFlags := 25, nameIndex := 24, descriptorIndex := 25, attributes := #[] }, { accessFlags := 25, nameIndex := 162, descriptorIndex := 25, attributes := #[] }, { accessFlags := 25, nameIndex := 187, descriptorIndex := 25, attributes := #[] }, { accessFlags := 26, nameIndex := 48, descriptorIndex := 25, attributes := #[] }, { accessFlags := 25, nameIndex := 277, descriptorIndex := 25, attributes := #[] }, { accessFlags := 25, nameIndex := 280, descriptorIndex := 25, attributes := #[] }, { accessFlags := 25, nameIndex := 282, descriptorIndex := 25, attributes := #[] }, { accessFlags := 25, nameIndex := 284, descriptorIndex := 25, attributes := #[] }, { accessFlags := 25, nameIndex := 286, descriptorIndex := 25, attributes := #[] }, { accessFlags := 25, nameIndex := 288, descriptorIndex := 25, attributes := #[] }, { accessFlags := 25, nameIndex := 290, descriptorIndex := 25, attributes := #[] }, { accessFlags := 25, nameIndex := 292, descriptorIndex := 25, attributes := #[] }, { accessFlags := 26, nameIndex := 108, descriptorIndex := 109, attributes := #[] }, { accessFlags := 25, nameIndex := 294, descriptorIndex := 25, attributes := #[] }])
  fields := #[{ name := "U", type := (.object "jdk/internal/misc/Unsafe"), accessFlags := 24, slot := 0, constantValue := 0 }, { name := "BIG_ENDIAN", type := .boolean, accessFlags := 26, slot := 1, constantValue := 0 }, { name := "LOG2_ARRAY_BOOLEAN_INDEX_SCALE", type := .int, accessFlags := 25, slot := 2, constantValue := 0 }, { name := "LOG2_ARRAY_BYTE_INDEX_SCALE", type := .int, accessFlags := 25, slot := 3, constantValue := 0 }, { name := "LOG2_ARRAY_CHAR_INDEX_SCALE", type := .int, accessFlags := 25, slot := 4, constantValue := 0 }, { name := "LOG2_ARRAY_SHORT_INDEX_SCALE", type := .int, accessFlags := 25, slot := 5, constantValue := 0 }, { name := "LOG2_ARRAY_INT_INDEX_SCALE", type := .int, accessFlags := 25, slot := 6, constantValue := 0 }, { name := "LOG2_ARRAY_LONG_INDEX_SCALE", type := .int, accessFlags := 25, slot := 7, constantValue := 0 }, { name := "LOG2_ARRAY_FLOAT_INDEX_SCALE", type := .int, accessFlags := 25, slot := 8, constantValue := 0 }, { name := "LOG2_ARRAY_DOUBLE_INDEX_SCALE", type := .int, accessFlags := 25, slot := 9, constantValue := 0 }, { name := "LOG2_BYTE_BIT_SIZE", type := .int, accessFlags := 26, slot := 10, constantValue := 0 }, { name := "T_BOOLEAN", type := .int, accessFlags := 25, slot := 11, constantValue := 0 }, { name := "T_CHAR", type := .int, accessFlags := 25, slot := 12, constantValue := 0 }, { name := "T_FLOAT", type := .int, accessFlags := 25, slot := 13, constantValue := 0 }, { name := "T_DOUBLE", type := .int, accessFlags := 25, slot := 14, constantValue := 0 }, { name := "T_BYTE", type := .int, accessFlags := 25, slot := 15, constantValue := 0 }, { name := "T_SHORT", type := .int, accessFlags := 25, slot := 16, constantValue := 0 }, { name := "T_INT", type := .int, accessFlags := 25, slot := 17, constantValue := 0 }, { name := "T_LONG", type := .int, accessFlags := 25, slot := 18, constantValue := 0 }, { name := "JLA", type := (.object "jdk/internal/access/JavaLangAccess"), accessFlags := 26, slot := 19, constantValue := 0 }, { name := "SOFT_MAX_ARRAY_LENGTH", type := .int, accessFlags := 25, slot := 20, constantValue := 0 }]
  methods := #[k15m0]
  instanceTypes := #[]
  staticTypes := #[(.object "jdk/internal/misc/Unsafe"), .boolean, .int, .int, .int, .int, .int, .int, .int, .int, .int, .int, .int, .int, .int, .int, .int, .int, .int, (.object "jdk/internal/access/JavaLangAccess"), .int]
  resolved := Array.replicate 378 none
  statics := none }

def pool16 : Array CpInfo := pool [(1, u "java/lang/Cloneable"), (0, .class_ 1), (0, u "java/lang/Object"), (0, .class_ 3)] 3

/-- java/lang/Cloneable -/
def k16 : Class := { plain "java/lang/Cloneable" (some 0) with
  accessFlags := 1537
  interfaces := #[]
  cf := some (fileOf pool16 2 #[] #[] 1537 4 #[] #[])
  fields := #[]
  methods := #[]
  instanceTypes := #[]
  staticTypes := #[]
  resolved := Array.replicate 8 none
  statics := none }

/-- the primitive byte -/
def k17 : Class := { plain "byte" none with kind := .primitive 'B', accessFlags := 0x411 }
/-- [B -/
def k18 : Class := { plain "[B" (some 0) with kind := .array 17 .byte, interfaces := #[16, 4], accessFlags := 1041 }

/-- the primitive int -/
def k19 : Class := { plain "int" none with kind := .primitive 'I', accessFlags := 0x411 }
/-- [I -/
def k20 : Class := { plain "[I" (some 0) with kind := .array 19 .int, interfaces := #[16, 4], accessFlags := 1041 }

def heap : Heap := #[{ cls := 6, slots := #[.ref 3, .ref 4, .ref 5, .null], vm := .statics 6 },
  { cls := 11, slots := #[.long 0, .int 1, .null, .int 0, .null, .int 0, .int 0], vm := .statics 11 },
  { cls := 14, slots := #[.null, .null, .null], vm := .statics 14 },
  { cls := 6, slots := #[.null, .int 0, .int 0], vm := .none },
  { cls := 6, slots := #[.null, .int 1, .int 0], vm := .none },
  { cls := 6, slots := #[.null, .int 2, .int 0], vm := .none }]
def classes : Array Class := #[k0, k1, k2, k3, k4, k5, k6, k7, k8, k9, k10, k11, k12, k13, k14, k15, k16, k17, k18, k19, k20]
def interned : List (Array UInt16 × Addr) := []
def slotsUsed : Nat := 23
def theMethod : MethodId := ⟨1, 1⟩
def args0 : Array Value := #[.int 2, .int 60, .long 100000, .int 3, .int 5, .int 40]
def aboutOver (below : List Frame) : State where
  vm := { classes := classes, interned := interned.toArray }
  heap := heap
  slotsUsed := slotsUsed
  threads := #[{ frames := .invoking theMethod args0 :: below }]
def below0 : List Frame := [.native { method := ⟨0, 0⟩, args := #[] }]
def about1 : State := aboutOver below0
def p0 : Program := .bare "" "" ""
def e0 : Env := launch0.env 0 0 0
theorem w_frames : about1.frames = Frame.invoking theMethod args0 :: below0 := rfl
set_option maxRecDepth 65536 in
theorem w_args : argsFit about1.vm theMethod args0 = true := by decide +kernel
set_option maxRecDepth 65536 in
theorem w_heap : heapFits about1 = true := by decide +kernel
set_option maxRecDepth 65536 in
theorem w_runnable : about1.curStatus? = some .runnable := by decide +kernel
set_option maxRecDepth 65536 in
theorem w_alone : about1.alone = true := by decide +kernel
set_option maxRecDepth 65536 in
theorem w_named : about1.methodNamed? x = some theMethod := by decide +kernel
set_option maxRecDepth 65536 in
theorem w_hears : about1.hears theMethod below0 = true := by decide +kernel
set_option maxRecDepth 65536 in
theorem w_ripe : about1.ripe theMethod args0 below0 = true := by decide +kernel
theorem w_running : about1.status = .running := rfl
set_option maxRecDepth 65536 in
theorem w_room : about1.hasRoom e0.platform room_1 = true :=
  launch0.hasRoom_least _ room_1 (by decide +kernel) (by decide +kernel) (by decide +kernel) (by decide +kernel) (by decide +kernel) (by decide +kernel)
theorem allAtoms_all (ts : List Jvm.Cond) (a : Array Jvm.Value) (st : Jvm.State) : (allAtoms ts).before a st = ts.all (fun c => c.before a st) := by
  induction ts with
  | nil => rfl
  | cons c t ih =>
    show (Jvm.Cond.and c (allAtoms t)).before a st = _
    rw [Jvm.Cond.before_and, ih, List.all_cons]
def words1 : List Jvm.Cond := Jvm.Cond.code x code maxLocals ret :: tables_1
/-- a 'code' word, met by the world's own term for the bytes: nothing is compared byte by byte -/
theorem code_word {y : MethodName} {bytes : ByteArray} {mx : Nat} {rt : Option FieldType} {a : Array Value} {s : State} {m : MethodId} {meth : Method} {c : Code} (h1 : s.methodNamed? y = some m) (h2 : s.vm.method? m = some meth) (h3 : meth.code = some c) (h4 : c.code = bytes)
    (h5 : (c.maxLocals == mx && c.exceptionTable.isEmpty && decide (c.maxStack ≤ mostOperands) && decide (meth.sig.returnType = rt) && !meth.locks && decide (parseMethodDescriptor y.desc = some meth.sig)) = true) : (Jvm.Cond.code y bytes mx rt).before a s = true := by
  simp only [Bool.and_eq_true, beq_iff_eq, Bool.not_eq_true', decide_eq_true_eq] at h5
  obtain ⟨⟨⟨⟨⟨g1, g2⟩, g3⟩, g4⟩, g5⟩, g6⟩ := h5
  simp [Cond.before, Cond.holds, Cond.value, h1, h2, h3, h4, g1, g2, g3, g4, g5, g6]
def isCode : Jvm.Cond → Bool
  | .code _ _ _ _ => true
  | _ => false
theorem all_split {L : List Jvm.Cond} {P : Jvm.Cond → Bool} (h1 : L.all (fun c => isCode c || P c) = true) (h2 : ∀ c ∈ L.filter isCode, P c = true) : L.all P = true := by
  refine List.all_eq_true.mpr fun c hc => ?_
  have h := List.all_eq_true.mp h1 c hc
  rcases Bool.eq_false_or_eq_true (isCode c) with hi | hi
  · exact h2 c (List.mem_filter.mpr ⟨hc, hi⟩)
  · simpa [hi] using h
set_option maxRecDepth 65536 in
theorem w_c0 : (Jvm.Cond.code x code maxLocals ret).before args0 about1 = true := code_word (m := ⟨1, 1⟩) (meth := k1m1) (c := k1c1) (by decide +kernel) rfl rfl rfl (by decide +kernel)
set_option maxRecDepth 65536 in
theorem w_c1 : (Jvm.Cond.code ({ cls := "java/lang/String", name := "valueOf", desc := "(C)Ljava/lang/String;" } : Jvm.MethodName) jdk_42_method_139_code (1 : Nat) (Option.some (Jvm.ClassFile.FieldType.object "java/lang/String"))).before args0 about1 = true := code_word (m := ⟨11, 4⟩) (meth := k11m4) (c := k11c4) (by decide +kernel) rfl rfl rfl (by decide +kernel)
set_option maxRecDepth 65536 in
theorem w_c2 : (Jvm.Cond.code ({ cls := "java/lang/StringLatin1", name := "canEncode", desc := "(C)Z" } : Jvm.MethodName) jdk_43_method_3_code (1 : Nat) (Option.some Jvm.ClassFile.FieldType.boolean)).before args0 about1 = true := code_word (m := ⟨12, 2⟩) (meth := k12m2) (c := k12c2) (by decide +kernel) rfl rfl rfl (by decide +kernel)
set_option maxRecDepth 65536 in
theorem w_c3 : (Jvm.Cond.code ({ cls := "java/lang/StringLatin1", name := "toBytes", desc := "(C)[B" } : Jvm.MethodName) jdk_43_method_46_code (1 : Nat) (Option.some (Jvm.ClassFile.FieldType.array Jvm.ClassFile.FieldType.byte))).before args0 about1 = true := code_word (m := ⟨12, 3⟩) (meth := k12m3) (c := k12c3) (by decide +kernel) rfl rfl rfl (by decide +kernel)
set_option maxRecDepth 65536 in
theorem w_c4 : (Jvm.Cond.code ({ cls := "java/lang/String", name := "<init>", desc := "([BB)V" } : Jvm.MethodName) jdk_42_method_151_code (3 : Nat) (Option.none : Option Jvm.ClassFile.FieldType)).before args0 about1 = true := code_word (m := ⟨11, 5⟩) (meth := k11m5) (c := k11c5) (by decide +kernel) rfl rfl rfl (by decide +kernel)
set_option maxRecDepth 65536 in
theorem w_c5 : (Jvm.Cond.code ({ cls := "java/lang/Object", name := "<init>", desc := "()V" } : Jvm.MethodName) object_method_1_code (1 : Nat) (Option.none : Option Jvm.ClassFile.FieldType)).before args0 about1 = true := code_word (m := ⟨0, 0⟩) (meth := k0m0) (c := k0c0) (by decide +kernel) rfl rfl rfl (by decide +kernel)
set_option maxRecDepth 65536 in
theorem w_c6 : (Jvm.Cond.code ({ cls := "com/example/evenkey/evenkey/model/FamilyDescriptor", name := "<init>", desc := "(Ljava/lang/String;IIILcom/example/evenkey/evenkey/model/BloomFilterType;)V" } : Jvm.MethodName) prog_8_method_1_code (8 : Nat) (Option.none : Option Jvm.ClassFile.FieldType)).before args0 about1 = true := code_word (m := ⟨8, 0⟩) (meth := k8m0) (c := k8c0) (by decide +kernel) rfl rfl rfl (by decide +kernel)
set_option maxRecDepth 65536 in
theorem w_c7 : (Jvm.Cond.code ({ cls := "java/lang/Record", name := "<init>", desc := "()V" } : Jvm.MethodName) jdk_30_method_1_code (1 : Nat) (Option.none : Option Jvm.ClassFile.FieldType)).before args0 about1 = true := code_word (m := ⟨7, 0⟩) (meth := k7m0) (c := k7c0) (by decide +kernel) rfl rfl rfl (by decide +kernel)
set_option maxRecDepth 65536 in
theorem w_c8 : (Jvm.Cond.code ({ cls := "java/util/Objects", name := "requireNonNull", desc := "(Ljava/lang/Object;Ljava/lang/String;)Ljava/lang/Object;" } : Jvm.MethodName) jdk_31_method_11_code (2 : Nat) (Option.some (Jvm.ClassFile.FieldType.object "java/lang/Object"))).before args0 about1 = true := code_word (m := ⟨13, 1⟩) (meth := k13m1) (c := k13c1) (by decide +kernel) rfl rfl rfl (by decide +kernel)
set_option maxRecDepth 65536 in
theorem w_c9 : (Jvm.Cond.code ({ cls := "java/lang/String", name := "isEmpty", desc := "()Z" } : Jvm.MethodName) jdk_42_method_55_code (1 : Nat) (Option.some Jvm.ClassFile.FieldType.boolean)).before args0 about1 = true := code_word (m := ⟨11, 2⟩) (meth := k11m2) (c := k11c2) (by decide +kernel) rfl rfl rfl (by decide +kernel)
set_option maxRecDepth 65536 in
theorem w_c10 : (Jvm.Cond.code ({ cls := "java/lang/String", name := "length", desc := "()I" } : Jvm.MethodName) jdk_42_method_54_code (1 : Nat) (Option.some Jvm.ClassFile.FieldType.int)).before args0 about1 = true := code_word (m := ⟨11, 1⟩) (meth := k11m1) (c := k11c1) (by decide +kernel) rfl rfl rfl (by decide +kernel)
set_option maxRecDepth 65536 in
theorem w_c11 : (Jvm.Cond.code ({ cls := "java/lang/String", name := "coder", desc := "()B" } : Jvm.MethodName) jdk_42_method_152_code (1 : Nat) (Option.some Jvm.ClassFile.FieldType.byte)).before args0 about1 = true := code_word (m := ⟨11, 6⟩) (meth := k11m6) (c := k11c6) (by decide +kernel) rfl rfl rfl (by decide +kernel)
set_option maxRecDepth 65536 in
theorem w_c12 : (Jvm.Cond.code ({ cls := "java/lang/String", name := "charAt", desc := "(I)C" } : Jvm.MethodName) jdk_42_method_56_code (2 : Nat) (Option.some Jvm.ClassFile.FieldType.char)).before args0 about1 = true := code_word (m := ⟨11, 3⟩) (meth := k11m3) (c := k11c3) (by decide +kernel) rfl rfl rfl (by decide +kernel)
set_option maxRecDepth 65536 in
theorem w_c13 : (Jvm.Cond.code ({ cls := "java/lang/String", name := "isLatin1", desc := "()Z" } : Jvm.MethodName) jdk_42_method_154_code (1 : Nat) (Option.some Jvm.ClassFile.FieldType.boolean)).before args0 about1 = true := code_word (m := ⟨11, 7⟩) (meth := k11m7) (c := k11c7) (by decide +kernel) rfl rfl rfl (by decide +kernel)
set_option maxRecDepth 65536 in
theorem w_c14 : (Jvm.Cond.code ({ cls := "java/lang/StringLatin1", name := "charAt", desc := "([BI)C" } : Jvm.MethodName) jdk_43_method_2_code (2 : Nat) (Option.some Jvm.ClassFile.FieldType.char)).before args0 about1 = true := code_word (m := ⟨12, 1⟩) (meth := k12m1) (c := k12c1) (by decide +kernel) rfl rfl rfl (by decide +kernel)
set_option maxRecDepth 65536 in
theorem w_c15 : (Jvm.Cond.code ({ cls := "java/lang/String", name := "checkIndex", desc := "(II)V" } : Jvm.MethodName) jdk_42_method_155_code (2 : Nat) (Option.none : Option Jvm.ClassFile.FieldType)).before args0 about1 = true := code_word (m := ⟨11, 8⟩) (meth := k11m8) (c := k11c8) (by decide +kernel) rfl rfl rfl (by decide +kernel)
set_option maxRecDepth 65536 in
theorem w_c16 : (Jvm.Cond.code ({ cls := "jdk/internal/util/Preconditions", name := "checkIndex", desc := "(IILjava/util/function/BiFunction;)I" } : Jvm.MethodName) jdk_41_method_11_code (3 : Nat) (Option.some Jvm.ClassFile.FieldType.int)).before args0 about1 = true := code_word (m := ⟨14, 1⟩) (meth := k14m1) (c := k14c1) (by decide +kernel) rfl rfl rfl (by decide +kernel)
set_option maxRecDepth 65536 in
theorem w_c17 : (Jvm.Cond.code ({ cls := "com/example/evenkey/evenkey/model/FamilyDescriptor", name := "expiredUpTo", desc := "(J)J" } : Jvm.MethodName) prog_8_method_8_code (3 : Nat) (Option.some Jvm.ClassFile.FieldType.long)).before args0 about1 = true := code_word (m := ⟨8, 1⟩) (meth := k8m1) (c := k8c1) (by decide +kernel) rfl rfl rfl (by decide +kernel)
def codes1 : List Jvm.Cond := [Jvm.Cond.code x code maxLocals ret, Jvm.Cond.code ({ cls := "java/lang/String", name := "valueOf", desc := "(C)Ljava/lang/String;" } : Jvm.MethodName) jdk_42_method_139_code (1 : Nat) (Option.some (Jvm.ClassFile.FieldType.object "java/lang/String")), Jvm.Cond.code ({ cls := "java/lang/StringLatin1", name := "canEncode", desc := "(C)Z" } : Jvm.MethodName) jdk_43_method_3_code (1 : Nat) (Option.some Jvm.ClassFile.FieldType.boolean), Jvm.Cond.code ({ cls := "java/lang/StringLatin1", name := "toBytes", desc := "(C)[B" } : Jvm.MethodName) jdk_43_method_46_code (1 : Nat) (Option.some (Jvm.ClassFile.FieldType.array Jvm.ClassFile.FieldType.byte)), Jvm.Cond.code ({ cls := "java/lang/String", name := "<init>", desc := "([BB)V" } : Jvm.MethodName) jdk_42_method_151_code (3 : Nat) (Option.none : Option Jvm.ClassFile.FieldType), Jvm.Cond.code ({ cls := "java/lang/Object", name := "<init>", desc := "()V" } : Jvm.MethodName) object_method_1_code (1 : Nat) (Option.none : Option Jvm.ClassFile.FieldType), Jvm.Cond.code ({ cls := "com/example/evenkey/evenkey/model/FamilyDescriptor", name := "<init>", desc := "(Ljava/lang/String;IIILcom/example/evenkey/evenkey/model/BloomFilterType;)V" } : Jvm.MethodName) prog_8_method_1_code (8 : Nat) (Option.none : Option Jvm.ClassFile.FieldType), Jvm.Cond.code ({ cls := "java/lang/Record", name := "<init>", desc := "()V" } : Jvm.MethodName) jdk_30_method_1_code (1 : Nat) (Option.none : Option Jvm.ClassFile.FieldType), Jvm.Cond.code ({ cls := "java/util/Objects", name := "requireNonNull", desc := "(Ljava/lang/Object;Ljava/lang/String;)Ljava/lang/Object;" } : Jvm.MethodName) jdk_31_method_11_code (2 : Nat) (Option.some (Jvm.ClassFile.FieldType.object "java/lang/Object")), Jvm.Cond.code ({ cls := "java/lang/String", name := "isEmpty", desc := "()Z" } : Jvm.MethodName) jdk_42_method_55_code (1 : Nat) (Option.some Jvm.ClassFile.FieldType.boolean), Jvm.Cond.code ({ cls := "java/lang/String", name := "length", desc := "()I" } : Jvm.MethodName) jdk_42_method_54_code (1 : Nat) (Option.some Jvm.ClassFile.FieldType.int), Jvm.Cond.code ({ cls := "java/lang/String", name := "coder", desc := "()B" } : Jvm.MethodName) jdk_42_method_152_code (1 : Nat) (Option.some Jvm.ClassFile.FieldType.byte), Jvm.Cond.code ({ cls := "java/lang/String", name := "charAt", desc := "(I)C" } : Jvm.MethodName) jdk_42_method_56_code (2 : Nat) (Option.some Jvm.ClassFile.FieldType.char), Jvm.Cond.code ({ cls := "java/lang/String", name := "isLatin1", desc := "()Z" } : Jvm.MethodName) jdk_42_method_154_code (1 : Nat) (Option.some Jvm.ClassFile.FieldType.boolean), Jvm.Cond.code ({ cls := "java/lang/StringLatin1", name := "charAt", desc := "([BI)C" } : Jvm.MethodName) jdk_43_method_2_code (2 : Nat) (Option.some Jvm.ClassFile.FieldType.char), Jvm.Cond.code ({ cls := "java/lang/String", name := "checkIndex", desc := "(II)V" } : Jvm.MethodName) jdk_42_method_155_code (2 : Nat) (Option.none : Option Jvm.ClassFile.FieldType), Jvm.Cond.code ({ cls := "jdk/internal/util/Preconditions", name := "checkIndex", desc := "(IILjava/util/function/BiFunction;)I" } : Jvm.MethodName) jdk_41_method_11_code (3 : Nat) (Option.some Jvm.ClassFile.FieldType.int), Jvm.Cond.code ({ cls := "com/example/evenkey/evenkey/model/FamilyDescriptor", name := "expiredUpTo", desc := "(J)J" } : Jvm.MethodName) prog_8_method_8_code (3 : Nat) (Option.some Jvm.ClassFile.FieldType.long)]
set_option maxRecDepth 65536 in
theorem codes_eq : words1.filter isCode = codes1 := rfl
theorem w_codes : ∀ c ∈ words1.filter isCode, c.before args0 about1 = true := by
  rw [codes_eq]
  intro c hc
  simp only [codes1, List.mem_cons, List.not_mem_nil, or_false] at hc
  rcases hc with rfl | rfl | rfl | rfl | rfl | rfl | rfl | rfl | rfl | rfl | rfl | rfl | rfl | rfl | rfl | rfl | rfl | rfl
  · exact w_c0
  · exact w_c1
  · exact w_c2
  · exact w_c3
  · exact w_c4
  · exact w_c5
  · exact w_c6
  · exact w_c7
  · exact w_c8
  · exact w_c9
  · exact w_c10
  · exact w_c11
  · exact w_c12
  · exact w_c13
  · exact w_c14
  · exact w_c15
  · exact w_c16
  · exact w_c17
set_option maxRecDepth 65536 in
theorem w_t1 : (words1.take 24).all (fun c => isCode c || c.before args0 about1) = true := by decide +kernel
set_option maxRecDepth 65536 in
theorem w_t2 : ((words1.drop 24).take 24).all (fun c => isCode c || c.before args0 about1) = true := by decide +kernel
set_option maxRecDepth 65536 in
theorem w_t3 : (((words1.drop 24).drop 24).take 24).all (fun c => isCode c || c.before args0 about1) = true := by decide +kernel
set_option maxRecDepth 65536 in
theorem w_t4 : ((((words1.drop 24).drop 24).drop 24).take 24).all (fun c => isCode c || c.before args0 about1) = true := by decide +kernel
set_option maxRecDepth 65536 in
theorem w_t5 : ((((words1.drop 24).drop 24).drop 24).drop 24).all (fun c => isCode c || c.before args0 about1) = true := by decide +kernel
theorem w_tables : (allAtoms (Jvm.Cond.code x code maxLocals ret :: tables_1)).before args0 about1 = true := by
  rw [allAtoms_all]
  show words1.all (fun c => c.before args0 about1) = true
  refine all_split ?_ w_codes
  rw [← List.take_append_drop 24 words1, List.all_append, w_t1, ← List.take_append_drop 24 (words1.drop 24), List.all_append, w_t2, ← List.take_append_drop 24 ((words1.drop 24).drop 24), List.all_append, w_t3, ← List.take_append_drop 24 (((words1.drop 24).drop 24).drop 24), List.all_append, w_t4, w_t5]
  rfl
set_option maxRecDepth 65536 in
theorem w_rest : rest_1_c.before args0 about1 = true := by decide +kernel
set_option maxRecDepth 65536 in
theorem w_case : (Jvm.Cond.and given_1 narrow_1).before args0 about1 = true := by decide +kernel
theorem w_applies : (headSpec (Jvm.Cond.code x code maxLocals ret :: tables_1) room_1).applies x e0.platform about1 = true :=
  (Spec.applies_iff w_frames).mpr ⟨w_running, w_runnable, w_alone, w_named, w_hears, w_ripe, w_room, w_tables⟩
theorem atStart : AtStart classFile x code maxLocals ret World_1 tables_1 room_1 Calls_1 rest_1 Pre_1 launch0 p0 e0 about1 theMethod args0 below0 :=
  ⟨lists_1, trivial, launch0.admits_env _ _ _, launch0.least_env, fairChoices_fair.cas, fairChoices_fair.clock, w_frames, w_args, w_heap, w_applies, trivial, w_rest, w_case⟩
end start1
theorem witness_1 : WitnessClaimed_1 := ⟨start1.p0, start1.e0, start1.about1, start1.theMethod, start1.args0, start1.below0, start1.atStart⟩
end Jvm.Pilot.@@N@@
