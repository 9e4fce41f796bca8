import JvmDerived
import JvmDerived.Pilot.@@N@@Statement
import JvmDerived.Pilot.@@N@@Code
set_option linter.unusedVariables false
set_option linter.unusedSimpArgs false
namespace Jvm.RoadKit
open Sem ClassFile Op Lib Jvm.Stand Jvm.Free Jvm.LawKit
section New
variable {p : Program} {l : Launch} {e : Env} {R : Room} {s : State} {m : MethodId} {args : Array Value} {below : List Frame} {meth : Method} {c : Code} {T : State} {locs : List Loc} {cells slots : Nat}
theorem retI (X : Stand p l e R s m args below meth c T locs cells slots) (hx : p.tables.exec = Jvm.exec) {pc : Nat} {Ls : Array Slot} {z : Int32} {rest : List Value} (hret : meth.sig.returnType = some .int) (hd : decode c.code pc = .ok (.ireturn, 1)) {fs : List Frame}
    (hl : ∀ (f : JFrame) (acts : List Action), f.method = m → f.locked = none → f.entered = [] → (doReturn e (T.setTop f) acts (some (.int z))).1 = T.setFrames fs) : Steps p.tables e below (T.setTop (mkF m pc Ls (.int z :: rest))) (T.setFrames fs) := by
  have hm' : T.vm.method? m = some meth := X.method'
  have hn : narrow .int (.int z) = .int z := rfl
  show Steps p.tables e below (T.setTop { method := m, pc := pc, locals := Ls, stack := _ :: rest, locked := none }) _
  jvm_step X.here [X.here.top, hx, hd, hm', hret, hn]
  first | (intro acts; rw [hl _ acts rfl rfl rfl]) | rw [hl _ _ rfl rfl rfl]
  exact Steps.refl _
/-- the return of a reference, null or not -/
theorem own_retR (X : Stand p l e R s m args below meth c T locs cells slots) (hx : p.tables.exec = Jvm.exec) {pc : Nat} {Ls : Array Slot} {w : Value} {ty : FieldType} {rest : List Value} (hret : meth.sig.returnType = some ty) (ht : ty.isReference = true) (hw : w.isRef = true) (hd : decode c.code pc = .ok (.areturn, 1)) {fs : List Frame}
    (hl : ∀ (f : JFrame) (acts : List Action), f.method = m → f.locked = none → f.entered = [] → (doReturn e (T.setTop f) acts (some w)).1 = T.setFrames fs) : Steps p.tables e below (T.setTop (mkF m pc Ls (w :: rest))) (T.setFrames fs) := by
  have hm' : T.vm.method? m = some meth := X.method'
  show Steps p.tables e below (T.setTop { method := m, pc := pc, locals := Ls, stack := _ :: rest, locked := none }) _
  rcases ref_cases hw with rfl | ⟨z, rfl⟩
  all_goals
    jvm_step X.here [X.here.top, hx, hd, hm', hret, ht, Value.isRef]
    first | (intro acts; rw [hl _ acts rfl rfl rfl]) | rw [hl _ _ rfl rfl rfl]
    exact Steps.refl _
/-- what a walk owes from a state and a frame on -/
def own_G (p : Program) (e : Env) (below : List Frame) (s : State) (C N : Nat) (Q : Option Value → Heap → List Loc → Prop) (T : State) (g : JFrame) : Prop :=
  ∃ s₂ o, Steps p.tables e below (T.setTop g) s₂ ∧ s₂.status = .running ∧ Ended s₂ below o ∧ ∃ v L, o = .returned v ∧ Q v s₂.heap L ∧ FrameEnd s o s₂ L C N
variable {C N : Nat} {Q : Option Value → Heap → List Loc → Prop} {T' : State} {g g' : JFrame} {h : Heap}
theorem own_G.step (k : ∀ t, Steps p.tables e below (T'.setTop g') t → Steps p.tables e below (T.setTop g) t) (H : own_G p e below s C N Q T' g') : own_G p e below s C N Q T g := by
  obtain ⟨s₂, o, h1, r⟩ := H
  exact ⟨s₂, o, k _ h1, r⟩
theorem own_G.cast (q : g = g') (H : own_G p e below s C N Q T g') : own_G p e below s C N Q T g := by
  subst q
  exact H
theorem own_G.start (q : g = g') (H : own_G p e below s C N Q T g') : ∃ s₂ o, Steps p.tables e below (T.setTop g) s₂ ∧ s₂.status = .running ∧ Ended s₂ below o ∧ ∃ v L, o = .returned v ∧ Q v s₂.heap L ∧ FrameEnd s o s₂ L C N := by
  subst q
  exact H
theorem own_ret (X : Stand p l e R s m args below meth c T locs cells slots) (eT : T.heap = h) {v : Option Value} (hv : meth.sig.returnType = none → v = none) (hlk : meth.locks = false) (hq : Q v h locs) (hc : cells ≤ C) (hn : slots ≤ N)
    (st : ∀ fs, (∀ (f : JFrame) (acts : List Action), f.method = m → f.locked = none → f.entered = [] → (doReturn e (T.setTop f) acts v).1 = T.setFrames fs) → Steps p.tables e below (T.setTop g) (T.setFrames fs)) : own_G p e below s C N Q T g := by
  obtain ⟨fs, hr, hrun, hended, hW, hsame⟩ := X.leave (v := v) hv hlk
  subst eT
  exact ⟨_, _, st fs hr, hrun, hended, _, _, rfl, hq, ⟨_, rfl⟩, hW, hsame.mono hc hn⟩
/-- the same where String constants may be made on the way -/
def own_GW (p : Program) (e : Env) (below : List Frame) (s : State) (C N : Nat) (Q : Option Value → Heap → List Loc → Prop) (T : State) (g : JFrame) : Prop :=
  ∃ s₂ o, Steps p.tables e below (T.setTop g) s₂ ∧ s₂.status = .running ∧ Ended s₂ below o ∧ ∃ v L, o = .returned v ∧ Q v s₂.heap L ∧ ReturnedEndW s o s₂ L C N
theorem own_GW.step (k : ∀ t, Steps p.tables e below (T'.setTop g') t → Steps p.tables e below (T.setTop g) t) (H : own_GW p e below s C N Q T' g') : own_GW p e below s C N Q T g := by
  obtain ⟨s₂, o, h1, r⟩ := H
  exact ⟨s₂, o, k _ h1, r⟩
theorem own_GW.cast (q : g = g') (H : own_GW p e below s C N Q T g') : own_GW p e below s C N Q T g := by
  subst q
  exact H
theorem own_GW.start (q : g = g') (H : own_GW p e below s C N Q T g') : ∃ s₂ o, Steps p.tables e below (T.setTop g) s₂ ∧ s₂.status = .running ∧ Ended s₂ below o ∧ ∃ v L, o = .returned v ∧ Q v s₂.heap L ∧ ReturnedEndW s o s₂ L C N := by
  subst q
  exact H
theorem own_retW {vm₁ : Vm} {k : Nat} (X : Stand p l e R (s.setVm vm₁) m args below meth c T locs cells slots) (hS : s.Since vm₁ k) (eT : T.heap = h) (hk : k ≤ h.size) {v : Option Value} (hv : meth.sig.returnType = none → v = none) (hlk : meth.locks = false) (hq : Q v h locs) (hc : cells ≤ C) (hn : slots ≤ N)
    (st : ∀ fs, (∀ (f : JFrame) (acts : List Action), f.method = m → f.locked = none → f.entered = [] → (doReturn e (T.setTop f) acts v).1 = T.setFrames fs) → Steps p.tables e below (T.setTop g) (T.setFrames fs)) : own_GW p e below s C N Q T g := by
  obtain ⟨fs, hr, hrun, hended, hW, hsame⟩ := X.leave (v := v) hv hlk
  subst eT
  obtain ⟨a, b, d⟩ := hS.ended (U := T.setFrames fs) hW hk hsame
  exact ⟨_, _, st fs hr, hrun, hended, _, _, rfl, hq, ⟨_, rfl⟩, a, b, d.mono hc hn⟩
/-- the same where the held String constants are kept too -/
def own_GH (Z : State) (EL : List (String × Nat)) (p : Program) (e : Env) (below : List Frame) (s : State) (C N : Nat) (Q : Option Value → Heap → List Loc → Prop) (T : State) (g : JFrame) : Prop :=
  ∃ s₂ o, Steps p.tables e below (T.setTop g) s₂ ∧ s₂.status = .running ∧ Ended s₂ below o ∧ ∃ v L, o = .returned v ∧ Q v s₂.heap L ∧ CHr Z EL s.vm s.heap s₂.vm s₂.heap ∧ ReturnedEndW s o s₂ L C N
section HeldEnd
variable {Z : State} {EL : List (String × Nat)}
theorem own_GH.step (k : ∀ t, Steps p.tables e below (T'.setTop g') t → Steps p.tables e below (T.setTop g) t) (H : own_GH Z EL p e below s C N Q T' g') : own_GH Z EL p e below s C N Q T g := by
  obtain ⟨s₂, o, h1, r⟩ := H
  exact ⟨s₂, o, k _ h1, r⟩
theorem own_GH.cast (q : g = g') (H : own_GH Z EL p e below s C N Q T g') : own_GH Z EL p e below s C N Q T g := by
  subst q
  exact H
theorem own_GH.start (q : g = g') (H : own_GH Z EL p e below s C N Q T g') : ∃ s₂ o, Steps p.tables e below (T.setTop g) s₂ ∧ s₂.status = .running ∧ Ended s₂ below o ∧ ∃ v L, o = .returned v ∧ Q v s₂.heap L ∧ CHr Z EL s.vm s.heap s₂.vm s₂.heap ∧ ReturnedEndW s o s₂ L C N := by
  subst q
  exact H
theorem own_retH {vm₁ : Vm} {k : Nat} {h0 : Heap} {a0 : Array Value} (X : Stand p l e R (s.setVm vm₁) m args below meth c T locs cells slots) (hS : s.Since vm₁ k) (eT : T.heap = h) (hk : k ≤ h.size) (hZ : Z.Warmed39 vm₁) (ew : EW Z a0 EL) (hH : CHv Z EL vm₁ h) (hh : s.heap = h0) (hR : CHr Z EL s.vm h0 vm₁ h) {v : Option Value} (hv : meth.sig.returnType = none → v = none) (hlk : meth.locks = false) (hq : Q v h locs) (hc : cells ≤ C) (hn : slots ≤ N)
    (st : ∀ fs, (∀ (f : JFrame) (acts : List Action), f.method = m → f.locked = none → f.entered = [] → (doReturn e (T.setTop f) acts v).1 = T.setFrames fs) → Steps p.tables e below (T.setTop g) (T.setFrames fs)) : own_GH Z EL p e below s C N Q T g := by
  obtain ⟨fs, hr, hrun, hended, hW, hsame⟩ := X.leave (v := v) hv hlk
  subst eT
  subst hh
  have q := CHv.at X hZ ew hH
  obtain ⟨a, b, d⟩ := hS.ended (U := T.setFrames fs) hW hk hsame
  exact ⟨_, _, st fs hr, hrun, hended, _, _, rfl, hq, (show CHr Z EL s.vm s.heap (T.setFrames fs).vm (T.setFrames fs).heap from hR.trans q), ⟨_, rfl⟩, a, b, d.mono hc hn⟩
end HeldEnd
/-- an array of that length -/
def own_Len (Z : State) (h : Heap) (a : Addr) (n : Int32) : Prop := ∃ (c : Cell) (ty : FieldType), Arr Z h a c ty ∧ c.slots.size = n.toNatClampNeg ∧ ¬ n < 0
theorem own_Len.lt {Z : State} {a : Addr} {n : Int32} (F : own_Len Z h a n) : a < h.size := by
  obtain ⟨c, ty, A, -⟩ := F
  exact A.lt
theorem own_Len.ext {Z : State} {h' : Heap} {a : Addr} {n : Int32} (F : own_Len Z h a n) (E : Ext h h') : own_Len Z h' a n := by
  obtain ⟨c, ty, A, r⟩ := F
  exact ⟨c, ty, A.ext E, r⟩
theorem own_Len.other {Z : State} {h' : Heap} {a b : Addr} {n : Int32} {sl : Nat} {v : Value} (F : own_Len Z h b n) (W : Wr h h' a sl v) (q : b ≠ a) : own_Len Z h' b n := by
  obtain ⟨c, ty, A, r⟩ := F
  exact ⟨c, ty, A.other W q, r⟩
theorem own_Len.keep {Z : State} {h' : Heap} {a : Addr} {n : Int32} {ws : List Addr} (F : own_Len Z h a n) (K : Keep h h' ws) (q : a ∉ ws) : own_Len Z h' a n := by
  obtain ⟨c, ty, A, r⟩ := F
  exact ⟨c, ty, ⟨K.2.1 _ _ A.1 q, A.2⟩, r⟩
theorem own_Len.arv {Z : State} {a : Addr} {k : ClassId} {ty : FieldType} {n : Int32} {vs : List Value} {d : Value} (F : Arv Z h a k ty n vs d) : own_Len Z h a n := by
  obtain ⟨c, A, -, S, N, -⟩ := F
  exact ⟨c, ty, A, S, N⟩
theorem own_Len.start {Z : State} {a : Addr} {c : Cell} {ty : FieldType} {z : Int32} (A : Arr Z h a c ty) (q : c.slots.size < 2 ^ 31) (e : c.slots.size.toInt32 = z) (hz : ¬ z < 0) : own_Len Z h a z :=
  ⟨c, ty, A, by rw [← e]; simp only [Int32.toNatClampNeg, len_toInt q]; rfl, hz⟩
theorem own_join {α : Sort _} {P : α → Prop} {G : JFrame → Prop} {g : JFrame} (F : α → JFrame) (h1 : ∀ t, P t → G (F t)) (h2 : (∀ t, P t → G (F t)) → G g) : G g := h2 h1
/-- a byte of a byte[] -/
def own_At (Z : State) (h : Heap) (a : Addr) (i b : Int32) : Prop := ∃ c : Cell, Arr Z h a c .byte ∧ ¬ (i < 0 ∨ c.slots.size ≤ i.toNatClampNeg) ∧ c.slots[i.toNatClampNeg]? = some (.int b)
theorem own_At.arv {Z : State} {a : Addr} {k : ClassId} {n i b : Int32} {vs : List Value} {d : Value} (F : Arv Z h a k .byte n vs d) (h1 : ¬ i < 0 ∧ i < n) (h2 : vs.getD i.toNatClampNeg d = .int b) : own_At Z h a i b := by
  obtain ⟨c, A, -, S, N, H, -⟩ := F
  exact ⟨c, A, inb_of S h1, H.at (inb_of S h1) h2⟩
theorem own_cat {v : Value} (hv : v.isRef = true) : v.category = 1 := by rcases ref_cases hv with rfl | ⟨z, rfl⟩ <;> rfl
theorem own_fits {v : Value} {ty : FieldType} (hv : v.isRef = true) (ht : ty.isReference = true) : fits ty v = true := by
  rcases ref_cases hv with rfl | ⟨z, rfl⟩ <;> cases ty <;> first | rfl | (cases ht; done) | simp [fits]
theorem own_narrow {v : Value} {ty : FieldType} (hv : v.isRef = true) (ht : ty.isReference = true) : narrow ty v = v := by
  rcases ref_cases hv with rfl | ⟨z, rfl⟩ <;> cases ty <;> first | rfl | (cases ht; done)
theorem Old.le {Z : State} {n0 : Nat} (X : Old Z n0 h) : n0 ≤ h.size := X.1 ▸ X.2.1
end New
end Jvm.RoadKit
namespace Jvm.Pilot.@@N@@
open Jvm Jvm.ClassFile Sem Op Lib Jvm.Free Jvm.Stand Jvm.LawKit Jvm.RoadKit Bundle Jvm.Pilot.@@N@@.Jvm.D
theorem own_toInt {a b : Int32} (h : a.toInt = b.toInt) : a = b := Int32.toInt_inj.mp h
theorem own_four (x : Int32) : (x &&& (3 : Int32)) = (0 : Int32) ∨ (x &&& (3 : Int32)) = (1 : Int32) ∨ (x &&& (3 : Int32)) = (2 : Int32) ∨ (x &&& (3 : Int32)) = (3 : Int32) := by
  have h1 := c_mask x (3 : Int32) 2 (by decide) (by decide)
  have h3 : (x &&& (3 : Int32)).toInt = 0 ∨ (x &&& (3 : Int32)).toInt = 1 ∨ (x &&& (3 : Int32)).toInt = 2 ∨ (x &&& (3 : Int32)).toInt = 3 := by omega
  rcases h3 with h | h | h | h
  · exact Or.inl (own_toInt h)
  · exact Or.inr (Or.inl (own_toInt h))
  · exact Or.inr (Or.inr (Or.inl (own_toInt h)))
  · exact Or.inr (Or.inr (Or.inr ((own_toInt h))))
theorem own_len {args : Array Value} {s : State} {t : Term} {a : Addr} {cl : Cell} {n : Int32} (ht : t.eval args s none [] s = some (.ref a)) (ha : s.arrayAt? a = some cl) (h : (Term.length t).eval args s none [] s = some (.int n)) : cl.slots.size < 2 ^ 31 ∧ cl.slots.size.toInt32 = n := by
  by_cases q : cl.slots.size < 2147483648
  · simp [Term.eval, ht, ha, q] at h
    exact ⟨q, h⟩
  · simp [Term.eval, ht, ha, q] at h
theorem own_idx {args : Array Value} {s : State} {j : Int32} (hj : ¬ j < 0) : (Term.index 0).eval args s none [j.toNatClampNeg] s = some (.int j) := idx_at hj
theorem own_sub {args : Array Value} {s : State} {idx : List Nat} {a : Term} {x y : Int32} (ha : a.eval args s none idx s = some (.int x)) : (Term.sub a (.int y)).eval args s none idx s = some (.int (x - y)) := by simp [Term.eval, ha]
theorem own_box_in {i : Int32} {cc : Cell} (S : cc.slots.size = (256 : Int32).toNatClampNeg) (h1 : ¬ i < (-128 : Int32)) (h2 : ¬ (127 : Int32) < i) : ¬ ((i + (128 : Int32)) < 0 ∨ cc.slots.size ≤ (i + (128 : Int32)).toNatClampNeg) := by
  refine inb_of S ?_
  simp only [Int32.lt_iff_toInt_lt, Int32.toInt_add] at h1 h2 ⊢
  have e1 : (-128 : Int32).toInt = -128 := by decide
  have e2 : (127 : Int32).toInt = 127 := by decide
  have e3 : (128 : Int32).toInt = 128 := by decide
  have e4 : (256 : Int32).toInt = 256 := by decide
  have e5 : (0 : Int32).toInt = 0 := by decide
  rw [e1] at h1
  rw [e2] at h2
  rw [e3, e4, e5, bmod32 (by omega) (by omega)]
  omega
theorem d2_0 : decode jdk_30_method_1_code 0 = .ok (.aload_n 0, 1) := by decide +kernel
theorem d2_1 : decode jdk_30_method_1_code 1 = .ok (.invokespecial 1, 3) := by decide +kernel
theorem d2_4 : decode jdk_30_method_1_code 4 = .ok (.return_, 1) := by decide +kernel
theorem pn_java_2flang_2fRecord : plainName "java/lang/Record" = true := by first | (simp [plainName, overriddenIn]; done) | decide +kernel
theorem ef_recinit (m : MethodId) (a : Addr) : entryFrame m #[(.ref a)] 1 = mkF m 0 #[.val (.ref a)] [] := by
  first | (simp [entryFrame, mkF, argsToLocals, Value.category]; done) | rfl
def Q_recinit (Z : State) (a : Addr) (h0 : Heap) (n0 : Nat) (v : Option Value) (h : Heap) (L : List Loc) : Prop := v = none ∧ Fr n0 L ∧ h = h0
set_option maxRecDepth 65536 in
set_option maxHeartbeats 40000000 in
theorem rm_recinit (l : Launch) (Z : State) (a0 : Array Value) (hw : ∀ d ∈ tables_1, d.before a0 Z = true) (ws : List Jvm.Cond) (a : Addr) (h0 : Heap) (n0 : Nat) (O0 : Old Z n0 h0) :
    MetFree l (⟨"java/lang/Record", "<init>", "()V"⟩ : MethodName) (head1 (Jvm.Cond.code (⟨"java/lang/Record", "<init>", "()V"⟩ : MethodName) jdk_30_method_1_code 1 none :: ws) ({ frames := 1, cells := 0, slots := 0, locals := 12 } : Room)) (fun aq_ Uq_ => aq_ = #[(.ref a)] ∧ Z.Warmed39 Uq_.vm ∧ Uq_.heap = h0) (fun _ _ _ _ _ => True) (fun _ Uq_ oq_ Ur_ => ∃ vq_ Lq_, oq_ = .returned vq_ ∧ Q_recinit Z a h0 n0 vq_ Ur_.heap Lq_ ∧ FrameEnd Uq_ oq_ Ur_ Lq_ ({ frames := 1, cells := 0, slots := 0, locals := 12 } : Room).cells ({ frames := 1, cells := 0, slots := 0, locals := 12 } : Room).slots) := by
  refine MetFree.of_bodySF (plainFor_of_name pn_java_2flang_2fRecord) hisR ?_
  intro p e s m args below meth c s₁ Bd hml0 hP hK
  obtain ⟨rfl, hZ, hh⟩ := hP
  have hx := Bd.exec
  have hby := Bd.bytes
  have hml : c.maxLocals = 1 := hml0
  have hown : s.vm.findClass "java/lang/Record" = some m.cls := findClass_of_methodNamed Bd.named
  have hnm := (name_of_methodNamed Bd.named Bd.method).1
  have X0 : Stand p l e ({ frames := 1, cells := 0, slots := 0, locals := 12 } : Room) s m #[(.ref a)] below meth c s₁ [] 0 0 := Stand.of_body Bd
  have e0 : s₁.heap = h0 := by rw [← hh, Bd.state]; rfl
  have N0 := Fr.nil n0
  have K0 := Keep.refl h0 []
  refine own_G.start (Q := Q_recinit Z a h0 n0) (ef_recinit m a) ?_
  refine own_G.step (g' := (mkF m 1 #[.val (.ref a)] [(.ref a)])) (fun tq_ kq_ => XS.aloadN X0.here hx rfl (hb hby d2_0) rfl rfl kq_) ?_
  obtain ⟨T1, X1, e1, st1⟩ := initO X0 hx hZ hown (hw _ (List.mem_of_getElem? (i := 14) rfl)) (hw _ (List.mem_of_getElem? (i := 15) rfl)) (hw _ (List.mem_of_getElem? (i := 16) rfl)) e0 (g := (mkF m 1 #[.val (.ref a)] [(.ref a)])) rfl (by rw [hml]; rfl) rfl (hb hby d2_1) (by decide) (W := 0) (by show 2 * 0 + _ ≤ _; exact Nat.le_of_eq rfl) (by decide)
  refine own_G.step (T' := T1) (g' := (mkF m 4 #[.val (.ref a)] [])) st1 ?_
  exact own_ret X1 e1 (v := none) (fun _ => rfl) Bd.notSynchronized ⟨rfl, N0, rfl⟩ (by decide) (by decide) (fun fs hr => X1.returnOut hx Bd.returns (hb hby d2_4) hr)
theorem d7_0 : decode jdk_18_method_1_code 0 = .ok (.aload_n 0, 1) := by decide +kernel
theorem d7_1 : decode jdk_18_method_1_code 1 = .ok (.invokespecial 1, 3) := by decide +kernel
theorem d7_4 : decode jdk_18_method_1_code 4 = .ok (.return_, 1) := by decide +kernel
theorem pn_java_2flang_2fNumber : plainName "java/lang/Number" = true := by first | (simp [plainName, overriddenIn]; done) | decide +kernel
theorem ef_numinit (m : MethodId) (a : Addr) : entryFrame m #[(.ref a)] 1 = mkF m 0 #[.val (.ref a)] [] := by
  first | (simp [entryFrame, mkF, argsToLocals, Value.category]; done) | rfl
def Q_numinit (Z : State) (a : Addr) (h0 : Heap) (n0 : Nat) (v : Option Value) (h : Heap) (L : List Loc) : Prop := v = none ∧ Fr n0 L ∧ h = h0
set_option maxRecDepth 65536 in
set_option maxHeartbeats 40000000 in
theorem rm_numinit (l : Launch) (Z : State) (a0 : Array Value) (hw : ∀ d ∈ tables_1, d.before a0 Z = true) (ws : List Jvm.Cond) (a : Addr) (h0 : Heap) (n0 : Nat) (O0 : Old Z n0 h0) :
    MetFree l (⟨"java/lang/Number", "<init>", "()V"⟩ : MethodName) (head1 (Jvm.Cond.code (⟨"java/lang/Number", "<init>", "()V"⟩ : MethodName) jdk_18_method_1_code 1 none :: ws) ({ frames := 1, cells := 0, slots := 0, locals := 12 } : Room)) (fun aq_ Uq_ => aq_ = #[(.ref a)] ∧ Z.Warmed39 Uq_.vm ∧ Uq_.heap = h0) (fun _ _ _ _ _ => True) (fun _ Uq_ oq_ Ur_ => ∃ vq_ Lq_, oq_ = .returned vq_ ∧ Q_numinit Z a h0 n0 vq_ Ur_.heap Lq_ ∧ FrameEnd Uq_ oq_ Ur_ Lq_ ({ frames := 1, cells := 0, slots := 0, locals := 12 } : Room).cells ({ frames := 1, cells := 0, slots := 0, locals := 12 } : Room).slots) := by
  refine MetFree.of_bodySF (plainFor_of_name pn_java_2flang_2fNumber) hisR ?_
  intro p e s m args below meth c s₁ Bd hml0 hP hK
  obtain ⟨rfl, hZ, hh⟩ := hP
  have hx := Bd.exec
  have hby := Bd.bytes
  have hml : c.maxLocals = 1 := hml0
  have hown : s.vm.findClass "java/lang/Number" = some m.cls := findClass_of_methodNamed Bd.named
  have hnm := (name_of_methodNamed Bd.named Bd.method).1
  have X0 : Stand p l e ({ frames := 1, cells := 0, slots := 0, locals := 12 } : Room) s m #[(.ref a)] below meth c s₁ [] 0 0 := Stand.of_body Bd
  have e0 : s₁.heap = h0 := by rw [← hh, Bd.state]; rfl
  have N0 := Fr.nil n0
  have K0 := Keep.refl h0 []
  refine own_G.start (Q := Q_numinit Z a h0 n0) (ef_numinit m a) ?_
  refine own_G.step (g' := (mkF m 1 #[.val (.ref a)] [(.ref a)])) (fun tq_ kq_ => XS.aloadN X0.here hx rfl (hb hby d7_0) rfl rfl kq_) ?_
  obtain ⟨T1, X1, e1, st1⟩ := initO X0 hx hZ hown (hw _ (List.mem_of_getElem? (i := 44) rfl)) (hw _ (List.mem_of_getElem? (i := 15) rfl)) (hw _ (List.mem_of_getElem? (i := 16) rfl)) e0 (g := (mkF m 1 #[.val (.ref a)] [(.ref a)])) rfl (by rw [hml]; rfl) rfl (hb hby d7_1) (by decide) (W := 0) (by show 2 * 0 + _ ≤ _; exact Nat.le_of_eq rfl) (by decide)
  refine own_G.step (T' := T1) (g' := (mkF m 4 #[.val (.ref a)] [])) st1 ?_
  exact own_ret X1 e1 (v := none) (fun _ => rfl) Bd.notSynchronized ⟨rfl, N0, rfl⟩ (by decide) (by decide) (fun fs hr => X1.returnOut hx Bd.returns (hb hby d7_4) hr)
theorem pd__28_29V : parseMethodDescriptor "()V" = some ⟨[], none⟩ := by decide +kernel
theorem d6_0 : decode jdk_33_method_23_code 0 = .ok (.aload_n 0, 1) := by decide +kernel
theorem d6_1 : decode jdk_33_method_23_code 1 = .ok (.invokespecial 202, 3) := by decide +kernel
theorem d6_4 : decode jdk_33_method_23_code 4 = .ok (.aload_n 0, 1) := by decide +kernel
theorem d6_5 : decode jdk_33_method_23_code 5 = .ok (.iload_n 1, 1) := by decide +kernel
theorem d6_6 : decode jdk_33_method_23_code 6 = .ok (.putfield 205, 3) := by decide +kernel
theorem d6_9 : decode jdk_33_method_23_code 9 = .ok (.return_, 1) := by decide +kernel
theorem pn_java_2flang_2fInteger : plainName "java/lang/Integer" = true := by first | (simp [plainName, overriddenIn]; done) | decide +kernel
theorem ef_intinit (m : MethodId) (a : Addr) (i : Int32) : entryFrame m #[(.ref a), (.int i)] 2 = mkF m 0 #[.val (.ref a), .val (.int i)] [] := by
  first | (simp [entryFrame, mkF, argsToLocals, Value.category]; done) | rfl
def Q_intinit (Z : State) (a : Addr) (i : Int32) (h0 : Heap) (n0 : Nat) (v : Option Value) (h : Heap) (L : List Loc) : Prop := v = none ∧ Fr n0 L ∧ Keep h0 h [a] ∧ Exa Z h a "java/lang/Integer" ∧ Fld Z h a "java/lang/Integer" "value" "I" (.int i)
set_option maxRecDepth 65536 in
set_option maxHeartbeats 40000000 in
theorem rm_intinit (l : Launch) (Z : State) (a0 : Array Value) (hw : ∀ d ∈ tables_1, d.before a0 Z = true) (ws : List Jvm.Cond) (a : Addr) (i : Int32) (h0 : Heap) (n0 : Nat) (O0 : Old Z n0 h0) (F0 : Fld Z h0 a "java/lang/Integer" "value" "I" (.int (0 : Int32))) (E0 : Exa Z h0 a "java/lang/Integer") (ga : n0 ≤ a) :
    MetFree l (⟨"java/lang/Integer", "<init>", "(I)V"⟩ : MethodName) (head1 (Jvm.Cond.code (⟨"java/lang/Integer", "<init>", "(I)V"⟩ : MethodName) jdk_33_method_23_code 2 none :: ws) ({ frames := 2, cells := 0, slots := 0, locals := 24 } : Room)) (fun aq_ Uq_ => aq_ = #[(.ref a), (.int i)] ∧ Z.Warmed39 Uq_.vm ∧ Uq_.heap = h0) (fun _ _ _ _ _ => True) (fun _ Uq_ oq_ Ur_ => ∃ vq_ Lq_, oq_ = .returned vq_ ∧ Q_intinit Z a i h0 n0 vq_ Ur_.heap Lq_ ∧ FrameEnd Uq_ oq_ Ur_ Lq_ ({ frames := 2, cells := 0, slots := 0, locals := 24 } : Room).cells ({ frames := 2, cells := 0, slots := 0, locals := 24 } : Room).slots) := by
  refine MetFree.of_bodySF (plainFor_of_name pn_java_2flang_2fInteger) hisR ?_
  intro p e s m args below meth c s₁ Bd hml0 hP hK
  obtain ⟨rfl, hZ, hh⟩ := hP
  have hx := Bd.exec
  have hby := Bd.bytes
  have hml : c.maxLocals = 2 := hml0
  have hown : s.vm.findClass "java/lang/Integer" = some m.cls := findClass_of_methodNamed Bd.named
  have hnm := (name_of_methodNamed Bd.named Bd.method).1
  have X0 : Stand p l e ({ frames := 2, cells := 0, slots := 0, locals := 24 } : Room) s m #[(.ref a), (.int i)] below meth c s₁ [] 0 0 := Stand.of_body Bd
  have e0 : s₁.heap = h0 := by rw [← hh, Bd.state]; rfl
  have N0 := Fr.nil n0
  have K0 := Keep.refl h0 [a]
  refine own_G.start (Q := Q_intinit Z a i h0 n0) (ef_intinit m a i) ?_
  refine own_G.step (g' := (mkF m 1 #[.val (.ref a), .val (.int i)] [(.ref a)])) (fun tq_ kq_ => XS.aloadN X0.here hx rfl (hb hby d6_0) rfl rfl kq_) ?_
  obtain ⟨_, _, ⟨T1, L1, k1, n1⟩, -, X1, ⟨Lc1, hQ1, l1, y1, z1⟩, st1⟩ := X0.specialBack hx (y := (⟨"java/lang/Number", "<init>", "()V"⟩ : MethodName)) rfl hown (mvT hZ (hw _ (List.mem_of_getElem? (i := 38) rfl))) (mvT hZ (hw _ (List.mem_of_getElem? (i := 39) rfl))) (mvT hZ (hw _ (List.mem_of_getElem? (i := 43) rfl))) (by decide) (backOf (W := 0) (rm_numinit l Z a0 hw [] a h0 n0 O0 ) hZ (hw _ (List.mem_of_getElem? (i := 43) rfl)) (hw _ (List.mem_of_getElem? (i := 42) rfl)) (by decide) (by decide)) (g := (mkF m 1 #[.val (.ref a), .val (.int i)] [(.ref a)])) rfl (by rw [hml]; rfl) (Steps.refl _) (a := a) (argsL := []) (rest := []) (lenOf pd__28_29V rfl) rfl (by show 2 * 0 + _ ≤ _; exact Nat.le_of_eq rfl) (hb hby d6_1) (fun _ _ => ⟨rfl, e0, (by decide : 0 + 0 ≤ _), (by decide : 0 + 0 ≤ _)⟩)
  dsimp only [Pt.U, Pt.locs, Pt.cells, Pt.slots] at X1 l1 y1 z1 st1 hQ1
  subst l1 y1 z1
  obtain ⟨rfl, Nq1, P2⟩ := hQ1
  have N1 := Fr.app N0 Nq1
  refine own_G.step (T' := T1) (g' := (mkF m 4 #[.val (.ref a), .val (.int i)] [])) (fun tq_ kq_ => st1.trans kq_) ?_
  refine own_G.step (g' := (mkF m 5 #[.val (.ref a), .val (.int i)] [(.ref a)])) (fun tq_ kq_ => XS.aloadN X1.here hx rfl (hb hby d6_4) rfl rfl kq_) ?_
  refine own_G.step (g' := (mkF m 6 #[.val (.ref a), .val (.int i)] [(.int i), (.ref a)])) (fun tq_ kq_ => XS.iloadN X1.here hx rfl (hb hby d6_5) rfl kq_) ?_
  obtain ⟨T3, h3, X3, e3, W3, st3⟩ := putF X1 hx hZ hown (host := "") (Or.inl (hw _ (List.mem_of_getElem? (i := 45) rfl))) Via.refl P2 F0 E0 (Or.inr ⟨(hw _ (List.mem_of_getElem? (i := 46) rfl)), rfl, hnm⟩) (hw _ (List.mem_of_getElem? (i := 33) rfl)) (ty := .int) (by decide) rfl rfl (g := (mkF m 6 #[.val (.ref a), .val (.int i)] [(.int i), (.ref a)])) rfl rfl (hb hby d6_6)
  have N3 := Fr.snoc X3 N1 ga
  have F4 := F0.same W3
  have F5 := E0.wr W3
  have O6 := O0.wr W3 ga
  have K7 := K0.wr W3 (Or.inl (List.mem_of_getElem? (i := 0) rfl))
  refine own_G.step (T' := T3) (g' := (mkF m 9 #[.val (.ref a), .val (.int i)] [])) st3 ?_
  exact own_ret X3 e3 (v := none) (fun _ => rfl) Bd.notSynchronized ⟨rfl, N3, K7, F5, F4⟩ (by decide) (by decide) (fun fs hr => X3.returnOut hx Bd.returns (hb hby d6_9) hr)
theorem pd__28I_29V : parseMethodDescriptor "(I)V" = some ⟨[.int], none⟩ := by decide +kernel
theorem d5_0 : decode jdk_33_method_22_code 0 = .ok (.iload_n 0, 1) := by decide +kernel
theorem d5_1 : decode jdk_33_method_22_code 1 = .ok (.bipush (-128), 2) := by decide +kernel
theorem d5_3 : decode jdk_33_method_22_code 3 = .ok (.if_icmp .lt 20, 3) := by decide +kernel
theorem d5_6 : decode jdk_33_method_22_code 6 = .ok (.iload_n 0, 1) := by decide +kernel
theorem d5_7 : decode jdk_33_method_22_code 7 = .ok (.getstatic 191, 3) := by decide +kernel
theorem d5_10 : decode jdk_33_method_22_code 10 = .ok (.if_icmp .gt 13, 3) := by decide +kernel
theorem d5_13 : decode jdk_33_method_22_code 13 = .ok (.getstatic 195, 3) := by decide +kernel
theorem d5_16 : decode jdk_33_method_22_code 16 = .ok (.iload_n 0, 1) := by decide +kernel
theorem d5_17 : decode jdk_33_method_22_code 17 = .ok (.sipush 128, 3) := by decide +kernel
theorem d5_20 : decode jdk_33_method_22_code 20 = .ok (.iadd, 1) := by decide +kernel
theorem d5_21 : decode jdk_33_method_22_code 21 = .ok (.aaload, 1) := by decide +kernel
theorem d5_22 : decode jdk_33_method_22_code 22 = .ok (.areturn, 1) := by decide +kernel
theorem d5_23 : decode jdk_33_method_22_code 23 = .ok (.new 1, 3) := by decide +kernel
theorem d5_26 : decode jdk_33_method_22_code 26 = .ok (.dup, 1) := by decide +kernel
theorem d5_27 : decode jdk_33_method_22_code 27 = .ok (.iload_n 0, 1) := by decide +kernel
theorem d5_28 : decode jdk_33_method_22_code 28 = .ok (.invokespecial 199, 3) := by decide +kernel
theorem d5_31 : decode jdk_33_method_22_code 31 = .ok (.areturn, 1) := by decide +kernel
theorem ef_valueOf (m : MethodId) (i : Int32) : entryFrame m #[(.int i)] 1 = mkF m 0 #[.val (.int i)] [] := by
  first | (simp [entryFrame, mkF, argsToLocals, Value.category]; done) | rfl
def Q_valueOf (Z : State) (i : Int32) (ca : Addr) (cc : Cell) (h0 : Heap) (n0 : Nat) (v : Option Value) (h : Heap) (L : List Loc) : Prop := ∃ (b : Addr), v = some (.ref b) ∧ Fr n0 L ∧ Keep h0 h [] ∧ Exa Z h b "java/lang/Integer" ∧ Fld Z h b "java/lang/Integer" "value" "I" (.int i)
set_option maxRecDepth 65536 in
set_option maxHeartbeats 40000000 in
theorem rm_valueOf (l : Launch) (Z : State) (a0 : Array Value) (hw : ∀ d ∈ tables_1, d.before a0 Z = true) (ws : List Jvm.Cond) (i : Int32) (ca : Addr) (cc : Cell) (h0 : Heap) (n0 : Nat) (O0 : Old Z n0 h0) (S_high : Sta Z Z.heap "java/lang/Integer$IntegerCache" "high" "I" (.int (127 : Int32))) (S_cache : Sta Z Z.heap "java/lang/Integer$IntegerCache" "cache" "[Ljava/lang/Integer;" (.ref ca)) (BX : Bxs Z ca cc "java/lang/Integer" "I" (256 : Int32) (fun j => .int (j - 128))) :
    MetFree l (⟨"java/lang/Integer", "valueOf", "(I)Ljava/lang/Integer;"⟩ : MethodName) (head1 (Jvm.Cond.code (⟨"java/lang/Integer", "valueOf", "(I)Ljava/lang/Integer;"⟩ : MethodName) jdk_33_method_22_code 1 (some (.object "java/lang/Integer")) :: ws) ({ frames := 3, cells := 1, slots := 1, locals := 38 } : Room)) (fun aq_ Uq_ => aq_ = #[(.int i)] ∧ Z.Warmed39 Uq_.vm ∧ Uq_.heap = h0) (fun _ _ _ _ _ => True) (fun _ Uq_ oq_ Ur_ => ∃ vq_ Lq_, oq_ = .returned vq_ ∧ Q_valueOf Z i ca cc h0 n0 vq_ Ur_.heap Lq_ ∧ FrameEnd Uq_ oq_ Ur_ Lq_ ({ frames := 3, cells := 1, slots := 1, locals := 38 } : Room).cells ({ frames := 3, cells := 1, slots := 1, locals := 38 } : Room).slots) := by
  refine MetFree.of_bodySF (plainFor_of_name pn_java_2flang_2fInteger) hisR ?_
  intro p e s m args below meth c s₁ Bd hml0 hP hK
  obtain ⟨rfl, hZ, hh⟩ := hP
  have hx := Bd.exec
  have hby := Bd.bytes
  have hml : c.maxLocals = 1 := hml0
  have hown : s.vm.findClass "java/lang/Integer" = some m.cls := findClass_of_methodNamed Bd.named
  have hnm := (name_of_methodNamed Bd.named Bd.method).1
  have X0 : Stand p l e ({ frames := 3, cells := 1, slots := 1, locals := 38 } : Room) s m #[(.int i)] below meth c s₁ [] 0 0 := Stand.of_body Bd
  have e0 : s₁.heap = h0 := by rw [← hh, Bd.state]; rfl
  have N0 := Fr.nil n0
  have K0 := Keep.refl h0 []
  refine own_G.start (Q := Q_valueOf Z i ca cc h0 n0) (ef_valueOf m i) ?_
  refine own_G.step (g' := (mkF m 1 #[.val (.int i)] [(.int i)])) (fun tq_ kq_ => XS.iloadN X0.here hx rfl (hb hby d5_0) rfl kq_) ?_
  refine own_G.step (g' := (mkF m 3 #[.val (.int i)] [(.int (-128 : Int32)), (.int i)])) (fun tq_ kq_ => XS.bipush X0.here hx rfl (hb hby d5_1) kq_) ?_
  rcases Classical.em (i < (-128 : Int32)) with hc3 | hc3
  · refine own_G.step (g' := (mkF m 23 #[.val (.int i)] [])) (fun tq_ kq_ => XS.icmpYes X0.here hx rfl (pc0 := 3) (pc' := 23) rfl (hb hby d5_3) rfl (tlt hc3).1 (by decide) (by decide) kq_) ?_
    obtain ⟨T1, h1, X1, e1, E1, A1, D1, -, st1⟩ := newO X0 hx hZ hown (hw _ (List.mem_of_getElem? (i := 32) rfl)) (hw _ (List.mem_of_getElem? (i := 33) rfl)) (hw _ (List.mem_of_getElem? (i := 30) rfl)) e0 (g := (mkF m 23 #[.val (.int i)] [])) rfl (hb hby d5_23) (by decide) (by decide)
    obtain ⟨b1, g1⟩ : ∃ z, z = h0.size := ⟨_, rfl⟩
    rw [← g1] at A1 D1 st1
    have g2 : n0 ≤ b1 := Nat.le_trans O0.le (Nat.le_of_eq g1.symm)
    have z3 : h0.size ≤ b1 := Nat.le_trans K0.1 (Nat.le_of_eq g1.symm)
    have O4 := O0.ext E1
    have K5 := K0.ext E1
    have F6 : Fld Z h1 b1 "java/lang/Integer" "value" "I" (.int (0 : Int32)) := D1 (Or.inr (hw _ (List.mem_of_getElem? (i := 46) rfl))) (ty := .int) (by decide)
    refine own_G.step (T' := T1) (g' := (mkF m 26 #[.val (.int i)] [(.ref b1)])) st1 ?_
    refine own_G.step (g' := (mkF m 27 #[.val (.int i)] [(.ref b1), (.ref b1)])) (fun tq_ kq_ => XS.dup X1.here hx rfl (hb hby d5_26) rfl rfl kq_) ?_
    refine own_G.step (g' := (mkF m 28 #[.val (.int i)] [(.int i), (.ref b1), (.ref b1)])) (fun tq_ kq_ => XS.iloadN X1.here hx rfl (hb hby d5_27) rfl kq_) ?_
    obtain ⟨_, _, ⟨T7, L7, k7, n7⟩, -, X7, ⟨Lc7, hQ7, l7, y7, z7⟩, st7⟩ := X1.specialBack hx (y := (⟨"java/lang/Integer", "<init>", "(I)V"⟩ : MethodName)) rfl hown (mvT hZ (hw _ (List.mem_of_getElem? (i := 34) rfl))) (mvT hZ (hw _ (List.mem_of_getElem? (i := 35) rfl))) (mvT hZ (hw _ (List.mem_of_getElem? (i := 37) rfl))) (by decide) (backOf (W := 1) (rm_intinit l Z a0 hw [] b1 i h1 n0 O4 F6 A1 g2) hZ (hw _ (List.mem_of_getElem? (i := 37) rfl)) (hw _ (List.mem_of_getElem? (i := 30) rfl)) (by decide) (by decide)) (g := (mkF m 28 #[.val (.int i)] [(.int i), (.ref b1), (.ref b1)])) rfl (by rw [hml]; rfl) (Steps.refl _) (a := b1) (argsL := [(.int i)]) (rest := [(.ref b1)]) (lenOf pd__28I_29V rfl) rfl (by show 2 * 0 + _ ≤ _; exact Nat.le_of_eq rfl) (hb hby d5_28) (fun _ _ => ⟨rfl, e1, (by decide : 1 + 0 ≤ _), (by decide : 1 + 0 ≤ _)⟩)
    dsimp only [Pt.U, Pt.locs, Pt.cells, Pt.slots] at X7 l7 y7 z7 st7 hQ7
    subst l7 y7 z7
    obtain ⟨rfl, Nq7, P8, P9, P10⟩ := hQ7
    have N7 := Fr.app N0 Nq7
    have F11 := A1.keep P8
    have O12 := O4.keep P8 (allS g2 all0)
    have K13 := K5.trans P8 (allS (Or.inr z3) all0)
    refine own_G.step (T' := T7) (g' := (mkF m 31 #[.val (.int i)] [(.ref b1)])) (fun tq_ kq_ => st7.trans kq_) ?_
    exact own_ret X7 rfl (v := some (.ref b1)) (fun h => by rw [Bd.returns] at h; cases h) Bd.notSynchronized ⟨b1, rfl, N7, K13, P9, P10⟩ (by decide) (by decide) (fun fs hr => own_retR X7 hx Bd.returns rfl rfl (hb hby d5_31) hr)
  · refine own_G.step (g' := (mkF m 6 #[.val (.int i)] [])) (fun tq_ kq_ => XS.icmpNo X0.here hx rfl (hb hby d5_3) rfl (flt hc3).1 kq_) ?_
    refine own_G.step (g' := (mkF m 7 #[.val (.int i)] [(.int i)])) (fun tq_ kq_ => XS.iloadN X0.here hx rfl (hb hby d5_6) rfl kq_) ?_
    obtain ⟨T14, X14, e14, st14⟩ := getS2 X0 hx hZ hown (host := "") (Or.inl (hw _ (List.mem_of_getElem? (i := 53) rfl))) Via.refl e0 (Sta.ext O0.2 S_high) (g := (mkF m 7 #[.val (.int i)] [(.int i)])) rfl (hb hby d5_7)
    refine own_G.step (T' := T14) (g' := (mkF m 10 #[.val (.int i)] [(.int (127 : Int32)), (.int i)])) st14 ?_
    rcases Classical.em ((127 : Int32) < i) with hc10 | hc10
    · refine own_G.step (g' := (mkF m 23 #[.val (.int i)] [])) (fun tq_ kq_ => XS.icmpYes X14.here hx rfl (pc0 := 10) (pc' := 23) rfl (hb hby d5_10) rfl (tlt hc10).2.2.1 (by decide) (by decide) kq_) ?_
      obtain ⟨T15, h15, X15, e15, E15, A15, D15, -, st15⟩ := newO X14 hx hZ hown (hw _ (List.mem_of_getElem? (i := 32) rfl)) (hw _ (List.mem_of_getElem? (i := 33) rfl)) (hw _ (List.mem_of_getElem? (i := 30) rfl)) e14 (g := (mkF m 23 #[.val (.int i)] [])) rfl (hb hby d5_23) (by decide) (by decide)
      obtain ⟨b15, g15⟩ : ∃ z, z = h0.size := ⟨_, rfl⟩
      rw [← g15] at A15 D15 st15
      have g16 : n0 ≤ b15 := Nat.le_trans O0.le (Nat.le_of_eq g15.symm)
      have z17 : h0.size ≤ b15 := Nat.le_trans K0.1 (Nat.le_of_eq g15.symm)
      have O18 := O0.ext E15
      have K19 := K0.ext E15
      have F20 : Fld Z h15 b15 "java/lang/Integer" "value" "I" (.int (0 : Int32)) := D15 (Or.inr (hw _ (List.mem_of_getElem? (i := 46) rfl))) (ty := .int) (by decide)
      refine own_G.step (T' := T15) (g' := (mkF m 26 #[.val (.int i)] [(.ref b15)])) st15 ?_
      refine own_G.step (g' := (mkF m 27 #[.val (.int i)] [(.ref b15), (.ref b15)])) (fun tq_ kq_ => XS.dup X15.here hx rfl (hb hby d5_26) rfl rfl kq_) ?_
      refine own_G.step (g' := (mkF m 28 #[.val (.int i)] [(.int i), (.ref b15), (.ref b15)])) (fun tq_ kq_ => XS.iloadN X15.here hx rfl (hb hby d5_27) rfl kq_) ?_
      obtain ⟨_, _, ⟨T21, L21, k21, n21⟩, -, X21, ⟨Lc21, hQ21, l21, y21, z21⟩, st21⟩ := X15.specialBack hx (y := (⟨"java/lang/Integer", "<init>", "(I)V"⟩ : MethodName)) rfl hown (mvT hZ (hw _ (List.mem_of_getElem? (i := 34) rfl))) (mvT hZ (hw _ (List.mem_of_getElem? (i := 35) rfl))) (mvT hZ (hw _ (List.mem_of_getElem? (i := 37) rfl))) (by decide) (backOf (W := 1) (rm_intinit l Z a0 hw [] b15 i h15 n0 O18 F20 A15 g16) hZ (hw _ (List.mem_of_getElem? (i := 37) rfl)) (hw _ (List.mem_of_getElem? (i := 30) rfl)) (by decide) (by decide)) (g := (mkF m 28 #[.val (.int i)] [(.int i), (.ref b15), (.ref b15)])) rfl (by rw [hml]; rfl) (Steps.refl _) (a := b15) (argsL := [(.int i)]) (rest := [(.ref b15)]) (lenOf pd__28I_29V rfl) rfl (by show 2 * 0 + _ ≤ _; exact Nat.le_of_eq rfl) (hb hby d5_28) (fun _ _ => ⟨rfl, e15, (by decide : 1 + 0 ≤ _), (by decide : 1 + 0 ≤ _)⟩)
      dsimp only [Pt.U, Pt.locs, Pt.cells, Pt.slots] at X21 l21 y21 z21 st21 hQ21
      subst l21 y21 z21
      obtain ⟨rfl, Nq21, P22, P23, P24⟩ := hQ21
      have N21 := Fr.app N0 Nq21
      have F25 := A15.keep P22
      have O26 := O18.keep P22 (allS g16 all0)
      have K27 := K19.trans P22 (allS (Or.inr z17) all0)
      refine own_G.step (T' := T21) (g' := (mkF m 31 #[.val (.int i)] [(.ref b15)])) (fun tq_ kq_ => st21.trans kq_) ?_
      exact own_ret X21 rfl (v := some (.ref b15)) (fun h => by rw [Bd.returns] at h; cases h) Bd.notSynchronized ⟨b15, rfl, N21, K27, P23, P24⟩ (by decide) (by decide) (fun fs hr => own_retR X21 hx Bd.returns rfl rfl (hb hby d5_31) hr)
    · refine own_G.step (g' := (mkF m 13 #[.val (.int i)] [])) (fun tq_ kq_ => XS.icmpNo X14.here hx rfl (hb hby d5_10) rfl (flt hc10).2.2.1 kq_) ?_
      obtain ⟨T28, X28, e28, st28⟩ := getS2 X14 hx hZ hown (host := "") (Or.inl (hw _ (List.mem_of_getElem? (i := 56) rfl))) Via.refl e14 (Sta.ext O0.2 S_cache) (g := (mkF m 13 #[.val (.int i)] [])) rfl (hb hby d5_13)
      refine own_G.step (T' := T28) (g' := (mkF m 16 #[.val (.int i)] [(.ref ca)])) st28 ?_
      refine own_G.step (g' := (mkF m 17 #[.val (.int i)] [(.int i), (.ref ca)])) (fun tq_ kq_ => XS.iloadN X28.here hx rfl (hb hby d5_16) rfl kq_) ?_
      refine own_G.step (g' := (mkF m 20 #[.val (.int i)] [(.int (128 : Int32)), (.int i), (.ref ca)])) (fun tq_ kq_ => XS.sipush X28.here hx rfl (hb hby d5_17) kq_) ?_
      refine own_G.step (g' := (mkF m 21 #[.val (.int i)] [(.int (i + (128 : Int32))), (.ref ca)])) (fun tq_ kq_ => XS.iadd X28.here hx rfl (hb hby d5_20) rfl kq_) ?_
      have hin29 := own_box_in BX.2.1 hc3 hc10
      obtain ⟨b29, hat29, Eb29, Fb29⟩ := BX.2.2.2 _ hin29
      have Ar29 := (BX.ext O0.2).1
      have Eb29' := Exa.ext O0.2 Eb29
      have Fb29' : Fld Z h0 b29 "java/lang/Integer" "value" "I" (.int ((i + (128 : Int32)) - 128)) := Fld.ext O0.2 Fb29
      have qv29 : (i + (128 : Int32)) - 128 = i := Int32.add_sub_cancel i 128
      rw [qv29] at Fb29'
      refine own_G.step (g' := (mkF m 22 #[.val (.int i)] [(.ref b29)])) (fun tq_ kq_ => X28.aaload hx (j := (i + (128 : Int32))) (v := (.ref b29)) (by rw [e28]; exact Ar29.1) (State.isArrayOf_alike hZ.alike Ar29.2.1) rfl Ar29.2.2 hin29 hat29 (g := (mkF m 21 #[.val (.int i)] [(.int (i + (128 : Int32))), (.ref ca)])) rfl rfl (hb hby d5_21) _ kq_) ?_
      exact own_ret X28 e28 (v := some (.ref b29)) (fun h => by rw [Bd.returns] at h; cases h) Bd.notSynchronized ⟨b29, rfl, N0, K0, Eb29', Fb29'⟩ (by decide) (by decide) (fun fs hr => own_retR X28 hx Bd.returns rfl rfl (hb hby d5_22) hr)
theorem d8_0 : decode jdk_33_method_27_code 0 = .ok (.aload_n 0, 1) := by decide +kernel
theorem d8_1 : decode jdk_33_method_27_code 1 = .ok (.getfield 205, 3) := by decide +kernel
theorem d8_4 : decode jdk_33_method_27_code 4 = .ok (.ireturn, 1) := by decide +kernel
theorem ef_intValue (m : MethodId) (a : Addr) : entryFrame m #[(.ref a)] 1 = mkF m 0 #[.val (.ref a)] [] := by
  first | (simp [entryFrame, mkF, argsToLocals, Value.category]; done) | rfl
def Q_intValue (Z : State) (a : Addr) (i : Int32) (h0 : Heap) (n0 : Nat) (v : Option Value) (h : Heap) (L : List Loc) : Prop := v = some (.int i) ∧ Fr n0 L ∧ h = h0
set_option maxRecDepth 65536 in
set_option maxHeartbeats 40000000 in
theorem rm_intValue (l : Launch) (Z : State) (a0 : Array Value) (hw : ∀ d ∈ tables_1, d.before a0 Z = true) (ws : List Jvm.Cond) (a : Addr) (i : Int32) (h0 : Heap) (n0 : Nat) (O0 : Old Z n0 h0) (F0 : Fld Z h0 a "java/lang/Integer" "value" "I" (.int i)) :
    MetFree l (⟨"java/lang/Integer", "intValue", "()I"⟩ : MethodName) (head1 (Jvm.Cond.code (⟨"java/lang/Integer", "intValue", "()I"⟩ : MethodName) jdk_33_method_27_code 1 (some .int) :: ws) ({ frames := 0, cells := 0, slots := 0, locals := 0 } : Room)) (fun aq_ Uq_ => aq_ = #[(.ref a)] ∧ Z.Warmed39 Uq_.vm ∧ Uq_.heap = h0) (fun _ _ _ _ _ => True) (fun _ Uq_ oq_ Ur_ => ∃ vq_ Lq_, oq_ = .returned vq_ ∧ Q_intValue Z a i h0 n0 vq_ Ur_.heap Lq_ ∧ FrameEnd Uq_ oq_ Ur_ Lq_ ({ frames := 0, cells := 0, slots := 0, locals := 0 } : Room).cells ({ frames := 0, cells := 0, slots := 0, locals := 0 } : Room).slots) := by
  refine MetFree.of_bodySF (plainFor_of_name pn_java_2flang_2fInteger) hisR ?_
  intro p e s m args below meth c s₁ Bd hml0 hP hK
  obtain ⟨rfl, hZ, hh⟩ := hP
  have hx := Bd.exec
  have hby := Bd.bytes
  have hml : c.maxLocals = 1 := hml0
  have hown : s.vm.findClass "java/lang/Integer" = some m.cls := findClass_of_methodNamed Bd.named
  have hnm := (name_of_methodNamed Bd.named Bd.method).1
  have X0 : Stand p l e ({ frames := 0, cells := 0, slots := 0, locals := 0 } : Room) s m #[(.ref a)] below meth c s₁ [] 0 0 := Stand.of_body Bd
  have e0 : s₁.heap = h0 := by rw [← hh, Bd.state]; rfl
  have N0 := Fr.nil n0
  have K0 := Keep.refl h0 []
  refine own_G.start (Q := Q_intValue Z a i h0 n0) (ef_intValue m a) ?_
  refine own_G.step (g' := (mkF m 1 #[.val (.ref a)] [(.ref a)])) (fun tq_ kq_ => XS.aloadN X0.here hx rfl (hb hby d8_0) rfl rfl kq_) ?_
  obtain ⟨T1, X1, e1, st1⟩ := getF X0 hx hZ hown (host := "") (Or.inl (hw _ (List.mem_of_getElem? (i := 45) rfl))) Via.refl e0 F0 (g := (mkF m 1 #[.val (.ref a)] [(.ref a)])) rfl rfl (hb hby d8_1)
  refine own_G.step (T' := T1) (g' := (mkF m 4 #[.val (.ref a)] [(.int i)])) st1 ?_
  exact own_ret X1 e1 (v := some (.int i)) (fun h => by rw [Bd.returns] at h; cases h) Bd.notSynchronized ⟨rfl, N0, rfl⟩ (by decide) (by decide) (fun fs hr => retI X1 hx Bd.returns (hb hby d8_4) hr)
theorem d1_0 : decode prog_10_method_1_code 0 = .ok (.aload_n 0, 1) := by decide +kernel
theorem d1_1 : decode prog_10_method_1_code 1 = .ok (.invokespecial 1, 3) := by decide +kernel
theorem d1_4 : decode prog_10_method_1_code 4 = .ok (.aload_n 1, 1) := by decide +kernel
theorem d1_5 : decode prog_10_method_1_code 5 = .ok (.ifnonnull 7, 3) := by decide +kernel
theorem d1_12 : decode prog_10_method_1_code 12 = .ok (.iconst 0, 1) := by decide +kernel
theorem d1_13 : decode prog_10_method_1_code 13 = .ok (.aload_n 2, 1) := by decide +kernel
theorem d1_14 : decode prog_10_method_1_code 14 = .ok (.ifnonnull 7, 3) := by decide +kernel
theorem d1_17 : decode prog_10_method_1_code 17 = .ok (.iconst 1, 1) := by decide +kernel
theorem d1_18 : decode prog_10_method_1_code 18 = .ok (.goto 4, 3) := by decide +kernel
theorem d1_22 : decode prog_10_method_1_code 22 = .ok (.if_icmp .ne 13, 3) := by decide +kernel
theorem d1_35 : decode prog_10_method_1_code 35 = .ok (.aload_n 0, 1) := by decide +kernel
theorem d1_36 : decode prog_10_method_1_code 36 = .ok (.aload_n 1, 1) := by decide +kernel
theorem d1_37 : decode prog_10_method_1_code 37 = .ok (.putfield 14, 3) := by decide +kernel
theorem d1_40 : decode prog_10_method_1_code 40 = .ok (.aload_n 0, 1) := by decide +kernel
theorem d1_41 : decode prog_10_method_1_code 41 = .ok (.aload_n 2, 1) := by decide +kernel
theorem d1_42 : decode prog_10_method_1_code 42 = .ok (.putfield 20, 3) := by decide +kernel
theorem d1_45 : decode prog_10_method_1_code 45 = .ok (.return_, 1) := by decide +kernel
theorem pn_com_2fexample_2fredelivery_2fredelivery_2fsender_2fSendResult : plainName "com/example/redelivery/redelivery/sender/SendResult" = true := by first | (simp [plainName, overriddenIn]; done) | decide +kernel
theorem ef_srp (m : MethodId) (a : Addr) (pp : Addr) : entryFrame m #[(.ref a), (.ref pp), .null] 3 = mkF m 0 #[.val (.ref a), .val (.ref pp), .val .null] [] := by
  first | (simp [entryFrame, mkF, argsToLocals, Value.category]; done) | rfl
def Q_srp (Z : State) (a : Addr) (pp : Addr) (h0 : Heap) (n0 : Nat) (v : Option Value) (h : Heap) (L : List Loc) : Prop := v = none ∧ Fr n0 L ∧ Keep h0 h [a] ∧ Exa Z h a "com/example/redelivery/redelivery/sender/SendResult" ∧ Fld Z h a "com/example/redelivery/redelivery/sender/SendResult" "statusCode" "Ljava/lang/Integer;" (.ref pp) ∧ Fld Z h a "com/example/redelivery/redelivery/sender/SendResult" "failure" "Lcom/example/redelivery/redelivery/sender/SendFailure;" .null
set_option maxRecDepth 65536 in
set_option maxHeartbeats 40000000 in
theorem rm_srp (l : Launch) (Z : State) (a0 : Array Value) (hw : ∀ d ∈ tables_1, d.before a0 Z = true) (ws : List Jvm.Cond) (a : Addr) (pp : Addr) (h0 : Heap) (n0 : Nat) (O0 : Old Z n0 h0) (F1 : Fld Z h0 a "com/example/redelivery/redelivery/sender/SendResult" "statusCode" "Ljava/lang/Integer;" .null) (F2 : Fld Z h0 a "com/example/redelivery/redelivery/sender/SendResult" "failure" "Lcom/example/redelivery/redelivery/sender/SendFailure;" .null) (E0 : Exa Z h0 a "com/example/redelivery/redelivery/sender/SendResult") (ga : n0 ≤ a) :
    MetFree l (⟨"com/example/redelivery/redelivery/sender/SendResult", "<init>", "(Ljava/lang/Integer;Lcom/example/redelivery/redelivery/sender/SendFailure;)V"⟩ : MethodName) (head1 (Jvm.Cond.code (⟨"com/example/redelivery/redelivery/sender/SendResult", "<init>", "(Ljava/lang/Integer;Lcom/example/redelivery/redelivery/sender/SendFailure;)V"⟩ : MethodName) prog_10_method_1_code 3 none :: ws) ({ frames := 2, cells := 0, slots := 0, locals := 24 } : Room)) (fun aq_ Uq_ => aq_ = #[(.ref a), (.ref pp), .null] ∧ Z.Warmed39 Uq_.vm ∧ Uq_.heap = h0) (fun _ _ _ _ _ => True) (fun _ Uq_ oq_ Ur_ => ∃ vq_ Lq_, oq_ = .returned vq_ ∧ Q_srp Z a pp h0 n0 vq_ Ur_.heap Lq_ ∧ FrameEnd Uq_ oq_ Ur_ Lq_ ({ frames := 2, cells := 0, slots := 0, locals := 24 } : Room).cells ({ frames := 2, cells := 0, slots := 0, locals := 24 } : Room).slots) := by
  refine MetFree.of_bodySF (plainFor_of_name pn_com_2fexample_2fredelivery_2fredelivery_2fsender_2fSendResult) hisR ?_
  intro p e s m args below meth c s₁ Bd hml0 hP hK
  obtain ⟨rfl, hZ, hh⟩ := hP
  have hx := Bd.exec
  have hby := Bd.bytes
  have hml : c.maxLocals = 3 := hml0
  have hown : s.vm.findClass "com/example/redelivery/redelivery/sender/SendResult" = some m.cls := findClass_of_methodNamed Bd.named
  have hnm := (name_of_methodNamed Bd.named Bd.method).1
  have X0 : Stand p l e ({ frames := 2, cells := 0, slots := 0, locals := 24 } : Room) s m #[(.ref a), (.ref pp), .null] below meth c s₁ [] 0 0 := Stand.of_body Bd
  have e0 : s₁.heap = h0 := by rw [← hh, Bd.state]; rfl
  have N0 := Fr.nil n0
  have K0 := Keep.refl h0 [a]
  refine own_G.start (Q := Q_srp Z a pp h0 n0) (ef_srp m a pp) ?_
  refine own_G.step (g' := (mkF m 1 #[.val (.ref a), .val (.ref pp), .val .null] [(.ref a)])) (fun tq_ kq_ => XS.aloadN X0.here hx rfl (hb hby d1_0) rfl rfl kq_) ?_
  obtain ⟨_, _, ⟨T1, L1, k1, n1⟩, -, X1, ⟨Lc1, hQ1, l1, y1, z1⟩, st1⟩ := X0.specialBack hx (y := (⟨"java/lang/Record", "<init>", "()V"⟩ : MethodName)) rfl hown (mvT hZ (hw _ (List.mem_of_getElem? (i := 9) rfl))) (mvT hZ (hw _ (List.mem_of_getElem? (i := 10) rfl))) (mvT hZ (hw _ (List.mem_of_getElem? (i := 13) rfl))) (by decide) (backOf (W := 0) (rm_recinit l Z a0 hw [] a h0 n0 O0 ) hZ (hw _ (List.mem_of_getElem? (i := 13) rfl)) (hw _ (List.mem_of_getElem? (i := 12) rfl)) (by decide) (by decide)) (g := (mkF m 1 #[.val (.ref a), .val (.ref pp), .val .null] [(.ref a)])) rfl (by rw [hml]; rfl) (Steps.refl _) (a := a) (argsL := []) (rest := []) (lenOf pd__28_29V rfl) rfl (by show 2 * 0 + _ ≤ _; exact Nat.le_of_eq rfl) (hb hby d1_1) (fun _ _ => ⟨rfl, e0, (by decide : 0 + 0 ≤ _), (by decide : 0 + 0 ≤ _)⟩)
  dsimp only [Pt.U, Pt.locs, Pt.cells, Pt.slots] at X1 l1 y1 z1 st1 hQ1
  subst l1 y1 z1
  obtain ⟨rfl, Nq1, P2⟩ := hQ1
  have N1 := Fr.app N0 Nq1
  refine own_G.step (T' := T1) (g' := (mkF m 4 #[.val (.ref a), .val (.ref pp), .val .null] [])) (fun tq_ kq_ => st1.trans kq_) ?_
  refine own_G.step (g' := (mkF m 5 #[.val (.ref a), .val (.ref pp), .val .null] [(.ref pp)])) (fun tq_ kq_ => XS.aloadN X1.here hx rfl (hb hby d1_4) rfl rfl kq_) ?_
  refine own_G.step (g' := (mkF m 12 #[.val (.ref a), .val (.ref pp), .val .null] [])) (fun tq_ kq_ => XS.ifnonnullYes X1.here hx rfl (pc0 := 5) (pc' := 12) rfl (hb hby d1_5) rfl (by decide) (by decide) kq_) ?_
  refine own_G.step (g' := (mkF m 13 #[.val (.ref a), .val (.ref pp), .val .null] [(.int (0 : Int32))])) (fun tq_ kq_ => XS.iconst X1.here hx rfl (hb hby d1_12) kq_) ?_
  refine own_G.step (g' := (mkF m 14 #[.val (.ref a), .val (.ref pp), .val .null] [.null, (.int (0 : Int32))])) (fun tq_ kq_ => XS.aloadN X1.here hx rfl (hb hby d1_13) rfl rfl kq_) ?_
  refine own_G.step (g' := (mkF m 17 #[.val (.ref a), .val (.ref pp), .val .null] [(.int (0 : Int32))])) (fun tq_ kq_ => XS.ifnonnullNo X1.here hx rfl (hb hby d1_14) rfl kq_) ?_
  refine own_G.step (g' := (mkF m 18 #[.val (.ref a), .val (.ref pp), .val .null] [(.int (1 : Int32)), (.int (0 : Int32))])) (fun tq_ kq_ => XS.iconst X1.here hx rfl (hb hby d1_17) kq_) ?_
  refine own_G.step (g' := (mkF m 22 #[.val (.ref a), .val (.ref pp), .val .null] [(.int (1 : Int32)), (.int (0 : Int32))])) (fun tq_ kq_ => XS.goto X1.here hx rfl (pc0 := 18) (pc' := 22) rfl (hb hby d1_18) (by decide) (by decide) kq_) ?_
  have hc22 : ¬ ((0 : Int32) = (1 : Int32)) := (by decide)
  refine own_G.step (g' := (mkF m 35 #[.val (.ref a), .val (.ref pp), .val .null] [])) (fun tq_ kq_ => XS.icmpYes X1.here hx rfl (pc0 := 22) (pc' := 35) rfl (hb hby d1_22) rfl (feq hc22).2 (by decide) (by decide) kq_) ?_
  refine own_G.step (g' := (mkF m 36 #[.val (.ref a), .val (.ref pp), .val .null] [(.ref a)])) (fun tq_ kq_ => XS.aloadN X1.here hx rfl (hb hby d1_35) rfl rfl kq_) ?_
  refine own_G.step (g' := (mkF m 37 #[.val (.ref a), .val (.ref pp), .val .null] [(.ref pp), (.ref a)])) (fun tq_ kq_ => XS.aloadN X1.here hx rfl (hb hby d1_36) rfl rfl kq_) ?_
  obtain ⟨T3, h3, X3, e3, W3, st3⟩ := putF X1 hx hZ hown (host := "") (Or.inl (hw _ (List.mem_of_getElem? (i := 17) rfl))) Via.refl P2 F1 E0 (Or.inr ⟨(hw _ (List.mem_of_getElem? (i := 18) rfl)), rfl, hnm⟩) (hw _ (List.mem_of_getElem? (i := 4) rfl)) (ty := (.object "java/lang/Integer")) (by decide) rfl rfl (g := (mkF m 37 #[.val (.ref a), .val (.ref pp), .val .null] [(.ref pp), (.ref a)])) rfl rfl (hb hby d1_37)
  have N3 := Fr.snoc X3 N1 ga
  have F4 := F1.same W3
  have F5 := F2.other W3 (Or.inr (slot_ne (Or.inr (hw _ (List.mem_of_getElem? (i := 20) rfl))) (Or.inr (hw _ (List.mem_of_getElem? (i := 18) rfl))) (by decide) (t := (.object "com/example/redelivery/redelivery/sender/SendFailure")) (t' := (.object "java/lang/Integer")) (by decide) (by decide)))
  have F6 := E0.wr W3
  have O7 := O0.wr W3 ga
  have K8 := K0.wr W3 (Or.inl (List.mem_of_getElem? (i := 0) rfl))
  refine own_G.step (T' := T3) (g' := (mkF m 40 #[.val (.ref a), .val (.ref pp), .val .null] [])) st3 ?_
  refine own_G.step (g' := (mkF m 41 #[.val (.ref a), .val (.ref pp), .val .null] [(.ref a)])) (fun tq_ kq_ => XS.aloadN X3.here hx rfl (hb hby d1_40) rfl rfl kq_) ?_
  refine own_G.step (g' := (mkF m 42 #[.val (.ref a), .val (.ref pp), .val .null] [.null, (.ref a)])) (fun tq_ kq_ => XS.aloadN X3.here hx rfl (hb hby d1_41) rfl rfl kq_) ?_
  obtain ⟨T9, h9, X9, e9, W9, st9⟩ := putF X3 hx hZ hown (host := "") (Or.inl (hw _ (List.mem_of_getElem? (i := 19) rfl))) Via.refl e3 F5 F6 (Or.inr ⟨(hw _ (List.mem_of_getElem? (i := 20) rfl)), rfl, hnm⟩) (hw _ (List.mem_of_getElem? (i := 4) rfl)) (ty := (.object "com/example/redelivery/redelivery/sender/SendFailure")) (by decide) rfl rfl (g := (mkF m 42 #[.val (.ref a), .val (.ref pp), .val .null] [.null, (.ref a)])) rfl rfl (hb hby d1_42)
  have N9 := Fr.snoc X9 N3 ga
  have F10 := F4.other W9 (Or.inr (slot_ne (Or.inr (hw _ (List.mem_of_getElem? (i := 18) rfl))) (Or.inr (hw _ (List.mem_of_getElem? (i := 20) rfl))) (by decide) (t := (.object "java/lang/Integer")) (t' := (.object "com/example/redelivery/redelivery/sender/SendFailure")) (by decide) (by decide)))
  have F11 := F5.same W9
  have F12 := F6.wr W9
  have O13 := O7.wr W9 ga
  have K14 := K8.wr W9 (Or.inl (List.mem_of_getElem? (i := 0) rfl))
  refine own_G.step (T' := T9) (g' := (mkF m 45 #[.val (.ref a), .val (.ref pp), .val .null] [])) st9 ?_
  exact own_ret X9 e9 (v := none) (fun _ => rfl) Bd.notSynchronized ⟨rfl, N9, K14, F12, F10, F11⟩ (by decide) (by decide) (fun fs hr => X9.returnOut hx Bd.returns (hb hby d1_45) hr)
theorem d1_8 : decode prog_10_method_1_code 8 = .ok (.iconst 1, 1) := by decide +kernel
theorem d1_9 : decode prog_10_method_1_code 9 = .ok (.goto 4, 3) := by decide +kernel
theorem d1_21 : decode prog_10_method_1_code 21 = .ok (.iconst 0, 1) := by decide +kernel
theorem ef_srf (m : MethodId) (a : Addr) (f : Addr) : entryFrame m #[(.ref a), .null, (.ref f)] 3 = mkF m 0 #[.val (.ref a), .val .null, .val (.ref f)] [] := by
  first | (simp [entryFrame, mkF, argsToLocals, Value.category]; done) | rfl
def Q_srf (Z : State) (a : Addr) (f : Addr) (h0 : Heap) (n0 : Nat) (v : Option Value) (h : Heap) (L : List Loc) : Prop := v = none ∧ Fr n0 L ∧ Keep h0 h [a] ∧ Exa Z h a "com/example/redelivery/redelivery/sender/SendResult" ∧ Fld Z h a "com/example/redelivery/redelivery/sender/SendResult" "statusCode" "Ljava/lang/Integer;" .null ∧ Fld Z h a "com/example/redelivery/redelivery/sender/SendResult" "failure" "Lcom/example/redelivery/redelivery/sender/SendFailure;" (.ref f)
set_option maxRecDepth 65536 in
set_option maxHeartbeats 40000000 in
theorem rm_srf (l : Launch) (Z : State) (a0 : Array Value) (hw : ∀ d ∈ tables_1, d.before a0 Z = true) (ws : List Jvm.Cond) (a : Addr) (f : Addr) (h0 : Heap) (n0 : Nat) (O0 : Old Z n0 h0) (F1 : Fld Z h0 a "com/example/redelivery/redelivery/sender/SendResult" "statusCode" "Ljava/lang/Integer;" .null) (F2 : Fld Z h0 a "com/example/redelivery/redelivery/sender/SendResult" "failure" "Lcom/example/redelivery/redelivery/sender/SendFailure;" .null) (E0 : Exa Z h0 a "com/example/redelivery/redelivery/sender/SendResult") (ga : n0 ≤ a) :
    MetFree l (⟨"com/example/redelivery/redelivery/sender/SendResult", "<init>", "(Ljava/lang/Integer;Lcom/example/redelivery/redelivery/sender/SendFailure;)V"⟩ : MethodName) (head1 (Jvm.Cond.code (⟨"com/example/redelivery/redelivery/sender/SendResult", "<init>", "(Ljava/lang/Integer;Lcom/example/redelivery/redelivery/sender/SendFailure;)V"⟩ : MethodName) prog_10_method_1_code 3 none :: ws) ({ frames := 2, cells := 0, slots := 0, locals := 24 } : Room)) (fun aq_ Uq_ => aq_ = #[(.ref a), .null, (.ref f)] ∧ Z.Warmed39 Uq_.vm ∧ Uq_.heap = h0) (fun _ _ _ _ _ => True) (fun _ Uq_ oq_ Ur_ => ∃ vq_ Lq_, oq_ = .returned vq_ ∧ Q_srf Z a f h0 n0 vq_ Ur_.heap Lq_ ∧ FrameEnd Uq_ oq_ Ur_ Lq_ ({ frames := 2, cells := 0, slots := 0, locals := 24 } : Room).cells ({ frames := 2, cells := 0, slots := 0, locals := 24 } : Room).slots) := by
  refine MetFree.of_bodySF (plainFor_of_name pn_com_2fexample_2fredelivery_2fredelivery_2fsender_2fSendResult) hisR ?_
  intro p e s m args below meth c s₁ Bd hml0 hP hK
  obtain ⟨rfl, hZ, hh⟩ := hP
  have hx := Bd.exec
  have hby := Bd.bytes
  have hml : c.maxLocals = 3 := hml0
  have hown : s.vm.findClass "com/example/redelivery/redelivery/sender/SendResult" = some m.cls := findClass_of_methodNamed Bd.named
  have hnm := (name_of_methodNamed Bd.named Bd.method).1
  have X0 : Stand p l e ({ frames := 2, cells := 0, slots := 0, locals := 24 } : Room) s m #[(.ref a), .null, (.ref f)] below meth c s₁ [] 0 0 := Stand.of_body Bd
  have e0 : s₁.heap = h0 := by rw [← hh, Bd.state]; rfl
  have N0 := Fr.nil n0
  have K0 := Keep.refl h0 [a]
  refine own_G.start (Q := Q_srf Z a f h0 n0) (ef_srf m a f) ?_
  refine own_G.step (g' := (mkF m 1 #[.val (.ref a), .val .null, .val (.ref f)] [(.ref a)])) (fun tq_ kq_ => XS.aloadN X0.here hx rfl (hb hby d1_0) rfl rfl kq_) ?_
  obtain ⟨_, _, ⟨T1, L1, k1, n1⟩, -, X1, ⟨Lc1, hQ1, l1, y1, z1⟩, st1⟩ := X0.specialBack hx (y := (⟨"java/lang/Record", "<init>", "()V"⟩ : MethodName)) rfl hown (mvT hZ (hw _ (List.mem_of_getElem? (i := 9) rfl))) (mvT hZ (hw _ (List.mem_of_getElem? (i := 10) rfl))) (mvT hZ (hw _ (List.mem_of_getElem? (i := 13) rfl))) (by decide) (backOf (W := 0) (rm_recinit l Z a0 hw [] a h0 n0 O0 ) hZ (hw _ (List.mem_of_getElem? (i := 13) rfl)) (hw _ (List.mem_of_getElem? (i := 12) rfl)) (by decide) (by decide)) (g := (mkF m 1 #[.val (.ref a), .val .null, .val (.ref f)] [(.ref a)])) rfl (by rw [hml]; rfl) (Steps.refl _) (a := a) (argsL := []) (rest := []) (lenOf pd__28_29V rfl) rfl (by show 2 * 0 + _ ≤ _; exact Nat.le_of_eq rfl) (hb hby d1_1) (fun _ _ => ⟨rfl, e0, (by decide : 0 + 0 ≤ _), (by decide : 0 + 0 ≤ _)⟩)
  dsimp only [Pt.U, Pt.locs, Pt.cells, Pt.slots] at X1 l1 y1 z1 st1 hQ1
  subst l1 y1 z1
  obtain ⟨rfl, Nq1, P2⟩ := hQ1
  have N1 := Fr.app N0 Nq1
  refine own_G.step (T' := T1) (g' := (mkF m 4 #[.val (.ref a), .val .null, .val (.ref f)] [])) (fun tq_ kq_ => st1.trans kq_) ?_
  refine own_G.step (g' := (mkF m 5 #[.val (.ref a), .val .null, .val (.ref f)] [.null])) (fun tq_ kq_ => XS.aloadN X1.here hx rfl (hb hby d1_4) rfl rfl kq_) ?_
  refine own_G.step (g' := (mkF m 8 #[.val (.ref a), .val .null, .val (.ref f)] [])) (fun tq_ kq_ => XS.ifnonnullNo X1.here hx rfl (hb hby d1_5) rfl kq_) ?_
  refine own_G.step (g' := (mkF m 9 #[.val (.ref a), .val .null, .val (.ref f)] [(.int (1 : Int32))])) (fun tq_ kq_ => XS.iconst X1.here hx rfl (hb hby d1_8) kq_) ?_
  refine own_G.step (g' := (mkF m 13 #[.val (.ref a), .val .null, .val (.ref f)] [(.int (1 : Int32))])) (fun tq_ kq_ => XS.goto X1.here hx rfl (pc0 := 9) (pc' := 13) rfl (hb hby d1_9) (by decide) (by decide) kq_) ?_
  refine own_G.step (g' := (mkF m 14 #[.val (.ref a), .val .null, .val (.ref f)] [(.ref f), (.int (1 : Int32))])) (fun tq_ kq_ => XS.aloadN X1.here hx rfl (hb hby d1_13) rfl rfl kq_) ?_
  refine own_G.step (g' := (mkF m 21 #[.val (.ref a), .val .null, .val (.ref f)] [(.int (1 : Int32))])) (fun tq_ kq_ => XS.ifnonnullYes X1.here hx rfl (pc0 := 14) (pc' := 21) rfl (hb hby d1_14) rfl (by decide) (by decide) kq_) ?_
  refine own_G.step (g' := (mkF m 22 #[.val (.ref a), .val .null, .val (.ref f)] [(.int (0 : Int32)), (.int (1 : Int32))])) (fun tq_ kq_ => XS.iconst X1.here hx rfl (hb hby d1_21) kq_) ?_
  have hc22 : ¬ ((1 : Int32) = (0 : Int32)) := (by decide)
  refine own_G.step (g' := (mkF m 35 #[.val (.ref a), .val .null, .val (.ref f)] [])) (fun tq_ kq_ => XS.icmpYes X1.here hx rfl (pc0 := 22) (pc' := 35) rfl (hb hby d1_22) rfl (feq hc22).2 (by decide) (by decide) kq_) ?_
  refine own_G.step (g' := (mkF m 36 #[.val (.ref a), .val .null, .val (.ref f)] [(.ref a)])) (fun tq_ kq_ => XS.aloadN X1.here hx rfl (hb hby d1_35) rfl rfl kq_) ?_
  refine own_G.step (g' := (mkF m 37 #[.val (.ref a), .val .null, .val (.ref f)] [.null, (.ref a)])) (fun tq_ kq_ => XS.aloadN X1.here hx rfl (hb hby d1_36) rfl rfl kq_) ?_
  obtain ⟨T3, h3, X3, e3, W3, st3⟩ := putF X1 hx hZ hown (host := "") (Or.inl (hw _ (List.mem_of_getElem? (i := 17) rfl))) Via.refl P2 F1 E0 (Or.inr ⟨(hw _ (List.mem_of_getElem? (i := 18) rfl)), rfl, hnm⟩) (hw _ (List.mem_of_getElem? (i := 4) rfl)) (ty := (.object "java/lang/Integer")) (by decide) rfl rfl (g := (mkF m 37 #[.val (.ref a), .val .null, .val (.ref f)] [.null, (.ref a)])) rfl rfl (hb hby d1_37)
  have N3 := Fr.snoc X3 N1 ga
  have F4 := F1.same W3
  have F5 := F2.other W3 (Or.inr (slot_ne (Or.inr (hw _ (List.mem_of_getElem? (i := 20) rfl))) (Or.inr (hw _ (List.mem_of_getElem? (i := 18) rfl))) (by decide) (t := (.object "com/example/redelivery/redelivery/sender/SendFailure")) (t' := (.object "java/lang/Integer")) (by decide) (by decide)))
  have F6 := E0.wr W3
  have O7 := O0.wr W3 ga
  have K8 := K0.wr W3 (Or.inl (List.mem_of_getElem? (i := 0) rfl))
  refine own_G.step (T' := T3) (g' := (mkF m 40 #[.val (.ref a), .val .null, .val (.ref f)] [])) st3 ?_
  refine own_G.step (g' := (mkF m 41 #[.val (.ref a), .val .null, .val (.ref f)] [(.ref a)])) (fun tq_ kq_ => XS.aloadN X3.here hx rfl (hb hby d1_40) rfl rfl kq_) ?_
  refine own_G.step (g' := (mkF m 42 #[.val (.ref a), .val .null, .val (.ref f)] [(.ref f), (.ref a)])) (fun tq_ kq_ => XS.aloadN X3.here hx rfl (hb hby d1_41) rfl rfl kq_) ?_
  obtain ⟨T9, h9, X9, e9, W9, st9⟩ := putF X3 hx hZ hown (host := "") (Or.inl (hw _ (List.mem_of_getElem? (i := 19) rfl))) Via.refl e3 F5 F6 (Or.inr ⟨(hw _ (List.mem_of_getElem? (i := 20) rfl)), rfl, hnm⟩) (hw _ (List.mem_of_getElem? (i := 4) rfl)) (ty := (.object "com/example/redelivery/redelivery/sender/SendFailure")) (by decide) rfl rfl (g := (mkF m 42 #[.val (.ref a), .val .null, .val (.ref f)] [(.ref f), (.ref a)])) rfl rfl (hb hby d1_42)
  have N9 := Fr.snoc X9 N3 ga
  have F10 := F4.other W9 (Or.inr (slot_ne (Or.inr (hw _ (List.mem_of_getElem? (i := 18) rfl))) (Or.inr (hw _ (List.mem_of_getElem? (i := 20) rfl))) (by decide) (t := (.object "java/lang/Integer")) (t' := (.object "com/example/redelivery/redelivery/sender/SendFailure")) (by decide) (by decide)))
  have F11 := F5.same W9
  have F12 := F6.wr W9
  have O13 := O7.wr W9 ga
  have K14 := K8.wr W9 (Or.inl (List.mem_of_getElem? (i := 0) rfl))
  refine own_G.step (T' := T9) (g' := (mkF m 45 #[.val (.ref a), .val .null, .val (.ref f)] [])) st9 ?_
  exact own_ret X9 e9 (v := none) (fun _ => rfl) Bd.notSynchronized ⟨rfl, N9, K14, F12, F10, F11⟩ (by decide) (by decide) (fun fs hr => X9.returnOut hx Bd.returns (hb hby d1_45) hr)
def own_succ (i : Int32) : Int32 := if i < (200 : Int32) then 0 else if (299 : Int32) < i then 0 else 1
theorem pd__28_29I : parseMethodDescriptor "()I" = some ⟨[], some .int⟩ := by decide +kernel
theorem d4_0 : decode prog_10_method_4_code 0 = .ok (.aload_n 0, 1) := by decide +kernel
theorem d4_1 : decode prog_10_method_4_code 1 = .ok (.getfield 14, 3) := by decide +kernel
theorem d4_4 : decode prog_10_method_4_code 4 = .ok (.ifnull 33, 3) := by decide +kernel
theorem d4_7 : decode prog_10_method_4_code 7 = .ok (.aload_n 0, 1) := by decide +kernel
theorem d4_8 : decode prog_10_method_4_code 8 = .ok (.getfield 14, 3) := by decide +kernel
theorem d4_11 : decode prog_10_method_4_code 11 = .ok (.invokevirtual 33, 3) := by decide +kernel
theorem d4_14 : decode prog_10_method_4_code 14 = .ok (.sipush 200, 3) := by decide +kernel
theorem d4_17 : decode prog_10_method_4_code 17 = .ok (.if_icmp .lt 20, 3) := by decide +kernel
theorem d4_20 : decode prog_10_method_4_code 20 = .ok (.aload_n 0, 1) := by decide +kernel
theorem d4_21 : decode prog_10_method_4_code 21 = .ok (.getfield 14, 3) := by decide +kernel
theorem d4_24 : decode prog_10_method_4_code 24 = .ok (.invokevirtual 33, 3) := by decide +kernel
theorem d4_27 : decode prog_10_method_4_code 27 = .ok (.sipush 299, 3) := by decide +kernel
theorem d4_30 : decode prog_10_method_4_code 30 = .ok (.if_icmp .gt 7, 3) := by decide +kernel
theorem d4_33 : decode prog_10_method_4_code 33 = .ok (.iconst 1, 1) := by decide +kernel
theorem d4_34 : decode prog_10_method_4_code 34 = .ok (.goto 4, 3) := by decide +kernel
theorem d4_37 : decode prog_10_method_4_code 37 = .ok (.iconst 0, 1) := by decide +kernel
theorem d4_38 : decode prog_10_method_4_code 38 = .ok (.ireturn, 1) := by decide +kernel
theorem ef_sucp (m : MethodId) (a : Addr) : entryFrame m #[(.ref a)] 1 = mkF m 0 #[.val (.ref a)] [] := by
  first | (simp [entryFrame, mkF, argsToLocals, Value.category]; done) | rfl
def Q_sucp (Z : State) (a : Addr) (pp : Addr) (i : Int32) (h0 : Heap) (n0 : Nat) (v : Option Value) (h : Heap) (L : List Loc) : Prop := v = some (.int (own_succ i)) ∧ Fr n0 L ∧ h = h0
set_option maxRecDepth 65536 in
set_option maxHeartbeats 40000000 in
theorem rm_sucp (l : Launch) (Z : State) (a0 : Array Value) (hw : ∀ d ∈ tables_1, d.before a0 Z = true) (ws : List Jvm.Cond) (a : Addr) (pp : Addr) (i : Int32) (h0 : Heap) (n0 : Nat) (O0 : Old Z n0 h0) (F1 : Fld Z h0 a "com/example/redelivery/redelivery/sender/SendResult" "statusCode" "Ljava/lang/Integer;" (.ref pp)) (Ep : Exa Z h0 pp "java/lang/Integer") (Fp : Fld Z h0 pp "java/lang/Integer" "value" "I" (.int i)) :
    MetFree l (⟨"com/example/redelivery/redelivery/sender/SendResult", "succeeded", "()Z"⟩ : MethodName) (head1 (Jvm.Cond.code (⟨"com/example/redelivery/redelivery/sender/SendResult", "succeeded", "()Z"⟩ : MethodName) prog_10_method_4_code 1 (some .boolean) :: ws) ({ frames := 1, cells := 0, slots := 0, locals := 12 } : Room)) (fun aq_ Uq_ => aq_ = #[(.ref a)] ∧ Z.Warmed39 Uq_.vm ∧ Uq_.heap = h0) (fun _ _ _ _ _ => True) (fun _ Uq_ oq_ Ur_ => ∃ vq_ Lq_, oq_ = .returned vq_ ∧ Q_sucp Z a pp i h0 n0 vq_ Ur_.heap Lq_ ∧ FrameEnd Uq_ oq_ Ur_ Lq_ ({ frames := 1, cells := 0, slots := 0, locals := 12 } : Room).cells ({ frames := 1, cells := 0, slots := 0, locals := 12 } : Room).slots) := by
  refine MetFree.of_bodySF (plainFor_of_name pn_com_2fexample_2fredelivery_2fredelivery_2fsender_2fSendResult) hisR ?_
  intro p e s m args below meth c s₁ Bd hml0 hP hK
  obtain ⟨rfl, hZ, hh⟩ := hP
  have hx := Bd.exec
  have hby := Bd.bytes
  have hml : c.maxLocals = 1 := hml0
  have hown : s.vm.findClass "com/example/redelivery/redelivery/sender/SendResult" = some m.cls := findClass_of_methodNamed Bd.named
  have hnm := (name_of_methodNamed Bd.named Bd.method).1
  have X0 : Stand p l e ({ frames := 1, cells := 0, slots := 0, locals := 12 } : Room) s m #[(.ref a)] below meth c s₁ [] 0 0 := Stand.of_body Bd
  have e0 : s₁.heap = h0 := by rw [← hh, Bd.state]; rfl
  have N0 := Fr.nil n0
  have K0 := Keep.refl h0 []
  refine own_G.start (Q := Q_sucp Z a pp i h0 n0) (ef_sucp m a) ?_
  refine own_G.step (g' := (mkF m 1 #[.val (.ref a)] [(.ref a)])) (fun tq_ kq_ => XS.aloadN X0.here hx rfl (hb hby d4_0) rfl rfl kq_) ?_
  obtain ⟨T1, X1, e1, st1⟩ := getF X0 hx hZ hown (host := "") (Or.inl (hw _ (List.mem_of_getElem? (i := 17) rfl))) Via.refl e0 F1 (g := (mkF m 1 #[.val (.ref a)] [(.ref a)])) rfl rfl (hb hby d4_1)
  refine own_G.step (T' := T1) (g' := (mkF m 4 #[.val (.ref a)] [(.ref pp)])) st1 ?_
  refine own_G.step (g' := (mkF m 7 #[.val (.ref a)] [])) (fun tq_ kq_ => XS.ifnullNo X1.here hx rfl (hb hby d4_4) rfl kq_) ?_
  refine own_G.step (g' := (mkF m 8 #[.val (.ref a)] [(.ref a)])) (fun tq_ kq_ => XS.aloadN X1.here hx rfl (hb hby d4_7) rfl rfl kq_) ?_
  obtain ⟨T2, X2, e2, st2⟩ := getF X1 hx hZ hown (host := "") (Or.inl (hw _ (List.mem_of_getElem? (i := 17) rfl))) Via.refl e1 F1 (g := (mkF m 8 #[.val (.ref a)] [(.ref a)])) rfl rfl (hb hby d4_8)
  refine own_G.step (T' := T2) (g' := (mkF m 11 #[.val (.ref a)] [(.ref pp)])) st2 ?_
  obtain ⟨cq3, kq3, q3a, q3b, q3c⟩ := isOf hZ e2 Ep
  obtain ⟨_, _, ⟨T3, L3, k3, n3⟩, -, X3, ⟨Lc3, hQ3, l3, y3, z3⟩, st3⟩ := X2.virtualBack hx (y := (⟨"java/lang/Integer", "intValue", "()I"⟩ : MethodName)) (z := (⟨"java/lang/Integer", "intValue", "()I"⟩ : MethodName)) hown (mvT hZ (hw _ (List.mem_of_getElem? (i := 48) rfl))) (mvT hZ (hw _ (List.mem_of_getElem? (i := 49) rfl))) (notFace_of_selects (args := #[]) (mvT hZ (hw _ (List.mem_of_getElem? (i := 51) rfl)))) (mvT hZ (hw _ (List.mem_of_getElem? (i := 51) rfl))) (mvT hZ (hw _ (List.mem_of_getElem? (i := 50) rfl))) (by decide) (backOf (W := 0) (rm_intValue l Z a0 hw [] pp i h0 n0 O0 Fp) hZ (hw _ (List.mem_of_getElem? (i := 52) rfl)) (hw _ (List.mem_of_getElem? (i := 30) rfl)) (by decide) (by decide)) q3a q3c (g := (mkF m 11 #[.val (.ref a)] [(.ref pp)])) rfl (by rw [hml]; rfl) (Steps.refl _) (argsL := []) (rest := []) (lenOf pd__28_29I rfl) rfl (by show 2 * 0 + _ ≤ _; exact Nat.le_of_eq rfl) (hb hby d4_11) (fun _ _ => ⟨rfl, e2, (by decide : 0 + 0 ≤ _), (by decide : 0 + 0 ≤ _)⟩)
  dsimp only [Pt.U, Pt.locs, Pt.cells, Pt.slots] at X3 l3 y3 z3 st3 hQ3
  subst l3 y3 z3
  obtain ⟨rfl, Nq3, P4⟩ := hQ3
  have N3 := Fr.app N0 Nq3
  refine own_G.step (T' := T3) (g' := (mkF m 14 #[.val (.ref a)] [(.int i)])) (fun tq_ kq_ => st3.trans kq_) ?_
  refine own_G.step (g' := (mkF m 17 #[.val (.ref a)] [(.int (200 : Int32)), (.int i)])) (fun tq_ kq_ => XS.sipush X3.here hx rfl (hb hby d4_14) kq_) ?_
  rcases Classical.em (i < (200 : Int32)) with hc17 | hc17
  · refine own_G.step (g' := (mkF m 37 #[.val (.ref a)] [])) (fun tq_ kq_ => XS.icmpYes X3.here hx rfl (pc0 := 17) (pc' := 37) rfl (hb hby d4_17) rfl (tlt hc17).1 (by decide) (by decide) kq_) ?_
    refine own_G.step (g' := (mkF m 38 #[.val (.ref a)] [(.int (0 : Int32))])) (fun tq_ kq_ => XS.iconst X3.here hx rfl (hb hby d4_37) kq_) ?_
    exact own_ret X3 P4 (v := some (.int (0 : Int32))) (fun h => by rw [Bd.returns] at h; cases h) Bd.notSynchronized ⟨(by simp [own_succ, hc17]), N3, rfl⟩ (by decide) (by decide) (fun fs hr => retN X3 hx (t := .boolean) Bd.returns (by simp) (hb hby d4_38) hr)
  · refine own_G.step (g' := (mkF m 20 #[.val (.ref a)] [])) (fun tq_ kq_ => XS.icmpNo X3.here hx rfl (hb hby d4_17) rfl (flt hc17).1 kq_) ?_
    refine own_G.step (g' := (mkF m 21 #[.val (.ref a)] [(.ref a)])) (fun tq_ kq_ => XS.aloadN X3.here hx rfl (hb hby d4_20) rfl rfl kq_) ?_
    obtain ⟨T5, X5, e5, st5⟩ := getF X3 hx hZ hown (host := "") (Or.inl (hw _ (List.mem_of_getElem? (i := 17) rfl))) Via.refl P4 F1 (g := (mkF m 21 #[.val (.ref a)] [(.ref a)])) rfl rfl (hb hby d4_21)
    refine own_G.step (T' := T5) (g' := (mkF m 24 #[.val (.ref a)] [(.ref pp)])) st5 ?_
    obtain ⟨cq6, kq6, q6a, q6b, q6c⟩ := isOf hZ e5 Ep
    obtain ⟨_, _, ⟨T6, L6, k6, n6⟩, -, X6, ⟨Lc6, hQ6, l6, y6, z6⟩, st6⟩ := X5.virtualBack hx (y := (⟨"java/lang/Integer", "intValue", "()I"⟩ : MethodName)) (z := (⟨"java/lang/Integer", "intValue", "()I"⟩ : MethodName)) hown (mvT hZ (hw _ (List.mem_of_getElem? (i := 48) rfl))) (mvT hZ (hw _ (List.mem_of_getElem? (i := 49) rfl))) (notFace_of_selects (args := #[]) (mvT hZ (hw _ (List.mem_of_getElem? (i := 51) rfl)))) (mvT hZ (hw _ (List.mem_of_getElem? (i := 51) rfl))) (mvT hZ (hw _ (List.mem_of_getElem? (i := 50) rfl))) (by decide) (backOf (W := 0) (rm_intValue l Z a0 hw [] pp i h0 n0 O0 Fp) hZ (hw _ (List.mem_of_getElem? (i := 52) rfl)) (hw _ (List.mem_of_getElem? (i := 30) rfl)) (by decide) (by decide)) q6a q6c (g := (mkF m 24 #[.val (.ref a)] [(.ref pp)])) rfl (by rw [hml]; rfl) (Steps.refl _) (argsL := []) (rest := []) (lenOf pd__28_29I rfl) rfl (by show 2 * 0 + _ ≤ _; exact Nat.le_of_eq rfl) (hb hby d4_24) (fun _ _ => ⟨rfl, e5, (by decide : 0 + 0 ≤ _), (by decide : 0 + 0 ≤ _)⟩)
    dsimp only [Pt.U, Pt.locs, Pt.cells, Pt.slots] at X6 l6 y6 z6 st6 hQ6
    subst l6 y6 z6
    obtain ⟨rfl, Nq6, P7⟩ := hQ6
    have N6 := Fr.app N3 Nq6
    refine own_G.step (T' := T6) (g' := (mkF m 27 #[.val (.ref a)] [(.int i)])) (fun tq_ kq_ => st6.trans kq_) ?_
    refine own_G.step (g' := (mkF m 30 #[.val (.ref a)] [(.int (299 : Int32)), (.int i)])) (fun tq_ kq_ => XS.sipush X6.here hx rfl (hb hby d4_27) kq_) ?_
    rcases Classical.em ((299 : Int32) < i) with hc30 | hc30
    · refine own_G.step (g' := (mkF m 37 #[.val (.ref a)] [])) (fun tq_ kq_ => XS.icmpYes X6.here hx rfl (pc0 := 30) (pc' := 37) rfl (hb hby d4_30) rfl (tlt hc30).2.2.1 (by decide) (by decide) kq_) ?_
      refine own_G.step (g' := (mkF m 38 #[.val (.ref a)] [(.int (0 : Int32))])) (fun tq_ kq_ => XS.iconst X6.here hx rfl (hb hby d4_37) kq_) ?_
      exact own_ret X6 P7 (v := some (.int (0 : Int32))) (fun h => by rw [Bd.returns] at h; cases h) Bd.notSynchronized ⟨(by simp [own_succ, hc17, hc30]), N6, rfl⟩ (by decide) (by decide) (fun fs hr => retN X6 hx (t := .boolean) Bd.returns (by simp) (hb hby d4_38) hr)
    · refine own_G.step (g' := (mkF m 33 #[.val (.ref a)] [])) (fun tq_ kq_ => XS.icmpNo X6.here hx rfl (hb hby d4_30) rfl (flt hc30).2.2.1 kq_) ?_
      refine own_G.step (g' := (mkF m 34 #[.val (.ref a)] [(.int (1 : Int32))])) (fun tq_ kq_ => XS.iconst X6.here hx rfl (hb hby d4_33) kq_) ?_
      refine own_G.step (g' := (mkF m 38 #[.val (.ref a)] [(.int (1 : Int32))])) (fun tq_ kq_ => XS.goto X6.here hx rfl (pc0 := 34) (pc' := 38) rfl (hb hby d4_34) (by decide) (by decide) kq_) ?_
      exact own_ret X6 P7 (v := some (.int (1 : Int32))) (fun h => by rw [Bd.returns] at h; cases h) Bd.notSynchronized ⟨(by simp [own_succ, hc17, hc30]), N6, rfl⟩ (by decide) (by decide) (fun fs hr => retN X6 hx (t := .boolean) Bd.returns (by simp) (hb hby d4_38) hr)
theorem ef_sucn (m : MethodId) (a : Addr) : entryFrame m #[(.ref a)] 1 = mkF m 0 #[.val (.ref a)] [] := by
  first | (simp [entryFrame, mkF, argsToLocals, Value.category]; done) | rfl
def Q_sucn (Z : State) (a : Addr) (h0 : Heap) (n0 : Nat) (v : Option Value) (h : Heap) (L : List Loc) : Prop := v = some (.int 0) ∧ Fr n0 L ∧ h = h0
set_option maxRecDepth 65536 in
set_option maxHeartbeats 40000000 in
theorem rm_sucn (l : Launch) (Z : State) (a0 : Array Value) (hw : ∀ d ∈ tables_1, d.before a0 Z = true) (ws : List Jvm.Cond) (a : Addr) (h0 : Heap) (n0 : Nat) (O0 : Old Z n0 h0) (F1 : Fld Z h0 a "com/example/redelivery/redelivery/sender/SendResult" "statusCode" "Ljava/lang/Integer;" .null) :
    MetFree l (⟨"com/example/redelivery/redelivery/sender/SendResult", "succeeded", "()Z"⟩ : MethodName) (head1 (Jvm.Cond.code (⟨"com/example/redelivery/redelivery/sender/SendResult", "succeeded", "()Z"⟩ : MethodName) prog_10_method_4_code 1 (some .boolean) :: ws) ({ frames := 0, cells := 0, slots := 0, locals := 0 } : Room)) (fun aq_ Uq_ => aq_ = #[(.ref a)] ∧ Z.Warmed39 Uq_.vm ∧ Uq_.heap = h0) (fun _ _ _ _ _ => True) (fun _ Uq_ oq_ Ur_ => ∃ vq_ Lq_, oq_ = .returned vq_ ∧ Q_sucn Z a h0 n0 vq_ Ur_.heap Lq_ ∧ FrameEnd Uq_ oq_ Ur_ Lq_ ({ frames := 0, cells := 0, slots := 0, locals := 0 } : Room).cells ({ frames := 0, cells := 0, slots := 0, locals := 0 } : Room).slots) := by
  refine MetFree.of_bodySF (plainFor_of_name pn_com_2fexample_2fredelivery_2fredelivery_2fsender_2fSendResult) hisR ?_
  intro p e s m args below meth c s₁ Bd hml0 hP hK
  obtain ⟨rfl, hZ, hh⟩ := hP
  have hx := Bd.exec
  have hby := Bd.bytes
  have hml : c.maxLocals = 1 := hml0
  have hown : s.vm.findClass "com/example/redelivery/redelivery/sender/SendResult" = some m.cls := findClass_of_methodNamed Bd.named
  have hnm := (name_of_methodNamed Bd.named Bd.method).1
  have X0 : Stand p l e ({ frames := 0, cells := 0, slots := 0, locals := 0 } : Room) s m #[(.ref a)] below meth c s₁ [] 0 0 := Stand.of_body Bd
  have e0 : s₁.heap = h0 := by rw [← hh, Bd.state]; rfl
  have N0 := Fr.nil n0
  have K0 := Keep.refl h0 []
  refine own_G.start (Q := Q_sucn Z a h0 n0) (ef_sucn m a) ?_
  refine own_G.step (g' := (mkF m 1 #[.val (.ref a)] [(.ref a)])) (fun tq_ kq_ => XS.aloadN X0.here hx rfl (hb hby d4_0) rfl rfl kq_) ?_
  obtain ⟨T1, X1, e1, st1⟩ := getF X0 hx hZ hown (host := "") (Or.inl (hw _ (List.mem_of_getElem? (i := 17) rfl))) Via.refl e0 F1 (g := (mkF m 1 #[.val (.ref a)] [(.ref a)])) rfl rfl (hb hby d4_1)
  refine own_G.step (T' := T1) (g' := (mkF m 4 #[.val (.ref a)] [.null])) st1 ?_
  refine own_G.step (g' := (mkF m 37 #[.val (.ref a)] [])) (fun tq_ kq_ => XS.ifnullYes X1.here hx rfl (pc0 := 4) (pc' := 37) rfl (hb hby d4_4) rfl (by decide) (by decide) kq_) ?_
  refine own_G.step (g' := (mkF m 38 #[.val (.ref a)] [(.int (0 : Int32))])) (fun tq_ kq_ => XS.iconst X1.here hx rfl (hb hby d4_37) kq_) ?_
  exact own_ret X1 e1 (v := some (.int (0 : Int32))) (fun h => by rw [Bd.returns] at h; cases h) Bd.notSynchronized ⟨rfl, N0, rfl⟩ (by decide) (by decide) (fun fs hr => retN X1 hx (t := .boolean) Bd.returns (by simp) (hb hby d4_38) hr)
theorem own_d (i : Int32) : (i.toInt64 - (200 : Int64)).toInt = i.toInt - 200 := by
  have h1 := c_lsub i.toInt64 (200 : Int64)
  have h2 := c_i2l i
  have h3 := rng64 (i.toInt64 - (200 : Int64))
  have h4 := rng32 i
  have h5 : (200 : Int64).toInt = 200 := by decide
  omega
theorem own_law (i : Int32) : ((lcmpW (i.toInt64 - (200 : Int64)) (0 : Int64) < (0 : Int32)) → own_succ i = 0) ∧ (¬ (lcmpW (i.toInt64 - (200 : Int64)) (0 : Int64) < (0 : Int32)) → (lcmpW (i.toInt64 - (200 : Int64)) (100 : Int64) < (0 : Int32)) → own_succ i = 1) ∧ (¬ (lcmpW (i.toInt64 - (200 : Int64)) (100 : Int64) < (0 : Int32)) → own_succ i = 0) := by
  have e := own_d i
  have e0 : (0 : Int64).toInt = 0 := by decide
  have e1 : (100 : Int64).toInt = 100 := by decide
  have e2 : (200 : Int32).toInt = 200 := by decide
  have e3 : (299 : Int32).toInt = 299 := by decide
  rw [lw_lt, lw_lt, Int64.lt_iff_toInt_lt, Int64.lt_iff_toInt_lt, e, e0, e1]
  simp only [own_succ, Int32.lt_iff_toInt_lt, e2, e3]
  refine ⟨fun h => ?_, fun h h' => ?_, fun h => ?_⟩
  · rw [if_pos (by omega)]
  · rw [if_neg (by omega), if_neg (by omega)]
  · rw [if_neg (by omega), if_pos (by omega)]
theorem pd__28I_29Ljava_2flang_2fInteger_3b : parseMethodDescriptor "(I)Ljava/lang/Integer;" = some ⟨[.int], some (.object "java/lang/Integer")⟩ := by decide +kernel
theorem pd__28Ljava_2flang_2fInteger_3bLcom_2fexample_2fredelivery_2fredelivery_2fsender_2fSendFailure_3b_29V : parseMethodDescriptor "(Ljava/lang/Integer;Lcom/example/redelivery/redelivery/sender/SendFailure;)V" = some ⟨[(.object "java/lang/Integer"), (.object "com/example/redelivery/redelivery/sender/SendFailure")], none⟩ := by decide +kernel
theorem pd__28_29Z : parseMethodDescriptor "()Z" = some ⟨[], some .boolean⟩ := by decide +kernel
theorem pn_com_2fexample_2fredelivery_2fredelivery_2fsender_2fSendResultSucceededPinLaw : plainName "com/example/redelivery/redelivery/sender/SendResultSucceededPinLaw" = true := by first | (simp [plainName, overriddenIn]; done) | decide +kernel
theorem ef_law (m : MethodId) (i0 : Int32) (i1 : Int32) : entryFrame m #[(.int i0), (.int i1)] maxLocals = mkF m 0 #[.val (.int i0), .val (.int i1), .unset, .unset, .unset, .unset, .unset] [] := by
  first | (simp [entryFrame, mkF, argsToLocals, Value.category, maxLocals]; done) | rfl
def Q_law (Z : State) (i0 : Int32) (i1 : Int32) (w0 : Addr) (w1 : Addr) (w2 : Addr) (ca : Addr) (cc : Cell) (h0 : Heap) (n0 : Nat) (v : Option Value) (h : Heap) (L : List Loc) : Prop := v = some (.int 1) ∧ Fr n0 L
set_option maxRecDepth 65536 in
set_option maxHeartbeats 40000000 in
theorem rm_law (l : Launch) (Z : State) (a0 : Array Value) (hw : ∀ d ∈ tables_1, d.before a0 Z = true) (ws : List Jvm.Cond) (i0 : Int32) (i1 : Int32) (w0 : Addr) (w1 : Addr) (w2 : Addr) (ca : Addr) (cc : Cell) (h0 : Heap) (n0 : Nat) (O0 : Old Z n0 h0) (S_CONNECTION_REFUSED : Sta Z Z.heap "com/example/redelivery/redelivery/sender/SendFailure" "CONNECTION_REFUSED" "Lcom/example/redelivery/redelivery/sender/SendFailure;" (.ref w0)) (S_CONNECTION_ERROR : Sta Z Z.heap "com/example/redelivery/redelivery/sender/SendFailure" "CONNECTION_ERROR" "Lcom/example/redelivery/redelivery/sender/SendFailure;" (.ref w1)) (S_TIMEOUT : Sta Z Z.heap "com/example/redelivery/redelivery/sender/SendFailure" "TIMEOUT" "Lcom/example/redelivery/redelivery/sender/SendFailure;" (.ref w2)) (S_high : Sta Z Z.heap "java/lang/Integer$IntegerCache" "high" "I" (.int (127 : Int32))) (S_cache : Sta Z Z.heap "java/lang/Integer$IntegerCache" "cache" "[Ljava/lang/Integer;" (.ref ca)) (BX : Bxs Z ca cc "java/lang/Integer" "I" (256 : Int32) (fun j => .int (j - 128))) :
    MetFree l x (head1 (Jvm.Cond.code x code maxLocals ret :: ws) room_1) (fun aq_ Uq_ => aq_ = #[(.int i0), (.int i1)] ∧ Z.Warmed39 Uq_.vm ∧ Uq_.heap = h0) (fun _ _ _ _ _ => True) (fun _ Uq_ oq_ Ur_ => ∃ vq_ Lq_, oq_ = .returned vq_ ∧ Q_law Z i0 i1 w0 w1 w2 ca cc h0 n0 vq_ Ur_.heap Lq_ ∧ FrameEnd Uq_ oq_ Ur_ Lq_ 2 3) := by
  refine MetFree.of_bodySF (plainFor_of_name pn_com_2fexample_2fredelivery_2fredelivery_2fsender_2fSendResultSucceededPinLaw) hisR ?_
  intro p e s m args below meth c s₁ Bd hml0 hP hK
  obtain ⟨rfl, hZ, hh⟩ := hP
  have hx := Bd.exec
  have hby := Bd.bytes
  have hml : c.maxLocals = 7 := hml0
  have hown : s.vm.findClass "com/example/redelivery/redelivery/sender/SendResultSucceededPinLaw" = some m.cls := findClass_of_methodNamed Bd.named
  have hnm := (name_of_methodNamed Bd.named Bd.method).1
  have X0 : Stand p l e room_1 s m #[(.int i0), (.int i1)] below meth c s₁ [] 0 0 := Stand.of_body Bd
  have e0 : s₁.heap = h0 := by rw [← hh, Bd.state]; rfl
  have N0 := Fr.nil n0
  have K0 := Keep.refl h0 []
  refine own_G.start (Q := Q_law Z i0 i1 w0 w1 w2 ca cc h0 n0) (ef_law m i0 i1) ?_
  refine own_G.step (g' := (mkF m 1 #[.val (.int i0), .val (.int i1), .unset, .unset, .unset, .unset, .unset] [(.int i1)])) (fun tq_ kq_ => XS.iloadN X0.here hx rfl (hb hby at_0) rfl kq_) ?_
  refine own_G.step (g' := (mkF m 2 #[.val (.int i0), .val (.int i1), .unset, .unset, .unset, .unset, .unset] [(.int (3 : Int32)), (.int i1)])) (fun tq_ kq_ => XS.iconst X0.here hx rfl (hb hby at_1) kq_) ?_
  refine own_G.step (g' := (mkF m 3 #[.val (.int i0), .val (.int i1), .unset, .unset, .unset, .unset, .unset] [(.int (i1 &&& (3 : Int32)))])) (fun tq_ kq_ => XS.iand X0.here hx rfl (hb hby at_2) rfl kq_) ?_
  refine own_G.step (g' := (mkF m 4 #[.val (.int i0), .val (.int i1), .val (.int (i1 &&& (3 : Int32))), .unset, .unset, .unset, .unset] [])) (fun tq_ kq_ => XS.istoreN X0.here hx rfl (hb hby at_3) rfl (l' := #[.val (.int i0), .val (.int i1), .val (.int (i1 &&& (3 : Int32))), .unset, .unset, .unset, .unset]) rfl kq_) ?_
  obtain ⟨k, hk⟩ : ∃ z, z = (i1 &&& (3 : Int32)) := ⟨_, rfl⟩
  refine own_G.cast (g' := (mkF m 4 #[.val (.int i0), .val (.int i1), .val (.int k), .unset, .unset, .unset, .unset] [])) (by rw [hk]) ?_
  have hf := own_four i1
  rw [← hk] at hf
  rcases hf with rfl | rfl | rfl | rfl
  · refine own_G.step (g' := (mkF m 5 #[.val (.int i0), .val (.int i1), .val (.int (0 : Int32)), .unset, .unset, .unset, .unset] [(.int (0 : Int32))])) (fun tq_ kq_ => XS.iloadN X0.here hx rfl (hb hby at_4) rfl kq_) ?_
    have hc5 : (0 : Int32) = (0 : Int32) := (by decide)
    refine own_G.step (g' := (mkF m 8 #[.val (.int i0), .val (.int i1), .val (.int (0 : Int32)), .unset, .unset, .unset, .unset] [])) (fun tq_ kq_ => XS.ifNo X0.here hx rfl (hb hby at_5) rfl ((if0 _ _).trans (teq hc5).2) kq_) ?_
    obtain ⟨T1, h1, X1, e1, E1, A1, D1, -, st1⟩ := newO X0 hx hZ hown (hw _ (List.mem_of_getElem? (i := 3) rfl)) (hw _ (List.mem_of_getElem? (i := 4) rfl)) (hw _ (List.mem_of_getElem? (i := 5) rfl)) e0 (g := (mkF m 8 #[.val (.int i0), .val (.int i1), .val (.int (0 : Int32)), .unset, .unset, .unset, .unset] [])) rfl (hb hby at_8) (by decide) (by decide)
    obtain ⟨b1, g1⟩ : ∃ z, z = h0.size := ⟨_, rfl⟩
    rw [← g1] at A1 D1 st1
    have g2 : n0 ≤ b1 := Nat.le_trans O0.le (Nat.le_of_eq g1.symm)
    have z3 : h0.size ≤ b1 := Nat.le_trans K0.1 (Nat.le_of_eq g1.symm)
    have O4 := O0.ext E1
    have K5 := K0.ext E1
    have F6 : Fld Z h1 b1 "com/example/redelivery/redelivery/sender/SendResult" "statusCode" "Ljava/lang/Integer;" .null := D1 (Or.inr (hw _ (List.mem_of_getElem? (i := 18) rfl))) (ty := (.object "java/lang/Integer")) (by decide)
    have F7 : Fld Z h1 b1 "com/example/redelivery/redelivery/sender/SendResult" "failure" "Lcom/example/redelivery/redelivery/sender/SendFailure;" .null := D1 (Or.inr (hw _ (List.mem_of_getElem? (i := 20) rfl))) (ty := (.object "com/example/redelivery/redelivery/sender/SendFailure")) (by decide)
    refine own_G.step (T' := T1) (g' := (mkF m 11 #[.val (.int i0), .val (.int i1), .val (.int (0 : Int32)), .unset, .unset, .unset, .unset] [(.ref b1)])) st1 ?_
    refine own_G.step (g' := (mkF m 12 #[.val (.int i0), .val (.int i1), .val (.int (0 : Int32)), .unset, .unset, .unset, .unset] [(.ref b1), (.ref b1)])) (fun tq_ kq_ => XS.dup X1.here hx rfl (hb hby at_11) rfl rfl kq_) ?_
    refine own_G.step (g' := (mkF m 13 #[.val (.int i0), .val (.int i1), .val (.int (0 : Int32)), .unset, .unset, .unset, .unset] [(.int i0), (.ref b1), (.ref b1)])) (fun tq_ kq_ => XS.iloadN X1.here hx rfl (hb hby at_12) rfl kq_) ?_
    obtain ⟨_, _, ⟨T8, L8, k8, n8⟩, -, X8, ⟨Lc8, hQ8, l8, y8, z8⟩, st8⟩ := Jvm.LawKit.callS X1 hx (y := (⟨"java/lang/Integer", "valueOf", "(I)Ljava/lang/Integer;"⟩ : MethodName)) hown (mvT hZ (hw _ (List.mem_of_getElem? (i := 28) rfl))) (mvT hZ (hw _ (List.mem_of_getElem? (i := 29) rfl))) (mvT hZ (hw _ (List.mem_of_getElem? (i := 30) rfl))) (mvT hZ (hw _ (List.mem_of_getElem? (i := 31) rfl))) (by decide) (backOf (W := 2) (rm_valueOf l Z a0 hw [] i0 ca cc h1 n0 O4 S_high S_cache BX) hZ (hw _ (List.mem_of_getElem? (i := 31) rfl)) (hw _ (List.mem_of_getElem? (i := 30) rfl)) (by decide) (by decide)) (g := (mkF m 13 #[.val (.int i0), .val (.int i1), .val (.int (0 : Int32)), .unset, .unset, .unset, .unset] [(.int i0), (.ref b1), (.ref b1)])) rfl (by rw [hml]; rfl) (argsL := [(.int i0)]) (rest := [(.ref b1), (.ref b1)]) (lenOf pd__28I_29Ljava_2flang_2fInteger_3b rfl) rfl (by show 2 * 0 + _ ≤ _; exact Nat.le_of_eq rfl) (hb hby at_13) (fun _ _ => ⟨rfl, e1, (by decide : 1 + 1 ≤ _), (by decide : 2 + 1 ≤ _)⟩)
    dsimp only [Pt.U, Pt.locs, Pt.cells, Pt.slots] at X8 l8 y8 z8 st8 hQ8
    subst l8 y8 z8
    obtain ⟨b9, rfl, Nq8, P10, P11, P12⟩ := hQ8
    have N8 := Fr.app N0 Nq8
    have F13 := A1.keep P10
    have F14 := F6.keep P10 nin0
    have F15 := F7.keep P10 nin0
    have O16 := O4.keep P10 all0
    have K17 := K5.trans P10 all0
    refine own_G.step (T' := T8) (g' := (mkF m 16 #[.val (.int i0), .val (.int i1), .val (.int (0 : Int32)), .unset, .unset, .unset, .unset] [(.ref b9), (.ref b1), (.ref b1)])) (fun tq_ kq_ => st8 _ kq_) ?_
    refine own_G.step (g' := (mkF m 17 #[.val (.int i0), .val (.int i1), .val (.int (0 : Int32)), .unset, .unset, .unset, .unset] [.null, (.ref b9), (.ref b1), (.ref b1)])) (fun tq_ kq_ => XS.aconstNull X8.here hx rfl (hb hby at_16) kq_) ?_
    obtain ⟨_, _, ⟨T18, L18, k18, n18⟩, -, X18, ⟨Lc18, hQ18, l18, y18, z18⟩, st18⟩ := X8.specialBack hx (y := (⟨"com/example/redelivery/redelivery/sender/SendResult", "<init>", "(Ljava/lang/Integer;Lcom/example/redelivery/redelivery/sender/SendFailure;)V"⟩ : MethodName)) rfl hown (mvT hZ (hw _ (List.mem_of_getElem? (i := 6) rfl))) (mvT hZ (hw _ (List.mem_of_getElem? (i := 7) rfl))) (mvT hZ (hw _ (List.mem_of_getElem? (i := 8) rfl))) (by decide) (backOf (W := 1) (rm_srp l Z a0 hw [] b1 b9 T8.heap n0 O16 F14 F15 F13 g2) hZ (hw _ (List.mem_of_getElem? (i := 8) rfl)) (hw _ (List.mem_of_getElem? (i := 5) rfl)) (by decide) (by decide)) (g := (mkF m 17 #[.val (.int i0), .val (.int i1), .val (.int (0 : Int32)), .unset, .unset, .unset, .unset] [.null, (.ref b9), (.ref b1), (.ref b1)])) rfl (by rw [hml]; rfl) (Steps.refl _) (a := b1) (argsL := [(.ref b9), .null]) (rest := [(.ref b1)]) (lenOf pd__28Ljava_2flang_2fInteger_3bLcom_2fexample_2fredelivery_2fredelivery_2fsender_2fSendFailure_3b_29V rfl) rfl (by show 2 * 0 + _ ≤ _; exact Nat.le_of_eq rfl) (hb hby at_17) (fun _ _ => ⟨rfl, rfl, (by decide : 2 + 0 ≤ _), (by decide : 3 + 0 ≤ _)⟩)
    dsimp only [Pt.U, Pt.locs, Pt.cells, Pt.slots] at X18 l18 y18 z18 st18 hQ18
    subst l18 y18 z18
    obtain ⟨rfl, Nq18, P19, P20, P21, P22⟩ := hQ18
    have N18 := Fr.app N8 Nq18
    have F23 := F13.keep P19
    have F24 := P11.keep P19
    have F25 := P12.keep P19 (ninS (ne_exa P11 F13 (by decide)) nin0)
    have O26 := O16.keep P19 (allS g2 all0)
    have K27 := K17.trans P19 (allS (Or.inr z3) all0)
    refine own_G.step (T' := T18) (g' := (mkF m 20 #[.val (.int i0), .val (.int i1), .val (.int (0 : Int32)), .unset, .unset, .unset, .unset] [(.ref b1)])) (fun tq_ kq_ => st18.trans kq_) ?_
    refine own_G.step (g' := (mkF m 21 #[.val (.int i0), .val (.int i1), .val (.int (0 : Int32)), .val (.ref b1), .unset, .unset, .unset] [])) (fun tq_ kq_ => XS.astoreN X18.here hx rfl (hb hby at_20) rfl rfl (l' := #[.val (.int i0), .val (.int i1), .val (.int (0 : Int32)), .val (.ref b1), .unset, .unset, .unset]) rfl kq_) ?_
    refine own_G.step (g' := (mkF m 22 #[.val (.int i0), .val (.int i1), .val (.int (0 : Int32)), .val (.ref b1), .unset, .unset, .unset] [(.int i0)])) (fun tq_ kq_ => XS.iloadN X18.here hx rfl (hb hby at_21) rfl kq_) ?_
    refine own_G.step (g' := (mkF m 23 #[.val (.int i0), .val (.int i1), .val (.int (0 : Int32)), .val (.ref b1), .unset, .unset, .unset] [(.long (i0.toInt64))])) (fun tq_ kq_ => XS.i2l X18.here hx rfl (hb hby at_22) rfl kq_) ?_
    refine own_G.step (g' := (mkF m 26 #[.val (.int i0), .val (.int i1), .val (.int (0 : Int32)), .val (.ref b1), .unset, .unset, .unset] [(.long (200 : Int64)), (.long (i0.toInt64))])) (fun tq_ kq_ => X18.ldc2Long hx hown (mvT hZ (hw _ (List.mem_of_getElem? (i := 47) rfl))) (g := (mkF m 23 #[.val (.int i0), .val (.int i1), .val (.int (0 : Int32)), .val (.ref b1), .unset, .unset, .unset] [(.long (i0.toInt64))])) rfl (hb hby at_23) _ kq_) ?_
    refine own_G.step (g' := (mkF m 27 #[.val (.int i0), .val (.int i1), .val (.int (0 : Int32)), .val (.ref b1), .unset, .unset, .unset] [(.long ((i0.toInt64) - (200 : Int64)))])) (fun tq_ kq_ => XS.lsub X18.here hx rfl (hb hby at_26) rfl kq_) ?_
    refine own_G.step (g' := (mkF m 29 #[.val (.int i0), .val (.int i1), .val (.int (0 : Int32)), .val (.ref b1), .val (.long ((i0.toInt64) - (200 : Int64))), .second, .unset] [])) (fun tq_ kq_ => XS.lstore X18.here hx rfl (hb hby at_27) rfl (l' := #[.val (.int i0), .val (.int i1), .val (.int (0 : Int32)), .val (.ref b1), .val (.long ((i0.toInt64) - (200 : Int64))), .second, .unset]) rfl kq_) ?_
    refine own_G.step (g' := (mkF m 31 #[.val (.int i0), .val (.int i1), .val (.int (0 : Int32)), .val (.ref b1), .val (.long ((i0.toInt64) - (200 : Int64))), .second, .unset] [(.long ((i0.toInt64) - (200 : Int64)))])) (fun tq_ kq_ => XS.lload X18.here hx rfl (hb hby at_29) rfl kq_) ?_
    refine own_G.step (g' := (mkF m 32 #[.val (.int i0), .val (.int i1), .val (.int (0 : Int32)), .val (.ref b1), .val (.long ((i0.toInt64) - (200 : Int64))), .second, .unset] [(.long (0 : Int64)), (.long ((i0.toInt64) - (200 : Int64)))])) (fun tq_ kq_ => XS.lconst X18.here hx rfl (hb hby at_31) kq_) ?_
    refine own_G.step (g' := (mkF m 33 #[.val (.int i0), .val (.int i1), .val (.int (0 : Int32)), .val (.ref b1), .val (.long ((i0.toInt64) - (200 : Int64))), .second, .unset] [(.int (lcmpW ((i0.toInt64) - (200 : Int64)) (0 : Int64)))])) (fun tq_ kq_ => XS.lcmp X18.here hx rfl (hb hby at_32) rfl kq_) ?_
    rcases Classical.em ((lcmpW ((i0.toInt64) - (200 : Int64)) (0 : Int64)) < (0 : Int32)) with hc33 | hc33
    · refine own_G.step (g' := (mkF m 49 #[.val (.int i0), .val (.int i1), .val (.int (0 : Int32)), .val (.ref b1), .val (.long ((i0.toInt64) - (200 : Int64))), .second, .unset] [])) (fun tq_ kq_ => XS.ifYes X18.here hx rfl (pc0 := 33) (pc' := 49) rfl (hb hby at_33) rfl ((if0 _ _).trans (tlt hc33).1) (by decide) (by decide) kq_) ?_
      refine own_G.step (g' := (mkF m 50 #[.val (.int i0), .val (.int i1), .val (.int (0 : Int32)), .val (.ref b1), .val (.long ((i0.toInt64) - (200 : Int64))), .second, .unset] [(.int (0 : Int32))])) (fun tq_ kq_ => XS.iconst X18.here hx rfl (hb hby at_49) kq_) ?_
      refine own_G.step (g' := (mkF m 52 #[.val (.int i0), .val (.int i1), .val (.int (0 : Int32)), .val (.ref b1), .val (.long ((i0.toInt64) - (200 : Int64))), .second, .val (.int (0 : Int32))] [])) (fun tq_ kq_ => XS.istore X18.here hx rfl (hb hby at_50) rfl (l' := #[.val (.int i0), .val (.int i1), .val (.int (0 : Int32)), .val (.ref b1), .val (.long ((i0.toInt64) - (200 : Int64))), .second, .val (.int (0 : Int32))]) rfl kq_) ?_
      refine own_G.step (g' := (mkF m 53 #[.val (.int i0), .val (.int i1), .val (.int (0 : Int32)), .val (.ref b1), .val (.long ((i0.toInt64) - (200 : Int64))), .second, .val (.int (0 : Int32))] [(.ref b1)])) (fun tq_ kq_ => XS.aloadN X18.here hx rfl (hb hby at_52) rfl rfl kq_) ?_
      obtain ⟨cq28, kq28, q28a, q28b, q28c⟩ := isOf hZ rfl P20
      obtain ⟨_, _, ⟨T28, L28, k28, n28⟩, -, X28, ⟨Lc28, hQ28, l28, y28, z28⟩, st28⟩ := X18.virtualBack hx (y := (⟨"com/example/redelivery/redelivery/sender/SendResult", "succeeded", "()Z"⟩ : MethodName)) (z := (⟨"com/example/redelivery/redelivery/sender/SendResult", "succeeded", "()Z"⟩ : MethodName)) hown (mvT hZ (hw _ (List.mem_of_getElem? (i := 21) rfl))) (mvT hZ (hw _ (List.mem_of_getElem? (i := 22) rfl))) (notFace_of_selects (args := #[]) (mvT hZ (hw _ (List.mem_of_getElem? (i := 24) rfl)))) (mvT hZ (hw _ (List.mem_of_getElem? (i := 24) rfl))) (mvT hZ (hw _ (List.mem_of_getElem? (i := 23) rfl))) (by decide) (backOf (W := 0) (rm_sucp l Z a0 hw [] b1 b9 i0 T18.heap n0 O26 P21 F24 F25) hZ (hw _ (List.mem_of_getElem? (i := 25) rfl)) (hw _ (List.mem_of_getElem? (i := 5) rfl)) (by decide) (by decide)) q28a q28c (g := (mkF m 53 #[.val (.int i0), .val (.int i1), .val (.int (0 : Int32)), .val (.ref b1), .val (.long ((i0.toInt64) - (200 : Int64))), .second, .val (.int (0 : Int32))] [(.ref b1)])) rfl (by rw [hml]; rfl) (Steps.refl _) (argsL := []) (rest := []) (lenOf pd__28_29Z rfl) rfl (by show 2 * 0 + _ ≤ _; exact Nat.le_of_eq rfl) (hb hby at_53) (fun _ _ => ⟨rfl, rfl, (by decide : 2 + 0 ≤ _), (by decide : 3 + 0 ≤ _)⟩)
      dsimp only [Pt.U, Pt.locs, Pt.cells, Pt.slots] at X28 l28 y28 z28 st28 hQ28
      subst l28 y28 z28
      obtain ⟨rfl, Nq28, P29⟩ := hQ28
      have N28 := Fr.app N18 Nq28
      refine own_G.step (T' := T28) (g' := (mkF m 56 #[.val (.int i0), .val (.int i1), .val (.int (0 : Int32)), .val (.ref b1), .val (.long ((i0.toInt64) - (200 : Int64))), .second, .val (.int (0 : Int32))] [(.int (own_succ i0))])) (fun tq_ kq_ => st28.trans kq_) ?_
      refine own_G.step (g' := (mkF m 58 #[.val (.int i0), .val (.int i1), .val (.int (0 : Int32)), .val (.ref b1), .val (.long ((i0.toInt64) - (200 : Int64))), .second, .val (.int (0 : Int32))] [(.int (0 : Int32)), (.int (own_succ i0))])) (fun tq_ kq_ => XS.iload X28.here hx rfl (hb hby at_56) rfl kq_) ?_
      have hc58 : (own_succ i0) = (0 : Int32) := (own_law i0).1 hc33
      refine own_G.step (g' := (mkF m 61 #[.val (.int i0), .val (.int i1), .val (.int (0 : Int32)), .val (.ref b1), .val (.long ((i0.toInt64) - (200 : Int64))), .second, .val (.int (0 : Int32))] [])) (fun tq_ kq_ => XS.icmpNo X28.here hx rfl (hb hby at_58) rfl (teq hc58).2 kq_) ?_
      refine own_G.step (g' := (mkF m 62 #[.val (.int i0), .val (.int i1), .val (.int (0 : Int32)), .val (.ref b1), .val (.long ((i0.toInt64) - (200 : Int64))), .second, .val (.int (0 : Int32))] [(.int (1 : Int32))])) (fun tq_ kq_ => XS.iconst X28.here hx rfl (hb hby at_61) kq_) ?_
      refine own_G.step (g' := (mkF m 66 #[.val (.int i0), .val (.int i1), .val (.int (0 : Int32)), .val (.ref b1), .val (.long ((i0.toInt64) - (200 : Int64))), .second, .val (.int (0 : Int32))] [(.int (1 : Int32))])) (fun tq_ kq_ => XS.goto X28.here hx rfl (pc0 := 62) (pc' := 66) rfl (hb hby at_62) (by decide) (by decide) kq_) ?_
      exact own_ret X28 P29 (v := some (.int (1 : Int32))) (fun h => by rw [Bd.returns] at h; cases h) Bd.notSynchronized ⟨rfl, N28⟩ (by decide) (by decide) (fun fs hr => retN X28 hx (t := .boolean) Bd.returns (by simp) (hb hby at_66) hr)
    · refine own_G.step (g' := (mkF m 36 #[.val (.int i0), .val (.int i1), .val (.int (0 : Int32)), .val (.ref b1), .val (.long ((i0.toInt64) - (200 : Int64))), .second, .unset] [])) (fun tq_ kq_ => XS.ifNo X18.here hx rfl (hb hby at_33) rfl ((if0 _ _).trans (flt hc33).1) kq_) ?_
      refine own_G.step (g' := (mkF m 38 #[.val (.int i0), .val (.int i1), .val (.int (0 : Int32)), .val (.ref b1), .val (.long ((i0.toInt64) - (200 : Int64))), .second, .unset] [(.long ((i0.toInt64) - (200 : Int64)))])) (fun tq_ kq_ => XS.lload X18.here hx rfl (hb hby at_36) rfl kq_) ?_
      refine own_G.step (g' := (mkF m 41 #[.val (.int i0), .val (.int i1), .val (.int (0 : Int32)), .val (.ref b1), .val (.long ((i0.toInt64) - (200 : Int64))), .second, .unset] [(.long (100 : Int64)), (.long ((i0.toInt64) - (200 : Int64)))])) (fun tq_ kq_ => X18.ldc2Long hx hown (mvT hZ (hw _ (List.mem_of_getElem? (i := 55) rfl))) (g := (mkF m 38 #[.val (.int i0), .val (.int i1), .val (.int (0 : Int32)), .val (.ref b1), .val (.long ((i0.toInt64) - (200 : Int64))), .second, .unset] [(.long ((i0.toInt64) - (200 : Int64)))])) rfl (hb hby at_38) _ kq_) ?_
      refine own_G.step (g' := (mkF m 42 #[.val (.int i0), .val (.int i1), .val (.int (0 : Int32)), .val (.ref b1), .val (.long ((i0.toInt64) - (200 : Int64))), .second, .unset] [(.int (lcmpW ((i0.toInt64) - (200 : Int64)) (100 : Int64)))])) (fun tq_ kq_ => XS.lcmp X18.here hx rfl (hb hby at_41) rfl kq_) ?_
      rcases Classical.em ((lcmpW ((i0.toInt64) - (200 : Int64)) (100 : Int64)) < (0 : Int32)) with hc42 | hc42
      · refine own_G.step (g' := (mkF m 45 #[.val (.int i0), .val (.int i1), .val (.int (0 : Int32)), .val (.ref b1), .val (.long ((i0.toInt64) - (200 : Int64))), .second, .unset] [])) (fun tq_ kq_ => XS.ifNo X18.here hx rfl (hb hby at_42) rfl ((if0 _ _).trans (tlt hc42).2.1) kq_) ?_
        refine own_G.step (g' := (mkF m 46 #[.val (.int i0), .val (.int i1), .val (.int (0 : Int32)), .val (.ref b1), .val (.long ((i0.toInt64) - (200 : Int64))), .second, .unset] [(.int (1 : Int32))])) (fun tq_ kq_ => XS.iconst X18.here hx rfl (hb hby at_45) kq_) ?_
        refine own_G.step (g' := (mkF m 50 #[.val (.int i0), .val (.int i1), .val (.int (0 : Int32)), .val (.ref b1), .val (.long ((i0.toInt64) - (200 : Int64))), .second, .unset] [(.int (1 : Int32))])) (fun tq_ kq_ => XS.goto X18.here hx rfl (pc0 := 46) (pc' := 50) rfl (hb hby at_46) (by decide) (by decide) kq_) ?_
        refine own_G.step (g' := (mkF m 52 #[.val (.int i0), .val (.int i1), .val (.int (0 : Int32)), .val (.ref b1), .val (.long ((i0.toInt64) - (200 : Int64))), .second, .val (.int (1 : Int32))] [])) (fun tq_ kq_ => XS.istore X18.here hx rfl (hb hby at_50) rfl (l' := #[.val (.int i0), .val (.int i1), .val (.int (0 : Int32)), .val (.ref b1), .val (.long ((i0.toInt64) - (200 : Int64))), .second, .val (.int (1 : Int32))]) rfl kq_) ?_
        refine own_G.step (g' := (mkF m 53 #[.val (.int i0), .val (.int i1), .val (.int (0 : Int32)), .val (.ref b1), .val (.long ((i0.toInt64) - (200 : Int64))), .second, .val (.int (1 : Int32))] [(.ref b1)])) (fun tq_ kq_ => XS.aloadN X18.here hx rfl (hb hby at_52) rfl rfl kq_) ?_
        obtain ⟨cq30, kq30, q30a, q30b, q30c⟩ := isOf hZ rfl P20
        obtain ⟨_, _, ⟨T30, L30, k30, n30⟩, -, X30, ⟨Lc30, hQ30, l30, y30, z30⟩, st30⟩ := X18.virtualBack hx (y := (⟨"com/example/redelivery/redelivery/sender/SendResult", "succeeded", "()Z"⟩ : MethodName)) (z := (⟨"com/example/redelivery/redelivery/sender/SendResult", "succeeded", "()Z"⟩ : MethodName)) hown (mvT hZ (hw _ (List.mem_of_getElem? (i := 21) rfl))) (mvT hZ (hw _ (List.mem_of_getElem? (i := 22) rfl))) (notFace_of_selects (args := #[]) (mvT hZ (hw _ (List.mem_of_getElem? (i := 24) rfl)))) (mvT hZ (hw _ (List.mem_of_getElem? (i := 24) rfl))) (mvT hZ (hw _ (List.mem_of_getElem? (i := 23) rfl))) (by decide) (backOf (W := 0) (rm_sucp l Z a0 hw [] b1 b9 i0 T18.heap n0 O26 P21 F24 F25) hZ (hw _ (List.mem_of_getElem? (i := 25) rfl)) (hw _ (List.mem_of_getElem? (i := 5) rfl)) (by decide) (by decide)) q30a q30c (g := (mkF m 53 #[.val (.int i0), .val (.int i1), .val (.int (0 : Int32)), .val (.ref b1), .val (.long ((i0.toInt64) - (200 : Int64))), .second, .val (.int (1 : Int32))] [(.ref b1)])) rfl (by rw [hml]; rfl) (Steps.refl _) (argsL := []) (rest := []) (lenOf pd__28_29Z rfl) rfl (by show 2 * 0 + _ ≤ _; exact Nat.le_of_eq rfl) (hb hby at_53) (fun _ _ => ⟨rfl, rfl, (by decide : 2 + 0 ≤ _), (by decide : 3 + 0 ≤ _)⟩)
        dsimp only [Pt.U, Pt.locs, Pt.cells, Pt.slots] at X30 l30 y30 z30 st30 hQ30
        subst l30 y30 z30
        obtain ⟨rfl, Nq30, P31⟩ := hQ30
        have N30 := Fr.app N18 Nq30
        refine own_G.step (T' := T30) (g' := (mkF m 56 #[.val (.int i0), .val (.int i1), .val (.int (0 : Int32)), .val (.ref b1), .val (.long ((i0.toInt64) - (200 : Int64))), .second, .val (.int (1 : Int32))] [(.int (own_succ i0))])) (fun tq_ kq_ => st30.trans kq_) ?_
        refine own_G.step (g' := (mkF m 58 #[.val (.int i0), .val (.int i1), .val (.int (0 : Int32)), .val (.ref b1), .val (.long ((i0.toInt64) - (200 : Int64))), .second, .val (.int (1 : Int32))] [(.int (1 : Int32)), (.int (own_succ i0))])) (fun tq_ kq_ => XS.iload X30.here hx rfl (hb hby at_56) rfl kq_) ?_
        have hc58 : (own_succ i0) = (1 : Int32) := (own_law i0).2.1 hc33 hc42
        refine own_G.step (g' := (mkF m 61 #[.val (.int i0), .val (.int i1), .val (.int (0 : Int32)), .val (.ref b1), .val (.long ((i0.toInt64) - (200 : Int64))), .second, .val (.int (1 : Int32))] [])) (fun tq_ kq_ => XS.icmpNo X30.here hx rfl (hb hby at_58) rfl (teq hc58).2 kq_) ?_
        refine own_G.step (g' := (mkF m 62 #[.val (.int i0), .val (.int i1), .val (.int (0 : Int32)), .val (.ref b1), .val (.long ((i0.toInt64) - (200 : Int64))), .second, .val (.int (1 : Int32))] [(.int (1 : Int32))])) (fun tq_ kq_ => XS.iconst X30.here hx rfl (hb hby at_61) kq_) ?_
        refine own_G.step (g' := (mkF m 66 #[.val (.int i0), .val (.int i1), .val (.int (0 : Int32)), .val (.ref b1), .val (.long ((i0.toInt64) - (200 : Int64))), .second, .val (.int (1 : Int32))] [(.int (1 : Int32))])) (fun tq_ kq_ => XS.goto X30.here hx rfl (pc0 := 62) (pc' := 66) rfl (hb hby at_62) (by decide) (by decide) kq_) ?_
        exact own_ret X30 P31 (v := some (.int (1 : Int32))) (fun h => by rw [Bd.returns] at h; cases h) Bd.notSynchronized ⟨rfl, N30⟩ (by decide) (by decide) (fun fs hr => retN X30 hx (t := .boolean) Bd.returns (by simp) (hb hby at_66) hr)
      · refine own_G.step (g' := (mkF m 49 #[.val (.int i0), .val (.int i1), .val (.int (0 : Int32)), .val (.ref b1), .val (.long ((i0.toInt64) - (200 : Int64))), .second, .unset] [])) (fun tq_ kq_ => XS.ifYes X18.here hx rfl (pc0 := 42) (pc' := 49) rfl (hb hby at_42) rfl ((if0 _ _).trans (flt hc42).2.1) (by decide) (by decide) kq_) ?_
        refine own_G.step (g' := (mkF m 50 #[.val (.int i0), .val (.int i1), .val (.int (0 : Int32)), .val (.ref b1), .val (.long ((i0.toInt64) - (200 : Int64))), .second, .unset] [(.int (0 : Int32))])) (fun tq_ kq_ => XS.iconst X18.here hx rfl (hb hby at_49) kq_) ?_
        refine own_G.step (g' := (mkF m 52 #[.val (.int i0), .val (.int i1), .val (.int (0 : Int32)), .val (.ref b1), .val (.long ((i0.toInt64) - (200 : Int64))), .second, .val (.int (0 : Int32))] [])) (fun tq_ kq_ => XS.istore X18.here hx rfl (hb hby at_50) rfl (l' := #[.val (.int i0), .val (.int i1), .val (.int (0 : Int32)), .val (.ref b1), .val (.long ((i0.toInt64) - (200 : Int64))), .second, .val (.int (0 : Int32))]) rfl kq_) ?_
        refine own_G.step (g' := (mkF m 53 #[.val (.int i0), .val (.int i1), .val (.int (0 : Int32)), .val (.ref b1), .val (.long ((i0.toInt64) - (200 : Int64))), .second, .val (.int (0 : Int32))] [(.ref b1)])) (fun tq_ kq_ => XS.aloadN X18.here hx rfl (hb hby at_52) rfl rfl kq_) ?_
        obtain ⟨cq32, kq32, q32a, q32b, q32c⟩ := isOf hZ rfl P20
        obtain ⟨_, _, ⟨T32, L32, k32, n32⟩, -, X32, ⟨Lc32, hQ32, l32, y32, z32⟩, st32⟩ := X18.virtualBack hx (y := (⟨"com/example/redelivery/redelivery/sender/SendResult", "succeeded", "()Z"⟩ : MethodName)) (z := (⟨"com/example/redelivery/redelivery/sender/SendResult", "succeeded", "()Z"⟩ : MethodName)) hown (mvT hZ (hw _ (List.mem_of_getElem? (i := 21) rfl))) (mvT hZ (hw _ (List.mem_of_getElem? (i := 22) rfl))) (notFace_of_selects (args := #[]) (mvT hZ (hw _ (List.mem_of_getElem? (i := 24) rfl)))) (mvT hZ (hw _ (List.mem_of_getElem? (i := 24) rfl))) (mvT hZ (hw _ (List.mem_of_getElem? (i := 23) rfl))) (by decide) (backOf (W := 0) (rm_sucp l Z a0 hw [] b1 b9 i0 T18.heap n0 O26 P21 F24 F25) hZ (hw _ (List.mem_of_getElem? (i := 25) rfl)) (hw _ (List.mem_of_getElem? (i := 5) rfl)) (by decide) (by decide)) q32a q32c (g := (mkF m 53 #[.val (.int i0), .val (.int i1), .val (.int (0 : Int32)), .val (.ref b1), .val (.long ((i0.toInt64) - (200 : Int64))), .second, .val (.int (0 : Int32))] [(.ref b1)])) rfl (by rw [hml]; rfl) (Steps.refl _) (argsL := []) (rest := []) (lenOf pd__28_29Z rfl) rfl (by show 2 * 0 + _ ≤ _; exact Nat.le_of_eq rfl) (hb hby at_53) (fun _ _ => ⟨rfl, rfl, (by decide : 2 + 0 ≤ _), (by decide : 3 + 0 ≤ _)⟩)
        dsimp only [Pt.U, Pt.locs, Pt.cells, Pt.slots] at X32 l32 y32 z32 st32 hQ32
        subst l32 y32 z32
        obtain ⟨rfl, Nq32, P33⟩ := hQ32
        have N32 := Fr.app N18 Nq32
        refine own_G.step (T' := T32) (g' := (mkF m 56 #[.val (.int i0), .val (.int i1), .val (.int (0 : Int32)), .val (.ref b1), .val (.long ((i0.toInt64) - (200 : Int64))), .second, .val (.int (0 : Int32))] [(.int (own_succ i0))])) (fun tq_ kq_ => st32.trans kq_) ?_
        refine own_G.step (g' := (mkF m 58 #[.val (.int i0), .val (.int i1), .val (.int (0 : Int32)), .val (.ref b1), .val (.long ((i0.toInt64) - (200 : Int64))), .second, .val (.int (0 : Int32))] [(.int (0 : Int32)), (.int (own_succ i0))])) (fun tq_ kq_ => XS.iload X32.here hx rfl (hb hby at_56) rfl kq_) ?_
        have hc58 : (own_succ i0) = (0 : Int32) := (own_law i0).2.2 hc42
        refine own_G.step (g' := (mkF m 61 #[.val (.int i0), .val (.int i1), .val (.int (0 : Int32)), .val (.ref b1), .val (.long ((i0.toInt64) - (200 : Int64))), .second, .val (.int (0 : Int32))] [])) (fun tq_ kq_ => XS.icmpNo X32.here hx rfl (hb hby at_58) rfl (teq hc58).2 kq_) ?_
        refine own_G.step (g' := (mkF m 62 #[.val (.int i0), .val (.int i1), .val (.int (0 : Int32)), .val (.ref b1), .val (.long ((i0.toInt64) - (200 : Int64))), .second, .val (.int (0 : Int32))] [(.int (1 : Int32))])) (fun tq_ kq_ => XS.iconst X32.here hx rfl (hb hby at_61) kq_) ?_
        refine own_G.step (g' := (mkF m 66 #[.val (.int i0), .val (.int i1), .val (.int (0 : Int32)), .val (.ref b1), .val (.long ((i0.toInt64) - (200 : Int64))), .second, .val (.int (0 : Int32))] [(.int (1 : Int32))])) (fun tq_ kq_ => XS.goto X32.here hx rfl (pc0 := 62) (pc' := 66) rfl (hb hby at_62) (by decide) (by decide) kq_) ?_
        exact own_ret X32 P33 (v := some (.int (1 : Int32))) (fun h => by rw [Bd.returns] at h; cases h) Bd.notSynchronized ⟨rfl, N32⟩ (by decide) (by decide) (fun fs hr => retN X32 hx (t := .boolean) Bd.returns (by simp) (hb hby at_66) hr)
  · refine own_G.step (g' := (mkF m 5 #[.val (.int i0), .val (.int i1), .val (.int (1 : Int32)), .unset, .unset, .unset, .unset] [(.int (1 : Int32))])) (fun tq_ kq_ => XS.iloadN X0.here hx rfl (hb hby at_4) rfl kq_) ?_
    have hc5 : ¬ ((1 : Int32) = (0 : Int32)) := (by decide)
    refine own_G.step (g' := (mkF m 67 #[.val (.int i0), .val (.int i1), .val (.int (1 : Int32)), .unset, .unset, .unset, .unset] [])) (fun tq_ kq_ => XS.ifYes X0.here hx rfl (pc0 := 5) (pc' := 67) rfl (hb hby at_5) rfl ((if0 _ _).trans (feq hc5).2) (by decide) (by decide) kq_) ?_
    refine own_G.step (g' := (mkF m 68 #[.val (.int i0), .val (.int i1), .val (.int (1 : Int32)), .unset, .unset, .unset, .unset] [(.int (1 : Int32))])) (fun tq_ kq_ => XS.iloadN X0.here hx rfl (hb hby at_67) rfl kq_) ?_
    refine own_G.step (g' := (mkF m 69 #[.val (.int i0), .val (.int i1), .val (.int (1 : Int32)), .unset, .unset, .unset, .unset] [(.int (1 : Int32)), (.int (1 : Int32))])) (fun tq_ kq_ => XS.iconst X0.here hx rfl (hb hby at_68) kq_) ?_
    have hc69 : (1 : Int32) = (1 : Int32) := (by decide)
    refine own_G.step (g' := (mkF m 72 #[.val (.int i0), .val (.int i1), .val (.int (1 : Int32)), .unset, .unset, .unset, .unset] [])) (fun tq_ kq_ => XS.icmpNo X0.here hx rfl (hb hby at_69) rfl (teq hc69).2 kq_) ?_
    obtain ⟨T34, X34, e34, st34⟩ := getS2 X0 hx hZ hown (host := "") (Or.inl (hw _ (List.mem_of_getElem? (i := 26) rfl))) Via.refl e0 (Sta.ext O0.2 S_CONNECTION_REFUSED) (g := (mkF m 72 #[.val (.int i0), .val (.int i1), .val (.int (1 : Int32)), .unset, .unset, .unset, .unset] [])) rfl (hb hby at_72)
    refine own_G.step (T' := T34) (g' := (mkF m 75 #[.val (.int i0), .val (.int i1), .val (.int (1 : Int32)), .unset, .unset, .unset, .unset] [(.ref w0)])) st34 ?_
    refine own_G.step (g' := (mkF m 76 #[.val (.int i0), .val (.int i1), .val (.int (1 : Int32)), .val (.ref w0), .unset, .unset, .unset] [])) (fun tq_ kq_ => XS.astoreN X34.here hx rfl (hb hby at_75) rfl rfl (l' := #[.val (.int i0), .val (.int i1), .val (.int (1 : Int32)), .val (.ref w0), .unset, .unset, .unset]) rfl kq_) ?_
    refine own_G.step (g' := (mkF m 95 #[.val (.int i0), .val (.int i1), .val (.int (1 : Int32)), .val (.ref w0), .unset, .unset, .unset] [])) (fun tq_ kq_ => XS.goto X34.here hx rfl (pc0 := 76) (pc' := 95) rfl (hb hby at_76) (by decide) (by decide) kq_) ?_
    obtain ⟨T35, h35, X35, e35, E35, A35, D35, -, st35⟩ := newO X34 hx hZ hown (hw _ (List.mem_of_getElem? (i := 3) rfl)) (hw _ (List.mem_of_getElem? (i := 4) rfl)) (hw _ (List.mem_of_getElem? (i := 5) rfl)) e34 (g := (mkF m 95 #[.val (.int i0), .val (.int i1), .val (.int (1 : Int32)), .val (.ref w0), .unset, .unset, .unset] [])) rfl (hb hby at_95) (by decide) (by decide)
    obtain ⟨b35, g35⟩ : ∃ z, z = h0.size := ⟨_, rfl⟩
    rw [← g35] at A35 D35 st35
    have g36 : n0 ≤ b35 := Nat.le_trans O0.le (Nat.le_of_eq g35.symm)
    have z37 : h0.size ≤ b35 := Nat.le_trans K0.1 (Nat.le_of_eq g35.symm)
    have O38 := O0.ext E35
    have K39 := K0.ext E35
    have F40 : Fld Z h35 b35 "com/example/redelivery/redelivery/sender/SendResult" "statusCode" "Ljava/lang/Integer;" .null := D35 (Or.inr (hw _ (List.mem_of_getElem? (i := 18) rfl))) (ty := (.object "java/lang/Integer")) (by decide)
    have F41 : Fld Z h35 b35 "com/example/redelivery/redelivery/sender/SendResult" "failure" "Lcom/example/redelivery/redelivery/sender/SendFailure;" .null := D35 (Or.inr (hw _ (List.mem_of_getElem? (i := 20) rfl))) (ty := (.object "com/example/redelivery/redelivery/sender/SendFailure")) (by decide)
    refine own_G.step (T' := T35) (g' := (mkF m 98 #[.val (.int i0), .val (.int i1), .val (.int (1 : Int32)), .val (.ref w0), .unset, .unset, .unset] [(.ref b35)])) st35 ?_
    refine own_G.step (g' := (mkF m 99 #[.val (.int i0), .val (.int i1), .val (.int (1 : Int32)), .val (.ref w0), .unset, .unset, .unset] [(.ref b35), (.ref b35)])) (fun tq_ kq_ => XS.dup X35.here hx rfl (hb hby at_98) rfl rfl kq_) ?_
    refine own_G.step (g' := (mkF m 100 #[.val (.int i0), .val (.int i1), .val (.int (1 : Int32)), .val (.ref w0), .unset, .unset, .unset] [.null, (.ref b35), (.ref b35)])) (fun tq_ kq_ => XS.aconstNull X35.here hx rfl (hb hby at_99) kq_) ?_
    refine own_G.step (g' := (mkF m 101 #[.val (.int i0), .val (.int i1), .val (.int (1 : Int32)), .val (.ref w0), .unset, .unset, .unset] [(.ref w0), .null, (.ref b35), (.ref b35)])) (fun tq_ kq_ => XS.aloadN X35.here hx rfl (hb hby at_100) rfl rfl kq_) ?_
    obtain ⟨_, _, ⟨T42, L42, k42, n42⟩, -, X42, ⟨Lc42, hQ42, l42, y42, z42⟩, st42⟩ := X35.specialBack hx (y := (⟨"com/example/redelivery/redelivery/sender/SendResult", "<init>", "(Ljava/lang/Integer;Lcom/example/redelivery/redelivery/sender/SendFailure;)V"⟩ : MethodName)) rfl hown (mvT hZ (hw _ (List.mem_of_getElem? (i := 6) rfl))) (mvT hZ (hw _ (List.mem_of_getElem? (i := 7) rfl))) (mvT hZ (hw _ (List.mem_of_getElem? (i := 8) rfl))) (by decide) (backOf (W := 1) (rm_srf l Z a0 hw [] b35 w0 h35 n0 O38 F40 F41 A35 g36) hZ (hw _ (List.mem_of_getElem? (i := 8) rfl)) (hw _ (List.mem_of_getElem? (i := 5) rfl)) (by decide) (by decide)) (g := (mkF m 101 #[.val (.int i0), .val (.int i1), .val (.int (1 : Int32)), .val (.ref w0), .unset, .unset, .unset] [(.ref w0), .null, (.ref b35), (.ref b35)])) rfl (by rw [hml]; rfl) (Steps.refl _) (a := b35) (argsL := [.null, (.ref w0)]) (rest := [(.ref b35)]) (lenOf pd__28Ljava_2flang_2fInteger_3bLcom_2fexample_2fredelivery_2fredelivery_2fsender_2fSendFailure_3b_29V rfl) rfl (by show 2 * 0 + _ ≤ _; exact Nat.le_of_eq rfl) (hb hby at_101) (fun _ _ => ⟨rfl, e35, (by decide : 1 + 0 ≤ _), (by decide : 2 + 0 ≤ _)⟩)
    dsimp only [Pt.U, Pt.locs, Pt.cells, Pt.slots] at X42 l42 y42 z42 st42 hQ42
    subst l42 y42 z42
    obtain ⟨rfl, Nq42, P43, P44, P45, P46⟩ := hQ42
    have N42 := Fr.app N0 Nq42
    have F47 := A35.keep P43
    have O48 := O38.keep P43 (allS g36 all0)
    have K49 := K39.trans P43 (allS (Or.inr z37) all0)
    refine own_G.step (T' := T42) (g' := (mkF m 104 #[.val (.int i0), .val (.int i1), .val (.int (1 : Int32)), .val (.ref w0), .unset, .unset, .unset] [(.ref b35)])) (fun tq_ kq_ => st42.trans kq_) ?_
    refine own_G.step (g' := (mkF m 106 #[.val (.int i0), .val (.int i1), .val (.int (1 : Int32)), .val (.ref w0), .val (.ref b35), .unset, .unset] [])) (fun tq_ kq_ => XS.astore X42.here hx rfl (hb hby at_104) rfl rfl (l' := #[.val (.int i0), .val (.int i1), .val (.int (1 : Int32)), .val (.ref w0), .val (.ref b35), .unset, .unset]) rfl kq_) ?_
    refine own_G.step (g' := (mkF m 108 #[.val (.int i0), .val (.int i1), .val (.int (1 : Int32)), .val (.ref w0), .val (.ref b35), .unset, .unset] [(.ref b35)])) (fun tq_ kq_ => XS.aload X42.here hx rfl (hb hby at_106) rfl rfl kq_) ?_
    obtain ⟨cq50, kq50, q50a, q50b, q50c⟩ := isOf hZ rfl P44
    obtain ⟨_, _, ⟨T50, L50, k50, n50⟩, -, X50, ⟨Lc50, hQ50, l50, y50, z50⟩, st50⟩ := X42.virtualBack hx (y := (⟨"com/example/redelivery/redelivery/sender/SendResult", "succeeded", "()Z"⟩ : MethodName)) (z := (⟨"com/example/redelivery/redelivery/sender/SendResult", "succeeded", "()Z"⟩ : MethodName)) hown (mvT hZ (hw _ (List.mem_of_getElem? (i := 21) rfl))) (mvT hZ (hw _ (List.mem_of_getElem? (i := 22) rfl))) (notFace_of_selects (args := #[]) (mvT hZ (hw _ (List.mem_of_getElem? (i := 24) rfl)))) (mvT hZ (hw _ (List.mem_of_getElem? (i := 24) rfl))) (mvT hZ (hw _ (List.mem_of_getElem? (i := 23) rfl))) (by decide) (backOf (W := 0) (rm_sucn l Z a0 hw [] b35 T42.heap n0 O48 P45) hZ (hw _ (List.mem_of_getElem? (i := 25) rfl)) (hw _ (List.mem_of_getElem? (i := 5) rfl)) (by decide) (by decide)) q50a q50c (g := (mkF m 108 #[.val (.int i0), .val (.int i1), .val (.int (1 : Int32)), .val (.ref w0), .val (.ref b35), .unset, .unset] [(.ref b35)])) rfl (by rw [hml]; rfl) (Steps.refl _) (argsL := []) (rest := []) (lenOf pd__28_29Z rfl) rfl (by show 2 * 0 + _ ≤ _; exact Nat.le_of_eq rfl) (hb hby at_108) (fun _ _ => ⟨rfl, rfl, (by decide : 1 + 0 ≤ _), (by decide : 2 + 0 ≤ _)⟩)
    dsimp only [Pt.U, Pt.locs, Pt.cells, Pt.slots] at X50 l50 y50 z50 st50 hQ50
    subst l50 y50 z50
    obtain ⟨rfl, Nq50, P51⟩ := hQ50
    have N50 := Fr.app N42 Nq50
    refine own_G.step (T' := T50) (g' := (mkF m 111 #[.val (.int i0), .val (.int i1), .val (.int (1 : Int32)), .val (.ref w0), .val (.ref b35), .unset, .unset] [(.int (0 : Int32))])) (fun tq_ kq_ => st50.trans kq_) ?_
    have hc111 : (0 : Int32) = (0 : Int32) := (by decide)
    refine own_G.step (g' := (mkF m 114 #[.val (.int i0), .val (.int i1), .val (.int (1 : Int32)), .val (.ref w0), .val (.ref b35), .unset, .unset] [])) (fun tq_ kq_ => XS.ifNo X50.here hx rfl (hb hby at_111) rfl ((if0 _ _).trans (teq hc111).2) kq_) ?_
    refine own_G.step (g' := (mkF m 115 #[.val (.int i0), .val (.int i1), .val (.int (1 : Int32)), .val (.ref w0), .val (.ref b35), .unset, .unset] [(.int (1 : Int32))])) (fun tq_ kq_ => XS.iconst X50.here hx rfl (hb hby at_114) kq_) ?_
    refine own_G.step (g' := (mkF m 119 #[.val (.int i0), .val (.int i1), .val (.int (1 : Int32)), .val (.ref w0), .val (.ref b35), .unset, .unset] [(.int (1 : Int32))])) (fun tq_ kq_ => XS.goto X50.here hx rfl (pc0 := 115) (pc' := 119) rfl (hb hby at_115) (by decide) (by decide) kq_) ?_
    exact own_ret X50 P51 (v := some (.int (1 : Int32))) (fun h => by rw [Bd.returns] at h; cases h) Bd.notSynchronized ⟨rfl, N50⟩ (by decide) (by decide) (fun fs hr => retN X50 hx (t := .boolean) Bd.returns (by simp) (hb hby at_119) hr)
  · refine own_G.step (g' := (mkF m 5 #[.val (.int i0), .val (.int i1), .val (.int (2 : Int32)), .unset, .unset, .unset, .unset] [(.int (2 : Int32))])) (fun tq_ kq_ => XS.iloadN X0.here hx rfl (hb hby at_4) rfl kq_) ?_
    have hc5 : ¬ ((2 : Int32) = (0 : Int32)) := (by decide)
    refine own_G.step (g' := (mkF m 67 #[.val (.int i0), .val (.int i1), .val (.int (2 : Int32)), .unset, .unset, .unset, .unset] [])) (fun tq_ kq_ => XS.ifYes X0.here hx rfl (pc0 := 5) (pc' := 67) rfl (hb hby at_5) rfl ((if0 _ _).trans (feq hc5).2) (by decide) (by decide) kq_) ?_
    refine own_G.step (g' := (mkF m 68 #[.val (.int i0), .val (.int i1), .val (.int (2 : Int32)), .unset, .unset, .unset, .unset] [(.int (2 : Int32))])) (fun tq_ kq_ => XS.iloadN X0.here hx rfl (hb hby at_67) rfl kq_) ?_
    refine own_G.step (g' := (mkF m 69 #[.val (.int i0), .val (.int i1), .val (.int (2 : Int32)), .unset, .unset, .unset, .unset] [(.int (1 : Int32)), (.int (2 : Int32))])) (fun tq_ kq_ => XS.iconst X0.here hx rfl (hb hby at_68) kq_) ?_
    have hc69 : ¬ ((2 : Int32) = (1 : Int32)) := (by decide)
    refine own_G.step (g' := (mkF m 79 #[.val (.int i0), .val (.int i1), .val (.int (2 : Int32)), .unset, .unset, .unset, .unset] [])) (fun tq_ kq_ => XS.icmpYes X0.here hx rfl (pc0 := 69) (pc' := 79) rfl (hb hby at_69) rfl (feq hc69).2 (by decide) (by decide) kq_) ?_
    refine own_G.step (g' := (mkF m 80 #[.val (.int i0), .val (.int i1), .val (.int (2 : Int32)), .unset, .unset, .unset, .unset] [(.int (2 : Int32))])) (fun tq_ kq_ => XS.iloadN X0.here hx rfl (hb hby at_79) rfl kq_) ?_
    refine own_G.step (g' := (mkF m 81 #[.val (.int i0), .val (.int i1), .val (.int (2 : Int32)), .unset, .unset, .unset, .unset] [(.int (2 : Int32)), (.int (2 : Int32))])) (fun tq_ kq_ => XS.iconst X0.here hx rfl (hb hby at_80) kq_) ?_
    have hc81 : (2 : Int32) = (2 : Int32) := (by decide)
    refine own_G.step (g' := (mkF m 84 #[.val (.int i0), .val (.int i1), .val (.int (2 : Int32)), .unset, .unset, .unset, .unset] [])) (fun tq_ kq_ => XS.icmpNo X0.here hx rfl (hb hby at_81) rfl (teq hc81).2 kq_) ?_
    obtain ⟨T52, X52, e52, st52⟩ := getS2 X0 hx hZ hown (host := "") (Or.inl (hw _ (List.mem_of_getElem? (i := 57) rfl))) Via.refl e0 (Sta.ext O0.2 S_CONNECTION_ERROR) (g := (mkF m 84 #[.val (.int i0), .val (.int i1), .val (.int (2 : Int32)), .unset, .unset, .unset, .unset] [])) rfl (hb hby at_84)
    refine own_G.step (T' := T52) (g' := (mkF m 87 #[.val (.int i0), .val (.int i1), .val (.int (2 : Int32)), .unset, .unset, .unset, .unset] [(.ref w1)])) st52 ?_
    refine own_G.step (g' := (mkF m 88 #[.val (.int i0), .val (.int i1), .val (.int (2 : Int32)), .val (.ref w1), .unset, .unset, .unset] [])) (fun tq_ kq_ => XS.astoreN X52.here hx rfl (hb hby at_87) rfl rfl (l' := #[.val (.int i0), .val (.int i1), .val (.int (2 : Int32)), .val (.ref w1), .unset, .unset, .unset]) rfl kq_) ?_
    refine own_G.step (g' := (mkF m 95 #[.val (.int i0), .val (.int i1), .val (.int (2 : Int32)), .val (.ref w1), .unset, .unset, .unset] [])) (fun tq_ kq_ => XS.goto X52.here hx rfl (pc0 := 88) (pc' := 95) rfl (hb hby at_88) (by decide) (by decide) kq_) ?_
    obtain ⟨T53, h53, X53, e53, E53, A53, D53, -, st53⟩ := newO X52 hx hZ hown (hw _ (List.mem_of_getElem? (i := 3) rfl)) (hw _ (List.mem_of_getElem? (i := 4) rfl)) (hw _ (List.mem_of_getElem? (i := 5) rfl)) e52 (g := (mkF m 95 #[.val (.int i0), .val (.int i1), .val (.int (2 : Int32)), .val (.ref w1), .unset, .unset, .unset] [])) rfl (hb hby at_95) (by decide) (by decide)
    obtain ⟨b53, g53⟩ : ∃ z, z = h0.size := ⟨_, rfl⟩
    rw [← g53] at A53 D53 st53
    have g54 : n0 ≤ b53 := Nat.le_trans O0.le (Nat.le_of_eq g53.symm)
    have z55 : h0.size ≤ b53 := Nat.le_trans K0.1 (Nat.le_of_eq g53.symm)
    have O56 := O0.ext E53
    have K57 := K0.ext E53
    have F58 : Fld Z h53 b53 "com/example/redelivery/redelivery/sender/SendResult" "statusCode" "Ljava/lang/Integer;" .null := D53 (Or.inr (hw _ (List.mem_of_getElem? (i := 18) rfl))) (ty := (.object "java/lang/Integer")) (by decide)
    have F59 : Fld Z h53 b53 "com/example/redelivery/redelivery/sender/SendResult" "failure" "Lcom/example/redelivery/redelivery/sender/SendFailure;" .null := D53 (Or.inr (hw _ (List.mem_of_getElem? (i := 20) rfl))) (ty := (.object "com/example/redelivery/redelivery/sender/SendFailure")) (by decide)
    refine own_G.step (T' := T53) (g' := (mkF m 98 #[.val (.int i0), .val (.int i1), .val (.int (2 : Int32)), .val (.ref w1), .unset, .unset, .unset] [(.ref b53)])) st53 ?_
    refine own_G.step (g' := (mkF m 99 #[.val (.int i0), .val (.int i1), .val (.int (2 : Int32)), .val (.ref w1), .unset, .unset, .unset] [(.ref b53), (.ref b53)])) (fun tq_ kq_ => XS.dup X53.here hx rfl (hb hby at_98) rfl rfl kq_) ?_
    refine own_G.step (g' := (mkF m 100 #[.val (.int i0), .val (.int i1), .val (.int (2 : Int32)), .val (.ref w1), .unset, .unset, .unset] [.null, (.ref b53), (.ref b53)])) (fun tq_ kq_ => XS.aconstNull X53.here hx rfl (hb hby at_99) kq_) ?_
    refine own_G.step (g' := (mkF m 101 #[.val (.int i0), .val (.int i1), .val (.int (2 : Int32)), .val (.ref w1), .unset, .unset, .unset] [(.ref w1), .null, (.ref b53), (.ref b53)])) (fun tq_ kq_ => XS.aloadN X53.here hx rfl (hb hby at_100) rfl rfl kq_) ?_
    obtain ⟨_, _, ⟨T60, L60, k60, n60⟩, -, X60, ⟨Lc60, hQ60, l60, y60, z60⟩, st60⟩ := X53.specialBack hx (y := (⟨"com/example/redelivery/redelivery/sender/SendResult", "<init>", "(Ljava/lang/Integer;Lcom/example/redelivery/redelivery/sender/SendFailure;)V"⟩ : MethodName)) rfl hown (mvT hZ (hw _ (List.mem_of_getElem? (i := 6) rfl))) (mvT hZ (hw _ (List.mem_of_getElem? (i := 7) rfl))) (mvT hZ (hw _ (List.mem_of_getElem? (i := 8) rfl))) (by decide) (backOf (W := 1) (rm_srf l Z a0 hw [] b53 w1 h53 n0 O56 F58 F59 A53 g54) hZ (hw _ (List.mem_of_getElem? (i := 8) rfl)) (hw _ (List.mem_of_getElem? (i := 5) rfl)) (by decide) (by decide)) (g := (mkF m 101 #[.val (.int i0), .val (.int i1), .val (.int (2 : Int32)), .val (.ref w1), .unset, .unset, .unset] [(.ref w1), .null, (.ref b53), (.ref b53)])) rfl (by rw [hml]; rfl) (Steps.refl _) (a := b53) (argsL := [.null, (.ref w1)]) (rest := [(.ref b53)]) (lenOf pd__28Ljava_2flang_2fInteger_3bLcom_2fexample_2fredelivery_2fredelivery_2fsender_2fSendFailure_3b_29V rfl) rfl (by show 2 * 0 + _ ≤ _; exact Nat.le_of_eq rfl) (hb hby at_101) (fun _ _ => ⟨rfl, e53, (by decide : 1 + 0 ≤ _), (by decide : 2 + 0 ≤ _)⟩)
    dsimp only [Pt.U, Pt.locs, Pt.cells, Pt.slots] at X60 l60 y60 z60 st60 hQ60
    subst l60 y60 z60
    obtain ⟨rfl, Nq60, P61, P62, P63, P64⟩ := hQ60
    have N60 := Fr.app N0 Nq60
    have F65 := A53.keep P61
    have O66 := O56.keep P61 (allS g54 all0)
    have K67 := K57.trans P61 (allS (Or.inr z55) all0)
    refine own_G.step (T' := T60) (g' := (mkF m 104 #[.val (.int i0), .val (.int i1), .val (.int (2 : Int32)), .val (.ref w1), .unset, .unset, .unset] [(.ref b53)])) (fun tq_ kq_ => st60.trans kq_) ?_
    refine own_G.step (g' := (mkF m 106 #[.val (.int i0), .val (.int i1), .val (.int (2 : Int32)), .val (.ref w1), .val (.ref b53), .unset, .unset] [])) (fun tq_ kq_ => XS.astore X60.here hx rfl (hb hby at_104) rfl rfl (l' := #[.val (.int i0), .val (.int i1), .val (.int (2 : Int32)), .val (.ref w1), .val (.ref b53), .unset, .unset]) rfl kq_) ?_
    refine own_G.step (g' := (mkF m 108 #[.val (.int i0), .val (.int i1), .val (.int (2 : Int32)), .val (.ref w1), .val (.ref b53), .unset, .unset] [(.ref b53)])) (fun tq_ kq_ => XS.aload X60.here hx rfl (hb hby at_106) rfl rfl kq_) ?_
    obtain ⟨cq68, kq68, q68a, q68b, q68c⟩ := isOf hZ rfl P62
    obtain ⟨_, _, ⟨T68, L68, k68, n68⟩, -, X68, ⟨Lc68, hQ68, l68, y68, z68⟩, st68⟩ := X60.virtualBack hx (y := (⟨"com/example/redelivery/redelivery/sender/SendResult", "succeeded", "()Z"⟩ : MethodName)) (z := (⟨"com/example/redelivery/redelivery/sender/SendResult", "succeeded", "()Z"⟩ : MethodName)) hown (mvT hZ (hw _ (List.mem_of_getElem? (i := 21) rfl))) (mvT hZ (hw _ (List.mem_of_getElem? (i := 22) rfl))) (notFace_of_selects (args := #[]) (mvT hZ (hw _ (List.mem_of_getElem? (i := 24) rfl)))) (mvT hZ (hw _ (List.mem_of_getElem? (i := 24) rfl))) (mvT hZ (hw _ (List.mem_of_getElem? (i := 23) rfl))) (by decide) (backOf (W := 0) (rm_sucn l Z a0 hw [] b53 T60.heap n0 O66 P63) hZ (hw _ (List.mem_of_getElem? (i := 25) rfl)) (hw _ (List.mem_of_getElem? (i := 5) rfl)) (by decide) (by decide)) q68a q68c (g := (mkF m 108 #[.val (.int i0), .val (.int i1), .val (.int (2 : Int32)), .val (.ref w1), .val (.ref b53), .unset, .unset] [(.ref b53)])) rfl (by rw [hml]; rfl) (Steps.refl _) (argsL := []) (rest := []) (lenOf pd__28_29Z rfl) rfl (by show 2 * 0 + _ ≤ _; exact Nat.le_of_eq rfl) (hb hby at_108) (fun _ _ => ⟨rfl, rfl, (by decide : 1 + 0 ≤ _), (by decide : 2 + 0 ≤ _)⟩)
    dsimp only [Pt.U, Pt.locs, Pt.cells, Pt.slots] at X68 l68 y68 z68 st68 hQ68
    subst l68 y68 z68
    obtain ⟨rfl, Nq68, P69⟩ := hQ68
    have N68 := Fr.app N60 Nq68
    refine own_G.step (T' := T68) (g' := (mkF m 111 #[.val (.int i0), .val (.int i1), .val (.int (2 : Int32)), .val (.ref w1), .val (.ref b53), .unset, .unset] [(.int (0 : Int32))])) (fun tq_ kq_ => st68.trans kq_) ?_
    have hc111 : (0 : Int32) = (0 : Int32) := (by decide)
    refine own_G.step (g' := (mkF m 114 #[.val (.int i0), .val (.int i1), .val (.int (2 : Int32)), .val (.ref w1), .val (.ref b53), .unset, .unset] [])) (fun tq_ kq_ => XS.ifNo X68.here hx rfl (hb hby at_111) rfl ((if0 _ _).trans (teq hc111).2) kq_) ?_
    refine own_G.step (g' := (mkF m 115 #[.val (.int i0), .val (.int i1), .val (.int (2 : Int32)), .val (.ref w1), .val (.ref b53), .unset, .unset] [(.int (1 : Int32))])) (fun tq_ kq_ => XS.iconst X68.here hx rfl (hb hby at_114) kq_) ?_
    refine own_G.step (g' := (mkF m 119 #[.val (.int i0), .val (.int i1), .val (.int (2 : Int32)), .val (.ref w1), .val (.ref b53), .unset, .unset] [(.int (1 : Int32))])) (fun tq_ kq_ => XS.goto X68.here hx rfl (pc0 := 115) (pc' := 119) rfl (hb hby at_115) (by decide) (by decide) kq_) ?_
    exact own_ret X68 P69 (v := some (.int (1 : Int32))) (fun h => by rw [Bd.returns] at h; cases h) Bd.notSynchronized ⟨rfl, N68⟩ (by decide) (by decide) (fun fs hr => retN X68 hx (t := .boolean) Bd.returns (by simp) (hb hby at_119) hr)
  · refine own_G.step (g' := (mkF m 5 #[.val (.int i0), .val (.int i1), .val (.int (3 : Int32)), .unset, .unset, .unset, .unset] [(.int (3 : Int32))])) (fun tq_ kq_ => XS.iloadN X0.here hx rfl (hb hby at_4) rfl kq_) ?_
    have hc5 : ¬ ((3 : Int32) = (0 : Int32)) := (by decide)
    refine own_G.step (g' := (mkF m 67 #[.val (.int i0), .val (.int i1), .val (.int (3 : Int32)), .unset, .unset, .unset, .unset] [])) (fun tq_ kq_ => XS.ifYes X0.here hx rfl (pc0 := 5) (pc' := 67) rfl (hb hby at_5) rfl ((if0 _ _).trans (feq hc5).2) (by decide) (by decide) kq_) ?_
    refine own_G.step (g' := (mkF m 68 #[.val (.int i0), .val (.int i1), .val (.int (3 : Int32)), .unset, .unset, .unset, .unset] [(.int (3 : Int32))])) (fun tq_ kq_ => XS.iloadN X0.here hx rfl (hb hby at_67) rfl kq_) ?_
    refine own_G.step (g' := (mkF m 69 #[.val (.int i0), .val (.int i1), .val (.int (3 : Int32)), .unset, .unset, .unset, .unset] [(.int (1 : Int32)), (.int (3 : Int32))])) (fun tq_ kq_ => XS.iconst X0.here hx rfl (hb hby at_68) kq_) ?_
    have hc69 : ¬ ((3 : Int32) = (1 : Int32)) := (by decide)
    refine own_G.step (g' := (mkF m 79 #[.val (.int i0), .val (.int i1), .val (.int (3 : Int32)), .unset, .unset, .unset, .unset] [])) (fun tq_ kq_ => XS.icmpYes X0.here hx rfl (pc0 := 69) (pc' := 79) rfl (hb hby at_69) rfl (feq hc69).2 (by decide) (by decide) kq_) ?_
    refine own_G.step (g' := (mkF m 80 #[.val (.int i0), .val (.int i1), .val (.int (3 : Int32)), .unset, .unset, .unset, .unset] [(.int (3 : Int32))])) (fun tq_ kq_ => XS.iloadN X0.here hx rfl (hb hby at_79) rfl kq_) ?_
    refine own_G.step (g' := (mkF m 81 #[.val (.int i0), .val (.int i1), .val (.int (3 : Int32)), .unset, .unset, .unset, .unset] [(.int (2 : Int32)), (.int (3 : Int32))])) (fun tq_ kq_ => XS.iconst X0.here hx rfl (hb hby at_80) kq_) ?_
    have hc81 : ¬ ((3 : Int32) = (2 : Int32)) := (by decide)
    refine own_G.step (g' := (mkF m 91 #[.val (.int i0), .val (.int i1), .val (.int (3 : Int32)), .unset, .unset, .unset, .unset] [])) (fun tq_ kq_ => XS.icmpYes X0.here hx rfl (pc0 := 81) (pc' := 91) rfl (hb hby at_81) rfl (feq hc81).2 (by decide) (by decide) kq_) ?_
    obtain ⟨T70, X70, e70, st70⟩ := getS2 X0 hx hZ hown (host := "") (Or.inl (hw _ (List.mem_of_getElem? (i := 0) rfl))) Via.refl e0 (Sta.ext O0.2 S_TIMEOUT) (g := (mkF m 91 #[.val (.int i0), .val (.int i1), .val (.int (3 : Int32)), .unset, .unset, .unset, .unset] [])) rfl (hb hby at_91)
    refine own_G.step (T' := T70) (g' := (mkF m 94 #[.val (.int i0), .val (.int i1), .val (.int (3 : Int32)), .unset, .unset, .unset, .unset] [(.ref w2)])) st70 ?_
    refine own_G.step (g' := (mkF m 95 #[.val (.int i0), .val (.int i1), .val (.int (3 : Int32)), .val (.ref w2), .unset, .unset, .unset] [])) (fun tq_ kq_ => XS.astoreN X70.here hx rfl (hb hby at_94) rfl rfl (l' := #[.val (.int i0), .val (.int i1), .val (.int (3 : Int32)), .val (.ref w2), .unset, .unset, .unset]) rfl kq_) ?_
    obtain ⟨T71, h71, X71, e71, E71, A71, D71, -, st71⟩ := newO X70 hx hZ hown (hw _ (List.mem_of_getElem? (i := 3) rfl)) (hw _ (List.mem_of_getElem? (i := 4) rfl)) (hw _ (List.mem_of_getElem? (i := 5) rfl)) e70 (g := (mkF m 95 #[.val (.int i0), .val (.int i1), .val (.int (3 : Int32)), .val (.ref w2), .unset, .unset, .unset] [])) rfl (hb hby at_95) (by decide) (by decide)
    obtain ⟨b71, g71⟩ : ∃ z, z = h0.size := ⟨_, rfl⟩
    rw [← g71] at A71 D71 st71
    have g72 : n0 ≤ b71 := Nat.le_trans O0.le (Nat.le_of_eq g71.symm)
    have z73 : h0.size ≤ b71 := Nat.le_trans K0.1 (Nat.le_of_eq g71.symm)
    have O74 := O0.ext E71
    have K75 := K0.ext E71
    have F76 : Fld Z h71 b71 "com/example/redelivery/redelivery/sender/SendResult" "statusCode" "Ljava/lang/Integer;" .null := D71 (Or.inr (hw _ (List.mem_of_getElem? (i := 18) rfl))) (ty := (.object "java/lang/Integer")) (by decide)
    have F77 : Fld Z h71 b71 "com/example/redelivery/redelivery/sender/SendResult" "failure" "Lcom/example/redelivery/redelivery/sender/SendFailure;" .null := D71 (Or.inr (hw _ (List.mem_of_getElem? (i := 20) rfl))) (ty := (.object "com/example/redelivery/redelivery/sender/SendFailure")) (by decide)
    refine own_G.step (T' := T71) (g' := (mkF m 98 #[.val (.int i0), .val (.int i1), .val (.int (3 : Int32)), .val (.ref w2), .unset, .unset, .unset] [(.ref b71)])) st71 ?_
    refine own_G.step (g' := (mkF m 99 #[.val (.int i0), .val (.int i1), .val (.int (3 : Int32)), .val (.ref w2), .unset, .unset, .unset] [(.ref b71), (.ref b71)])) (fun tq_ kq_ => XS.dup X71.here hx rfl (hb hby at_98) rfl rfl kq_) ?_
    refine own_G.step (g' := (mkF m 100 #[.val (.int i0), .val (.int i1), .val (.int (3 : Int32)), .val (.ref w2), .unset, .unset, .unset] [.null, (.ref b71), (.ref b71)])) (fun tq_ kq_ => XS.aconstNull X71.here hx rfl (hb hby at_99) kq_) ?_
    refine own_G.step (g' := (mkF m 101 #[.val (.int i0), .val (.int i1), .val (.int (3 : Int32)), .val (.ref w2), .unset, .unset, .unset] [(.ref w2), .null, (.ref b71), (.ref b71)])) (fun tq_ kq_ => XS.aloadN X71.here hx rfl (hb hby at_100) rfl rfl kq_) ?_
    obtain ⟨_, _, ⟨T78, L78, k78, n78⟩, -, X78, ⟨Lc78, hQ78, l78, y78, z78⟩, st78⟩ := X71.specialBack hx (y := (⟨"com/example/redelivery/redelivery/sender/SendResult", "<init>", "(Ljava/lang/Integer;Lcom/example/redelivery/redelivery/sender/SendFailure;)V"⟩ : MethodName)) rfl hown (mvT hZ (hw _ (List.mem_of_getElem? (i := 6) rfl))) (mvT hZ (hw _ (List.mem_of_getElem? (i := 7) rfl))) (mvT hZ (hw _ (List.mem_of_getElem? (i := 8) rfl))) (by decide) (backOf (W := 1) (rm_srf l Z a0 hw [] b71 w2 h71 n0 O74 F76 F77 A71 g72) hZ (hw _ (List.mem_of_getElem? (i := 8) rfl)) (hw _ (List.mem_of_getElem? (i := 5) rfl)) (by decide) (by decide)) (g := (mkF m 101 #[.val (.int i0), .val (.int i1), .val (.int (3 : Int32)), .val (.ref w2), .unset, .unset, .unset] [(.ref w2), .null, (.ref b71), (.ref b71)])) rfl (by rw [hml]; rfl) (Steps.refl _) (a := b71) (argsL := [.null, (.ref w2)]) (rest := [(.ref b71)]) (lenOf pd__28Ljava_2flang_2fInteger_3bLcom_2fexample_2fredelivery_2fredelivery_2fsender_2fSendFailure_3b_29V rfl) rfl (by show 2 * 0 + _ ≤ _; exact Nat.le_of_eq rfl) (hb hby at_101) (fun _ _ => ⟨rfl, e71, (by decide : 1 + 0 ≤ _), (by decide : 2 + 0 ≤ _)⟩)
    dsimp only [Pt.U, Pt.locs, Pt.cells, Pt.slots] at X78 l78 y78 z78 st78 hQ78
    subst l78 y78 z78
    obtain ⟨rfl, Nq78, P79, P80, P81, P82⟩ := hQ78
    have N78 := Fr.app N0 Nq78
    have F83 := A71.keep P79
    have O84 := O74.keep P79 (allS g72 all0)
    have K85 := K75.trans P79 (allS (Or.inr z73) all0)
    refine own_G.step (T' := T78) (g' := (mkF m 104 #[.val (.int i0), .val (.int i1), .val (.int (3 : Int32)), .val (.ref w2), .unset, .unset, .unset] [(.ref b71)])) (fun tq_ kq_ => st78.trans kq_) ?_
    refine own_G.step (g' := (mkF m 106 #[.val (.int i0), .val (.int i1), .val (.int (3 : Int32)), .val (.ref w2), .val (.ref b71), .unset, .unset] [])) (fun tq_ kq_ => XS.astore X78.here hx rfl (hb hby at_104) rfl rfl (l' := #[.val (.int i0), .val (.int i1), .val (.int (3 : Int32)), .val (.ref w2), .val (.ref b71), .unset, .unset]) rfl kq_) ?_
    refine own_G.step (g' := (mkF m 108 #[.val (.int i0), .val (.int i1), .val (.int (3 : Int32)), .val (.ref w2), .val (.ref b71), .unset, .unset] [(.ref b71)])) (fun tq_ kq_ => XS.aload X78.here hx rfl (hb hby at_106) rfl rfl kq_) ?_
    obtain ⟨cq86, kq86, q86a, q86b, q86c⟩ := isOf hZ rfl P80
    obtain ⟨_, _, ⟨T86, L86, k86, n86⟩, -, X86, ⟨Lc86, hQ86, l86, y86, z86⟩, st86⟩ := X78.virtualBack hx (y := (⟨"com/example/redelivery/redelivery/sender/SendResult", "succeeded", "()Z"⟩ : MethodName)) (z := (⟨"com/example/redelivery/redelivery/sender/SendResult", "succeeded", "()Z"⟩ : MethodName)) hown (mvT hZ (hw _ (List.mem_of_getElem? (i := 21) rfl))) (mvT hZ (hw _ (List.mem_of_getElem? (i := 22) rfl))) (notFace_of_selects (args := #[]) (mvT hZ (hw _ (List.mem_of_getElem? (i := 24) rfl)))) (mvT hZ (hw _ (List.mem_of_getElem? (i := 24) rfl))) (mvT hZ (hw _ (List.mem_of_getElem? (i := 23) rfl))) (by decide) (backOf (W := 0) (rm_sucn l Z a0 hw [] b71 T78.heap n0 O84 P81) hZ (hw _ (List.mem_of_getElem? (i := 25) rfl)) (hw _ (List.mem_of_getElem? (i := 5) rfl)) (by decide) (by decide)) q86a q86c (g := (mkF m 108 #[.val (.int i0), .val (.int i1), .val (.int (3 : Int32)), .val (.ref w2), .val (.ref b71), .unset, .unset] [(.ref b71)])) rfl (by rw [hml]; rfl) (Steps.refl _) (argsL := []) (rest := []) (lenOf pd__28_29Z rfl) rfl (by show 2 * 0 + _ ≤ _; exact Nat.le_of_eq rfl) (hb hby at_108) (fun _ _ => ⟨rfl, rfl, (by decide : 1 + 0 ≤ _), (by decide : 2 + 0 ≤ _)⟩)
    dsimp only [Pt.U, Pt.locs, Pt.cells, Pt.slots] at X86 l86 y86 z86 st86 hQ86
    subst l86 y86 z86
    obtain ⟨rfl, Nq86, P87⟩ := hQ86
    have N86 := Fr.app N78 Nq86
    refine own_G.step (T' := T86) (g' := (mkF m 111 #[.val (.int i0), .val (.int i1), .val (.int (3 : Int32)), .val (.ref w2), .val (.ref b71), .unset, .unset] [(.int (0 : Int32))])) (fun tq_ kq_ => st86.trans kq_) ?_
    have hc111 : (0 : Int32) = (0 : Int32) := (by decide)
    refine own_G.step (g' := (mkF m 114 #[.val (.int i0), .val (.int i1), .val (.int (3 : Int32)), .val (.ref w2), .val (.ref b71), .unset, .unset] [])) (fun tq_ kq_ => XS.ifNo X86.here hx rfl (hb hby at_111) rfl ((if0 _ _).trans (teq hc111).2) kq_) ?_
    refine own_G.step (g' := (mkF m 115 #[.val (.int i0), .val (.int i1), .val (.int (3 : Int32)), .val (.ref w2), .val (.ref b71), .unset, .unset] [(.int (1 : Int32))])) (fun tq_ kq_ => XS.iconst X86.here hx rfl (hb hby at_114) kq_) ?_
    refine own_G.step (g' := (mkF m 119 #[.val (.int i0), .val (.int i1), .val (.int (3 : Int32)), .val (.ref w2), .val (.ref b71), .unset, .unset] [(.int (1 : Int32))])) (fun tq_ kq_ => XS.goto X86.here hx rfl (pc0 := 115) (pc' := 119) rfl (hb hby at_115) (by decide) (by decide) kq_) ?_
    exact own_ret X86 P87 (v := some (.int (1 : Int32))) (fun h => by rw [Bd.returns] at h; cases h) Bd.notSynchronized ⟨rfl, N86⟩ (by decide) (by decide) (fun fs hr => retN X86 hx (t := .boolean) Bd.returns (by simp) (hb hby at_119) hr)
set_option maxRecDepth 65536 in
set_option maxHeartbeats 40000000 in
theorem comes_1 {Post : Tables → Env → Array Value → State → Outcome → State → Prop} (hpost : ∀ tb e args s v u, (limb_1_1.after args s (.returned v) u = true ∧ limb_1_2.after args s (.returned v) u = true ∧ True) → FrameEnd s (.returned v) u (Jvm.fieldLocs frame_1_writes args s ++ Jvm.arrayLocs frame_1_arrays args s ++ Jvm.staticLocs frame_1_statics s) 16 128 → Post tb e args s (.returned v) u) :
    ArmFor flags0 classFile x code maxLocals ret World_1 tables_1 room_1 Calls_1 rest_1 Pre_1 Post := by
  intro l hfl _ _ p e ha hc hk s m args below hf hA hF happ hP
  obtain ⟨hcalls, hrest, hpre⟩ := hP
  obtain ⟨-, -, -, hnamed, -, -, -, hat⟩ := (Spec.applies_iff hf).mp happ
  obtain ⟨hg, hn⟩ := and_e (Cond.before_iff.mp (show (Jvm.Cond.and given_1 narrow_1).before args s = true from hpre))
  obtain ⟨gz1, gz2⟩ := and_e hg
  obtain ⟨gz3, gz4⟩ := and_e gz2
  obtain ⟨gz5, gz6⟩ := and_e hn
  obtain ⟨gz7, gz8⟩ := and_e gz6
  obtain ⟨u0, u1, rfl⟩ : ∃ u0 u1 : Value, args = #[u0, u1] := by
    have hs : args.size = 2 := by simpa [Cond.value, given_1] using gz1
    obtain ⟨L⟩ := args
    match L, hs with
    | [u0, u1], _ => exact ⟨u0, u1, rfl⟩
  have hw := fun d (hd : d ∈ tables_1) => atoms_spec (ws := Jvm.Cond.code x code maxLocals ret :: tables_1) hat d (List.mem_cons_of_mem _ hd)
  have hfit : Fit s := fun {y c} hc i hi => by
    obtain ⟨ha, rfl⟩ := Array.getElem?_eq_some_iff.mp hc
    have q := List.all_eq_true.mp ((Array.all_eq_true_iff_forall_mem.mp hF) _ (Array.getElem_mem ha)) i (List.mem_range.mpr hi)
    simpa [Array.getElem?_eq_getElem hi] using q
  obtain ⟨hsets, hown0⟩ := atoms_of _ (rest_1_c_eq ▸ (show rest_1_c.before _ s = true from hrest))
  have hr0 := Cond.before_iff.mp hown0
  obtain ⟨i0, ei0⟩ := is_v gz3
  obtain rfl : u0 = (.int i0) := Option.some.inj ei0
  obtain ⟨i1, ei1⟩ := is_v gz4
  obtain rfl : u1 = (.int i1) := Option.some.inj ei1
  obtain ⟨w2, ev_TIMEOUT⟩ := exa_v gz5
  have S_TIMEOUT : Sta s s.heap "com/example/redelivery/redelivery/sender/SendFailure" "TIMEOUT" "Lcom/example/redelivery/redelivery/sender/SendFailure;" (.ref w2) := Sta.start ev_TIMEOUT (Or.inr ⟨(hw _ (List.mem_of_getElem? (i := 1) rfl)), (hw _ (List.mem_of_getElem? (i := 2) rfl))⟩)
  have E_TIMEOUT : Exa s s.heap w2 "com/example/redelivery/redelivery/sender/SendFailure" := Exa.start ev_TIMEOUT gz5
  obtain ⟨w0, ev_CONNECTION_REFUSED⟩ := exa_v gz7
  have S_CONNECTION_REFUSED : Sta s s.heap "com/example/redelivery/redelivery/sender/SendFailure" "CONNECTION_REFUSED" "Lcom/example/redelivery/redelivery/sender/SendFailure;" (.ref w0) := Sta.start ev_CONNECTION_REFUSED (Or.inr ⟨(hw _ (List.mem_of_getElem? (i := 1) rfl)), (hw _ (List.mem_of_getElem? (i := 27) rfl))⟩)
  have E_CONNECTION_REFUSED : Exa s s.heap w0 "com/example/redelivery/redelivery/sender/SendFailure" := Exa.start ev_CONNECTION_REFUSED gz7
  obtain ⟨w1, ev_CONNECTION_ERROR⟩ := exa_v gz8
  have S_CONNECTION_ERROR : Sta s s.heap "com/example/redelivery/redelivery/sender/SendFailure" "CONNECTION_ERROR" "Lcom/example/redelivery/redelivery/sender/SendFailure;" (.ref w1) := Sta.start ev_CONNECTION_ERROR (Or.inr ⟨(hw _ (List.mem_of_getElem? (i := 1) rfl)), (hw _ (List.mem_of_getElem? (i := 58) rfl))⟩)
  have E_CONNECTION_ERROR : Exa s s.heap w1 "com/example/redelivery/redelivery/sender/SendFailure" := Exa.start ev_CONNECTION_ERROR gz8
  have S_high : Sta s s.heap "java/lang/Integer$IntegerCache" "high" "I" (.int (127 : Int32)) := Sta.start (eqv_i (Term.int_eval (127 : Int32)) (Cond.before_iff.mp (hsets _ (List.mem_of_getElem? (i := 3) rfl)))) (Or.inl (hsets _ (List.mem_of_getElem? (i := 1) rfl)))
  have hz_arr := Cond.before_iff.mp (hsets _ (List.mem_of_getElem? (i := 4) rfl))
  obtain ⟨ca, ev_ca⟩ := arr_v hz_arr
  have S_cache : Sta s s.heap "java/lang/Integer$IntegerCache" "cache" "[Ljava/lang/Integer;" (.ref ca) := Sta.start ev_ca (Or.inr ⟨(hw _ (List.mem_of_getElem? (i := 54) rfl)), (hsets _ (List.mem_of_getElem? (i := 2) rfl))⟩)
  obtain ⟨cc, Acc⟩ := Arr.start ev_ca hz_arr
  have hz_len := eqv_i (Term.int_eval (256 : Int32)) (Cond.before_iff.mp (hsets _ (List.mem_of_getElem? (i := 6) rfl)))
  obtain ⟨hz_lt, hz_eq⟩ := own_len ev_ca (Acc.fin (Vm.Alike.refl _)) hz_len
  have BX : Bxs s ca cc "java/lang/Integer" "I" (256 : Int32) (fun j => .int (j - 128)) := Bxs.start (F := .sub (.index 0) (.int (128 : Int32))) (fun idx => ev_ca) Acc hz_lt hz_eq (by decide) (Cond.before_iff.mp (hsets _ (List.mem_of_getElem? (i := 7) rfl))) (fun X j hj hv => eqv_i (own_sub (own_idx hj)) hv)
  obtain ⟨n, o, h1, h2, h3, _, L, rfl, ⟨rfl, N⟩, hq⟩ := rm_law l s _ hw tables_1 i0 i1 w0 w1 w2 ca cc s.heap s.heap.size (Old.start s) S_CONNECTION_REFUSED S_CONNECTION_ERROR S_TIMEOUT S_high S_cache BX p e ha hc hk s m _ below hf ((Spec.applies_iff_loose hf).mp happ).1 ⟨rfl, State.Warmed39.refl s, rfl⟩ trivial
  refine ⟨n, _, h1, h2, h3, hpost _ _ _ _ _ _ ⟨Cond.after_iff.mpr rfl, Cond.after_iff.mpr (eq_i res_at (Term.int_eval (1)) rfl), trivial⟩ ⟨hq.1, hq.2.1, (hq.2.2.sift fun y hy => Or.inr (N y hy)).mono (by decide) (by decide)⟩⟩
theorem main_1_1 : Claimed_1_1 := comes_1 fun _ _ _ _ _ _ h hF => ⟨h.1, hF⟩
theorem main_1_2 : Claimed_1_2 := comes_1 fun _ _ _ _ _ _ h hF => ⟨h.2.1, hF⟩
end Jvm.Pilot.@@N@@
namespace Jvm.Pilot.@@N@@
open Jvm Jvm.ClassFile Sem Op Lib Jvm.Free Jvm.Stand Jvm.Pilot.@@N@@.Jvm.D
/-! MADE BY PROGRAM (witnessworld.py) out of the Statement's table words and the real class files: 19 classes; the members and pool entries that the words name. The judged class is class 1, her method 1. -/
namespace start1
open Jvm.ClassFile
def u (s : String) : CpInfo := .utf8 (stringToUtf16 s)
/-- a pool by its gaps: so many unusable entries, then the entry; so many at the end -/
def gap : Nat → List CpInfo → List CpInfo
  | 0, r => r
  | n + 1, r => .unusable :: gap n r
def poolList (es : List (Nat × CpInfo)) (last : Nat) : List CpInfo := es.foldr (fun e r => gap e.1 (e.2 :: r)) (gap last [])
def pool (es : List (Nat × CpInfo)) (last : Nat) : Array CpInfo := ⟨poolList es last⟩
def fileOf (pool : Array CpInfo) (this : Nat) (attrs : Array Attribute := #[]) (ms : Array MethodInfo := #[]) (fl : Nat := 33) (sup : Nat := 0) (ifs : Array Nat := #[]) (fds : Array FieldInfo := #[]) : ClassFile where
  minorVersion := 0
  majorVersion := 65
  constantPool := pool
  accessFlags := fl
  thisClass := this
  superClass := sup
  interfaces := ifs
  fields := fds
  methods := ms
  attributes := attrs
def plain (name : String) (sup : Option ClassId) : Class where
  name := name
  kind := .ordinary
  loader := none
  accessFlags := 33
  super := sup
  interfaces := #[]
  cf := none
  fields := #[]
  methods := #[]
  instanceTypes := #[]
  staticTypes := #[]
  resolved := #[]
  callSites := []
  init := .initialized
  statics := none
  mirror := none

def pool0 : Array CpInfo := pool [(5, u "<init>"), (0, u "()V"), (1, .class_ 10), (1, u "java/lang/Object")] 113

def k0c0 : Code := { maxStack := 0, maxLocals := 1, code := object_method_1_code, exceptionTable := #[], attributes := #[] }
def k0m0 : Method := { name := "<init>", desc := "()V", sig := { parameters := [], returnType := none }, accessFlags := 1, code := some k0c0 }
/-- java/lang/Object -/
def k0 : Class := { plain "java/lang/Object" none with
  accessFlags := 33
  interfaces := #[]
  cf := some (fileOf pool0 8 #[] #[{ accessFlags := 1, nameIndex := 5, descriptorIndex := 6, attributes := #[] }] 33 0 #[] #[])
  fields := #[]
  methods := #[k0m0]
  instanceTypes := #[]
  staticTypes := #[]
  resolved := Array.replicate 124 none
  statics := none }

def pool1 : Array CpInfo := pool [(2, .class_ 4), (1, u "java/lang/Object"), (0, u "<init>"), (0, u "()V"), (0, .class_ 8), (0, u "com/example/redelivery/redelivery/sender/SendResult"), (0, .methodref 10 11), (0, .class_ 12), (0, .nameAndType 13 14), (0, u "java/lang/Integer"), (0, u "valueOf"), (0, u "(I)Ljava/lang/Integer;"), (0, .methodref 7 16), (0, .nameAndType 5 17), (0, u "(Ljava/lang/Integer;Lcom/example/redelivery/redelivery/sender/SendFailure;)V"), (0, .long 200), (1, .long 100), (1, .methodref 7 23), (0, .nameAndType 24 25), (0, u "succeeded"), (0, u "()Z"), (0, .fieldref 27 28), (0, .class_ 29), (0, .nameAndType 30 31), (0, u "com/example/redelivery/redelivery/sender/SendFailure"), (0, u "CONNECTION_REFUSED"), (0, u "Lcom/example/redelivery/redelivery/sender/SendFailure;"), (0, .fieldref 27 33), (0, .nameAndType 34 31), (0, u "CONNECTION_ERROR"), (0, .fieldref 27 36), (0, .nameAndType 37 31), (0, u "TIMEOUT"), (0, .class_ 39), (0, u "com/example/redelivery/redelivery/sender/SendResultSucceededPinLaw"), (2, u "law"), (0, u "(II)Z")] 3

def k1m0 : Method := { name := "<init>", desc := "()V", sig := { parameters := [], returnType := none }, accessFlags := 1, code := none }
def k1c1 : Code := { maxStack := 4, maxLocals := 7, code := code, exceptionTable := #[], attributes := #[] }
def k1m1 : Method := { name := "law", desc := "(II)Z", sig := { parameters := [.int, .int], returnType := some .boolean }, accessFlags := 9, code := some k1c1 }
/-- com/example/redelivery/redelivery/sender/SendResultSucceededPinLaw -/
def k1 : Class := { plain "com/example/redelivery/redelivery/sender/SendResultSucceededPinLaw" (some 0) with
  accessFlags := 49
  interfaces := #[]
  cf := some (fileOf pool1 38 #[] #[{ accessFlags := 1, nameIndex := 5, descriptorIndex := 6, attributes := #[] }, { accessFlags := 9, nameIndex := 42, descriptorIndex := 43, attributes := #[] }] 49 2 #[] #[])
  fields := #[]
  methods := #[k1m0, k1m1]
  instanceTypes := #[]
  staticTypes := #[]
  resolved := Array.replicate 47 none
  statics := none }

def pool2 : Array CpInfo := pool [(1, .class_ 2), (0, u "java/lang/constant/Constable"), (0, .class_ 4), (0, u "java/lang/Object")] 6

/-- java/lang/constant/Constable -/
def k2 : Class := { plain "java/lang/constant/Constable" (some 0) with
  accessFlags := 1537
  interfaces := #[]
  cf := some (fileOf pool2 1 #[] #[] 1537 3 #[] #[])
  fields := #[]
  methods := #[]
  instanceTypes := #[]
  staticTypes := #[]
  resolved := Array.replicate 11 none
  statics := none }

def pool3 : Array CpInfo := pool [(1, .class_ 2), (0, u "java/lang/Comparable"), (0, .class_ 4), (0, u "java/lang/Object")] 7

/-- java/lang/Comparable -/
def k3 : Class := { plain "java/lang/Comparable" (some 0) with
  accessFlags := 1537
  interfaces := #[]
  cf := some (fileOf pool3 1 #[] #[] 1537 3 #[] #[])
  fields := #[]
  methods := #[]
  instanceTypes := #[]
  staticTypes := #[]
  resolved := Array.replicate 12 none
  statics := none }

def pool4 : Array CpInfo := pool [(1, .class_ 2), (0, u "java/io/Serializable"), (0, .class_ 4), (0, u "java/lang/Object")] 2

/-- java/io/Serializable -/
def k4 : Class := { plain "java/io/Serializable" (some 0) with
  accessFlags := 1537
  interfaces := #[]
  cf := some (fileOf pool4 1 #[] #[] 1537 3 #[] #[])
  fields := #[]
  methods := #[]
  instanceTypes := #[]
  staticTypes := #[]
  resolved := Array.replicate 7 none
  statics := none }

def pool5 : Array CpInfo := pool [(2, .class_ 4), (1, u "java/lang/Enum"), (0, u "name"), (0, u "Ljava/lang/String;"), (2, u "ordinal"), (0, u "I"), (1, .class_ 14), (1, u "java/lang/Object"), (4, u "hash"), (86, .class_ 108), (1, u "java/lang/Enum$EnumDesc"), (2, .class_ 112), (0, u "java/lang/constant/Constable"), (0, .class_ 114), (0, u "java/lang/Comparable"), (0, .class_ 116), (0, u "java/io/Serializable")] 87

/-- java/lang/Enum -/
def k5 : Class := { plain "java/lang/Enum" (some 0) with
  accessFlags := 1057
  interfaces := #[2, 3, 4]
  cf := some (fileOf pool5 2 #[.nestMembers #[106]] #[] 1057 12 #[111, 113, 115] #[{ accessFlags := 18, nameIndex := 5, descriptorIndex := 6, attributes := #[] }, { accessFlags := 18, nameIndex := 9, descriptorIndex := 10, attributes := #[] }, { accessFlags := 2, nameIndex := 19, descriptorIndex := 10, attributes := #[] }])
  fields := #[{ name := "name", type := (.object "java/lang/String"), accessFlags := 18, slot := 0, constantValue := 0 }, { name := "ordinal", type := .int, accessFlags := 18, slot := 1, constantValue := 0 }, { name := "hash", type := .int, accessFlags := 2, slot := 2, constantValue := 0 }]
  methods := #[]
  instanceTypes := #[(.object "java/lang/String"), .int, .int]
  staticTypes := #[]
  resolved := Array.replicate 204 none
  statics := none }

def pool6 : Array CpInfo := pool [(1, .class_ 2), (0, u "com/example/redelivery/redelivery/sender/SendFailure"), (2, u "CONNECTION_REFUSED"), (0, u "Lcom/example/redelivery/redelivery/sender/SendFailure;"), (2, u "CONNECTION_ERROR"), (2, u "TIMEOUT"), (2, u "$VALUES"), (0, u "[Lcom/example/redelivery/redelivery/sender/SendFailure;"), (6, .class_ 25), (1, u "java/lang/Enum"), (8, u "code"), (0, u "Ljava/lang/String;")] 29

/-- com/example/redelivery/redelivery/sender/SendFailure -/
def k6 : Class := { plain "com/example/redelivery/redelivery/sender/SendFailure" (some 5) with
  accessFlags := 16433
  interfaces := #[]
  cf := some (fileOf pool6 1 #[] #[] 16433 23 #[] #[{ accessFlags := 16409, nameIndex := 5, descriptorIndex := 6, attributes := #[] }, { accessFlags := 16409, nameIndex := 9, descriptorIndex := 6, attributes := #[] }, { accessFlags := 16409, nameIndex := 12, descriptorIndex := 6, attributes := #[] }, { accessFlags := 18, nameIndex := 34, descriptorIndex := 35, attributes := #[] }, { accessFlags := 4122, nameIndex := 15, descriptorIndex := 16, attributes := #[] }])
  fields := #[{ name := "CONNECTION_REFUSED", type := (.object "com/example/redelivery/redelivery/sender/SendFailure"), accessFlags := 16409, slot := 0, constantValue := 0 }, { name := "CONNECTION_ERROR", type := (.object "com/example/redelivery/redelivery/sender/SendFailure"), accessFlags := 16409, slot := 1, constantValue := 0 }, { name := "TIMEOUT", type := (.object "com/example/redelivery/redelivery/sender/SendFailure"), accessFlags := 16409, slot := 2, constantValue := 0 }, { name := "code", type := (.object "java/lang/String"), accessFlags := 18, slot := 3, constantValue := 0 }, { name := "$VALUES", type := (.array (.object "com/example/redelivery/redelivery/sender/SendFailure")), accessFlags := 4122, slot := 3, constantValue := 0 }]
  methods := #[]
  instanceTypes := #[(.object "java/lang/String"), .int, .int, (.object "java/lang/String")]
  staticTypes := #[(.object "com/example/redelivery/redelivery/sender/SendFailure"), (.object "com/example/redelivery/redelivery/sender/SendFailure"), (.object "com/example/redelivery/redelivery/sender/SendFailure"), (.array (.object "com/example/redelivery/redelivery/sender/SendFailure"))]
  resolved := Array.replicate 65 none
  statics := some 0 }

def pool7 : Array CpInfo := pool [(1, .methodref 2 3), (0, .class_ 4), (0, .nameAndType 5 6), (0, u "java/lang/Object"), (0, u "<init>"), (0, u "()V"), (0, .class_ 8), (0, u "java/lang/Record")] 13

def k7c0 : Code := { maxStack := 1, maxLocals := 1, code := jdk_30_method_1_code, exceptionTable := #[], attributes := #[] }
def k7m0 : Method := { name := "<init>", desc := "()V", sig := { parameters := [], returnType := none }, accessFlags := 4, code := some k7c0 }
/-- java/lang/Record -/
def k7 : Class := { plain "java/lang/Record" (some 0) with
  accessFlags := 1057
  interfaces := #[]
  cf := some (fileOf pool7 7 #[] #[{ accessFlags := 4, nameIndex := 5, descriptorIndex := 6, attributes := #[] }] 1057 2 #[] #[])
  fields := #[]
  methods := #[k7m0]
  instanceTypes := #[]
  staticTypes := #[]
  resolved := Array.replicate 22 none
  statics := none }

def pool8 : Array CpInfo := pool [(1, .methodref 2 3), (0, .class_ 4), (0, .nameAndType 5 6), (0, u "java/lang/Record"), (0, u "<init>"), (0, u "()V"), (7, .fieldref 15 16), (0, .class_ 17), (0, .nameAndType 18 19), (0, u "com/example/redelivery/redelivery/sender/SendResult"), (0, u "statusCode"), (0, u "Ljava/lang/Integer;"), (0, .fieldref 15 21), (0, .nameAndType 22 23), (0, u "failure"), (0, u "Lcom/example/redelivery/redelivery/sender/SendFailure;"), (1, .class_ 27), (1, u "java/lang/Integer"), (4, u "(Ljava/lang/Integer;Lcom/example/redelivery/redelivery/sender/SendFailure;)V"), (0, .methodref 25 34), (0, .nameAndType 35 36), (0, u "intValue"), (0, u "()I"), (22, u "succeeded"), (0, u "()Z")] 25

def k8c0 : Code := { maxStack := 3, maxLocals := 3, code := prog_10_method_1_code, exceptionTable := #[], attributes := #[] }
def k8m0 : Method := { name := "<init>", desc := "(Ljava/lang/Integer;Lcom/example/redelivery/redelivery/sender/SendFailure;)V", sig := { parameters := [(.object "java/lang/Integer"), (.object "com/example/redelivery/redelivery/sender/SendFailure")], returnType := none }, accessFlags := 1, code := some k8c0 }
def k8c1 : Code := { maxStack := 2, maxLocals := 1, code := prog_10_method_4_code, exceptionTable := #[], attributes := #[] }
def k8m1 : Method := { name := "succeeded", desc := "()Z", sig := { parameters := [], returnType := some .boolean }, accessFlags := 1, code := some k8c1 }
/-- com/example/redelivery/redelivery/sender/SendResult -/
def k8 : Class := { plain "com/example/redelivery/redelivery/sender/SendResult" (some 7) with
  accessFlags := 49
  interfaces := #[]
  cf := some (fileOf pool8 15 #[] #[{ accessFlags := 1, nameIndex := 5, descriptorIndex := 32, attributes := #[] }, { accessFlags := 1, nameIndex := 59, descriptorIndex := 60, attributes := #[] }] 49 2 #[] #[{ accessFlags := 18, nameIndex := 18, descriptorIndex := 19, attributes := #[] }, { accessFlags := 18, nameIndex := 22, descriptorIndex := 23, attributes := #[] }])
  fields := #[{ name := "statusCode", type := (.object "java/lang/Integer"), accessFlags := 18, slot := 0, constantValue := 0 }, { name := "failure", type := (.object "com/example/redelivery/redelivery/sender/SendFailure"), accessFlags := 18, slot := 1, constantValue := 0 }]
  methods := #[k8m0, k8m1]
  instanceTypes := #[(.object "java/lang/Integer"), (.object "com/example/redelivery/redelivery/sender/SendFailure")]
  staticTypes := #[]
  resolved := Array.replicate 86 none
  statics := none }

def pool9 : Array CpInfo := pool [(1, .methodref 2 3), (0, .class_ 4), (0, .nameAndType 5 6), (0, u "java/lang/Object"), (0, u "<init>"), (0, u "()V"), (1, .class_ 10), (1, u "java/lang/Number"), (2, .class_ 14), (0, u "java/io/Serializable"), (0, u "serialVersionUID"), (0, u "J")] 20

def k9c0 : Code := { maxStack := 1, maxLocals := 1, code := jdk_18_method_1_code, exceptionTable := #[], attributes := #[] }
def k9m0 : Method := { name := "<init>", desc := "()V", sig := { parameters := [], returnType := none }, accessFlags := 1, code := some k9c0 }
/-- java/lang/Number -/
def k9 : Class := { plain "java/lang/Number" (some 0) with
  accessFlags := 1057
  interfaces := #[4]
  cf := some (fileOf pool9 8 #[] #[{ accessFlags := 1, nameIndex := 5, descriptorIndex := 6, attributes := #[] }] 1057 2 #[13] #[{ accessFlags := 26, nameIndex := 15, descriptorIndex := 16, attributes := #[] }])
  fields := #[{ name := "serialVersionUID", type := .long, accessFlags := 26, slot := 0, constantValue := 0 }]
  methods := #[k9m0]
  instanceTypes := #[]
  staticTypes := #[.long]
  resolved := Array.replicate 37 none
  statics := none }

def pool10 : Array CpInfo := pool [(1, .class_ 2), (0, u "java/lang/constant/ConstantDesc"), (0, .class_ 4), (0, u "java/lang/Object")] 32

/-- java/lang/constant/ConstantDesc -/
def k10 : Class := { plain "java/lang/constant/ConstantDesc" (some 0) with
  accessFlags := 1537
  interfaces := #[]
  cf := some (fileOf pool10 1 #[] #[] 1537 3 #[] #[])
  fields := #[]
  methods := #[]
  instanceTypes := #[]
  staticTypes := #[]
  resolved := Array.replicate 37 none
  statics := none }

def pool11 : Array CpInfo := pool [(1, .class_ 2), (0, u "java/lang/Integer"), (16, u "digits"), (0, u "[C"), (46, u "<init>"), (17, u "DigitOnes"), (0, u "[B"), (2, u "DigitTens"), (10, .nameAndType 67 101), (0, u "()V"), (19, u "()I"), (65, u "valueOf"), (0, u "(I)Ljava/lang/Integer;"), (0, .class_ 190), (0, u "java/lang/Integer$IntegerCache"), (0, .fieldref 189 192), (0, .nameAndType 193 194), (0, u "high"), (0, u "I"), (0, .fieldref 189 196), (0, .nameAndType 197 198), (0, u "cache"), (0, u "[Ljava/lang/Integer;"), (0, .methodref 1 200), (0, .nameAndType 67 201), (0, u "(I)V"), (0, .methodref 203 100), (0, .class_ 204), (0, u "java/lang/Number"), (0, .fieldref 1 206), (0, .nameAndType 207 194), (0, u "value"), (5, u "intValue"), (88, u "TYPE"), (0, u "Ljava/lang/Class;"), (0, .class_ 305), (0, u "java/lang/Comparable"), (0, .class_ 307), (0, u "java/lang/constant/Constable"), (0, .class_ 309), (0, u "java/lang/constant/ConstantDesc"), (0, u "MIN_VALUE"), (1, u "MAX_VALUE"), (3, u "SIZE"), (1, u "BYTES"), (1, u "serialVersionUID"), (0, u "J")] 131

def k11c0 : Code := { maxStack := 3, maxLocals := 1, code := jdk_33_method_22_code, exceptionTable := #[], attributes := #[] }
def k11m0 : Method := { name := "valueOf", desc := "(I)Ljava/lang/Integer;", sig := { parameters := [.int], returnType := some (.object "java/lang/Integer") }, accessFlags := 9, code := some k11c0 }
def k11c1 : Code := { maxStack := 2, maxLocals := 2, code := jdk_33_method_23_code, exceptionTable := #[], attributes := #[] }
def k11m1 : Method := { name := "<init>", desc := "(I)V", sig := { parameters := [.int], returnType := none }, accessFlags := 1, code := some k11c1 }
def k11c2 : Code := { maxStack := 1, maxLocals := 1, code := jdk_33_method_27_code, exceptionTable := #[], attributes := #[] }
def k11m2 : Method := { name := "intValue", desc := "()I", sig := { parameters := [], returnType := some .int }, accessFlags := 1, code := some k11c2 }
/-- java/lang/Integer -/
def k11 : Class := { plain "java/lang/Integer" (some 9) with
  accessFlags := 49
  interfaces := #[3, 2, 10]
  cf := some (fileOf pool11 1 #[.nestMembers #[189]] #[{ accessFlags := 9, nameIndex := 187, descriptorIndex := 188, attributes := #[] }, { accessFlags := 1, nameIndex := 67, descriptorIndex := 201, attributes := #[] }, { accessFlags := 1, nameIndex := 213, descriptorIndex := 121, attributes := #[] }] 49 203 #[304, 306, 308] #[{ accessFlags := 25, nameIndex := 310, descriptorIndex := 194, attributes := #[] }, { accessFlags := 25, nameIndex := 312, descriptorIndex := 194, attributes := #[] }, { accessFlags := 25, nameIndex := 302, descriptorIndex := 303, attributes := #[] }, { accessFlags := 24, nameIndex := 19, descriptorIndex := 20, attributes := #[] }, { accessFlags := 24, nameIndex := 89, descriptorIndex := 86, attributes := #[] }, { accessFlags := 24, nameIndex := 85, descriptorIndex := 86, attributes := #[] }, { accessFlags := 18, nameIndex := 207, descriptorIndex := 194, attributes := #[] }, { accessFlags := 25, nameIndex := 316, descriptorIndex := 194, attributes := #[] }, { accessFlags := 25, nameIndex := 318, descriptorIndex := 194, attributes := #[] }, { accessFlags := 26, nameIndex := 320, descriptorIndex := 321, attributes := #[] }])
  fields := #[{ name := "MIN_VALUE", type := .int, accessFlags := 25, slot := 0, constantValue := 0 }, { name := "MAX_VALUE", type := .int, accessFlags := 25, slot := 1, constantValue := 0 }, { name := "TYPE", type := (.object "java/lang/Class"), accessFlags := 25, slot := 2, constantValue := 0 }, { name := "digits", type := (.array .char), accessFlags := 24, slot := 3, constantValue := 0 }, { name := "DigitTens", type := (.array .byte), accessFlags := 24, slot := 4, constantValue := 0 }, { name := "DigitOnes", type := (.array .byte), accessFlags := 24, slot := 5, constantValue := 0 }, { name := "value", type := .int, accessFlags := 18, slot := 0, constantValue := 0 }, { name := "SIZE", type := .int, accessFlags := 25, slot := 6, constantValue := 0 }, { name := "BYTES", type := .int, accessFlags := 25, slot := 7, constantValue := 0 }, { name := "serialVersionUID", type := .long, accessFlags := 26, slot := 8, constantValue := 0 }]
  methods := #[k11m0, k11m1, k11m2]
  instanceTypes := #[.int]
  staticTypes := #[.int, .int, (.object "java/lang/Class"), (.array .char), (.array .byte), (.array .byte), .int, .int, .long]
  resolved := Array.replicate 453 none
  statics := none }

def pool12 : Array CpInfo := pool [(2, .class_ 4), (1, u "java/lang/Object"), (0, u "<init>"), (0, u "()V"), (0, .class_ 8), (0, u "java/lang/Integer"), (7, .class_ 18), (1, u "java/lang/Integer$IntegerCache"), (0, u "$assertionsDisabled"), (0, u "Z"), (26, u "high"), (0, u "I"), (8, u "archivedCache"), (0, u "[Ljava/lang/Integer;"), (12, u "cache"), (0, u "low")] 27

def k12m0 : Method := { name := "<init>", desc := "()V", sig := { parameters := [], returnType := none }, accessFlags := 2, code := none }
/-- java/lang/Integer$IntegerCache -/
def k12 : Class := { plain "java/lang/Integer$IntegerCache" (some 0) with
  accessFlags := 48
  interfaces := #[]
  cf := some (fileOf pool12 16 #[.nestHost 7] #[{ accessFlags := 2, nameIndex := 5, descriptorIndex := 6, attributes := #[] }] 48 2 #[] #[{ accessFlags := 24, nameIndex := 72, descriptorIndex := 48, attributes := #[] }, { accessFlags := 24, nameIndex := 47, descriptorIndex := 48, attributes := #[] }, { accessFlags := 24, nameIndex := 71, descriptorIndex := 58, attributes := #[] }, { accessFlags := 8, nameIndex := 57, descriptorIndex := 58, attributes := #[] }, { accessFlags := 4120, nameIndex := 19, descriptorIndex := 20, attributes := #[] }])
  fields := #[{ name := "low", type := .int, accessFlags := 24, slot := 0, constantValue := 0 }, { name := "high", type := .int, accessFlags := 24, slot := 1, constantValue := 0 }, { name := "cache", type := (.array (.object "java/lang/Integer")), accessFlags := 24, slot := 2, constantValue := 0 }, { name := "archivedCache", type := (.array (.object "java/lang/Integer")), accessFlags := 8, slot := 3, constantValue := 0 }, { name := "$assertionsDisabled", type := .boolean, accessFlags := 4120, slot := 4, constantValue := 0 }]
  methods := #[k12m0]
  instanceTypes := #[]
  staticTypes := #[.int, .int, (.array (.object "java/lang/Integer")), (.array (.object "java/lang/Integer")), .boolean]
  resolved := Array.replicate 100 none
  statics := some 1 }

def pool13 : Array CpInfo := pool [(1, u "java/lang/Cloneable"), (0, .class_ 1), (0, u "java/lang/Object"), (0, .class_ 3)] 3

/-- java/lang/Cloneable -/
def k13 : Class := { plain "java/lang/Cloneable" (some 0) with
  accessFlags := 1537
  interfaces := #[]
  cf := some (fileOf pool13 2 #[] #[] 1537 4 #[] #[])
  fields := #[]
  methods := #[]
  instanceTypes := #[]
  staticTypes := #[]
  resolved := Array.replicate 8 none
  statics := none }

/-- the primitive byte -/
def k14 : Class := { plain "byte" none with kind := .primitive 'B', accessFlags := 0x411 }
/-- [B -/
def k15 : Class := { plain "[B" (some 0) with kind := .array 14 .byte, interfaces := #[13, 4], accessFlags := 1041 }

/-- the primitive int -/
def k16 : Class := { plain "int" none with kind := .primitive 'I', accessFlags := 0x411 }
/-- [I -/
def k17 : Class := { plain "[I" (some 0) with kind := .array 16 .int, interfaces := #[13, 4], accessFlags := 1041 }

/-- [Ljava/lang/Integer; -/
def k18 : Class := { plain "[Ljava/lang/Integer;" (some 0) with kind := .array 11 (.object "java/lang/Integer"), interfaces := #[13, 4], accessFlags := 1041 }

def heap : Heap := #[{ cls := 6, slots := #[.ref 259, .ref 260, .ref 261, .null], vm := .statics 6 },
  { cls := 12, slots := #[.int 0, .int 127, .ref 2, .null, .int 0], vm := .statics 12 },
  { cls := 18, slots := #[.ref 3, .ref 4, .ref 5, .ref 6, .ref 7, .ref 8, .ref 9, .ref 10, .ref 11, .ref 12, .ref 13, .ref 14, .ref 15, .ref 16, .ref 17, .ref 18, .ref 19, .ref 20, .ref 21, .ref 22, .ref 23, .ref 24, .ref 25, .ref 26, .ref 27, .ref 28, .ref 29, .ref 30, .ref 31, .ref 32, .ref 33, .ref 34, .ref 35, .ref 36, .ref 37, .ref 38, .ref 39, .ref 40, .ref 41, .ref 42, .ref 43, .ref 44, .ref 45, .ref 46, .ref 47, .ref 48, .ref 49, .ref 50, .ref 51, .ref 52, .ref 53, .ref 54, .ref 55, .ref 56, .ref 57, .ref 58, .ref 59, .ref 60, .ref 61, .ref 62, .ref 63, .ref 64, .ref 65, .ref 66, .ref 67, .ref 68, .ref 69, .ref 70, .ref 71, .ref 72, .ref 73, .ref 74, .ref 75, .ref 76, .ref 77, .ref 78, .ref 79, .ref 80, .ref 81, .ref 82, .ref 83, .ref 84, .ref 85, .ref 86, .ref 87, .ref 88, .ref 89, .ref 90, .ref 91, .ref 92, .ref 93, .ref 94, .ref 95, .ref 96, .ref 97, .ref 98, .ref 99, .ref 100, .ref 101, .ref 102, .ref 103, .ref 104, .ref 105, .ref 106, .ref 107, .ref 108, .ref 109, .ref 110, .ref 111, .ref 112, .ref 113, .ref 114, .ref 115, .ref 116, .ref 117, .ref 118, .ref 119, .ref 120, .ref 121, .ref 122, .ref 123, .ref 124, .ref 125, .ref 126, .ref 127, .ref 128, .ref 129, .ref 130, .ref 131, .ref 132, .ref 133, .ref 134, .ref 135, .ref 136, .ref 137, .ref 138, .ref 139, .ref 140, .ref 141, .ref 142, .ref 143, .ref 144, .ref 145, .ref 146, .ref 147, .ref 148, .ref 149, .ref 150, .ref 151, .ref 152, .ref 153, .ref 154, .ref 155, .ref 156, .ref 157, .ref 158, .ref 159, .ref 160, .ref 161, .ref 162, .ref 163, .ref 164, .ref 165, .ref 166, .ref 167, .ref 168, .ref 169, .ref 170, .ref 171, .ref 172, .ref 173, .ref 174, .ref 175, .ref 176, .ref 177, .ref 178, .ref 179, .ref 180, .ref 181, .ref 182, .ref 183, .ref 184, .ref 185, .ref 186, .ref 187, .ref 188, .ref 189, .ref 190, .ref 191, .ref 192, .ref 193, .ref 194, .ref 195, .ref 196, .ref 197, .ref 198, .ref 199, .ref 200, .ref 201, .ref 202, .ref 203, .ref 204, .ref 205, .ref 206, .ref 207, .ref 208, .ref 209, .ref 210, .ref 211, .ref 212, .ref 213, .ref 214, .ref 215, .ref 216, .ref 217, .ref 218, .ref 219, .ref 220, .ref 221, .ref 222, .ref 223, .ref 224, .ref 225, .ref 226, .ref 227, .ref 228, .ref 229, .ref 230, .ref 231, .ref 232, .ref 233, .ref 234, .ref 235, .ref 236, .ref 237, .ref 238, .ref 239, .ref 240, .ref 241, .ref 242, .ref 243, .ref 244, .ref 245, .ref 246, .ref 247, .ref 248, .ref 249, .ref 250, .ref 251, .ref 252, .ref 253, .ref 254, .ref 255, .ref 256, .ref 257, .ref 258], vm := .none },
  { cls := 11, slots := #[.int (-128)], vm := .none },
  { cls := 11, slots := #[.int (-127)], vm := .none },
  { cls := 11, slots := #[.int (-126)], vm := .none },
  { cls := 11, slots := #[.int (-125)], vm := .none },
  { cls := 11, slots := #[.int (-124)], vm := .none },
  { cls := 11, slots := #[.int (-123)], vm := .none },
  { cls := 11, slots := #[.int (-122)], vm := .none },
  { cls := 11, slots := #[.int (-121)], vm := .none },
  { cls := 11, slots := #[.int (-120)], vm := .none },
  { cls := 11, slots := #[.int (-119)], vm := .none },
  { cls := 11, slots := #[.int (-118)], vm := .none },
  { cls := 11, slots := #[.int (-117)], vm := .none },
  { cls := 11, slots := #[.int (-116)], vm := .none },
  { cls := 11, slots := #[.int (-115)], vm := .none },
  { cls := 11, slots := #[.int (-114)], vm := .none },
  { cls := 11, slots := #[.int (-113)], vm := .none },
  { cls := 11, slots := #[.int (-112)], vm := .none },
  { cls := 11, slots := #[.int (-111)], vm := .none },
  { cls := 11, slots := #[.int (-110)], vm := .none },
  { cls := 11, slots := #[.int (-109)], vm := .none },
  { cls := 11, slots := #[.int (-108)], vm := .none },
  { cls := 11, slots := #[.int (-107)], vm := .none },
  { cls := 11, slots := #[.int (-106)], vm := .none },
  { cls := 11, slots := #[.int (-105)], vm := .none },
  { cls := 11, slots := #[.int (-104)], vm := .none },
  { cls := 11, slots := #[.int (-103)], vm := .none },
  { cls := 11, slots := #[.int (-102)], vm := .none },
  { cls := 11, slots := #[.int (-101)], vm := .none },
  { cls := 11, slots := #[.int (-100)], vm := .none },
  { cls := 11, slots := #[.int (-99)], vm := .none },
  { cls := 11, slots := #[.int (-98)], vm := .none },
  { cls := 11, slots := #[.int (-97)], vm := .none },
  { cls := 11, slots := #[.int (-96)], vm := .none },
  { cls := 11, slots := #[.int (-95)], vm := .none },
  { cls := 11, slots := #[.int (-94)], vm := .none },
  { cls := 11, slots := #[.int (-93)], vm := .none },
  { cls := 11, slots := #[.int (-92)], vm := .none },
  { cls := 11, slots := #[.int (-91)], vm := .none },
  { cls := 11, slots := #[.int (-90)], vm := .none },
  { cls := 11, slots := #[.int (-89)], vm := .none },
  { cls := 11, slots := #[.int (-88)], vm := .none },
  { cls := 11, slots := #[.int (-87)], vm := .none },
  { cls := 11, slots := #[.int (-86)], vm := .none },
  { cls := 11, slots := #[.int (-85)], vm := .none },
  { cls := 11, slots := #[.int (-84)], vm := .none },
  { cls := 11, slots := #[.int (-83)], vm := .none },
  { cls := 11, slots := #[.int (-82)], vm := .none },
  { cls := 11, slots := #[.int (-81)], vm := .none },
  { cls := 11, slots := #[.int (-80)], vm := .none },
  { cls := 11, slots := #[.int (-79)], vm := .none },
  { cls := 11, slots := #[.int (-78)], vm := .none },
  { cls := 11, slots := #[.int (-77)], vm := .none },
  { cls := 11, slots := #[.int (-76)], vm := .none },
  { cls := 11, slots := #[.int (-75)], vm := .none },
  { cls := 11, slots := #[.int (-74)], vm := .none },
  { cls := 11, slots := #[.int (-73)], vm := .none },
  { cls := 11, slots := #[.int (-72)], vm := .none },
  { cls := 11, slots := #[.int (-71)], vm := .none },
  { cls := 11, slots := #[.int (-70)], vm := .none },
  { cls := 11, slots := #[.int (-69)], vm := .none },
  { cls := 11, slots := #[.int (-68)], vm := .none },
  { cls := 11, slots := #[.int (-67)], vm := .none },
  { cls := 11, slots := #[.int (-66)], vm := .none },
  { cls := 11, slots := #[.int (-65)], vm := .none },
  { cls := 11, slots := #[.int (-64)], vm := .none },
  { cls := 11, slots := #[.int (-63)], vm := .none },
  { cls := 11, slots := #[.int (-62)], vm := .none },
  { cls := 11, slots := #[.int (-61)], vm := .none },
  { cls := 11, slots := #[.int (-60)], vm := .none },
  { cls := 11, slots := #[.int (-59)], vm := .none },
  { cls := 11, slots := #[.int (-58)], vm := .none },
  { cls := 11, slots := #[.int (-57)], vm := .none },
  { cls := 11, slots := #[.int (-56)], vm := .none },
  { cls := 11, slots := #[.int (-55)], vm := .none },
  { cls := 11, slots := #[.int (-54)], vm := .none },
  { cls := 11, slots := #[.int (-53)], vm := .none },
  { cls := 11, slots := #[.int (-52)], vm := .none },
  { cls := 11, slots := #[.int (-51)], vm := .none },
  { cls := 11, slots := #[.int (-50)], vm := .none },
  { cls := 11, slots := #[.int (-49)], vm := .none },
  { cls := 11, slots := #[.int (-48)], vm := .none },
  { cls := 11, slots := #[.int (-47)], vm := .none },
  { cls := 11, slots := #[.int (-46)], vm := .none },
  { cls := 11, slots := #[.int (-45)], vm := .none },
  { cls := 11, slots := #[.int (-44)], vm := .none },
  { cls := 11, slots := #[.int (-43)], vm := .none },
  { cls := 11, slots := #[.int (-42)], vm := .none },
  { cls := 11, slots := #[.int (-41)], vm := .none },
  { cls := 11, slots := #[.int (-40)], vm := .none },
  { cls := 11, slots := #[.int (-39)], vm := .none },
  { cls := 11, slots := #[.int (-38)], vm := .none },
  { cls := 11, slots := #[.int (-37)], vm := .none },
  { cls := 11, slots := #[.int (-36)], vm := .none },
  { cls := 11, slots := #[.int (-35)], vm := .none },
  { cls := 11, slots := #[.int (-34)], vm := .none },
  { cls := 11, slots := #[.int (-33)], vm := .none },
  { cls := 11, slots := #[.int (-32)], vm := .none },
  { cls := 11, slots := #[.int (-31)], vm := .none },
  { cls := 11, slots := #[.int (-30)], vm := .none },
  { cls := 11, slots := #[.int (-29)], vm := .none },
  { cls := 11, slots := #[.int (-28)], vm := .none },
  { cls := 11, slots := #[.int (-27)], vm := .none },
  { cls := 11, slots := #[.int (-26)], vm := .none },
  { cls := 11, slots := #[.int (-25)], vm := .none },
  { cls := 11, slots := #[.int (-24)], vm := .none },
  { cls := 11, slots := #[.int (-23)], vm := .none },
  { cls := 11, slots := #[.int (-22)], vm := .none },
  { cls := 11, slots := #[.int (-21)], vm := .none },
  { cls := 11, slots := #[.int (-20)], vm := .none },
  { cls := 11, slots := #[.int (-19)], vm := .none },
  { cls := 11, slots := #[.int (-18)], vm := .none },
  { cls := 11, slots := #[.int (-17)], vm := .none },
  { cls := 11, slots := #[.int (-16)], vm := .none },
  { cls := 11, slots := #[.int (-15)], vm := .none },
  { cls := 11, slots := #[.int (-14)], vm := .none },
  { cls := 11, slots := #[.int (-13)], vm := .none },
  { cls := 11, slots := #[.int (-12)], vm := .none },
  { cls := 11, slots := #[.int (-11)], vm := .none },
  { cls := 11, slots := #[.int (-10)], vm := .none },
  { cls := 11, slots := #[.int (-9)], vm := .none },
  { cls := 11, slots := #[.int (-8)], vm := .none },
  { cls := 11, slots := #[.int (-7)], vm := .none },
  { cls := 11, slots := #[.int (-6)], vm := .none },
  { cls := 11, slots := #[.int (-5)], vm := .none },
  { cls := 11, slots := #[.int (-4)], vm := .none },
  { cls := 11, slots := #[.int (-3)], vm := .none },
  { cls := 11, slots := #[.int (-2)], vm := .none },
  { cls := 11, slots := #[.int (-1)], vm := .none },
  { cls := 11, slots := #[.int (0)], vm := .none },
  { cls := 11, slots := #[.int (1)], vm := .none },
  { cls := 11, slots := #[.int (2)], vm := .none },
  { cls := 11, slots := #[.int (3)], vm := .none },
  { cls := 11, slots := #[.int (4)], vm := .none },
  { cls := 11, slots := #[.int (5)], vm := .none },
  { cls := 11, slots := #[.int (6)], vm := .none },
  { cls := 11, slots := #[.int (7)], vm := .none },
  { cls := 11, slots := #[.int (8)], vm := .none },
  { cls := 11, slots := #[.int (9)], vm := .none },
  { cls := 11, slots := #[.int (10)], vm := .none },
  { cls := 11, slots := #[.int (11)], vm := .none },
  { cls := 11, slots := #[.int (12)], vm := .none },
  { cls := 11, slots := #[.int (13)], vm := .none },
  { cls := 11, slots := #[.int (14)], vm := .none },
  { cls := 11, slots := #[.int (15)], vm := .none },
  { cls := 11, slots := #[.int (16)], vm := .none },
  { cls := 11, slots := #[.int (17)], vm := .none },
  { cls := 11, slots := #[.int (18)], vm := .none },
  { cls := 11, slots := #[.int (19)], vm := .none },
  { cls := 11, slots := #[.int (20)], vm := .none },
  { cls := 11, slots := #[.int (21)], vm := .none },
  { cls := 11, slots := #[.int (22)], vm := .none },
  { cls := 11, slots := #[.int (23)], vm := .none },
  { cls := 11, slots := #[.int (24)], vm := .none },
  { cls := 11, slots := #[.int (25)], vm := .none },
  { cls := 11, slots := #[.int (26)], vm := .none },
  { cls := 11, slots := #[.int (27)], vm := .none },
  { cls := 11, slots := #[.int (28)], vm := .none },
  { cls := 11, slots := #[.int (29)], vm := .none },
  { cls := 11, slots := #[.int (30)], vm := .none },
  { cls := 11, slots := #[.int (31)], vm := .none },
  { cls := 11, slots := #[.int (32)], vm := .none },
  { cls := 11, slots := #[.int (33)], vm := .none },
  { cls := 11, slots := #[.int (34)], vm := .none },
  { cls := 11, slots := #[.int (35)], vm := .none },
  { cls := 11, slots := #[.int (36)], vm := .none },
  { cls := 11, slots := #[.int (37)], vm := .none },
  { cls := 11, slots := #[.int (38)], vm := .none },
  { cls := 11, slots := #[.int (39)], vm := .none },
  { cls := 11, slots := #[.int (40)], vm := .none },
  { cls := 11, slots := #[.int (41)], vm := .none },
  { cls := 11, slots := #[.int (42)], vm := .none },
  { cls := 11, slots := #[.int (43)], vm := .none },
  { cls := 11, slots := #[.int (44)], vm := .none },
  { cls := 11, slots := #[.int (45)], vm := .none },
  { cls := 11, slots := #[.int (46)], vm := .none },
  { cls := 11, slots := #[.int (47)], vm := .none },
  { cls := 11, slots := #[.int (48)], vm := .none },
  { cls := 11, slots := #[.int (49)], vm := .none },
  { cls := 11, slots := #[.int (50)], vm := .none },
  { cls := 11, slots := #[.int (51)], vm := .none },
  { cls := 11, slots := #[.int (52)], vm := .none },
  { cls := 11, slots := #[.int (53)], vm := .none },
  { cls := 11, slots := #[.int (54)], vm := .none },
  { cls := 11, slots := #[.int (55)], vm := .none },
  { cls := 11, slots := #[.int (56)], vm := .none },
  { cls := 11, slots := #[.int (57)], vm := .none },
  { cls := 11, slots := #[.int (58)], vm := .none },
  { cls := 11, slots := #[.int (59)], vm := .none },
  { cls := 11, slots := #[.int (60)], vm := .none },
  { cls := 11, slots := #[.int (61)], vm := .none },
  { cls := 11, slots := #[.int (62)], vm := .none },
  { cls := 11, slots := #[.int (63)], vm := .none },
  { cls := 11, slots := #[.int (64)], vm := .none },
  { cls := 11, slots := #[.int (65)], vm := .none },
  { cls := 11, slots := #[.int (66)], vm := .none },
  { cls := 11, slots := #[.int (67)], vm := .none },
  { cls := 11, slots := #[.int (68)], vm := .none },
  { cls := 11, slots := #[.int (69)], vm := .none },
  { cls := 11, slots := #[.int (70)], vm := .none },
  { cls := 11, slots := #[.int (71)], vm := .none },
  { cls := 11, slots := #[.int (72)], vm := .none },
  { cls := 11, slots := #[.int (73)], vm := .none },
  { cls := 11, slots := #[.int (74)], vm := .none },
  { cls := 11, slots := #[.int (75)], vm := .none },
  { cls := 11, slots := #[.int (76)], vm := .none },
  { cls := 11, slots := #[.int (77)], vm := .none },
  { cls := 11, slots := #[.int (78)], vm := .none },
  { cls := 11, slots := #[.int (79)], vm := .none },
  { cls := 11, slots := #[.int (80)], vm := .none },
  { cls := 11, slots := #[.int (81)], vm := .none },
  { cls := 11, slots := #[.int (82)], vm := .none },
  { cls := 11, slots := #[.int (83)], vm := .none },
  { cls := 11, slots := #[.int (84)], vm := .none },
  { cls := 11, slots := #[.int (85)], vm := .none },
  { cls := 11, slots := #[.int (86)], vm := .none },
  { cls := 11, slots := #[.int (87)], vm := .none },
  { cls := 11, slots := #[.int (88)], vm := .none },
  { cls := 11, slots := #[.int (89)], vm := .none },
  { cls := 11, slots := #[.int (90)], vm := .none },
  { cls := 11, slots := #[.int (91)], vm := .none },
  { cls := 11, slots := #[.int (92)], vm := .none },
  { cls := 11, slots := #[.int (93)], vm := .none },
  { cls := 11, slots := #[.int (94)], vm := .none },
  { cls := 11, slots := #[.int (95)], vm := .none },
  { cls := 11, slots := #[.int (96)], vm := .none },
  { cls := 11, slots := #[.int (97)], vm := .none },
  { cls := 11, slots := #[.int (98)], vm := .none },
  { cls := 11, slots := #[.int (99)], vm := .none },
  { cls := 11, slots := #[.int (100)], vm := .none },
  { cls := 11, slots := #[.int (101)], vm := .none },
  { cls := 11, slots := #[.int (102)], vm := .none },
  { cls := 11, slots := #[.int (103)], vm := .none },
  { cls := 11, slots := #[.int (104)], vm := .none },
  { cls := 11, slots := #[.int (105)], vm := .none },
  { cls := 11, slots := #[.int (106)], vm := .none },
  { cls := 11, slots := #[.int (107)], vm := .none },
  { cls := 11, slots := #[.int (108)], vm := .none },
  { cls := 11, slots := #[.int (109)], vm := .none },
  { cls := 11, slots := #[.int (110)], vm := .none },
  { cls := 11, slots := #[.int (111)], vm := .none },
  { cls := 11, slots := #[.int (112)], vm := .none },
  { cls := 11, slots := #[.int (113)], vm := .none },
  { cls := 11, slots := #[.int (114)], vm := .none },
  { cls := 11, slots := #[.int (115)], vm := .none },
  { cls := 11, slots := #[.int (116)], vm := .none },
  { cls := 11, slots := #[.int (117)], vm := .none },
  { cls := 11, slots := #[.int (118)], vm := .none },
  { cls := 11, slots := #[.int (119)], vm := .none },
  { cls := 11, slots := #[.int (120)], vm := .none },
  { cls := 11, slots := #[.int (121)], vm := .none },
  { cls := 11, slots := #[.int (122)], vm := .none },
  { cls := 11, slots := #[.int (123)], vm := .none },
  { cls := 11, slots := #[.int (124)], vm := .none },
  { cls := 11, slots := #[.int (125)], vm := .none },
  { cls := 11, slots := #[.int (126)], vm := .none },
  { cls := 11, slots := #[.int (127)], vm := .none },
  { cls := 6, slots := #[.null, .int 0, .int 0, .null], vm := .none },
  { cls := 6, slots := #[.null, .int 1, .int 0, .null], vm := .none },
  { cls := 6, slots := #[.null, .int 2, .int 0, .null], vm := .none }]
def classes : Array Class := #[k0, k1, k2, k3, k4, k5, k6, k7, k8, k9, k10, k11, k12, k13, k14, k15, k16, k17, k18]
def interned : List (Array UInt16 × Addr) := []
def slotsUsed : Nat := 533
def theMethod : MethodId := ⟨1, 1⟩
def args0 : Array Value := #[.int 204, .int 0]
def aboutOver (below : List Frame) : State where
  vm := { classes := classes, interned := interned.toArray }
  heap := heap
  slotsUsed := slotsUsed
  threads := #[{ frames := .invoking theMethod args0 :: below }]
def below0 : List Frame := [.native { method := ⟨0, 0⟩, args := #[] }]
def about1 : State := aboutOver below0
def p0 : Program := .bare "" "" ""
def e0 : Env := launch0.env 0 0 0
theorem w_frames : about1.frames = Frame.invoking theMethod args0 :: below0 := rfl
set_option maxRecDepth 65536 in
theorem w_args : argsFit about1.vm theMethod args0 = true := by decide +kernel
set_option maxRecDepth 65536 in
theorem w_heap : heapFits about1 = true := by decide +kernel
set_option maxRecDepth 65536 in
theorem w_runnable : about1.curStatus? = some .runnable := by decide +kernel
set_option maxRecDepth 65536 in
theorem w_alone : about1.alone = true := by decide +kernel
set_option maxRecDepth 65536 in
theorem w_named : about1.methodNamed? x = some theMethod := by decide +kernel
set_option maxRecDepth 65536 in
theorem w_hears : about1.hears theMethod below0 = true := by decide +kernel
set_option maxRecDepth 65536 in
theorem w_ripe : about1.ripe theMethod args0 below0 = true := by decide +kernel
theorem w_running : about1.status = .running := rfl
set_option maxRecDepth 65536 in
theorem w_room : about1.hasRoom e0.platform room_1 = true :=
  launch0.hasRoom_least _ room_1 (by decide +kernel) (by decide +kernel) (by decide +kernel) (by decide +kernel) (by decide +kernel) (by decide +kernel)
theorem allAtoms_all (ts : List Jvm.Cond) (a : Array Jvm.Value) (st : Jvm.State) : (allAtoms ts).before a st = ts.all (fun c => c.before a st) := by
  induction ts with
  | nil => rfl
  | cons c t ih =>
    show (Jvm.Cond.and c (allAtoms t)).before a st = _
    rw [Jvm.Cond.before_and, ih, List.all_cons]
def words1 : List Jvm.Cond := Jvm.Cond.code x code maxLocals ret :: tables_1
/-- a 'code' word, met by the world's own term for the bytes: nothing is compared byte by byte -/
theorem code_word {y : MethodName} {bytes : ByteArray} {mx : Nat} {rt : Option FieldType} {a : Array Value} {s : State} {m : MethodId} {meth : Method} {c : Code} (h1 : s.methodNamed? y = some m) (h2 : s.vm.method? m = some meth) (h3 : meth.code = some c) (h4 : c.code = bytes)
    (h5 : (c.maxLocals == mx && c.exceptionTable.isEmpty && decide (c.maxStack ≤ mostOperands) && decide (meth.sig.returnType = rt) && !meth.locks && decide (parseMethodDescriptor y.desc = some meth.sig)) = true) : (Jvm.Cond.code y bytes mx rt).before a s = true := by
  simp only [Bool.and_eq_true, beq_iff_eq, Bool.not_eq_true', decide_eq_true_eq] at h5
  obtain ⟨⟨⟨⟨⟨g1, g2⟩, g3⟩, g4⟩, g5⟩, g6⟩ := h5
  simp [Cond.before, Cond.holds, Cond.value, h1, h2, h3, h4, g1, g2, g3, g4, g5, g6]
def isCode : Jvm.Cond → Bool
  | .code _ _ _ _ => true
  | _ => false
theorem all_split {L : List Jvm.Cond} {P : Jvm.Cond → Bool} (h1 : L.all (fun c => isCode c || P c) = true) (h2 : ∀ c ∈ L.filter isCode, P c = true) : L.all P = true := by
  refine List.all_eq_true.mpr fun c hc => ?_
  have h := List.all_eq_true.mp h1 c hc
  rcases Bool.eq_false_or_eq_true (isCode c) with hi | hi
  · exact h2 c (List.mem_filter.mpr ⟨hc, hi⟩)
  · simpa [hi] using h
set_option maxRecDepth 65536 in
theorem w_c0 : (Jvm.Cond.code x code maxLocals ret).before args0 about1 = true := code_word (m := ⟨1, 1⟩) (meth := k1m1) (c := k1c1) (by decide +kernel) rfl rfl rfl (by decide +kernel)
set_option maxRecDepth 65536 in
theorem w_c1 : (Jvm.Cond.code ({ cls := "com/example/redelivery/redelivery/sender/SendResult", name := "<init>", desc := "(Ljava/lang/Integer;Lcom/example/redelivery/redelivery/sender/SendFailure;)V" } : Jvm.MethodName) prog_10_method_1_code (3 : Nat) (Option.none : Option Jvm.ClassFile.FieldType)).before args0 about1 = true := code_word (m := ⟨8, 0⟩) (meth := k8m0) (c := k8c0) (by decide +kernel) rfl rfl rfl (by decide +kernel)
set_option maxRecDepth 65536 in
theorem w_c2 : (Jvm.Cond.code ({ cls := "java/lang/Record", name := "<init>", desc := "()V" } : Jvm.MethodName) jdk_30_method_1_code (1 : Nat) (Option.none : Option Jvm.ClassFile.FieldType)).before args0 about1 = true := code_word (m := ⟨7, 0⟩) (meth := k7m0) (c := k7c0) (by decide +kernel) rfl rfl rfl (by decide +kernel)
set_option maxRecDepth 65536 in
theorem w_c3 : (Jvm.Cond.code ({ cls := "java/lang/Object", name := "<init>", desc := "()V" } : Jvm.MethodName) object_method_1_code (1 : Nat) (Option.none : Option Jvm.ClassFile.FieldType)).before args0 about1 = true := code_word (m := ⟨0, 0⟩) (meth := k0m0) (c := k0c0) (by decide +kernel) rfl rfl rfl (by decide +kernel)
set_option maxRecDepth 65536 in
theorem w_c4 : (Jvm.Cond.code ({ cls := "com/example/redelivery/redelivery/sender/SendResult", name := "succeeded", desc := "()Z" } : Jvm.MethodName) prog_10_method_4_code (1 : Nat) (Option.some Jvm.ClassFile.FieldType.boolean)).before args0 about1 = true := code_word (m := ⟨8, 1⟩) (meth := k8m1) (c := k8c1) (by decide +kernel) rfl rfl rfl (by decide +kernel)
set_option maxRecDepth 65536 in
theorem w_c5 : (Jvm.Cond.code ({ cls := "java/lang/Integer", name := "valueOf", desc := "(I)Ljava/lang/Integer;" } : Jvm.MethodName) jdk_33_method_22_code (1 : Nat) (Option.some (Jvm.ClassFile.FieldType.object "java/lang/Integer"))).before args0 about1 = true := code_word (m := ⟨11, 0⟩) (meth := k11m0) (c := k11c0) (by decide +kernel) rfl rfl rfl (by decide +kernel)
set_option maxRecDepth 65536 in
theorem w_c6 : (Jvm.Cond.code ({ cls := "java/lang/Integer", name := "<init>", desc := "(I)V" } : Jvm.MethodName) jdk_33_method_23_code (2 : Nat) (Option.none : Option Jvm.ClassFile.FieldType)).before args0 about1 = true := code_word (m := ⟨11, 1⟩) (meth := k11m1) (c := k11c1) (by decide +kernel) rfl rfl rfl (by decide +kernel)
set_option maxRecDepth 65536 in
theorem w_c7 : (Jvm.Cond.code ({ cls := "java/lang/Number", name := "<init>", desc := "()V" } : Jvm.MethodName) jdk_18_method_1_code (1 : Nat) (Option.none : Option Jvm.ClassFile.FieldType)).before args0 about1 = true := code_word (m := ⟨9, 0⟩) (meth := k9m0) (c := k9c0) (by decide +kernel) rfl rfl rfl (by decide +kernel)
set_option maxRecDepth 65536 in
theorem w_c8 : (Jvm.Cond.code ({ cls := "java/lang/Integer", name := "intValue", desc := "()I" } : Jvm.MethodName) jdk_33_method_27_code (1 : Nat) (Option.some Jvm.ClassFile.FieldType.int)).before args0 about1 = true := code_word (m := ⟨11, 2⟩) (meth := k11m2) (c := k11c2) (by decide +kernel) rfl rfl rfl (by decide +kernel)
def codes1 : List Jvm.Cond := [Jvm.Cond.code x code maxLocals ret, Jvm.Cond.code ({ cls := "com/example/redelivery/redelivery/sender/SendResult", name := "<init>", desc := "(Ljava/lang/Integer;Lcom/example/redelivery/redelivery/sender/SendFailure;)V" } : Jvm.MethodName) prog_10_method_1_code (3 : Nat) (Option.none : Option Jvm.ClassFile.FieldType), Jvm.Cond.code ({ cls := "java/lang/Record", name := "<init>", desc := "()V" } : Jvm.MethodName) jdk_30_method_1_code (1 : Nat) (Option.none : Option Jvm.ClassFile.FieldType), Jvm.Cond.code ({ cls := "java/lang/Object", name := "<init>", desc := "()V" } : Jvm.MethodName) object_method_1_code (1 : Nat) (Option.none : Option Jvm.ClassFile.FieldType), Jvm.Cond.code ({ cls := "com/example/redelivery/redelivery/sender/SendResult", name := "succeeded", desc := "()Z" } : Jvm.MethodName) prog_10_method_4_code (1 : Nat) (Option.some Jvm.ClassFile.FieldType.boolean), Jvm.Cond.code ({ cls := "java/lang/Integer", name := "valueOf", desc := "(I)Ljava/lang/Integer;" } : Jvm.MethodName) jdk_33_method_22_code (1 : Nat) (Option.some (Jvm.ClassFile.FieldType.object "java/lang/Integer")), Jvm.Cond.code ({ cls := "java/lang/Integer", name := "<init>", desc := "(I)V" } : Jvm.MethodName) jdk_33_method_23_code (2 : Nat) (Option.none : Option Jvm.ClassFile.FieldType), Jvm.Cond.code ({ cls := "java/lang/Number", name := "<init>", desc := "()V" } : Jvm.MethodName) jdk_18_method_1_code (1 : Nat) (Option.none : Option Jvm.ClassFile.FieldType), Jvm.Cond.code ({ cls := "java/lang/Integer", name := "intValue", desc := "()I" } : Jvm.MethodName) jdk_33_method_27_code (1 : Nat) (Option.some Jvm.ClassFile.FieldType.int)]
set_option maxRecDepth 65536 in
theorem codes_eq : words1.filter isCode = codes1 := rfl
theorem w_codes : ∀ c ∈ words1.filter isCode, c.before args0 about1 = true := by
  rw [codes_eq]
  intro c hc
  simp only [codes1, List.mem_cons, List.not_mem_nil, or_false] at hc
  rcases hc with rfl | rfl | rfl | rfl | rfl | rfl | rfl | rfl | rfl
  · exact w_c0
  · exact w_c1
  · exact w_c2
  · exact w_c3
  · exact w_c4
  · exact w_c5
  · exact w_c6
  · exact w_c7
  · exact w_c8
set_option maxRecDepth 65536 in
theorem w_t1 : (words1.take 24).all (fun c => isCode c || c.before args0 about1) = true := by decide +kernel
set_option maxRecDepth 65536 in
theorem w_t2 : ((words1.drop 24).take 24).all (fun c => isCode c || c.before args0 about1) = true := by decide +kernel
set_option maxRecDepth 65536 in
theorem w_t3 : ((words1.drop 24).drop 24).all (fun c => isCode c || c.before args0 about1) = true := by decide +kernel
theorem w_tables : (allAtoms (Jvm.Cond.code x code maxLocals ret :: tables_1)).before args0 about1 = true := by
  rw [allAtoms_all]
  show words1.all (fun c => c.before args0 about1) = true
  refine all_split ?_ w_codes
  rw [← List.take_append_drop 24 words1, List.all_append, w_t1, ← List.take_append_drop 24 (words1.drop 24), List.all_append, w_t2, w_t3]
  rfl
set_option maxRecDepth 65536 in
theorem w_rest : rest_1_c.before args0 about1 = true := by decide +kernel
set_option maxRecDepth 65536 in
theorem w_case : (Jvm.Cond.and given_1 narrow_1).before args0 about1 = true := by decide +kernel
theorem w_applies : (headSpec (Jvm.Cond.code x code maxLocals ret :: tables_1) room_1).applies x e0.platform about1 = true :=
  (Spec.applies_iff w_frames).mpr ⟨w_running, w_runnable, w_alone, w_named, w_hears, w_ripe, w_room, w_tables⟩
theorem atStart : AtStart classFile x code maxLocals ret World_1 tables_1 room_1 Calls_1 rest_1 Pre_1 launch0 p0 e0 about1 theMethod args0 below0 :=
  ⟨lists_1, trivial, launch0.admits_env _ _ _, launch0.least_env, fairChoices_fair.cas, fairChoices_fair.clock, w_frames, w_args, w_heap, w_applies, trivial, w_rest, w_case⟩
end start1
theorem witness_1 : WitnessClaimed_1 := ⟨start1.p0, start1.e0, start1.about1, start1.theMethod, start1.args0, start1.below0, start1.atStart⟩
end Jvm.Pilot.@@N@@
