import JvmDerived
import JvmDerived.Pilot.@@N@@Statement
import JvmDerived.Pilot.@@N@@Code
set_option linter.unusedVariables false
set_option linter.unusedSimpArgs false
namespace Jvm.RoadKit
open Sem ClassFile Op Lib Jvm.Stand Jvm.Free Jvm.LawKit
section Own
variable {p : Program} {l : Launch} {e : Env} {R : Room} {s : State} {m : MethodId} {args : Array Value} {below : List Frame} {meth : Method} {c : Code} {T A B : State} {locs : List Loc} {cells slots K N : Nat} {P : State → Outcome → Prop} {Q : Option Value → Heap → List Loc → Prop}
/-- the run that stands at A comes to an end of which P holds -/
def Go (p : Program) (e : Env) (below : List Frame) (P : State → Outcome → Prop) (A : State) : Prop := ∃ s₂ o, Steps p.tables e below A s₂ ∧ s₂.status = .running ∧ Ended s₂ below o ∧ P s₂ o
def PostW (s : State) (K N : Nat) (Q : Option Value → Heap → List Loc → Prop) : State → Outcome → Prop := fun s₂ o => ∃ v L, o = .returned v ∧ Q v s₂.heap L ∧ FrameEnd s o s₂ L K N
theorem Go.by (h : ∀ t, Steps p.tables e below B t → Steps p.tables e below A t) (k : Go p e below P B) : Go p e below P A := by
  obtain ⟨s₂, o, h1, h2⟩ := k
  exact ⟨s₂, o, h _ h1, h2⟩
theorem Go.to (h : Steps p.tables e below A B) (k : Go p e below P B) : Go p e below P A := Go.by (fun _ q => h.trans q) k
theorem Go.cast {g g' : JFrame} (q : g = g') (k : Go p e below P (T.setTop g')) : Go p e below P (T.setTop g) := q ▸ k
theorem Go.ret (X : Stand p l e R s m args below meth c T locs cells slots) (hx : p.tables.exec = Jvm.exec) (hlk : meth.locks = false) {pc : Nat} {Ls : Array Slot} {w : Value} {t : FieldType} {i : Instr} {rest : List Value} (hret : meth.sig.returnType = some t) (hn : narrow t w = w)
    (hi : (i = .ireturn ∧ (t = .int ∨ t = .boolean ∨ t = .byte ∨ t = .char ∨ t = .short) ∧ ∃ z, w = .int z) ∨ (i = .lreturn ∧ t = .long ∧ ∃ z, w = .long z) ∨ (i = .dreturn ∧ t = .double ∧ ∃ z, w = .double z) ∨ (i = .freturn ∧ t = .float ∧ ∃ z, w = .float z) ∨ (i = .areturn ∧ t.isReference = true ∧ w.isRef = true))
    (hd : decode c.code pc = .ok (i, 1)) (hc : cells ≤ K) (hs : slots ≤ N) (hQ : Q (some w) T.heap locs) : Go p e below (PostW s K N Q) (T.setTop (mkF m pc Ls (w :: rest))) := by
  obtain ⟨fs, hr, hrun, hended, hW, hsame⟩ := X.leave (v := some w) (fun h => by rw [hret] at h; cases h) hlk
  exact ⟨_, _, retOut X hx hret hn hi hd hr, hrun, hended, _, _, rfl, hQ, ⟨_, rfl⟩, hW, hsame.mono hc hs⟩
theorem Go.retZ (X : Stand p l e R s m args below meth c T locs cells slots) (hx : p.tables.exec = Jvm.exec) (hlk : meth.locks = false) {pc : Nat} {Ls : Array Slot} {z : Int32} {t : FieldType} {rest : List Value} (hret : meth.sig.returnType = some t) (ht : t = .boolean ∨ t = .byte ∨ t = .char ∨ t = .short)
    (hd : decode c.code pc = .ok (.ireturn, 1)) (hc : cells ≤ K) (hs : slots ≤ N) (hQ : Q (some (.int (nar t z))) T.heap locs) : Go p e below (PostW s K N Q) (T.setTop (mkF m pc Ls (.int z :: rest))) := by
  obtain ⟨fs, hr, hrun, hended, hW, hsame⟩ := X.leave (v := some (.int (nar t z))) (fun h => by rw [hret] at h; cases h) hlk
  exact ⟨_, _, retN X hx hret ht hd hr, hrun, hended, _, _, rfl, hQ, ⟨_, rfl⟩, hW, hsame.mono hc hs⟩
theorem own_cat {w : Value} (h : w.isRef = true) : w.category = 1 := by cases w <;> first | rfl | (simp [Value.isRef] at h)
theorem own_narR {w : Value} {t : FieldType} (h : w.isRef = true) (ht : t.isReference = true) : narrow t w = w := by cases t <;> first | (cases ht; done) | (cases w <;> first | rfl | (simp [Value.isRef] at h))
theorem own_fitR {w : Value} {t : FieldType} (h : w.isRef = true) (ht : t.isReference = true) : fits t w = true := by cases t <;> first | (cases ht; done) | (cases w <;> first | rfl | (simp [Value.isRef] at h))
theorem own_a {P : Value → Prop} {x : Value} {r : List Value} (h : P x) (k : ∀ v ∈ r, P v) : ∀ v ∈ x :: r, P v := List.forall_mem_cons.2 ⟨h, k⟩
theorem own_push (acc : Array Slot) {v : Value} (h : v.category = 1) : (if v.category = 2 then (acc.push (.val v)).push .second else acc.push (.val v)) = acc.push (.val v) := by rw [if_neg]; rw [h]; decide
theorem own_fold {xs : List Value} (h : ∀ v ∈ xs, v.category = 1) : ∀ acc : Array Slot, xs.foldl (fun acc v => if v.category = 2 then (acc.push (.val v)).push .second else acc.push (.val v)) acc = acc ++ (xs.map Slot.val).toArray := by
  induction xs with
  | nil => intro acc; simp
  | cons x r ih =>
    intro acc
    rw [List.foldl_cons, own_push acc (h x (List.mem_cons_self ..)), ih (fun v q => h v (List.mem_cons_of_mem _ q))]
    simp
theorem own_ent (m : MethodId) {xs : List Value} {n : Nat} {k : Nat} (h : ∀ v ∈ xs, v.category = 1) (hn : n = xs.length + k) : entryFrame m xs.toArray n = mkF m 0 ((xs.map Slot.val) ++ List.replicate k Slot.unset).toArray [] := by
  have e : xs.toArray.foldl (init := #[]) (fun acc v => if v.category = 2 then (acc.push (.val v)).push .second else acc.push (.val v)) = (xs.map Slot.val).toArray := by
    rw [List.foldl_toArray, own_fold h]; simp
  have z : n - (xs.map Slot.val).toArray.size = k := by simp; omega
  have q : argsToLocals xs.toArray n = ((xs.map Slot.val) ++ List.replicate k Slot.unset).toArray := by
    show (xs.toArray.foldl _ #[]) ++ Array.replicate (n - (xs.toArray.foldl _ #[]).size) Slot.unset = _
    rw [e, z]; simp
  show ({ method := m, pc := 0, locals := argsToLocals xs.toArray n, stack := [], locked := none } : JFrame) = _
  rw [q]
theorem Go.retV (X : Stand p l e R s m args below meth c T locs cells slots) (hx : p.tables.exec = Jvm.exec) (hlk : meth.locks = false) {pc : Nat} {Ls : Array Slot} (hret : meth.sig.returnType = none)
    (hd : decode c.code pc = .ok (.return_, 1)) (hc : cells ≤ K) (hs : slots ≤ N) (hQ : Q none T.heap locs) : Go p e below (PostW s K N Q) (T.setTop (mkF m pc Ls [])) := by
  obtain ⟨fs, hr, hrun, hended, hW, hsame⟩ := X.leave (v := none) (fun _ => rfl) hlk
  exact ⟨_, _, X.returnOut hx hret hd hr, hrun, hended, _, _, rfl, hQ, ⟨_, rfl⟩, hW, hsame.mono hc hs⟩
theorem wd {L : List Cond} {a0 : Array Value} {Z : State} (hw : ∀ d ∈ L, d.before a0 Z = true) (i : Nat) {d : Cond} (h : L[i]? = some d) : d.before a0 Z = true := hw d (List.mem_of_getElem? h)
/-- a callee's contract, as the walks here say it -/
abbrev Met (l : Launch) (Z : State) (y : MethodName) (bytes : ByteArray) (maxL : Nat) (ret : Option FieldType) (ws : List Cond) (rm : Room) (as' : Array Value) (h0 : Heap) (Q : Option Value → Heap → List Loc → Prop) : Prop :=
  MetFree l y (head1 (Cond.code y bytes maxL ret :: ws) rm) (fun a U => a = as' ∧ Z.Warmed39 U.vm ∧ U.heap = h0) (fun _ _ _ _ _ => True) (fun _ U o U' => ∃ v L, o = .returned v ∧ Q v U'.heap L ∧ FrameEnd U o U' L rm.cells rm.slots)
theorem Met.enter {Z : State} {y : MethodName} {bytes : ByteArray} {maxL : Nat} {ret : Option FieldType} {ws : List Cond} {rm : Room} {as' : Array Value} {h0 : Heap} {f0 : MethodId → JFrame} (hpl : plainFor y = true) (hf0 : ∀ m, entryFrame m as' maxL = f0 m)
    (body : ∀ (p : Program) (e : Env) (s : State) (m : MethodId) (below : List Frame) (meth : Method) (c : Code) (s₁ : State), p.tables.exec = Jvm.exec → c.code = bytes → c.maxLocals = maxL → s.vm.findClass y.cls = some m.cls → meth.name = y.name → meth.sig.returnType = ret → meth.locks = false → Z.Warmed39 s.vm → Stand p l e rm s m as' below meth c s₁ [] 0 0 → s₁.heap = h0 → Go p e below (PostW s rm.cells rm.slots Q) (s₁.setTop (f0 m))) : Met l Z y bytes maxL ret ws rm as' h0 Q := by
  refine MetFree.of_bodySF hpl hisR ?_
  intro p e s m args below meth c s₁ Bd hml0 hP hK
  obtain ⟨rfl, hZ, hh⟩ := hP
  have q := body p e s m below meth c s₁ Bd.exec Bd.bytes hml0 (findClass_of_methodNamed Bd.named) (name_of_methodNamed Bd.named Bd.method).1 Bd.returns Bd.notSynchronized hZ (Stand.of_body Bd) (by rw [← hh, Bd.state]; rfl)
  rw [← hf0] at q
  exact q
end Own
end Jvm.RoadKit
namespace Jvm.RoadKit
open Sem ClassFile Op Lib Bundle Jvm.Stand Jvm.Free Jvm.LawKit Jvm.Free.SB Jvm.Free.SBG
section OwnS
variable {p : Program} {l : Launch} {e : Env} {R : Room} {s : State} {m : MethodId} {args : Array Value} {below : List Frame} {meth : Method} {c : Code} {T A B : State} {locs : List Loc} {cells slots K N : Nat} {Q : Option Value → Heap → List Loc → Prop} {Z : State} {a0 : Array Value} {EL : List (String × Nat)} {vm0 : Vm} {k0 : Nat}
def PostS (Z : State) (EL : List (String × Nat)) (s : State) (K N : Nat) (Q : Option Value → Heap → List Loc → Prop) : State → Outcome → Prop := fun s₂ o => ∃ v L, o = .returned v ∧ Q v s₂.heap L ∧ CHr Z EL s.vm s.heap s₂.vm s₂.heap ∧ ReturnedEndW s o s₂ L K N
theorem own_monoW {t : State} {o : Outcome} {L : List Loc} {k n : Nat} (h : ReturnedEndW s o t L k n) (hk : k ≤ K) (hn : n ≤ N) : ReturnedEndW s o t L K N := ⟨h.1, h.2.1, h.2.2.1, h.2.2.2.mono hk hn⟩
theorem Go.retS (X : Stand p l e R (s.setVm vm0) m args below meth c T locs cells slots) (hx : p.tables.exec = Jvm.exec) (hlk : meth.locks = false) (hS : s.Since vm0 k0) (hk : k0 ≤ T.heap.size) (hZ : Z.Warmed39 vm0) (hEL : EW Z a0 EL) (C : CHr Z EL s.vm s.heap vm0 T.heap) {pc : Nat} {Ls : Array Slot} {w : Value} {t : FieldType} {i : Instr} {rest : List Value} (hret : meth.sig.returnType = some t) (hn : narrow t w = w)
    (hi : (i = .ireturn ∧ (t = .int ∨ t = .boolean ∨ t = .byte ∨ t = .char ∨ t = .short) ∧ ∃ z, w = .int z) ∨ (i = .lreturn ∧ t = .long ∧ ∃ z, w = .long z) ∨ (i = .dreturn ∧ t = .double ∧ ∃ z, w = .double z) ∨ (i = .freturn ∧ t = .float ∧ ∃ z, w = .float z) ∨ (i = .areturn ∧ t.isReference = true ∧ w.isRef = true))
    (hd : decode c.code pc = .ok (i, 1)) (hc : cells ≤ K) (hs : slots ≤ N) (hQ : Q (some w) T.heap locs) : Go p e below (PostS Z EL s K N Q) (T.setTop (mkF m pc Ls (w :: rest))) := by
  obtain ⟨fs, hr, hrun, hended, hW⟩ := X.leaveW hS hk (v := some w) (fun h => by rw [hret] at h; cases h) hlk
  exact ⟨_, _, retOut X hx hret hn hi hd hr, hrun, hended, _, _, rfl, hQ, (show CHr Z EL s.vm s.heap T.vm T.heap from C.trans (CHv.at X hZ hEL C.1)), own_monoW hW hc hs⟩
theorem Go.retZS (X : Stand p l e R (s.setVm vm0) m args below meth c T locs cells slots) (hx : p.tables.exec = Jvm.exec) (hlk : meth.locks = false) (hS : s.Since vm0 k0) (hk : k0 ≤ T.heap.size) (hZ : Z.Warmed39 vm0) (hEL : EW Z a0 EL) (C : CHr Z EL s.vm s.heap vm0 T.heap) {pc : Nat} {Ls : Array Slot} {z : Int32} {t : FieldType} {rest : List Value} (hret : meth.sig.returnType = some t) (ht : t = .boolean ∨ t = .byte ∨ t = .char ∨ t = .short)
    (hd : decode c.code pc = .ok (.ireturn, 1)) (hc : cells ≤ K) (hs : slots ≤ N) (hQ : Q (some (.int (nar t z))) T.heap locs) : Go p e below (PostS Z EL s K N Q) (T.setTop (mkF m pc Ls (.int z :: rest))) := by
  obtain ⟨fs, hr, hrun, hended, hW⟩ := X.leaveW hS hk (v := some (.int (nar t z))) (fun h => by rw [hret] at h; cases h) hlk
  exact ⟨_, _, retN X hx hret ht hd hr, hrun, hended, _, _, rfl, hQ, (show CHr Z EL s.vm s.heap T.vm T.heap from C.trans (CHv.at X hZ hEL C.1)), own_monoW hW hc hs⟩
theorem Go.retVS (X : Stand p l e R (s.setVm vm0) m args below meth c T locs cells slots) (hx : p.tables.exec = Jvm.exec) (hlk : meth.locks = false) (hS : s.Since vm0 k0) (hk : k0 ≤ T.heap.size) (hZ : Z.Warmed39 vm0) (hEL : EW Z a0 EL) (C : CHr Z EL s.vm s.heap vm0 T.heap) {pc : Nat} {Ls : Array Slot} (hret : meth.sig.returnType = none)
    (hd : decode c.code pc = .ok (.return_, 1)) (hc : cells ≤ K) (hs : slots ≤ N) (hQ : Q none T.heap locs) : Go p e below (PostS Z EL s K N Q) (T.setTop (mkF m pc Ls [])) := by
  obtain ⟨fs, hr, hrun, hended, hW⟩ := X.leaveW hS hk (v := none) (fun _ => rfl) hlk
  exact ⟨_, _, X.returnOut hx hret hd hr, hrun, hended, _, _, rfl, hQ, (show CHr Z EL s.vm s.heap T.vm T.heap from C.trans (CHv.at X hZ hEL C.1)), own_monoW hW hc hs⟩
abbrev MetS (l : Launch) (Z : State) (EL : List (String × Nat)) (y : MethodName) (bytes : ByteArray) (maxL : Nat) (ret : Option FieldType) (ws : List Cond) (rm : Room) (as' : Array Value) (h0 : Heap) (Q : Option Value → Heap → List Loc → Prop) : Prop :=
  MetFree l y (head1 (Cond.code y bytes maxL ret :: ws) rm) (fun a U => a = as' ∧ Z.Warmed39 U.vm ∧ U.heap = h0 ∧ CHv Z EL U.vm h0) (fun _ _ _ _ _ => True) (fun _ U o U' => ∃ v L, o = .returned v ∧ Q v U'.heap L ∧ CHr Z EL U.vm U.heap U'.vm U'.heap ∧ ReturnedEndW U o U' L rm.cells rm.slots)
theorem MetS.enter {y : MethodName} {bytes : ByteArray} {maxL : Nat} {ret : Option FieldType} {ws : List Cond} {rm : Room} {as' : Array Value} {h0 : Heap} {f0 : MethodId → JFrame} (hpl : plainFor y = true) (hf0 : ∀ m, entryFrame m as' maxL = f0 m)
    (body : ∀ (p : Program) (e : Env) (s : State) (m : MethodId) (below : List Frame) (meth : Method) (c : Code) (s₁ : State), p.tables.exec = Jvm.exec → c.code = bytes → c.maxLocals = maxL → s.vm.findClass y.cls = some m.cls → meth.name = y.name → meth.sig.returnType = ret → meth.locks = false → Z.Warmed39 s.vm → Stand p l e rm (s.setVm s.vm) m as' below meth c s₁ [] 0 0 → s₁.heap = h0 → s.Since s.vm h0.size → CHr Z EL s.vm s.heap s.vm h0 → Go p e below (PostS Z EL s rm.cells rm.slots Q) (s₁.setTop (f0 m))) : MetS l Z EL y bytes maxL ret ws rm as' h0 Q := by
  refine MetFree.of_bodySF hpl hisR ?_
  intro p e s m args below meth c s₁ Bd hml0 hP hK
  obtain ⟨rfl, hZ, hh, hC⟩ := hP
  have q := body p e s m below meth c s₁ Bd.exec Bd.bytes hml0 (findClass_of_methodNamed Bd.named) (name_of_methodNamed Bd.named Bd.method).1 Bd.returns Bd.notSynchronized hZ (Stand.of_body Bd) (by rw [← hh, Bd.state]; rfl) ((State.WarmedH.refl s).since _) (by rw [hh]; exact CHr.refl hC)
  rw [← hf0] at q
  exact q
/-- an object whose 'value' is null is no booked String, nor a booked String's array -/
theorem own_safe0 {h : Heap} {x : Addr} {vm : Vm} (hal : Z.vm.Alike vm) (E : Exa Z h x "java/lang/String") (F : Fld Z h x "java/lang/String" "value" "[B" .null) : Safe Z EL vm h x := fun B => by
  obtain ⟨p, -, u, a, -, q, -, S, rfl | rfl⟩ := B
  · obtain ⟨cS, ⟨⟨s1, s2, s3, ⟨cv, kv, iv, s4, s4'⟩, -, s6, -, s8, -⟩, -⟩, -⟩ := S
    obtain ⟨cell, cf, k, i, f, h1, h2, -, -, -, -, h7⟩ := F
    obtain ⟨kv', z4⟩ := ff_back hal s4
    have e1 := h2.symm.trans z4
    simp only [Option.some.injEq, Prod.mk.injEq] at e1
    have e2 : cell = q.sC := Option.some.inj (h1.symm.trans s1)
    rw [e2, e1.2.2.2, s8] at h7
    cases h7
  · obtain ⟨cS, ⟨⟨-, -, -, -, -, -, -, -, -, s10, -⟩, -⟩, -, hB, -⟩ := S
    obtain ⟨cell, k, h1, h2, -⟩ := E
    have e2 : cell = q.SA := Option.some.inj (h1.symm.trans s10)
    have hB' : vm.findClass "[B" = some q.SA.cls := hB
    rw [hal.findClass] at hB'
    rw [e2] at h2
    obtain ⟨k1, q1, q2⟩ := Vm.findClass_spec hB'
    obtain ⟨k2, q3, q4⟩ := Vm.findClass_spec h2
    cases q1.symm.trans q3
    have := q2.symm.trans q4
    revert this
    decide
end OwnS
end Jvm.RoadKit
namespace Jvm.Pilot.@@N@@
open Jvm Jvm.ClassFile Sem Op Lib Jvm.Free Jvm.Stand Jvm.LawKit Jvm.RoadKit Bundle Jvm.Pilot.@@N@@.Jvm.D
theorem own_eqk {args : Array Value} {first s : State} {o : Option Outcome} {idx : List Nat} {t : Term} {k : Int32} (h : (Jvm.Cond.eq t (Term.int k)).value args first o s idx = some true) : t.eval args first o idx s = some (.int k) := by
  obtain ⟨x, y, ex, ey, -, k2⟩ := cmp_v (Or.inl h)
  have e2 : y = .int k := Option.some.inj (ey.symm.trans (Term.int_eval k))
  subst e2
  obtain ⟨z, rfl⟩ := k2
  have := gotT (Cond.eq_ints ex (Term.int_eval k)) h
  rw [ex, this]

theorem own_ch (x : Int32) : ¬ (255 : Int32) < (x &&& (255 : Int32)).toUInt32.toUInt16.toUInt32.toInt32 := by
  rw [i2c_mask]
  have q := c_mask x 255 8 (by decide) (by decide)
  have z : (255 : Int32).toInt = 255 := by decide
  rw [Int32.lt_iff_toInt_lt, z]
  omega
theorem own_ch0 (x : Int32) : ¬ (x &&& (255 : Int32)).toUInt32.toUInt16.toUInt32.toInt32 < (0 : Int32) := by
  rw [i2c_mask]
  have q := c_mask x 255 8 (by decide) (by decide)
  have z : (0 : Int32).toInt = 0 := by decide
  rw [Int32.lt_iff_toInt_lt, z]
  omega
theorem own_nar (x : Int32) : nar .char ((x &&& (255 : Int32)).toUInt32.toUInt16.toUInt32.toInt32) = (x &&& (255 : Int32)) := by
  show ((x &&& (255 : Int32)).toUInt32.toUInt16.toUInt32.toInt32).toUInt32.toUInt16.toUInt32.toInt32 = _
  rw [i2c_mask, i2c_mask]
theorem own_chn (x : Int32) : ¬ (255 : Int32) < nar .char ((x &&& (255 : Int32)).toUInt32.toUInt16.toUInt32.toInt32) := by
  rw [own_nar]
  have q := c_mask x 255 8 (by decide) (by decide)
  have z : (255 : Int32).toInt = 255 := by decide
  rw [Int32.lt_iff_toInt_lt, z]
  omega

abbrev own_EL : List (String × Nat) := [("java/lang/String", 7)]
theorem own_hEL {Z : State} {a0 : Array Value} (hw : ∀ d ∈ tables_1, d.before a0 Z = true) : EW Z a0 own_EL := (EW.cons (wd hw 91 rfl) (by decide) EW.nil)
theorem own_wS {Z : State} {a0 : Array Value} (hw : ∀ d ∈ tables_1, d.before a0 Z = true) : ∀ a ∈ Bundle.stringAtoms, a.before a0 Z = true := fun a ha => by
  simp only [Bundle.stringAtoms, Bundle.sN, List.mem_cons, List.not_mem_nil, or_false] at ha
  rcases ha with rfl | rfl | rfl | rfl | rfl | rfl | rfl
  · exact (wd hw 6 rfl)
  · exact (wd hw 14 rfl)
  · exact (wd hw 18 rfl)
  · exact (wd hw 27 rfl)
  · exact (wd hw 29 rfl)
  · exact (wd hw 92 rfl)
  · exact (wd hw 93 rfl)
theorem own_33 {x v : Int32} (h : v = (x &&& (3 : Int32))) : (v &&& (3 : Int32)) = v := by
  subst h
  rw [Int32.and_assoc]
  rfl

theorem ef_rm_Record_init (m : MethodId) (x0 : Addr) : entryFrame m #[(.ref x0)] 1 = mkF m 0 #[.val (.ref x0)] [] := by first | (simp [entryFrame, mkF, argsToLocals, Value.category]; done) | rfl
theorem d8_0 : decode jdk_30_method_1_code 0 = .ok (.aload_n 0, 1) := by decide +kernel
theorem d8_1 : decode jdk_30_method_1_code 1 = .ok (.invokespecial 1, 3) := by decide +kernel
theorem d8_4 : decode jdk_30_method_1_code 4 = .ok (.return_, 1) := by decide +kernel
theorem pn_java_lang_Record : plainName "java/lang/Record" = true := by first | (simp [plainName, overriddenIn]; done) | decide +kernel
def Q_rm_Record_init (Z : State) (a1 : Addr) (h0 : Heap) (n0 : Nat) (vv : Option Value) (h : Heap) (L : List Loc) : Prop := vv = none ∧ Fr n0 L ∧ h = h0
set_option maxRecDepth 65536 in
set_option maxHeartbeats 40000000 in
theorem rm_Record_init (l : Launch) (Z : State) (a0 : Array Value) (hw : ∀ d ∈ tables_1, d.before a0 Z = true) (ws : List Jvm.Cond) (a1 : Addr) (h0 : Heap) (n0 : Nat) (Z0 : n0 ≤ h0.size) :
    Met l Z (⟨"java/lang/Record", "<init>", "()V"⟩ : MethodName) jdk_30_method_1_code 1 none ws ({ frames := 1, cells := 0, slots := 0, locals := 12 } : Room) #[(.ref a1)] h0 (Q_rm_Record_init Z a1 h0 n0) := by
  refine Met.enter (f0 := fun m => mkF m 0 #[.val (.ref a1)] []) (plainFor_of_name pn_java_lang_Record) (fun m => ef_rm_Record_init m a1) ?_
  intro p e s m below meth c s₁ hx hby hml hown hnm hret hlk hZ X0 e0
  have hown : s.vm.findClass "java/lang/Record" = some m.cls := hown
  have hnm : meth.name = "<init>" := hnm
  have hml : c.maxLocals = 1 := hml
  have hby : c.code = jdk_30_method_1_code := hby
  have N0 := Fr.nil n0
  refine Go.by (B := (s₁.setTop (mkF m 1 #[.val (.ref a1)] [(.ref a1)]))) (fun _ k => XS.aloadN X0.here hx rfl (hb hby d8_0) rfl rfl k) ?_
  obtain ⟨T1, X1, e1, st1⟩ := initO X0 hx hZ hown (wd hw 41 rfl) (wd hw 24 rfl) (wd hw 25 rfl) e0 (g := (mkF m 1 #[.val (.ref a1)] [(.ref a1)])) rfl (by rw [hml]; rfl) rfl (hb hby d8_1) (by decide) (W := 0) (by show 2 * 0 + _ ≤ _; exact Nat.le_of_eq rfl) (by decide)
  refine Go.by (B := (T1.setTop (mkF m 4 #[.val (.ref a1)] []))) st1 ?_
  refine Go.retV X1 hx hlk hret (hb hby d8_4) (by decide) (by decide) ?_
  rw [e1]
  exact ⟨rfl, N0, rfl⟩
theorem ef_rm_cmp5_2 (m : MethodId) (x0 : Addr) (x2 : Addr) : entryFrame m #[(.ref x0), (.int 0), (.ref x2), (.int 0), (.int 2)] 7 = mkF m 0 #[.val (.ref x0), .val (.int 0), .val (.ref x2), .val (.int 0), .val (.int 2), .unset, .unset] [] := by first | (simp [entryFrame, mkF, argsToLocals, Value.category]; done) | rfl
theorem d17_0 : decode jdk_52_method_21_code 0 = .ok (.iconst 0, 1) := by decide +kernel
theorem d17_1 : decode jdk_52_method_21_code 1 = .ok (.istore 5, 2) := by decide +kernel
theorem d17_3 : decode jdk_52_method_21_code 3 = .ok (.iload 5, 2) := by decide +kernel
theorem d17_5 : decode jdk_52_method_21_code 5 = .ok (.iload 4, 2) := by decide +kernel
theorem d17_7 : decode jdk_52_method_21_code 7 = .ok (.if_icmp .ge 37, 3) := by decide +kernel
theorem d17_10 : decode jdk_52_method_21_code 10 = .ok (.aload_n 0, 1) := by decide +kernel
theorem d17_11 : decode jdk_52_method_21_code 11 = .ok (.iload_n 1, 1) := by decide +kernel
theorem d17_12 : decode jdk_52_method_21_code 12 = .ok (.caload, 1) := by decide +kernel
theorem d17_13 : decode jdk_52_method_21_code 13 = .ok (.istore 6, 2) := by decide +kernel
theorem d17_15 : decode jdk_52_method_21_code 15 = .ok (.iload 6, 2) := by decide +kernel
theorem d17_17 : decode jdk_52_method_21_code 17 = .ok (.sipush 255, 3) := by decide +kernel
theorem d17_20 : decode jdk_52_method_21_code 20 = .ok (.if_icmp .le 6, 3) := by decide +kernel
theorem d17_26 : decode jdk_52_method_21_code 26 = .ok (.aload_n 2, 1) := by decide +kernel
theorem d17_27 : decode jdk_52_method_21_code 27 = .ok (.iload_n 3, 1) := by decide +kernel
theorem d17_28 : decode jdk_52_method_21_code 28 = .ok (.iload 6, 2) := by decide +kernel
theorem d17_30 : decode jdk_52_method_21_code 30 = .ok (.i2b, 1) := by decide +kernel
theorem d17_31 : decode jdk_52_method_21_code 31 = .ok (.bastore, 1) := by decide +kernel
theorem d17_32 : decode jdk_52_method_21_code 32 = .ok (.iinc 1 1, 3) := by decide +kernel
theorem d17_35 : decode jdk_52_method_21_code 35 = .ok (.iinc 3 1, 3) := by decide +kernel
theorem d17_38 : decode jdk_52_method_21_code 38 = .ok (.iinc 5 1, 3) := by decide +kernel
theorem d17_41 : decode jdk_52_method_21_code 41 = .ok (.goto (-38), 3) := by decide +kernel
theorem d17_44 : decode jdk_52_method_21_code 44 = .ok (.iload 4, 2) := by decide +kernel
theorem d17_46 : decode jdk_52_method_21_code 46 = .ok (.ireturn, 1) := by decide +kernel
theorem pn_java_lang_StringUTF16 : plainName "java/lang/StringUTF16" = true := by first | (simp [plainName, overriddenIn]; done) | decide +kernel
def Q_rm_cmp5_2 (Z : State) (a1 : Addr) (b1 : Addr) (ka : ClassId) (kb : ClassId) (c0 : Int32) (c1 : Int32) (h0 : Heap) (n0 : Nat) (vv : Option Value) (h : Heap) (L : List Loc) : Prop := vv = some (.int 2) ∧ Fr n0 L ∧ Keep h0 h [b1] ∧ Arv Z h b1 kb .byte (2 : Int32) [(.int (nar .byte (c0.toInt8.toInt32))), (.int (nar .byte (c1.toInt8.toInt32)))] (.int 0)
set_option maxRecDepth 65536 in
set_option maxHeartbeats 40000000 in
theorem rm_cmp5_2 (l : Launch) (Z : State) (a0 : Array Value) (hw : ∀ d ∈ tables_1, d.before a0 Z = true) (ws : List Jvm.Cond) (a1 : Addr) (b1 : Addr) (ka : ClassId) (kb : ClassId) (c0 : Int32) (c1 : Int32) (h0 : Heap) (n0 : Nat) (Z0 : n0 ≤ h0.size) (pr0 : Old Z n0 h0) (pr1 : Arv Z h0 a1 ka .char (2 : Int32) [(.int c0), (.int c1)] (.int 0)) (pr2 : Arv Z h0 b1 kb .byte (2 : Int32) [(.int 0), (.int 0)] (.int 0)) (pr3 : n0 ≤ b1) (pr4 : a1 ≠ b1) (hc0 : ¬ ((255 : Int32) < c0)) (hc1 : ¬ ((255 : Int32) < c1)) :
    Met l Z (⟨"java/lang/StringUTF16", "compress", "([CI[BII)I"⟩ : MethodName) jdk_52_method_21_code 7 (some .int) ws ({ frames := 0, cells := 0, slots := 0, locals := 0 } : Room) #[(.ref a1), (.int 0), (.ref b1), (.int 0), (.int 2)] h0 (Q_rm_cmp5_2 Z a1 b1 ka kb c0 c1 h0 n0) := by
  refine Met.enter (f0 := fun m => mkF m 0 #[.val (.ref a1), .val (.int 0), .val (.ref b1), .val (.int 0), .val (.int 2), .unset, .unset] []) (plainFor_of_name pn_java_lang_StringUTF16) (fun m => ef_rm_cmp5_2 m a1 b1) ?_
  intro p e s m below meth c s₁ hx hby hml hown hnm hret hlk hZ X0 e0
  have hown : s.vm.findClass "java/lang/StringUTF16" = some m.cls := hown
  have hnm : meth.name = "compress" := hnm
  have hml : c.maxLocals = 7 := hml
  have hby : c.code = jdk_52_method_21_code := hby
  have N0 := Fr.nil n0
  refine Go.by (B := (s₁.setTop (mkF m 12 #[.val (.ref a1), .val (.int 0), .val (.ref b1), .val (.int 0), .val (.int 2), .val (.int 0), .unset] [(.int 0), (.ref a1)]))) (fun _ k => XS.iconst X0.here hx rfl (hb hby d17_0) (XS.istore X0.here hx rfl (hb hby d17_1) rfl (l' := #[.val (.ref a1), .val (.int 0), .val (.ref b1), .val (.int 0), .val (.int 2), .val (.int 0), .unset]) rfl (XS.iload X0.here hx rfl (hb hby d17_3) rfl (XS.iload X0.here hx rfl (hb hby d17_5) rfl (XS.icmpNo X0.here hx rfl (hb hby d17_7) rfl (tlt (by decide : (0 : Int32) < (2 : Int32))).2.1 (XS.aloadN X0.here hx rfl (hb hby d17_10) rfl rfl (XS.iloadN X0.here hx rfl (hb hby d17_11) rfl k))))))) ?_
  obtain ⟨cl2, Ar2, q2, S2, N_2, Hs2, G2⟩ := id pr1
  have hin3 : ¬ ((0 : Int32) < 0 ∨ cl2.slots.size ≤ ((0 : Int32)).toNatClampNeg) := inb_of S2 ⟨by decide, by decide⟩
  have hat3 : cl2.slots[((0 : Int32)).toNatClampNeg]? = some (.int c0) := Hs2.at hin3 rfl
  refine Go.by (B := (s₁.setTop (mkF m 13 #[.val (.ref a1), .val (.int 0), .val (.ref b1), .val (.int 0), .val (.int 2), .val (.int 0), .unset] [(.int c0)]))) (fun _ k => X0.caload hx (j := (0 : Int32)) (v := (.int c0)) (by rw [e0]; exact Ar2.1) (State.isArrayOf_alike hZ.alike Ar2.2.1) Ar2.2.2 hin3 hat3 (g := (mkF m 12 #[.val (.ref a1), .val (.int 0), .val (.ref b1), .val (.int 0), .val (.int 2), .val (.int 0), .unset] [(.int 0), (.ref a1)])) rfl rfl (hb hby d17_12) _ k) ?_
  refine Go.by (B := (s₁.setTop (mkF m 31 #[.val (.ref a1), .val (.int 0), .val (.ref b1), .val (.int 0), .val (.int 2), .val (.int 0), .val (.int c0)] [(.int (c0.toInt8.toInt32)), (.int 0), (.ref b1)]))) (fun _ k => XS.istore X0.here hx rfl (hb hby d17_13) rfl (l' := #[.val (.ref a1), .val (.int 0), .val (.ref b1), .val (.int 0), .val (.int 2), .val (.int 0), .val (.int c0)]) rfl (XS.iload X0.here hx rfl (hb hby d17_15) rfl (XS.sipush X0.here hx rfl (hb hby d17_17) (XS.icmpYes X0.here hx rfl (pc0 := 20) (pc' := 26) rfl (hb hby d17_20) rfl (flt hc0).2.2.2 (by decide) (by decide) (XS.aloadN X0.here hx rfl (hb hby d17_26) rfl rfl (XS.iloadN X0.here hx rfl (hb hby d17_27) rfl (XS.iload X0.here hx rfl (hb hby d17_28) rfl (XS.i2b X0.here hx rfl (hb hby d17_30) rfl k)))))))) ?_
  obtain ⟨cl4, Ar4, q4, S4, N_4, Hs4, G4⟩ := id pr2
  have hin5 : ¬ ((0 : Int32) < 0 ∨ cl4.slots.size ≤ ((0 : Int32)).toNatClampNeg) := inb_of S4 ⟨by decide, by decide⟩
  obtain ⟨T5, h5, X5, e5, W5, st5⟩ := stB X0 hx hZ e0 Ar4 (j := (0 : Int32)) hin5 (g := (mkF m 31 #[.val (.ref a1), .val (.int 0), .val (.ref b1), .val (.int 0), .val (.int 2), .val (.int 0), .val (.int c0)] [(.int (c0.toInt8.toInt32)), (.int 0), (.ref b1)])) rfl rfl (hb hby d17_31)
  have O6 := pr0.wr W5 pr3
  have Z6 : n0 ≤ h5.size := Nat.le_trans Z0 (Keep.of_wr W5).1
  have V5 : Arv Z h5 b1 kb .byte (2 : Int32) [(.int (nar .byte (c0.toInt8.toInt32))), (.int 0)] (.int 0) := Arv.set Ar4 q4 S4 N_4 Hs4 G4 (fits_nar_byte _) W5 0 rfl (Nat.le_of_ble_eq_true rfl)
  have N5 := Fr.snoc X5 N0 pr3
  refine Go.by (B := (T5.setTop (mkF m 32 #[.val (.ref a1), .val (.int 0), .val (.ref b1), .val (.int 0), .val (.int 2), .val (.int 0), .val (.int c0)] []))) st5 ?_
  refine Go.by (B := (T5.setTop (mkF m 11 #[.val (.ref a1), .val (.int 1), .val (.ref b1), .val (.int 1), .val (.int 2), .val (.int 1), .val (.int c0)] [(.ref a1)]))) (fun _ k => XS.iinc X5.here hx rfl (hb hby d17_32) rfl (l' := #[.val (.ref a1), .val (.int 1), .val (.ref b1), .val (.int 0), .val (.int 2), .val (.int 0), .val (.int c0)]) rfl (XS.iinc X5.here hx rfl (hb hby d17_35) rfl (l' := #[.val (.ref a1), .val (.int 1), .val (.ref b1), .val (.int 1), .val (.int 2), .val (.int 0), .val (.int c0)]) rfl (XS.iinc X5.here hx rfl (hb hby d17_38) rfl (l' := #[.val (.ref a1), .val (.int 1), .val (.ref b1), .val (.int 1), .val (.int 2), .val (.int 1), .val (.int c0)]) rfl (XS.goto X5.here hx rfl (pc0 := 41) (pc' := 3) rfl (hb hby d17_41) (by decide) (by decide) (XS.iload X5.here hx rfl (hb hby d17_3) rfl (XS.iload X5.here hx rfl (hb hby d17_5) rfl (XS.icmpNo X5.here hx rfl (hb hby d17_7) rfl (tlt (by decide : (1 : Int32) < (2 : Int32))).2.1 (XS.aloadN X5.here hx rfl (hb hby d17_10) rfl rfl k)))))))) ?_
  refine Go.by (B := (T5.setTop (mkF m 12 #[.val (.ref a1), .val (.int 1), .val (.ref b1), .val (.int 1), .val (.int 2), .val (.int 1), .val (.int c0)] [(.int 1), (.ref a1)]))) (fun _ k => XS.iloadN X5.here hx rfl (hb hby d17_11) rfl k) ?_
  obtain ⟨cl7, Ar7, q7, S7, N_7, Hs7, G7⟩ := id (pr1.other W5 pr4)
  have hin8 : ¬ ((1 : Int32) < 0 ∨ cl7.slots.size ≤ ((1 : Int32)).toNatClampNeg) := inb_of S7 ⟨by decide, by decide⟩
  have hat8 : cl7.slots[((1 : Int32)).toNatClampNeg]? = some (.int c1) := Hs7.at hin8 rfl
  refine Go.by (B := (T5.setTop (mkF m 13 #[.val (.ref a1), .val (.int 1), .val (.ref b1), .val (.int 1), .val (.int 2), .val (.int 1), .val (.int c0)] [(.int c1)]))) (fun _ k => X5.caload hx (j := (1 : Int32)) (v := (.int c1)) (by rw [e5]; exact Ar7.1) (State.isArrayOf_alike hZ.alike Ar7.2.1) Ar7.2.2 hin8 hat8 (g := (mkF m 12 #[.val (.ref a1), .val (.int 1), .val (.ref b1), .val (.int 1), .val (.int 2), .val (.int 1), .val (.int c0)] [(.int 1), (.ref a1)])) rfl rfl (hb hby d17_12) _ k) ?_
  refine Go.by (B := (T5.setTop (mkF m 31 #[.val (.ref a1), .val (.int 1), .val (.ref b1), .val (.int 1), .val (.int 2), .val (.int 1), .val (.int c1)] [(.int (c1.toInt8.toInt32)), (.int 1), (.ref b1)]))) (fun _ k => XS.istore X5.here hx rfl (hb hby d17_13) rfl (l' := #[.val (.ref a1), .val (.int 1), .val (.ref b1), .val (.int 1), .val (.int 2), .val (.int 1), .val (.int c1)]) rfl (XS.iload X5.here hx rfl (hb hby d17_15) rfl (XS.sipush X5.here hx rfl (hb hby d17_17) (XS.icmpYes X5.here hx rfl (pc0 := 20) (pc' := 26) rfl (hb hby d17_20) rfl (flt hc1).2.2.2 (by decide) (by decide) (XS.aloadN X5.here hx rfl (hb hby d17_26) rfl rfl (XS.iloadN X5.here hx rfl (hb hby d17_27) rfl (XS.iload X5.here hx rfl (hb hby d17_28) rfl (XS.i2b X5.here hx rfl (hb hby d17_30) rfl k)))))))) ?_
  obtain ⟨cl9, Ar9, q9, S9, N_9, Hs9, G9⟩ := id V5
  have hin10 : ¬ ((1 : Int32) < 0 ∨ cl9.slots.size ≤ ((1 : Int32)).toNatClampNeg) := inb_of S9 ⟨by decide, by decide⟩
  obtain ⟨T10, h10, X10, e10, W10, st10⟩ := stB X5 hx hZ e5 Ar9 (j := (1 : Int32)) hin10 (g := (mkF m 31 #[.val (.ref a1), .val (.int 1), .val (.ref b1), .val (.int 1), .val (.int 2), .val (.int 1), .val (.int c1)] [(.int (c1.toInt8.toInt32)), (.int 1), (.ref b1)])) rfl rfl (hb hby d17_31)
  have O11 := O6.wr W10 pr3
  have Z11 : n0 ≤ h10.size := Nat.le_trans Z6 (Keep.of_wr W10).1
  have V10 : Arv Z h10 b1 kb .byte (2 : Int32) [(.int (nar .byte (c0.toInt8.toInt32))), (.int (nar .byte (c1.toInt8.toInt32)))] (.int 0) := Arv.set Ar9 q9 S9 N_9 Hs9 G9 (fits_nar_byte _) W10 1 rfl (Nat.le_of_ble_eq_true rfl)
  have N10 := Fr.snoc X10 N5 pr3
  refine Go.by (B := (T10.setTop (mkF m 32 #[.val (.ref a1), .val (.int 1), .val (.ref b1), .val (.int 1), .val (.int 2), .val (.int 1), .val (.int c1)] []))) st10 ?_
  refine Go.by (B := (T10.setTop (mkF m 46 #[.val (.ref a1), .val (.int 2), .val (.ref b1), .val (.int 2), .val (.int 2), .val (.int 2), .val (.int c1)] [(.int 2)]))) (fun _ k => XS.iinc X10.here hx rfl (hb hby d17_32) rfl (l' := #[.val (.ref a1), .val (.int 2), .val (.ref b1), .val (.int 1), .val (.int 2), .val (.int 1), .val (.int c1)]) rfl (XS.iinc X10.here hx rfl (hb hby d17_35) rfl (l' := #[.val (.ref a1), .val (.int 2), .val (.ref b1), .val (.int 2), .val (.int 2), .val (.int 1), .val (.int c1)]) rfl (XS.iinc X10.here hx rfl (hb hby d17_38) rfl (l' := #[.val (.ref a1), .val (.int 2), .val (.ref b1), .val (.int 2), .val (.int 2), .val (.int 2), .val (.int c1)]) rfl (XS.goto X10.here hx rfl (pc0 := 41) (pc' := 3) rfl (hb hby d17_41) (by decide) (by decide) (XS.iload X10.here hx rfl (hb hby d17_3) rfl (XS.iload X10.here hx rfl (hb hby d17_5) rfl (XS.icmpYes X10.here hx rfl (pc0 := 7) (pc' := 44) rfl (hb hby d17_7) rfl (flt (by decide : ¬ ((2 : Int32) < (2 : Int32)))).2.1 (by decide) (by decide) (XS.iload X10.here hx rfl (hb hby d17_44) rfl k)))))))) ?_
  refine Go.ret X10 hx hlk (t := .int) hret rfl (Or.inl ⟨rfl, by simp, _, rfl⟩) (hb hby d17_46) (by decide) (by decide) ?_
  rw [e10]
  exact ⟨rfl, N10, (((Keep.refl h0 [b1]).wr W5 (Or.inl (List.mem_of_getElem? (i := 0) rfl))).wr W10 (Or.inl (List.mem_of_getElem? (i := 0) rfl))), V10⟩
theorem ef_rm_cmp3_2 (m : MethodId) (x0 : Addr) : entryFrame m #[(.ref x0), (.int 0), (.int 2)] 6 = mkF m 0 #[.val (.ref x0), .val (.int 0), .val (.int 2), .unset, .unset, .unset] [] := by first | (simp [entryFrame, mkF, argsToLocals, Value.category]; done) | rfl
theorem d16_0 : decode jdk_52_method_16_code 0 = .ok (.iload_n 2, 1) := by decide +kernel
theorem d16_1 : decode jdk_52_method_16_code 1 = .ok (.newarray .byte, 2) := by decide +kernel
theorem d16_3 : decode jdk_52_method_16_code 3 = .ok (.astore_n 3, 1) := by decide +kernel
theorem d16_4 : decode jdk_52_method_16_code 4 = .ok (.aload_n 0, 1) := by decide +kernel
theorem d16_5 : decode jdk_52_method_16_code 5 = .ok (.iload_n 1, 1) := by decide +kernel
theorem d16_6 : decode jdk_52_method_16_code 6 = .ok (.aload_n 3, 1) := by decide +kernel
theorem d16_7 : decode jdk_52_method_16_code 7 = .ok (.iconst 0, 1) := by decide +kernel
theorem d16_8 : decode jdk_52_method_16_code 8 = .ok (.iload_n 2, 1) := by decide +kernel
theorem d16_9 : decode jdk_52_method_16_code 9 = .ok (.invokestatic 115, 3) := by decide +kernel
theorem pd_0 : parseMethodDescriptor "([CI[BII)I" = some ⟨[(.array .char), .int, (.array .byte), .int, .int], some .int⟩ := by decide +kernel
theorem d16_12 : decode jdk_52_method_16_code 12 = .ok (.istore 4, 2) := by decide +kernel
theorem d16_14 : decode jdk_52_method_16_code 14 = .ok (.iload 4, 2) := by decide +kernel
theorem d16_16 : decode jdk_52_method_16_code 16 = .ok (.iload_n 2, 1) := by decide +kernel
theorem d16_17 : decode jdk_52_method_16_code 17 = .ok (.if_icmp .eq 40, 3) := by decide +kernel
theorem d16_57 : decode jdk_52_method_16_code 57 = .ok (.aload_n 3, 1) := by decide +kernel
theorem d16_58 : decode jdk_52_method_16_code 58 = .ok (.areturn, 1) := by decide +kernel
def Q_rm_cmp3_2 (Z : State) (a1 : Addr) (ka : ClassId) (c0 : Int32) (c1 : Int32) (h0 : Heap) (n0 : Nat) (vv : Option Value) (h : Heap) (L : List Loc) : Prop := ∃ b : Addr, ∃ k : ClassId, vv = some (.ref b) ∧ Fr n0 L ∧ Keep h0 h [] ∧ Arv Z h b k .byte (2 : Int32) [(.int (nar .byte (c0.toInt8.toInt32))), (.int (nar .byte (c1.toInt8.toInt32)))] (.int 0) ∧ h0.size ≤ b
set_option maxRecDepth 65536 in
set_option maxHeartbeats 40000000 in
theorem rm_cmp3_2 (l : Launch) (Z : State) (a0 : Array Value) (hw : ∀ d ∈ tables_1, d.before a0 Z = true) (ws : List Jvm.Cond) (a1 : Addr) (ka : ClassId) (c0 : Int32) (c1 : Int32) (h0 : Heap) (n0 : Nat) (Z0 : n0 ≤ h0.size) (pr0 : Old Z n0 h0) (pr1 : Arv Z h0 a1 ka .char (2 : Int32) [(.int c0), (.int c1)] (.int 0)) (hc0 : ¬ ((255 : Int32) < c0)) (hc1 : ¬ ((255 : Int32) < c1)) :
    Met l Z (⟨"java/lang/StringUTF16", "compress", "([CII)[B"⟩ : MethodName) jdk_52_method_16_code 6 (some (.array .byte)) ws ({ frames := 1, cells := 1, slots := 2, locals := 18 } : Room) #[(.ref a1), (.int 0), (.int 2)] h0 (Q_rm_cmp3_2 Z a1 ka c0 c1 h0 n0) := by
  refine Met.enter (f0 := fun m => mkF m 0 #[.val (.ref a1), .val (.int 0), .val (.int 2), .unset, .unset, .unset] []) (plainFor_of_name pn_java_lang_StringUTF16) (fun m => ef_rm_cmp3_2 m a1) ?_
  intro p e s m below meth c s₁ hx hby hml hown hnm hret hlk hZ X0 e0
  have hown : s.vm.findClass "java/lang/StringUTF16" = some m.cls := hown
  have hnm : meth.name = "compress" := hnm
  have hml : c.maxLocals = 6 := hml
  have hby : c.code = jdk_52_method_16_code := hby
  have N0 := Fr.nil n0
  refine Go.by (B := (s₁.setTop (mkF m 1 #[.val (.ref a1), .val (.int 0), .val (.int 2), .unset, .unset, .unset] [(.int 2)]))) (fun _ k => XS.iloadN X0.here hx rfl (hb hby d16_0) rfl k) ?_
  obtain ⟨T12, h12, k12, X12, e12, E12, A12, st12⟩ := newP X0 hx hZ (wd hw 18 rfl) e0 (g := (mkF m 1 #[.val (.ref a1), .val (.int 0), .val (.int 2), .unset, .unset, .unset] [(.int 2)])) rfl (hb hby d16_1) rfl (by decide) (cap := 2) (by decide) (by decide) (by decide) (by decide)
  obtain ⟨b12, g12⟩ : ∃ z, z = h0.size := ⟨_, rfl⟩
  rw [← g12] at A12 st12
  have sz_b12 : h0.size ≤ b12 := Nat.le_of_eq g12.symm
  have V12 : Arv Z h12 b12 k12 .byte (2 : Int32) [(.int 0), (.int 0)] (.int 0) := (Arv.new A12 (by decide)).pad (pad_rep [] (.int 0) 2)
  have O13 := pr0.ext E12
  have Z13 : n0 ≤ h12.size := Nat.le_trans Z0 E12.1
  refine Go.by (B := (T12.setTop (mkF m 3 #[.val (.ref a1), .val (.int 0), .val (.int 2), .unset, .unset, .unset] [(.ref b12)]))) st12 ?_
  refine Go.by (B := (T12.setTop (mkF m 9 #[.val (.ref a1), .val (.int 0), .val (.int 2), .val (.ref b12), .unset, .unset] [(.int 2), (.int 0), (.ref b12), (.int 0), (.ref a1)]))) (fun _ k => XS.astoreN X12.here hx rfl (hb hby d16_3) rfl rfl (l' := #[.val (.ref a1), .val (.int 0), .val (.int 2), .val (.ref b12), .unset, .unset]) rfl (XS.aloadN X12.here hx rfl (hb hby d16_4) rfl rfl (XS.iloadN X12.here hx rfl (hb hby d16_5) rfl (XS.aloadN X12.here hx rfl (hb hby d16_6) rfl rfl (XS.iconst X12.here hx rfl (hb hby d16_7) (XS.iloadN X12.here hx rfl (hb hby d16_8) rfl k)))))) ?_
  obtain ⟨_, _, ⟨T14, L14, k14, n14⟩, -, X14, ⟨Lc14, hQ14, l14, y14, z14⟩, st14⟩ := Jvm.LawKit.callS X12 hx (y := (⟨"java/lang/StringUTF16", "compress", "([CI[BII)I"⟩ : MethodName)) hown (mvT hZ (wd hw 98 rfl)) (mvT hZ (wd hw 99 rfl)) (mvT hZ (wd hw 96 rfl)) (mvT hZ (wd hw 100 rfl)) (by decide) (backOf (W := 0) (rm_cmp5_2 l Z a0 hw [] a1 b12 ka k12 c0 c1 h12 n0 Z13 O13 (pr1.ext E12) V12 (Nat.le_trans Z0 sz_b12) (Nat.ne_of_lt (Nat.lt_of_lt_of_le pr1.lt sz_b12)) hc0 hc1) hZ (wd hw 100 rfl) (wd hw 96 rfl) (by decide) (by decide)) (g := (mkF m 9 #[.val (.ref a1), .val (.int 0), .val (.int 2), .val (.ref b12), .unset, .unset] [(.int 2), (.int 0), (.ref b12), (.int 0), (.ref a1)])) rfl (by rw [hml]; rfl) (argsL := [(.ref a1), (.int 0), (.ref b12), (.int 0), (.int 2)]) (rest := []) (lenOf pd_0 rfl) rfl (by show 2 * 0 + _ ≤ _; exact Nat.le_of_eq rfl) (hb hby d16_9) (fun _ _ => ⟨rfl, e12, Nat.le_of_ble_eq_true rfl, Nat.le_of_ble_eq_true rfl⟩)
  dsimp only [Pt.U, Pt.locs, Pt.cells, Pt.slots] at X14 l14 y14 z14 st14 hQ14
  subst l14 y14 z14
  obtain ⟨rfl, Nq14, K14, p14_0⟩ := hQ14
  have N14 := Fr.app N0 Nq14
  have O15 := O13.keep K14 (allS (Nat.le_trans Z0 sz_b12) all0)
  have Z15 : n0 ≤ T14.heap.size := Nat.le_trans Z13 K14.1
  refine Go.by (B := (T14.setTop (mkF m 12 #[.val (.ref a1), .val (.int 0), .val (.int 2), .val (.ref b12), .unset, .unset] [(.int 2)]))) (fun _ k => st14 _ k) ?_
  refine Go.by (B := (T14.setTop (mkF m 58 #[.val (.ref a1), .val (.int 0), .val (.int 2), .val (.ref b12), .val (.int 2), .unset] [(.ref b12)]))) (fun _ k => XS.istore X14.here hx rfl (hb hby d16_12) rfl (l' := #[.val (.ref a1), .val (.int 0), .val (.int 2), .val (.ref b12), .val (.int 2), .unset]) rfl (XS.iload X14.here hx rfl (hb hby d16_14) rfl (XS.iloadN X14.here hx rfl (hb hby d16_16) rfl (XS.icmpYes X14.here hx rfl (pc0 := 17) (pc' := 57) rfl (hb hby d16_17) rfl (teq (by decide : (2 : Int32) = (2 : Int32))).1 (by decide) (by decide) (XS.aloadN X14.here hx rfl (hb hby d16_57) rfl rfl k))))) ?_
  refine Go.ret X14 hx hlk (t := (.array .byte)) hret rfl (Or.inr (Or.inr (Or.inr (Or.inr ⟨rfl, rfl, rfl⟩)))) (hb hby d16_58) (by decide) (by decide) ?_
  exact ⟨b12, k12, rfl, N14, (((Keep.refl h0 []).ext E12).trans K14 (allS (Or.inr (Nat.le_trans (Nat.le_refl _) sz_b12)) all0)), p14_0, (Nat.le_trans (Nat.le_refl _) sz_b12)⟩
theorem ef_rm_cfal_2 (m : MethodId) (x0 : Addr) : entryFrame m #[(.ref x0), (.int 2)] 2 = mkF m 0 #[.val (.ref x0), .val (.int 2)] [] := by first | (simp [entryFrame, mkF, argsToLocals, Value.category]; done) | rfl
theorem d18_0 : decode jdk_52_method_15_code 0 = .ok (.iload_n 1, 1) := by decide +kernel
theorem d18_1 : decode jdk_52_method_15_code 1 = .ok (.aload_n 0, 1) := by decide +kernel
theorem d18_2 : decode jdk_52_method_15_code 2 = .ok (.arraylength, 1) := by decide +kernel
theorem d18_3 : decode jdk_52_method_15_code 3 = .ok (.isub, 1) := by decide +kernel
theorem d18_4 : decode jdk_52_method_15_code 4 = .ok (.bipush 31, 2) := by decide +kernel
theorem d18_6 : decode jdk_52_method_15_code 6 = .ok (.iushr, 1) := by decide +kernel
theorem d18_7 : decode jdk_52_method_15_code 7 = .ok (.i2b, 1) := by decide +kernel
theorem d18_8 : decode jdk_52_method_15_code 8 = .ok (.ireturn, 1) := by decide +kernel
def Q_rm_cfal_2 (Z : State) (b1 : Addr) (kb : ClassId) (c0 : Int32) (c1 : Int32) (h0 : Heap) (n0 : Nat) (vv : Option Value) (h : Heap) (L : List Loc) : Prop := vv = some (.int 0) ∧ Fr n0 L ∧ h = h0
set_option maxRecDepth 65536 in
set_option maxHeartbeats 40000000 in
theorem rm_cfal_2 (l : Launch) (Z : State) (a0 : Array Value) (hw : ∀ d ∈ tables_1, d.before a0 Z = true) (ws : List Jvm.Cond) (b1 : Addr) (kb : ClassId) (c0 : Int32) (c1 : Int32) (h0 : Heap) (n0 : Nat) (Z0 : n0 ≤ h0.size) (pr0 : Arv Z h0 b1 kb .byte (2 : Int32) [(.int (nar .byte (c0.toInt8.toInt32))), (.int (nar .byte (c1.toInt8.toInt32)))] (.int 0)) :
    Met l Z (⟨"java/lang/StringUTF16", "coderFromArrayLen", "([BI)B"⟩ : MethodName) jdk_52_method_15_code 2 (some .byte) ws ({ frames := 0, cells := 0, slots := 0, locals := 0 } : Room) #[(.ref b1), (.int 2)] h0 (Q_rm_cfal_2 Z b1 kb c0 c1 h0 n0) := by
  refine Met.enter (f0 := fun m => mkF m 0 #[.val (.ref b1), .val (.int 2)] []) (plainFor_of_name pn_java_lang_StringUTF16) (fun m => ef_rm_cfal_2 m b1) ?_
  intro p e s m below meth c s₁ hx hby hml hown hnm hret hlk hZ X0 e0
  have hown : s.vm.findClass "java/lang/StringUTF16" = some m.cls := hown
  have hnm : meth.name = "coderFromArrayLen" := hnm
  have hml : c.maxLocals = 2 := hml
  have hby : c.code = jdk_52_method_15_code := hby
  have N0 := Fr.nil n0
  refine Go.by (B := (s₁.setTop (mkF m 2 #[.val (.ref b1), .val (.int 2)] [(.ref b1), (.int 2)]))) (fun _ k => XS.iloadN X0.here hx rfl (hb hby d18_0) rfl (XS.aloadN X0.here hx rfl (hb hby d18_1) rfl rfl k)) ?_
  obtain ⟨cl16, Ar16, q16, S16, N_16, Hs16, G16⟩ := id pr0
  refine Go.by (B := (s₁.setTop (mkF m 3 #[.val (.ref b1), .val (.int 2)] [(.int 2), (.int 2)]))) (fun _ k => X0.arraylength hx (by rw [e0]; exact Ar16.1) (State.isArrayOf_alike hZ.alike Ar16.2.1) (g := (mkF m 2 #[.val (.ref b1), .val (.int 2)] [(.ref b1), (.int 2)])) rfl rfl (hb hby d18_2) _ (by rw [len_of S16 N_16]; exact k)) ?_
  refine Go.by (B := (s₁.setTop (mkF m 8 #[.val (.ref b1), .val (.int 2)] [(.int 0)]))) (fun _ k => XS.isub X0.here hx rfl (hb hby d18_3) rfl (XS.bipush X0.here hx rfl (hb hby d18_4) (XS.iushr X0.here hx rfl (hb hby d18_6) rfl (XS.i2b X0.here hx rfl (hb hby d18_7) rfl k)))) ?_
  refine Go.ret X0 hx hlk (t := .byte) hret rfl (Or.inl ⟨rfl, by simp, _, rfl⟩) (hb hby d18_8) (by decide) (by decide) ?_
  rw [e0]
  exact ⟨rfl, N0, rfl⟩
theorem ef_rm_sV_2 (m : MethodId) (x0 : Addr) (x1 : Addr) : entryFrame m #[(.ref x0), (.ref x1), (.int 0), (.int 2), .null] 6 = mkF m 0 #[.val (.ref x0), .val (.ref x1), .val (.int 0), .val (.int 2), .val .null, .unset] [] := by first | (simp [entryFrame, mkF, argsToLocals, Value.category]; done) | rfl
theorem d15_0 : decode jdk_42_method_149_code 0 = .ok (.aload_n 0, 1) := by decide +kernel
theorem d15_1 : decode jdk_42_method_149_code 1 = .ok (.invokespecial 1, 3) := by decide +kernel
theorem d15_4 : decode jdk_42_method_149_code 4 = .ok (.iload_n 3, 1) := by decide +kernel
theorem d15_5 : decode jdk_42_method_149_code 5 = .ok (.ifCond .ne 22, 3) := by decide +kernel
theorem d15_27 : decode jdk_42_method_149_code 27 = .ok (.getstatic 38, 3) := by decide +kernel
theorem d15_30 : decode jdk_42_method_149_code 30 = .ok (.ifCond .eq 28, 3) := by decide +kernel
theorem d15_33 : decode jdk_42_method_149_code 33 = .ok (.aload_n 1, 1) := by decide +kernel
theorem d15_34 : decode jdk_42_method_149_code 34 = .ok (.iload_n 2, 1) := by decide +kernel
theorem d15_35 : decode jdk_42_method_149_code 35 = .ok (.iload_n 3, 1) := by decide +kernel
theorem d15_36 : decode jdk_42_method_149_code 36 = .ok (.invokestatic 177, 3) := by decide +kernel
theorem pd_1 : parseMethodDescriptor "([CII)[B" = some ⟨[(.array .char), .int, .int], some (.array .byte)⟩ := by decide +kernel
theorem d15_39 : decode jdk_42_method_149_code 39 = .ok (.astore 5, 2) := by decide +kernel
theorem d15_41 : decode jdk_42_method_149_code 41 = .ok (.aload_n 0, 1) := by decide +kernel
theorem d15_42 : decode jdk_42_method_149_code 42 = .ok (.aload 5, 2) := by decide +kernel
theorem d15_44 : decode jdk_42_method_149_code 44 = .ok (.iload_n 3, 1) := by decide +kernel
theorem d15_45 : decode jdk_42_method_149_code 45 = .ok (.invokestatic 47, 3) := by decide +kernel
theorem pd_2 : parseMethodDescriptor "([BI)B" = some ⟨[(.array .byte), .int], some .byte⟩ := by decide +kernel
theorem d15_48 : decode jdk_42_method_149_code 48 = .ok (.putfield 15, 3) := by decide +kernel
theorem d15_51 : decode jdk_42_method_149_code 51 = .ok (.aload_n 0, 1) := by decide +kernel
theorem d15_52 : decode jdk_42_method_149_code 52 = .ok (.aload 5, 2) := by decide +kernel
theorem d15_54 : decode jdk_42_method_149_code 54 = .ok (.putfield 9, 3) := by decide +kernel
theorem d15_57 : decode jdk_42_method_149_code 57 = .ok (.return_, 1) := by decide +kernel
theorem pn_java_lang_String : plainName "java/lang/String" = true := by first | (simp [plainName, overriddenIn]; done) | decide +kernel
def Q_rm_sV_2 (Z : State) (a1 : Addr) (v1 : Addr) (ka : ClassId) (c0 : Int32) (c1 : Int32) (cs : Int32) (h0 : Heap) (n0 : Nat) (vv : Option Value) (h : Heap) (L : List Loc) : Prop := ∃ t : Addr, ∃ k : ClassId, vv = none ∧ Fr n0 L ∧ Keep h0 h [a1] ∧ Exa Z h a1 "java/lang/String" ∧ Fld Z h a1 "java/lang/String" "value" "[B" (.ref t) ∧ Fld Z h a1 "java/lang/String" "coder" "B" (.int 0) ∧ Arv Z h t k .byte (2 : Int32) [(.int (nar .byte (c0.toInt8.toInt32))), (.int (nar .byte (c1.toInt8.toInt32)))] (.int 0) ∧ h0.size ≤ t
set_option maxRecDepth 65536 in
set_option maxHeartbeats 40000000 in
theorem rm_sV_2 (l : Launch) (Z : State) (a0 : Array Value) (hw : ∀ d ∈ tables_1, d.before a0 Z = true) (ws : List Jvm.Cond) (a1 : Addr) (v1 : Addr) (ka : ClassId) (c0 : Int32) (c1 : Int32) (cs : Int32) (h0 : Heap) (n0 : Nat) (Z0 : n0 ≤ h0.size) (pr0 : Old Z n0 h0) (pr1 : Sta Z Z.heap "java/lang/String" "COMPACT_STRINGS" "Z" (.int cs)) (hcs : ¬ (cs = (0 : Int32))) (pr3 : Exa Z h0 a1 "java/lang/String") (pr4 : Fld Z h0 a1 "java/lang/String" "value" "[B" .null) (pr5 : Fld Z h0 a1 "java/lang/String" "coder" "B" (.int 0)) (pr6 : n0 ≤ a1) (pr7 : Arv Z h0 v1 ka .char (2 : Int32) [(.int c0), (.int c1)] (.int 0)) (hc0 : ¬ ((255 : Int32) < c0)) (hc1 : ¬ ((255 : Int32) < c1)) :
    Met l Z (⟨"java/lang/String", "<init>", "([CIILjava/lang/Void;)V"⟩ : MethodName) jdk_42_method_149_code 6 none ws ({ frames := 2, cells := 1, slots := 2, locals := 35 } : Room) #[(.ref a1), (.ref v1), (.int 0), (.int 2), .null] h0 (Q_rm_sV_2 Z a1 v1 ka c0 c1 cs h0 n0) := by
  refine Met.enter (f0 := fun m => mkF m 0 #[.val (.ref a1), .val (.ref v1), .val (.int 0), .val (.int 2), .val .null, .unset] []) (plainFor_of_name pn_java_lang_String) (fun m => ef_rm_sV_2 m a1 v1) ?_
  intro p e s m below meth c s₁ hx hby hml hown hnm hret hlk hZ X0 e0
  have hown : s.vm.findClass "java/lang/String" = some m.cls := hown
  have hnm : meth.name = "<init>" := hnm
  have hml : c.maxLocals = 6 := hml
  have hby : c.code = jdk_42_method_149_code := hby
  have N0 := Fr.nil n0
  refine Go.by (B := (s₁.setTop (mkF m 1 #[.val (.ref a1), .val (.ref v1), .val (.int 0), .val (.int 2), .val .null, .unset] [(.ref a1)]))) (fun _ k => XS.aloadN X0.here hx rfl (hb hby d15_0) rfl rfl k) ?_
  obtain ⟨T17, X17, e17, st17⟩ := initO X0 hx hZ hown (wd hw 23 rfl) (wd hw 24 rfl) (wd hw 25 rfl) e0 (g := (mkF m 1 #[.val (.ref a1), .val (.ref v1), .val (.int 0), .val (.int 2), .val .null, .unset] [(.ref a1)])) rfl (by rw [hml]; rfl) rfl (hb hby d15_1) (by decide) (W := 0) (by show 2 * 0 + _ ≤ _; exact Nat.le_of_eq rfl) (by decide)
  refine Go.by (B := (T17.setTop (mkF m 4 #[.val (.ref a1), .val (.ref v1), .val (.int 0), .val (.int 2), .val .null, .unset] []))) st17 ?_
  refine Go.by (B := (T17.setTop (mkF m 27 #[.val (.ref a1), .val (.ref v1), .val (.int 0), .val (.int 2), .val .null, .unset] []))) (fun _ k => XS.iloadN X17.here hx rfl (hb hby d15_4) rfl (XS.ifYes X17.here hx rfl (pc0 := 5) (pc' := 27) rfl (hb hby d15_5) rfl ((if0 _ _).trans (feq (by decide : ¬ ((2 : Int32) = (0 : Int32)))).2) (by decide) (by decide) k)) ?_
  obtain ⟨T18, X18, e18, st18⟩ := getS2 X17 hx hZ hown (host := "") (Or.inl (wd hw 8 rfl)) Via.refl e17 (pr1.ext pr0.2) (g := (mkF m 27 #[.val (.ref a1), .val (.ref v1), .val (.int 0), .val (.int 2), .val .null, .unset] [])) rfl (hb hby d15_27)
  refine Go.by (B := (T18.setTop (mkF m 30 #[.val (.ref a1), .val (.ref v1), .val (.int 0), .val (.int 2), .val .null, .unset] [(.int cs)]))) st18 ?_
  refine Go.by (B := (T18.setTop (mkF m 36 #[.val (.ref a1), .val (.ref v1), .val (.int 0), .val (.int 2), .val .null, .unset] [(.int 2), (.int 0), (.ref v1)]))) (fun _ k => XS.ifNo X18.here hx rfl (hb hby d15_30) rfl ((if0 _ _).trans (feq hcs).1) (XS.aloadN X18.here hx rfl (hb hby d15_33) rfl rfl (XS.iloadN X18.here hx rfl (hb hby d15_34) rfl (XS.iloadN X18.here hx rfl (hb hby d15_35) rfl k)))) ?_
  obtain ⟨_, _, ⟨T19, L19, k19, n19⟩, -, X19, ⟨Lc19, hQ19, l19, y19, z19⟩, st19⟩ := Jvm.LawKit.callS X18 hx (y := (⟨"java/lang/StringUTF16", "compress", "([CII)[B"⟩ : MethodName)) hown (mvT hZ (wd hw 94 rfl)) (mvT hZ (wd hw 95 rfl)) (mvT hZ (wd hw 96 rfl)) (mvT hZ (wd hw 97 rfl)) (by decide) (backOf (W := 0) (rm_cmp3_2 l Z a0 hw [] v1 ka c0 c1 h0 n0 Z0 pr0 pr7 hc0 hc1) hZ (wd hw 97 rfl) (wd hw 96 rfl) (by decide) (by decide)) (g := (mkF m 36 #[.val (.ref a1), .val (.ref v1), .val (.int 0), .val (.int 2), .val .null, .unset] [(.int 2), (.int 0), (.ref v1)])) rfl (by rw [hml]; rfl) (argsL := [(.ref v1), (.int 0), (.int 2)]) (rest := []) (lenOf pd_1 rfl) rfl (by show 2 * 0 + _ ≤ _; exact Nat.le_of_eq rfl) (hb hby d15_36) (fun _ _ => ⟨rfl, e18, Nat.le_of_ble_eq_true rfl, Nat.le_of_ble_eq_true rfl⟩)
  dsimp only [Pt.U, Pt.locs, Pt.cells, Pt.slots] at X19 l19 y19 z19 st19 hQ19
  subst l19 y19 z19
  obtain ⟨b19, k19, rfl, Nq19, K19, p19_0, p19_1⟩ := hQ19
  have N19 := Fr.app N0 Nq19
  have O20 := pr0.keep K19 all0
  have Z20 : n0 ≤ T19.heap.size := Nat.le_trans Z0 K19.1
  have sz_b19 : h0.size ≤ b19 := p19_1
  refine Go.by (B := (T19.setTop (mkF m 39 #[.val (.ref a1), .val (.ref v1), .val (.int 0), .val (.int 2), .val .null, .unset] [(.ref b19)]))) (fun _ k => st19 _ k) ?_
  refine Go.by (B := (T19.setTop (mkF m 45 #[.val (.ref a1), .val (.ref v1), .val (.int 0), .val (.int 2), .val .null, .val (.ref b19)] [(.int 2), (.ref b19), (.ref a1)]))) (fun _ k => XS.astore X19.here hx rfl (hb hby d15_39) rfl rfl (l' := #[.val (.ref a1), .val (.ref v1), .val (.int 0), .val (.int 2), .val .null, .val (.ref b19)]) rfl (XS.aloadN X19.here hx rfl (hb hby d15_41) rfl rfl (XS.aload X19.here hx rfl (hb hby d15_42) rfl rfl (XS.iloadN X19.here hx rfl (hb hby d15_44) rfl k)))) ?_
  obtain ⟨_, _, ⟨T21, L21, k21, n21⟩, -, X21, ⟨Lc21, hQ21, l21, y21, z21⟩, st21⟩ := Jvm.LawKit.callS X19 hx (y := (⟨"java/lang/StringUTF16", "coderFromArrayLen", "([BI)B"⟩ : MethodName)) hown (mvT hZ (wd hw 101 rfl)) (mvT hZ (wd hw 102 rfl)) (mvT hZ (wd hw 96 rfl)) (mvT hZ (wd hw 103 rfl)) (by decide) (backOf (W := 1) (rm_cfal_2 l Z a0 hw [] b19 k19 c0 c1 T19.heap n0 Z20 p19_0) hZ (wd hw 103 rfl) (wd hw 96 rfl) (by decide) (by decide)) (g := (mkF m 45 #[.val (.ref a1), .val (.ref v1), .val (.int 0), .val (.int 2), .val .null, .val (.ref b19)] [(.int 2), (.ref b19), (.ref a1)])) rfl (by rw [hml]; rfl) (argsL := [(.ref b19), (.int 2)]) (rest := [(.ref a1)]) (lenOf pd_2 rfl) rfl (by show 2 * 0 + _ ≤ _; exact Nat.le_of_eq rfl) (hb hby d15_45) (fun _ _ => ⟨rfl, rfl, Nat.le_of_ble_eq_true rfl, Nat.le_of_ble_eq_true rfl⟩)
  dsimp only [Pt.U, Pt.locs, Pt.cells, Pt.slots] at X21 l21 y21 z21 st21 hQ21
  subst l21 y21 z21
  obtain ⟨rfl, Nq21, hh21⟩ := hQ21
  have N21 := Fr.app N19 Nq21
  refine Go.by (B := (T21.setTop (mkF m 48 #[.val (.ref a1), .val (.ref v1), .val (.int 0), .val (.int 2), .val .null, .val (.ref b19)] [(.int 0), (.ref a1)]))) (fun _ k => st21 _ k) ?_
  obtain ⟨T22, h22, X22, e22, W22, st22⟩ := putFN X21 hx hZ hown (wd hw 28 rfl) Via.refl hh21 (pr5.keep K19 nin0) (pr3.keep K19) (Or.inr ⟨(wd hw 29 rfl), rfl, hnm⟩) (wd hw 14 rfl) (ty := .byte) (v' := (.int 0)) (by decide) rfl rfl (g := (mkF m 48 #[.val (.ref a1), .val (.ref v1), .val (.int 0), .val (.int 2), .val .null, .val (.ref b19)] [(.int 0), (.ref a1)])) rfl rfl (hb hby d15_48)
  have N22 := Fr.snoc X22 N21 pr6
  have O23 := O20.wr W22 pr6
  have Z23 : n0 ≤ h22.size := Nat.le_trans Z20 (Keep.of_wr W22).1
  have F22 := (pr5.keep K19 nin0).same W22
  refine Go.by (B := (T22.setTop (mkF m 51 #[.val (.ref a1), .val (.ref v1), .val (.int 0), .val (.int 2), .val .null, .val (.ref b19)] []))) st22 ?_
  refine Go.by (B := (T22.setTop (mkF m 54 #[.val (.ref a1), .val (.ref v1), .val (.int 0), .val (.int 2), .val .null, .val (.ref b19)] [(.ref b19), (.ref a1)]))) (fun _ k => XS.aloadN X22.here hx rfl (hb hby d15_51) rfl rfl (XS.aload X22.here hx rfl (hb hby d15_52) rfl rfl k)) ?_
  have f24 := ((pr4.keep K19 nin0).other W22 (Or.inr (slot_ne (Or.inr (wd hw 27 rfl)) (Or.inr (wd hw 29 rfl)) (by decide) (t := (.array .byte)) (t' := .byte) (by decide) (by decide))))
  obtain ⟨T25, h25, X25, e25, W25, st25⟩ := putF X22 hx hZ hown (host := "") (Or.inl (wd hw 26 rfl)) Via.refl e22 f24 ((pr3.keep K19).wr W22) (Or.inr ⟨(wd hw 27 rfl), rfl, hnm⟩) (wd hw 14 rfl) (ty := (.array .byte)) (by decide) rfl rfl (g := (mkF m 54 #[.val (.ref a1), .val (.ref v1), .val (.int 0), .val (.int 2), .val .null, .val (.ref b19)] [(.ref b19), (.ref a1)])) rfl rfl (hb hby d15_54)
  have N25 := Fr.snoc X25 N22 pr6
  have O26 := O23.wr W25 pr6
  have Z26 : n0 ≤ h25.size := Nat.le_trans Z23 (Keep.of_wr W25).1
  have F25 := f24.same W25
  refine Go.by (B := (T25.setTop (mkF m 57 #[.val (.ref a1), .val (.ref v1), .val (.int 0), .val (.int 2), .val .null, .val (.ref b19)] []))) st25 ?_
  refine Go.retV X25 hx hlk hret (hb hby d15_57) (by decide) (by decide) ?_
  rw [e25]
  exact ⟨b19, k19, rfl, N25, ((((Keep.refl h0 [a1]).trans K19 all0).wr W22 (Or.inl (List.mem_of_getElem? (i := 0) rfl))).wr W25 (Or.inl (List.mem_of_getElem? (i := 0) rfl))), (((pr3.keep K19).wr W22).wr W25), F25, (F22.other W25 (Or.inr (slot_ne (Or.inr (wd hw 29 rfl)) (Or.inr (wd hw 27 rfl)) (by decide) (t := .byte) (t' := (.array .byte)) (by decide) (by decide)))), ((p19_0.other W22 (Ne.symm (Nat.ne_of_lt (Nat.lt_of_lt_of_le pr3.lt sz_b19)))).other W25 (Ne.symm (Nat.ne_of_lt (Nat.lt_of_lt_of_le pr3.lt sz_b19)))), (Nat.le_trans (Nat.le_refl _) sz_b19)⟩
theorem ef_rm_sC_2 (m : MethodId) (x0 : Addr) (x1 : Addr) : entryFrame m #[(.ref x0), (.ref x1)] 2 = mkF m 0 #[.val (.ref x0), .val (.ref x1)] [] := by first | (simp [entryFrame, mkF, argsToLocals, Value.category]; done) | rfl
theorem d14_0 : decode jdk_42_method_3_code 0 = .ok (.aload_n 0, 1) := by decide +kernel
theorem d14_1 : decode jdk_42_method_3_code 1 = .ok (.aload_n 1, 1) := by decide +kernel
theorem d14_2 : decode jdk_42_method_3_code 2 = .ok (.iconst 0, 1) := by decide +kernel
theorem d14_3 : decode jdk_42_method_3_code 3 = .ok (.aload_n 1, 1) := by decide +kernel
theorem d14_4 : decode jdk_42_method_3_code 4 = .ok (.arraylength, 1) := by decide +kernel
theorem d14_5 : decode jdk_42_method_3_code 5 = .ok (.aconst_null, 1) := by decide +kernel
theorem d14_6 : decode jdk_42_method_3_code 6 = .ok (.invokespecial 27, 3) := by decide +kernel
theorem pd_3 : parseMethodDescriptor "([CIILjava/lang/Void;)V" = some ⟨[(.array .char), .int, .int, (.object "java/lang/Void")], none⟩ := by decide +kernel
theorem d14_9 : decode jdk_42_method_3_code 9 = .ok (.return_, 1) := by decide +kernel
def Q_rm_sC_2 (Z : State) (a1 : Addr) (v1 : Addr) (ka : ClassId) (c0 : Int32) (c1 : Int32) (cs : Int32) (h0 : Heap) (n0 : Nat) (vv : Option Value) (h : Heap) (L : List Loc) : Prop := ∃ t : Addr, ∃ k : ClassId, vv = none ∧ Fr n0 L ∧ Keep h0 h [a1] ∧ Exa Z h a1 "java/lang/String" ∧ Fld Z h a1 "java/lang/String" "value" "[B" (.ref t) ∧ Fld Z h a1 "java/lang/String" "coder" "B" (.int 0) ∧ Arv Z h t k .byte (2 : Int32) [(.int (nar .byte (c0.toInt8.toInt32))), (.int (nar .byte (c1.toInt8.toInt32)))] (.int 0) ∧ h0.size ≤ t
set_option maxRecDepth 65536 in
set_option maxHeartbeats 40000000 in
theorem rm_sC_2 (l : Launch) (Z : State) (a0 : Array Value) (hw : ∀ d ∈ tables_1, d.before a0 Z = true) (ws : List Jvm.Cond) (a1 : Addr) (v1 : Addr) (ka : ClassId) (c0 : Int32) (c1 : Int32) (cs : Int32) (h0 : Heap) (n0 : Nat) (Z0 : n0 ≤ h0.size) (pr0 : Old Z n0 h0) (pr1 : Sta Z Z.heap "java/lang/String" "COMPACT_STRINGS" "Z" (.int cs)) (hcs : ¬ (cs = (0 : Int32))) (pr3 : Exa Z h0 a1 "java/lang/String") (pr4 : Fld Z h0 a1 "java/lang/String" "value" "[B" .null) (pr5 : Fld Z h0 a1 "java/lang/String" "coder" "B" (.int 0)) (pr6 : n0 ≤ a1) (pr7 : Arv Z h0 v1 ka .char (2 : Int32) [(.int c0), (.int c1)] (.int 0)) (hc0 : ¬ ((255 : Int32) < c0)) (hc1 : ¬ ((255 : Int32) < c1)) :
    Met l Z (⟨"java/lang/String", "<init>", "([C)V"⟩ : MethodName) jdk_42_method_3_code 2 none ws ({ frames := 3, cells := 1, slots := 2, locals := 52 } : Room) #[(.ref a1), (.ref v1)] h0 (Q_rm_sC_2 Z a1 v1 ka c0 c1 cs h0 n0) := by
  refine Met.enter (f0 := fun m => mkF m 0 #[.val (.ref a1), .val (.ref v1)] []) (plainFor_of_name pn_java_lang_String) (fun m => ef_rm_sC_2 m a1 v1) ?_
  intro p e s m below meth c s₁ hx hby hml hown hnm hret hlk hZ X0 e0
  have hown : s.vm.findClass "java/lang/String" = some m.cls := hown
  have hnm : meth.name = "<init>" := hnm
  have hml : c.maxLocals = 2 := hml
  have hby : c.code = jdk_42_method_3_code := hby
  have N0 := Fr.nil n0
  refine Go.by (B := (s₁.setTop (mkF m 4 #[.val (.ref a1), .val (.ref v1)] [(.ref v1), (.int 0), (.ref v1), (.ref a1)]))) (fun _ k => XS.aloadN X0.here hx rfl (hb hby d14_0) rfl rfl (XS.aloadN X0.here hx rfl (hb hby d14_1) rfl rfl (XS.iconst X0.here hx rfl (hb hby d14_2) (XS.aloadN X0.here hx rfl (hb hby d14_3) rfl rfl k)))) ?_
  obtain ⟨cl27, Ar27, q27, S27, N_27, Hs27, G27⟩ := id pr7
  refine Go.by (B := (s₁.setTop (mkF m 5 #[.val (.ref a1), .val (.ref v1)] [(.int 2), (.int 0), (.ref v1), (.ref a1)]))) (fun _ k => X0.arraylength hx (by rw [e0]; exact Ar27.1) (State.isArrayOf_alike hZ.alike Ar27.2.1) (g := (mkF m 4 #[.val (.ref a1), .val (.ref v1)] [(.ref v1), (.int 0), (.ref v1), (.ref a1)])) rfl rfl (hb hby d14_4) _ (by rw [len_of S27 N_27]; exact k)) ?_
  refine Go.by (B := (s₁.setTop (mkF m 6 #[.val (.ref a1), .val (.ref v1)] [.null, (.int 2), (.int 0), (.ref v1), (.ref a1)]))) (fun _ k => XS.aconstNull X0.here hx rfl (hb hby d14_5) k) ?_
  obtain ⟨_, _, ⟨T28, L28, k28, n28⟩, -, X28, ⟨Lc28, hQ28, l28, y28, z28⟩, st28⟩ := X0.specialBack hx (y := (⟨"java/lang/String", "<init>", "([CIILjava/lang/Void;)V"⟩ : MethodName)) rfl hown (mvT hZ (wd hw 88 rfl)) (mvT hZ (wd hw 89 rfl)) (mvT hZ (wd hw 90 rfl)) (by decide) (backOf (W := 0) (rm_sV_2 l Z a0 hw [] a1 v1 ka c0 c1 cs h0 n0 Z0 pr0 pr1 hcs pr3 pr4 pr5 pr6 pr7 hc0 hc1) hZ (wd hw 90 rfl) (wd hw 6 rfl) (by decide) (by decide)) (g := (mkF m 6 #[.val (.ref a1), .val (.ref v1)] [.null, (.int 2), (.int 0), (.ref v1), (.ref a1)])) rfl (by rw [hml]; rfl) (Steps.refl _) (a := a1) (argsL := [(.ref v1), (.int 0), (.int 2), .null]) (rest := []) (lenOf pd_3 rfl) rfl (by show 2 * 0 + _ ≤ _; exact Nat.le_of_eq rfl) (hb hby d14_6) (fun _ _ => ⟨rfl, e0, Nat.le_of_ble_eq_true rfl, Nat.le_of_ble_eq_true rfl⟩)
  dsimp only [Pt.U, Pt.locs, Pt.cells, Pt.slots] at X28 l28 y28 z28 st28 hQ28
  subst l28 y28 z28
  obtain ⟨t28, k28, rfl, Nq28, K28, p28_0, p28_1, p28_2, p28_3, p28_4⟩ := hQ28
  have N28 := Fr.app N0 Nq28
  have O29 := pr0.keep K28 (allS pr6 all0)
  have Z29 : n0 ≤ T28.heap.size := Nat.le_trans Z0 K28.1
  have sz_t28 : h0.size ≤ t28 := p28_4
  refine Go.by (B := (T28.setTop (mkF m 9 #[.val (.ref a1), .val (.ref v1)] []))) (fun _ k => st28.trans k) ?_
  refine Go.retV X28 hx hlk hret (hb hby d14_9) (by decide) (by decide) ?_
  exact ⟨t28, k28, rfl, N28, ((Keep.refl h0 [a1]).trans K28 (allS (Or.inl (List.mem_of_getElem? (i := 0) rfl)) all0)), p28_0, p28_1, p28_2, p28_3, (Nat.le_trans (Nat.le_refl _) sz_t28)⟩
theorem ef_rm_canEnc (m : MethodId) (x0 : Int32) : entryFrame m #[(.int x0)] 1 = mkF m 0 #[.val (.int x0)] [] := by first | (simp [entryFrame, mkF, argsToLocals, Value.category]; done) | rfl
theorem d3_0 : decode jdk_43_method_3_code 0 = .ok (.iload_n 0, 1) := by decide +kernel
theorem d3_1 : decode jdk_43_method_3_code 1 = .ok (.sipush 255, 3) := by decide +kernel
theorem d3_4 : decode jdk_43_method_3_code 4 = .ok (.if_icmp .gt 7, 3) := by decide +kernel
theorem d3_7 : decode jdk_43_method_3_code 7 = .ok (.iconst 1, 1) := by decide +kernel
theorem d3_8 : decode jdk_43_method_3_code 8 = .ok (.goto 4, 3) := by decide +kernel
theorem d3_12 : decode jdk_43_method_3_code 12 = .ok (.ireturn, 1) := by decide +kernel
theorem pn_java_lang_StringLatin1 : plainName "java/lang/StringLatin1" = true := by first | (simp [plainName, overriddenIn]; done) | decide +kernel
def Q_rm_canEnc (Z : State) (p1 : Int32) (h0 : Heap) (n0 : Nat) (vv : Option Value) (h : Heap) (L : List Loc) : Prop := vv = some (.int 1) ∧ Fr n0 L ∧ h = h0
set_option maxRecDepth 65536 in
set_option maxHeartbeats 40000000 in
theorem rm_canEnc (l : Launch) (Z : State) (a0 : Array Value) (hw : ∀ d ∈ tables_1, d.before a0 Z = true) (ws : List Jvm.Cond) (p1 : Int32) (h0 : Heap) (n0 : Nat) (Z0 : n0 ≤ h0.size) (q0 : ¬ ((255 : Int32) < p1)) :
    Met l Z (⟨"java/lang/StringLatin1", "canEncode", "(C)Z"⟩ : MethodName) jdk_43_method_3_code 1 (some .boolean) ws ({ frames := 0, cells := 0, slots := 0, locals := 0 } : Room) #[(.int p1)] h0 (Q_rm_canEnc Z p1 h0 n0) := by
  refine Met.enter (f0 := fun m => mkF m 0 #[.val (.int p1)] []) (plainFor_of_name pn_java_lang_StringLatin1) (fun m => ef_rm_canEnc m p1) ?_
  intro p e s m below meth c s₁ hx hby hml hown hnm hret hlk hZ X0 e0
  have hown : s.vm.findClass "java/lang/StringLatin1" = some m.cls := hown
  have hnm : meth.name = "canEncode" := hnm
  have hml : c.maxLocals = 1 := hml
  have hby : c.code = jdk_43_method_3_code := hby
  have N0 := Fr.nil n0
  refine Go.by (B := (s₁.setTop (mkF m 12 #[.val (.int p1)] [(.int 1)]))) (fun _ k => XS.iloadN X0.here hx rfl (hb hby d3_0) rfl (XS.sipush X0.here hx rfl (hb hby d3_1) (XS.icmpNo X0.here hx rfl (hb hby d3_4) rfl (flt q0).2.2.1 (XS.iconst X0.here hx rfl (hb hby d3_7) (XS.goto X0.here hx rfl (pc0 := 8) (pc' := 12) rfl (hb hby d3_8) (by decide) (by decide) k))))) ?_
  refine Go.ret X0 hx hlk (t := .boolean) hret rfl (Or.inl ⟨rfl, by simp, _, rfl⟩) (hb hby d3_12) (by decide) (by decide) ?_
  rw [e0]
  exact ⟨rfl, N0, rfl⟩
theorem ef_rm_toBytes (m : MethodId) (x0 : Int32) : entryFrame m #[(.int x0)] 1 = mkF m 0 #[.val (.int x0)] [] := by first | (simp [entryFrame, mkF, argsToLocals, Value.category]; done) | rfl
theorem d4_0 : decode jdk_43_method_46_code 0 = .ok (.iconst 1, 1) := by decide +kernel
theorem d4_1 : decode jdk_43_method_46_code 1 = .ok (.newarray .byte, 2) := by decide +kernel
theorem d4_3 : decode jdk_43_method_46_code 3 = .ok (.dup, 1) := by decide +kernel
theorem d4_4 : decode jdk_43_method_46_code 4 = .ok (.iconst 0, 1) := by decide +kernel
theorem d4_5 : decode jdk_43_method_46_code 5 = .ok (.iload_n 0, 1) := by decide +kernel
theorem d4_6 : decode jdk_43_method_46_code 6 = .ok (.i2b, 1) := by decide +kernel
theorem d4_7 : decode jdk_43_method_46_code 7 = .ok (.bastore, 1) := by decide +kernel
theorem d4_8 : decode jdk_43_method_46_code 8 = .ok (.areturn, 1) := by decide +kernel
def Q_rm_toBytes (Z : State) (p1 : Int32) (h0 : Heap) (n0 : Nat) (vv : Option Value) (h : Heap) (L : List Loc) : Prop := ∃ b : Addr, ∃ k : ClassId, vv = some (.ref b) ∧ Fr n0 L ∧ Keep h0 h [] ∧ Arv Z h b k .byte (1 : Int32) [(.int (nar .byte (p1.toInt8.toInt32)))] (.int 0) ∧ h0.size ≤ b
set_option maxRecDepth 65536 in
set_option maxHeartbeats 40000000 in
theorem rm_toBytes (l : Launch) (Z : State) (a0 : Array Value) (hw : ∀ d ∈ tables_1, d.before a0 Z = true) (ws : List Jvm.Cond) (p1 : Int32) (h0 : Heap) (n0 : Nat) (Z0 : n0 ≤ h0.size) (pr0 : Old Z n0 h0) :
    Met l Z (⟨"java/lang/StringLatin1", "toBytes", "(C)[B"⟩ : MethodName) jdk_43_method_46_code 1 (some (.array .byte)) ws ({ frames := 0, cells := 1, slots := 1, locals := 0 } : Room) #[(.int p1)] h0 (Q_rm_toBytes Z p1 h0 n0) := by
  refine Met.enter (f0 := fun m => mkF m 0 #[.val (.int p1)] []) (plainFor_of_name pn_java_lang_StringLatin1) (fun m => ef_rm_toBytes m p1) ?_
  intro p e s m below meth c s₁ hx hby hml hown hnm hret hlk hZ X0 e0
  have hown : s.vm.findClass "java/lang/StringLatin1" = some m.cls := hown
  have hnm : meth.name = "toBytes" := hnm
  have hml : c.maxLocals = 1 := hml
  have hby : c.code = jdk_43_method_46_code := hby
  have N0 := Fr.nil n0
  refine Go.by (B := (s₁.setTop (mkF m 1 #[.val (.int p1)] [(.int 1)]))) (fun _ k => XS.iconst X0.here hx rfl (hb hby d4_0) k) ?_
  obtain ⟨T30, h30, k30, X30, e30, E30, A30, st30⟩ := newP X0 hx hZ (wd hw 18 rfl) e0 (g := (mkF m 1 #[.val (.int p1)] [(.int 1)])) rfl (hb hby d4_1) rfl (by decide) (cap := 1) (by decide) (by decide) (by decide) (by decide)
  obtain ⟨b30, g30⟩ : ∃ z, z = h0.size := ⟨_, rfl⟩
  rw [← g30] at A30 st30
  have sz_b30 : h0.size ≤ b30 := Nat.le_of_eq g30.symm
  have V30 : Arv Z h30 b30 k30 .byte (1 : Int32) [(.int 0)] (.int 0) := (Arv.new A30 (by decide)).pad (pad_rep [] (.int 0) 1)
  have O31 := pr0.ext E30
  have Z31 : n0 ≤ h30.size := Nat.le_trans Z0 E30.1
  refine Go.by (B := (T30.setTop (mkF m 3 #[.val (.int p1)] [(.ref b30)]))) st30 ?_
  refine Go.by (B := (T30.setTop (mkF m 7 #[.val (.int p1)] [(.int (p1.toInt8.toInt32)), (.int 0), (.ref b30), (.ref b30)]))) (fun _ k => XS.dup X30.here hx rfl (hb hby d4_3) rfl rfl (XS.iconst X30.here hx rfl (hb hby d4_4) (XS.iloadN X30.here hx rfl (hb hby d4_5) rfl (XS.i2b X30.here hx rfl (hb hby d4_6) rfl k)))) ?_
  obtain ⟨cl32, Ar32, q32, S32, N_32, Hs32, G32⟩ := id V30
  have hin33 : ¬ ((0 : Int32) < 0 ∨ cl32.slots.size ≤ ((0 : Int32)).toNatClampNeg) := inb_of S32 ⟨by decide, by decide⟩
  obtain ⟨T33, h33, X33, e33, W33, st33⟩ := stB X30 hx hZ e30 Ar32 (j := (0 : Int32)) hin33 (g := (mkF m 7 #[.val (.int p1)] [(.int (p1.toInt8.toInt32)), (.int 0), (.ref b30), (.ref b30)])) rfl rfl (hb hby d4_7)
  have O34 := O31.wr W33 (Nat.le_trans Z0 sz_b30)
  have Z34 : n0 ≤ h33.size := Nat.le_trans Z31 (Keep.of_wr W33).1
  have V33 : Arv Z h33 b30 k30 .byte (1 : Int32) [(.int (nar .byte (p1.toInt8.toInt32)))] (.int 0) := Arv.set Ar32 q32 S32 N_32 Hs32 G32 (fits_nar_byte _) W33 0 rfl (Nat.le_of_ble_eq_true rfl)
  have N33 := Fr.snoc X33 N0 (Nat.le_trans Z0 sz_b30)
  refine Go.by (B := (T33.setTop (mkF m 8 #[.val (.int p1)] [(.ref b30)]))) st33 ?_
  refine Go.ret X33 hx hlk (t := (.array .byte)) hret rfl (Or.inr (Or.inr (Or.inr (Or.inr ⟨rfl, rfl, rfl⟩)))) (hb hby d4_8) (by decide) (by decide) ?_
  rw [e33]
  exact ⟨b30, k30, rfl, N33, (((Keep.refl h0 []).ext E30).wr W33 (Or.inr (Nat.le_trans (Nat.le_refl _) sz_b30))), V33, (Nat.le_trans (Nat.le_refl _) sz_b30)⟩
theorem ef_rm_sinit (m : MethodId) (x0 : Addr) (x1 : Addr) : entryFrame m #[(.ref x0), (.ref x1), (.int 0)] 3 = mkF m 0 #[.val (.ref x0), .val (.ref x1), .val (.int 0)] [] := by first | (simp [entryFrame, mkF, argsToLocals, Value.category]; done) | rfl
theorem d5_0 : decode jdk_42_method_151_code 0 = .ok (.aload_n 0, 1) := by decide +kernel
theorem d5_1 : decode jdk_42_method_151_code 1 = .ok (.invokespecial 1, 3) := by decide +kernel
theorem d5_4 : decode jdk_42_method_151_code 4 = .ok (.aload_n 0, 1) := by decide +kernel
theorem d5_5 : decode jdk_42_method_151_code 5 = .ok (.aload_n 1, 1) := by decide +kernel
theorem d5_6 : decode jdk_42_method_151_code 6 = .ok (.putfield 9, 3) := by decide +kernel
theorem d5_9 : decode jdk_42_method_151_code 9 = .ok (.aload_n 0, 1) := by decide +kernel
theorem d5_10 : decode jdk_42_method_151_code 10 = .ok (.iload_n 2, 1) := by decide +kernel
theorem d5_11 : decode jdk_42_method_151_code 11 = .ok (.putfield 15, 3) := by decide +kernel
theorem d5_14 : decode jdk_42_method_151_code 14 = .ok (.return_, 1) := by decide +kernel
def Q_rm_sinit (Z : State) (a1 : Addr) (v1 : Addr) (h0 : Heap) (n0 : Nat) (vv : Option Value) (h : Heap) (L : List Loc) : Prop := vv = none ∧ Fr n0 L ∧ Keep h0 h [a1] ∧ Exa Z h a1 "java/lang/String" ∧ Fld Z h a1 "java/lang/String" "value" "[B" (.ref v1) ∧ Fld Z h a1 "java/lang/String" "coder" "B" (.int 0)
set_option maxRecDepth 65536 in
set_option maxHeartbeats 40000000 in
theorem rm_sinit (l : Launch) (Z : State) (a0 : Array Value) (hw : ∀ d ∈ tables_1, d.before a0 Z = true) (ws : List Jvm.Cond) (a1 : Addr) (v1 : Addr) (h0 : Heap) (n0 : Nat) (Z0 : n0 ≤ h0.size) (pr0 : Old Z n0 h0) (pr1 : Exa Z h0 a1 "java/lang/String") (pr2 : Fld Z h0 a1 "java/lang/String" "value" "[B" .null) (pr3 : Fld Z h0 a1 "java/lang/String" "coder" "B" (.int 0)) (pr4 : n0 ≤ a1) :
    Met l Z (⟨"java/lang/String", "<init>", "([BB)V"⟩ : MethodName) jdk_42_method_151_code 3 none ws ({ frames := 1, cells := 0, slots := 0, locals := 12 } : Room) #[(.ref a1), (.ref v1), (.int 0)] h0 (Q_rm_sinit Z a1 v1 h0 n0) := by
  refine Met.enter (f0 := fun m => mkF m 0 #[.val (.ref a1), .val (.ref v1), .val (.int 0)] []) (plainFor_of_name pn_java_lang_String) (fun m => ef_rm_sinit m a1 v1) ?_
  intro p e s m below meth c s₁ hx hby hml hown hnm hret hlk hZ X0 e0
  have hown : s.vm.findClass "java/lang/String" = some m.cls := hown
  have hnm : meth.name = "<init>" := hnm
  have hml : c.maxLocals = 3 := hml
  have hby : c.code = jdk_42_method_151_code := hby
  have N0 := Fr.nil n0
  refine Go.by (B := (s₁.setTop (mkF m 1 #[.val (.ref a1), .val (.ref v1), .val (.int 0)] [(.ref a1)]))) (fun _ k => XS.aloadN X0.here hx rfl (hb hby d5_0) rfl rfl k) ?_
  obtain ⟨T35, X35, e35, st35⟩ := initO X0 hx hZ hown (wd hw 23 rfl) (wd hw 24 rfl) (wd hw 25 rfl) e0 (g := (mkF m 1 #[.val (.ref a1), .val (.ref v1), .val (.int 0)] [(.ref a1)])) rfl (by rw [hml]; rfl) rfl (hb hby d5_1) (by decide) (W := 0) (by show 2 * 0 + _ ≤ _; exact Nat.le_of_eq rfl) (by decide)
  refine Go.by (B := (T35.setTop (mkF m 4 #[.val (.ref a1), .val (.ref v1), .val (.int 0)] []))) st35 ?_
  refine Go.by (B := (T35.setTop (mkF m 6 #[.val (.ref a1), .val (.ref v1), .val (.int 0)] [(.ref v1), (.ref a1)]))) (fun _ k => XS.aloadN X35.here hx rfl (hb hby d5_4) rfl rfl (XS.aloadN X35.here hx rfl (hb hby d5_5) rfl rfl k)) ?_
  obtain ⟨T36, h36, X36, e36, W36, st36⟩ := putF X35 hx hZ hown (host := "") (Or.inl (wd hw 26 rfl)) Via.refl e35 pr2 pr1 (Or.inr ⟨(wd hw 27 rfl), rfl, hnm⟩) (wd hw 14 rfl) (ty := (.array .byte)) (by decide) rfl rfl (g := (mkF m 6 #[.val (.ref a1), .val (.ref v1), .val (.int 0)] [(.ref v1), (.ref a1)])) rfl rfl (hb hby d5_6)
  have N36 := Fr.snoc X36 N0 pr4
  have O37 := pr0.wr W36 pr4
  have Z37 : n0 ≤ h36.size := Nat.le_trans Z0 (Keep.of_wr W36).1
  have F36 := pr2.same W36
  refine Go.by (B := (T36.setTop (mkF m 9 #[.val (.ref a1), .val (.ref v1), .val (.int 0)] []))) st36 ?_
  refine Go.by (B := (T36.setTop (mkF m 11 #[.val (.ref a1), .val (.ref v1), .val (.int 0)] [(.int 0), (.ref a1)]))) (fun _ k => XS.aloadN X36.here hx rfl (hb hby d5_9) rfl rfl (XS.iloadN X36.here hx rfl (hb hby d5_10) rfl k)) ?_
  have f38 := (pr3.other W36 (Or.inr (slot_ne (Or.inr (wd hw 29 rfl)) (Or.inr (wd hw 27 rfl)) (by decide) (t := .byte) (t' := (.array .byte)) (by decide) (by decide))))
  obtain ⟨T39, h39, X39, e39, W39, st39⟩ := putFN X36 hx hZ hown (wd hw 28 rfl) Via.refl e36 f38 (pr1.wr W36) (Or.inr ⟨(wd hw 29 rfl), rfl, hnm⟩) (wd hw 14 rfl) (ty := .byte) (v' := (.int 0)) (by decide) rfl rfl (g := (mkF m 11 #[.val (.ref a1), .val (.ref v1), .val (.int 0)] [(.int 0), (.ref a1)])) rfl rfl (hb hby d5_11)
  have N39 := Fr.snoc X39 N36 pr4
  have O40 := O37.wr W39 pr4
  have Z40 : n0 ≤ h39.size := Nat.le_trans Z37 (Keep.of_wr W39).1
  have F39 := f38.same W39
  refine Go.by (B := (T39.setTop (mkF m 14 #[.val (.ref a1), .val (.ref v1), .val (.int 0)] []))) st39 ?_
  refine Go.retV X39 hx hlk hret (hb hby d5_14) (by decide) (by decide) ?_
  rw [e39]
  exact ⟨rfl, N39, (((Keep.refl h0 [a1]).wr W36 (Or.inl (List.mem_of_getElem? (i := 0) rfl))).wr W39 (Or.inl (List.mem_of_getElem? (i := 0) rfl))), ((pr1.wr W36).wr W39), (F36.other W39 (Or.inr (slot_ne (Or.inr (wd hw 27 rfl)) (Or.inr (wd hw 29 rfl)) (by decide) (t := (.array .byte)) (t' := .byte) (by decide) (by decide)))), F39⟩
theorem ef_rm_valueOfC (m : MethodId) (x0 : Int32) : entryFrame m #[(.int x0)] 1 = mkF m 0 #[.val (.int x0)] [] := by first | (simp [entryFrame, mkF, argsToLocals, Value.category]; done) | rfl
theorem d2_0 : decode jdk_42_method_139_code 0 = .ok (.getstatic 38, 3) := by decide +kernel
theorem d2_3 : decode jdk_42_method_139_code 3 = .ok (.ifCond .eq 23, 3) := by decide +kernel
theorem d2_6 : decode jdk_42_method_139_code 6 = .ok (.iload_n 0, 1) := by decide +kernel
theorem d2_7 : decode jdk_42_method_139_code 7 = .ok (.invokestatic 1015, 3) := by decide +kernel
theorem pd_4 : parseMethodDescriptor "(C)Z" = some ⟨[.char], some .boolean⟩ := by decide +kernel
theorem d2_10 : decode jdk_42_method_139_code 10 = .ok (.ifCond .eq 16, 3) := by decide +kernel
theorem d2_13 : decode jdk_42_method_139_code 13 = .ok (.new 10, 3) := by decide +kernel
theorem d2_16 : decode jdk_42_method_139_code 16 = .ok (.dup, 1) := by decide +kernel
theorem d2_17 : decode jdk_42_method_139_code 17 = .ok (.iload_n 0, 1) := by decide +kernel
theorem d2_18 : decode jdk_42_method_139_code 18 = .ok (.invokestatic 1018, 3) := by decide +kernel
theorem pd_5 : parseMethodDescriptor "(C)[B" = some ⟨[.char], some (.array .byte)⟩ := by decide +kernel
theorem d2_21 : decode jdk_42_method_139_code 21 = .ok (.iconst 0, 1) := by decide +kernel
theorem d2_22 : decode jdk_42_method_139_code 22 = .ok (.invokespecial 209, 3) := by decide +kernel
theorem pd_6 : parseMethodDescriptor "([BB)V" = some ⟨[(.array .byte), .byte], none⟩ := by decide +kernel
theorem d2_25 : decode jdk_42_method_139_code 25 = .ok (.areturn, 1) := by decide +kernel
def Q_rm_valueOfC (Z : State) (p1 : Int32) (cs : Int32) (h0 : Heap) (n0 : Nat) (vv : Option Value) (h : Heap) (L : List Loc) : Prop := ∃ b : Addr, ∃ t : Addr, ∃ k : ClassId, vv = some (.ref b) ∧ Fr n0 L ∧ Keep h0 h [] ∧ Exa Z h b "java/lang/String" ∧ Fld Z h b "java/lang/String" "value" "[B" (.ref t) ∧ Fld Z h b "java/lang/String" "coder" "B" (.int 0) ∧ Arv Z h t k .byte (1 : Int32) [(.int (nar .byte (p1.toInt8.toInt32)))] (.int 0) ∧ h0.size ≤ b ∧ h0.size ≤ t
set_option maxRecDepth 65536 in
set_option maxHeartbeats 40000000 in
theorem rm_valueOfC (l : Launch) (Z : State) (a0 : Array Value) (hw : ∀ d ∈ tables_1, d.before a0 Z = true) (ws : List Jvm.Cond) (p1 : Int32) (cs : Int32) (h0 : Heap) (n0 : Nat) (Z0 : n0 ≤ h0.size) (pr0 : Old Z n0 h0) (pr1 : Sta Z Z.heap "java/lang/String" "COMPACT_STRINGS" "Z" (.int cs)) (hcs : ¬ (cs = (0 : Int32))) (q0 : ¬ ((255 : Int32) < p1)) :
    Met l Z (⟨"java/lang/String", "valueOf", "(C)Ljava/lang/String;"⟩ : MethodName) jdk_42_method_139_code 1 (some (.object "java/lang/String")) ws ({ frames := 2, cells := 2, slots := 5, locals := 27 } : Room) #[(.int p1)] h0 (Q_rm_valueOfC Z p1 cs h0 n0) := by
  refine Met.enter (f0 := fun m => mkF m 0 #[.val (.int p1)] []) (plainFor_of_name pn_java_lang_String) (fun m => ef_rm_valueOfC m p1) ?_
  intro p e s m below meth c s₁ hx hby hml hown hnm hret hlk hZ X0 e0
  have hown : s.vm.findClass "java/lang/String" = some m.cls := hown
  have hnm : meth.name = "valueOf" := hnm
  have hml : c.maxLocals = 1 := hml
  have hby : c.code = jdk_42_method_139_code := hby
  have N0 := Fr.nil n0
  obtain ⟨T41, X41, e41, st41⟩ := getS2 X0 hx hZ hown (host := "") (Or.inl (wd hw 8 rfl)) Via.refl e0 (pr1.ext pr0.2) (g := (mkF m 0 #[.val (.int p1)] [])) rfl (hb hby d2_0)
  refine Go.by (B := (T41.setTop (mkF m 3 #[.val (.int p1)] [(.int cs)]))) st41 ?_
  refine Go.by (B := (T41.setTop (mkF m 7 #[.val (.int p1)] [(.int p1)]))) (fun _ k => XS.ifNo X41.here hx rfl (hb hby d2_3) rfl ((if0 _ _).trans (feq hcs).1) (XS.iloadN X41.here hx rfl (hb hby d2_6) rfl k)) ?_
  obtain ⟨_, _, ⟨T42, L42, k42, n42⟩, -, X42, ⟨Lc42, hQ42, l42, y42, z42⟩, st42⟩ := Jvm.LawKit.callS X41 hx (y := (⟨"java/lang/StringLatin1", "canEncode", "(C)Z"⟩ : MethodName)) hown (mvT hZ (wd hw 9 rfl)) (mvT hZ (wd hw 10 rfl)) (mvT hZ (wd hw 11 rfl)) (mvT hZ (wd hw 12 rfl)) (by decide) (backOf (W := 0) (rm_canEnc l Z a0 hw [] p1 h0 n0 Z0 q0) hZ (wd hw 12 rfl) (wd hw 11 rfl) (by decide) (by decide)) (g := (mkF m 7 #[.val (.int p1)] [(.int p1)])) rfl (by rw [hml]; rfl) (argsL := [(.int p1)]) (rest := []) (lenOf pd_4 rfl) rfl (by show 2 * 0 + _ ≤ _; exact Nat.le_of_eq rfl) (hb hby d2_7) (fun _ _ => ⟨rfl, e41, Nat.le_of_ble_eq_true rfl, Nat.le_of_ble_eq_true rfl⟩)
  dsimp only [Pt.U, Pt.locs, Pt.cells, Pt.slots] at X42 l42 y42 z42 st42 hQ42
  subst l42 y42 z42
  obtain ⟨rfl, Nq42, hh42⟩ := hQ42
  have N42 := Fr.app N0 Nq42
  refine Go.by (B := (T42.setTop (mkF m 10 #[.val (.int p1)] [(.int 1)]))) (fun _ k => st42 _ k) ?_
  refine Go.by (B := (T42.setTop (mkF m 13 #[.val (.int p1)] []))) (fun _ k => XS.ifNo X42.here hx rfl (hb hby d2_10) rfl ((if0 _ _).trans (feq (by decide : ¬ ((1 : Int32) = (0 : Int32)))).1) k) ?_
  obtain ⟨T43, h43, X43, e43, E43, A43, D43, -, st43⟩ := newO X42 hx hZ hown (wd hw 13 rfl) (wd hw 14 rfl) (wd hw 6 rfl) hh42 (g := (mkF m 13 #[.val (.int p1)] [])) rfl (hb hby d2_13) (by decide) (by decide)
  obtain ⟨b43, g43⟩ : ∃ z, z = h0.size := ⟨_, rfl⟩
  rw [← g43] at A43 D43 st43
  have sz_b43 : h0.size ≤ b43 := Nat.le_of_eq g43.symm
  have O44 := pr0.ext E43
  have Z44 : n0 ≤ h43.size := Nat.le_trans Z0 E43.1
  have F45 : Fld Z h43 b43 "java/lang/String" "value" "[B" .null := D43 (Or.inr (wd hw 27 rfl)) (ty := (.array .byte)) (by decide)
  have F46 : Fld Z h43 b43 "java/lang/String" "coder" "B" (.int 0) := D43 (Or.inr (wd hw 29 rfl)) (ty := .byte) (by decide)
  refine Go.by (B := (T43.setTop (mkF m 16 #[.val (.int p1)] [(.ref b43)]))) st43 ?_
  refine Go.by (B := (T43.setTop (mkF m 18 #[.val (.int p1)] [(.int p1), (.ref b43), (.ref b43)]))) (fun _ k => XS.dup X43.here hx rfl (hb hby d2_16) rfl rfl (XS.iloadN X43.here hx rfl (hb hby d2_17) rfl k)) ?_
  obtain ⟨_, _, ⟨T47, L47, k47, n47⟩, -, X47, ⟨Lc47, hQ47, l47, y47, z47⟩, st47⟩ := Jvm.LawKit.callS X43 hx (y := (⟨"java/lang/StringLatin1", "toBytes", "(C)[B"⟩ : MethodName)) hown (mvT hZ (wd hw 15 rfl)) (mvT hZ (wd hw 16 rfl)) (mvT hZ (wd hw 11 rfl)) (mvT hZ (wd hw 17 rfl)) (by decide) (backOf (W := 2) (rm_toBytes l Z a0 hw [] p1 h43 n0 Z44 O44) hZ (wd hw 17 rfl) (wd hw 11 rfl) (by decide) (by decide)) (g := (mkF m 18 #[.val (.int p1)] [(.int p1), (.ref b43), (.ref b43)])) rfl (by rw [hml]; rfl) (argsL := [(.int p1)]) (rest := [(.ref b43), (.ref b43)]) (lenOf pd_5 rfl) rfl (by show 2 * 0 + _ ≤ _; exact Nat.le_of_eq rfl) (hb hby d2_18) (fun _ _ => ⟨rfl, e43, Nat.le_of_ble_eq_true rfl, Nat.le_of_ble_eq_true rfl⟩)
  dsimp only [Pt.U, Pt.locs, Pt.cells, Pt.slots] at X47 l47 y47 z47 st47 hQ47
  subst l47 y47 z47
  obtain ⟨b47, k47, rfl, Nq47, K47, p47_0, p47_1⟩ := hQ47
  have N47 := Fr.app N42 Nq47
  have O48 := O44.keep K47 all0
  have Z48 : n0 ≤ T47.heap.size := Nat.le_trans Z44 K47.1
  have sz_b47 : h43.size ≤ b47 := p47_1
  refine Go.by (B := (T47.setTop (mkF m 21 #[.val (.int p1)] [(.ref b47), (.ref b43), (.ref b43)]))) (fun _ k => st47 _ k) ?_
  refine Go.by (B := (T47.setTop (mkF m 22 #[.val (.int p1)] [(.int 0), (.ref b47), (.ref b43), (.ref b43)]))) (fun _ k => XS.iconst X47.here hx rfl (hb hby d2_21) k) ?_
  obtain ⟨_, _, ⟨T49, L49, k49, n49⟩, -, X49, ⟨Lc49, hQ49, l49, y49, z49⟩, st49⟩ := X47.specialBack hx (y := (⟨"java/lang/String", "<init>", "([BB)V"⟩ : MethodName)) rfl hown (mvT hZ (wd hw 19 rfl)) (mvT hZ (wd hw 20 rfl)) (mvT hZ (wd hw 22 rfl)) (by decide) (backOf (W := 1) (rm_sinit l Z a0 hw [] b43 b47 T47.heap n0 Z48 O48 (A43.keep K47) (F45.keep K47 nin0) (F46.keep K47 nin0) (Nat.le_trans Z0 sz_b43)) hZ (wd hw 22 rfl) (wd hw 6 rfl) (by decide) (by decide)) (g := (mkF m 22 #[.val (.int p1)] [(.int 0), (.ref b47), (.ref b43), (.ref b43)])) rfl (by rw [hml]; rfl) (Steps.refl _) (a := b43) (argsL := [(.ref b47), (.int 0)]) (rest := [(.ref b43)]) (lenOf pd_6 rfl) rfl (by show 2 * 0 + _ ≤ _; exact Nat.le_of_eq rfl) (hb hby d2_22) (fun _ _ => ⟨rfl, rfl, Nat.le_of_ble_eq_true rfl, Nat.le_of_ble_eq_true rfl⟩)
  dsimp only [Pt.U, Pt.locs, Pt.cells, Pt.slots] at X49 l49 y49 z49 st49 hQ49
  subst l49 y49 z49
  obtain ⟨rfl, Nq49, K49, p49_0, p49_1, p49_2⟩ := hQ49
  have N49 := Fr.app N47 Nq49
  have O50 := O48.keep K49 (allS (Nat.le_trans Z0 sz_b43) all0)
  have Z50 : n0 ≤ T49.heap.size := Nat.le_trans Z48 K49.1
  refine Go.by (B := (T49.setTop (mkF m 25 #[.val (.int p1)] [(.ref b43)]))) (fun _ k => st49.trans k) ?_
  refine Go.ret X49 hx hlk (t := (.object "java/lang/String")) hret rfl (Or.inr (Or.inr (Or.inr (Or.inr ⟨rfl, rfl, rfl⟩)))) (hb hby d2_25) (by decide) (by decide) ?_
  exact ⟨b43, b47, k47, rfl, N49, ((((Keep.refl h0 []).ext E43).trans K47 all0).trans K49 (allS (Or.inr (Nat.le_trans (Nat.le_refl _) sz_b43)) all0)), p49_0, p49_1, p49_2, (p47_0.keep K49 (ninS (Ne.symm (Nat.ne_of_lt (Nat.lt_of_lt_of_le A43.lt sz_b47))) nin0)), (Nat.le_trans (Nat.le_refl _) sz_b43), (Nat.le_trans (Nat.le_trans (Nat.le_refl _) E43.1) sz_b47)⟩
theorem ef_rm_sV_0 (m : MethodId) (x0 : Addr) (x1 : Addr) : entryFrame m #[(.ref x0), (.ref x1), (.int 0), (.int 0), .null] 6 = mkF m 0 #[.val (.ref x0), .val (.ref x1), .val (.int 0), .val (.int 0), .val .null, .unset] [] := by first | (simp [entryFrame, mkF, argsToLocals, Value.category]; done) | rfl
theorem d15_8 : decode jdk_42_method_149_code 8 = .ok (.aload_n 0, 1) := by decide +kernel
theorem d15_9 : decode jdk_42_method_149_code 9 = .ok (.ldc 7, 2) := by decide +kernel
theorem d15_11 : decode jdk_42_method_149_code 11 = .ok (.getfield 9, 3) := by decide +kernel
theorem d15_14 : decode jdk_42_method_149_code 14 = .ok (.putfield 9, 3) := by decide +kernel
theorem d15_17 : decode jdk_42_method_149_code 17 = .ok (.aload_n 0, 1) := by decide +kernel
theorem d15_18 : decode jdk_42_method_149_code 18 = .ok (.ldc 7, 2) := by decide +kernel
theorem d15_20 : decode jdk_42_method_149_code 20 = .ok (.getfield 15, 3) := by decide +kernel
theorem d15_23 : decode jdk_42_method_149_code 23 = .ok (.putfield 15, 3) := by decide +kernel
theorem d15_26 : decode jdk_42_method_149_code 26 = .ok (.return_, 1) := by decide +kernel
def Q_rm_sV_0 (Z : State) (a1 : Addr) (v1 : Addr) (h0 : Heap) (n0 : Nat) (vv : Option Value) (h : Heap) (L : List Loc) : Prop := ∃ t : Addr, ∃ k : ClassId, vv = none ∧ Fr n0 L ∧ Keep h0 h [a1] ∧ Exa Z h a1 "java/lang/String" ∧ Fld Z h a1 "java/lang/String" "value" "[B" (.ref t) ∧ Fld Z h a1 "java/lang/String" "coder" "B" (.int 0) ∧ Arv Z h t k .byte (0 : Int32) [] (.int 0)
set_option maxRecDepth 65536 in
set_option maxHeartbeats 40000000 in
theorem rm_sV_0 (l : Launch) (Z : State) (a0 : Array Value) (hw : ∀ d ∈ tables_1, d.before a0 Z = true) (ws : List Jvm.Cond) (a1 : Addr) (v1 : Addr) (h0 : Heap) (n0 : Nat) (Z0 : n0 ≤ h0.size) (pr0 : Old Z n0 h0) (pr1 : Exa Z h0 a1 "java/lang/String") (pr2 : Fld Z h0 a1 "java/lang/String" "value" "[B" .null) (pr3 : Fld Z h0 a1 "java/lang/String" "coder" "B" (.int 0)) (pr4 : n0 ≤ a1) :
    MetS l Z own_EL (⟨"java/lang/String", "<init>", "([CIILjava/lang/Void;)V"⟩ : MethodName) jdk_42_method_149_code 6 none ws ({ frames := 1, cells := 2, slots := 4, locals := 12 } : Room) #[(.ref a1), (.ref v1), (.int 0), (.int 0), .null] h0 (Q_rm_sV_0 Z a1 v1 h0 n0) := by
  refine MetS.enter (f0 := fun m => mkF m 0 #[.val (.ref a1), .val (.ref v1), .val (.int 0), .val (.int 0), .val .null, .unset] []) (plainFor_of_name pn_java_lang_String) (fun m => ef_rm_sV_0 m a1 v1) ?_
  intro p e s m below meth c s₁ hx hby hml hown hnm hret hlk hZ X0 e0 hS C0
  have hown : s.vm.findClass "java/lang/String" = some m.cls := hown
  have hnm : meth.name = "<init>" := hnm
  have hml : c.maxLocals = 6 := hml
  have hby : c.code = jdk_42_method_149_code := hby
  have N0 := Fr.nil n0
  have hk : h0.size ≤ h0.size := Nat.le_refl _
  have hEL : EW Z a0 own_EL := own_hEL hw
  have wS : ∀ a ∈ Bundle.stringAtoms, a.before a0 Z = true := own_wS hw
  have Sf0_a1 : Safe Z own_EL s.vm h0 a1 := own_safe0 hZ.alike pr1 pr2
  refine Go.by (B := (s₁.setTop (mkF m 1 #[.val (.ref a1), .val (.ref v1), .val (.int 0), .val (.int 0), .val .null, .unset] [(.ref a1)]))) (fun _ k => XS.aloadN X0.here hx rfl (hb hby d15_0) rfl rfl k) ?_
  obtain ⟨T51, X51, e51, st51⟩ := initO X0 hx hZ hown (wd hw 23 rfl) (wd hw 24 rfl) (wd hw 25 rfl) e0 (g := (mkF m 1 #[.val (.ref a1), .val (.ref v1), .val (.int 0), .val (.int 0), .val .null, .unset] [(.ref a1)])) rfl (by rw [hml]; rfl) rfl (hb hby d15_1) (by decide) (W := 0) (by show 2 * 0 + _ ≤ _; exact Nat.le_of_eq rfl) (by decide)
  refine Go.by (B := (T51.setTop (mkF m 4 #[.val (.ref a1), .val (.ref v1), .val (.int 0), .val (.int 0), .val .null, .unset] []))) st51 ?_
  refine Go.by (B := (T51.setTop (mkF m 9 #[.val (.ref a1), .val (.ref v1), .val (.int 0), .val (.int 0), .val .null, .unset] [(.ref a1)]))) (fun _ k => XS.iloadN X51.here hx rfl (hb hby d15_4) rfl (XS.ifNo X51.here hx rfl (hb hby d15_5) rfl ((if0 _ _).trans (teq (by decide : (0 : Int32) = (0 : Int32))).2) (XS.aloadN X51.here hx rfl (hb hby d15_8) rfl rfl k))) ?_
  obtain ⟨la52, T52, h52, k152, lb52, kk52, X52, e52, E52, hS, hk, hZ, hown, EA52, FC52, FV52, VA52, -, -, CS52, LI52, SN52, st52⟩ := ldcCH (vs := []) (z := (0 : Int32)) X51 hx hZ hown (wd hw 91 rfl) wS e51 hS hk hEL (by decide) C0.1 ⟨by decide, by decide⟩ (by decide) rfl (g := (mkF m 9 #[.val (.ref a1), .val (.ref v1), .val (.int 0), .val (.int 0), .val .null, .unset] [(.ref a1)])) rfl (hb hby d15_9) (n := 0) (by decide) (by decide) (by decide) (by decide)
  have Sf53_a1 := CHr.safe CS52 pr1.lt Sf0_a1
  have C53 := C0.trans CS52
  have O53 := pr0.ext E52
  have Z53 : n0 ≤ h52.size := Nat.le_trans Z0 E52.1
  refine Go.by (B := (T52.setTop (mkF m 11 #[.val (.ref a1), .val (.ref v1), .val (.int 0), .val (.int 0), .val .null, .unset] [(.ref la52), (.ref a1)]))) st52 ?_
  obtain ⟨T54, X54, e54, st54⟩ := getF X52 hx hZ hown (host := "") (Or.inl (wd hw 26 rfl)) Via.refl e52 FV52 (g := (mkF m 11 #[.val (.ref a1), .val (.ref v1), .val (.int 0), .val (.int 0), .val .null, .unset] [(.ref la52), (.ref a1)])) rfl rfl (hb hby d15_11)
  refine Go.by (B := (T54.setTop (mkF m 14 #[.val (.ref a1), .val (.ref v1), .val (.int 0), .val (.int 0), .val .null, .unset] [(.ref lb52), (.ref a1)]))) st54 ?_
  obtain ⟨T55, h55, X55, e55, W55, st55⟩ := putF X54 hx hZ hown (host := "") (Or.inl (wd hw 26 rfl)) Via.refl e54 (pr2.ext E52) (pr1.ext E52) (Or.inr ⟨(wd hw 27 rfl), rfl, hnm⟩) (wd hw 14 rfl) (ty := (.array .byte)) (by decide) rfl rfl (g := (mkF m 14 #[.val (.ref a1), .val (.ref v1), .val (.int 0), .val (.int 0), .val .null, .unset] [(.ref lb52), (.ref a1)])) rfl rfl (hb hby d15_14)
  have N55 := Fr.snoc X55 N0 pr4
  have Sf56_a1 := Safe.wr W55 Sf53_a1 C53.1 Sf53_a1
  have C56 := C53.trans (CHr.wr W55 Sf53_a1 C53.1)
  have O56 := O53.wr W55 pr4
  have Z56 : n0 ≤ h55.size := Nat.le_trans Z53 (Keep.of_wr W55).1
  have F55 := (pr2.ext E52).same W55
  refine Go.by (B := (T55.setTop (mkF m 17 #[.val (.ref a1), .val (.ref v1), .val (.int 0), .val (.int 0), .val .null, .unset] []))) st55 ?_
  refine Go.by (B := (T55.setTop (mkF m 18 #[.val (.ref a1), .val (.ref v1), .val (.int 0), .val (.int 0), .val .null, .unset] [(.ref a1)]))) (fun _ k => XS.aloadN X55.here hx rfl (hb hby d15_17) rfl rfl k) ?_
  refine Go.by (B := (T55.setTop (mkF m 20 #[.val (.ref a1), .val (.ref v1), .val (.int 0), .val (.int 0), .val .null, .unset] [(.ref la52), (.ref a1)]))) (ldcAgain X55 hx hZ hown (wd hw 91 rfl) LI52 (g := (mkF m 18 #[.val (.ref a1), .val (.ref v1), .val (.int 0), .val (.int 0), .val .null, .unset] [(.ref a1)])) rfl (hb hby d15_18)) ?_
  have f57 := (FC52.other W55 (Or.inl (Ne.symm (SN52 _ Sf53_a1).1)))
  obtain ⟨T58, X58, e58, st58⟩ := getF X55 hx hZ hown (host := "") (Or.inl (wd hw 28 rfl)) Via.refl e55 f57 (g := (mkF m 20 #[.val (.ref a1), .val (.ref v1), .val (.int 0), .val (.int 0), .val .null, .unset] [(.ref la52), (.ref a1)])) rfl rfl (hb hby d15_20)
  refine Go.by (B := (T58.setTop (mkF m 23 #[.val (.ref a1), .val (.ref v1), .val (.int 0), .val (.int 0), .val .null, .unset] [(.int 0), (.ref a1)]))) st58 ?_
  have f59 := ((pr3.ext E52).other W55 (Or.inr (slot_ne (Or.inr (wd hw 29 rfl)) (Or.inr (wd hw 27 rfl)) (by decide) (t := .byte) (t' := (.array .byte)) (by decide) (by decide))))
  obtain ⟨T60, h60, X60, e60, W60, st60⟩ := putFN X58 hx hZ hown (wd hw 28 rfl) Via.refl e58 f59 ((pr1.ext E52).wr W55) (Or.inr ⟨(wd hw 29 rfl), rfl, hnm⟩) (wd hw 14 rfl) (ty := .byte) (v' := (.int 0)) (by decide) rfl rfl (g := (mkF m 23 #[.val (.ref a1), .val (.ref v1), .val (.int 0), .val (.int 0), .val .null, .unset] [(.int 0), (.ref a1)])) rfl rfl (hb hby d15_23)
  have N60 := Fr.snoc X60 N55 pr4
  have Sf61_a1 := Safe.wr W60 Sf56_a1 C56.1 Sf56_a1
  have C61 := C56.trans (CHr.wr W60 Sf56_a1 C56.1)
  have O61 := O56.wr W60 pr4
  have Z61 : n0 ≤ h60.size := Nat.le_trans Z56 (Keep.of_wr W60).1
  have F60 := f59.same W60
  refine Go.by (B := (T60.setTop (mkF m 26 #[.val (.ref a1), .val (.ref v1), .val (.int 0), .val (.int 0), .val .null, .unset] []))) st60 ?_
  have hkE62 : _ ≤ T60.heap.size := (by rw [e60]; exact (Nat.le_trans (Nat.le_trans hk (Keep.of_wr W55).1) (Keep.of_wr W60).1))
  have CE62 : CHr Z own_EL s.vm s.heap T52.vm T60.heap := (by rw [e60]; exact C61)
  refine Go.retVS X60 hx hlk hS hkE62 hZ hEL CE62 hret (hb hby d15_26) (by decide) (by decide) ?_
  rw [e60]
  exact ⟨lb52, kk52, rfl, N60, ((((Keep.refl h0 [a1]).ext E52).wr W55 (Or.inl (List.mem_of_getElem? (i := 0) rfl))).wr W60 (Or.inl (List.mem_of_getElem? (i := 0) rfl))), (((pr1.ext E52).wr W55).wr W60), (F55.other W60 (Or.inr (slot_ne (Or.inr (wd hw 27 rfl)) (Or.inr (wd hw 29 rfl)) (by decide) (t := (.array .byte)) (t' := .byte) (by decide) (by decide)))), F60, ((VA52.other W55 (Ne.symm (SN52 _ Sf53_a1).2)).other W60 (Ne.symm (SN52 _ Sf53_a1).2))⟩
theorem ef_rm_sC_0 (m : MethodId) (x0 : Addr) (x1 : Addr) : entryFrame m #[(.ref x0), (.ref x1)] 2 = mkF m 0 #[.val (.ref x0), .val (.ref x1)] [] := by first | (simp [entryFrame, mkF, argsToLocals, Value.category]; done) | rfl
def Q_rm_sC_0 (Z : State) (a1 : Addr) (v1 : Addr) (ka : ClassId) (h0 : Heap) (n0 : Nat) (vv : Option Value) (h : Heap) (L : List Loc) : Prop := ∃ t : Addr, ∃ k : ClassId, vv = none ∧ Fr n0 L ∧ Keep h0 h [a1] ∧ Exa Z h a1 "java/lang/String" ∧ Fld Z h a1 "java/lang/String" "value" "[B" (.ref t) ∧ Fld Z h a1 "java/lang/String" "coder" "B" (.int 0) ∧ Arv Z h t k .byte (0 : Int32) [] (.int 0)
set_option maxRecDepth 65536 in
set_option maxHeartbeats 40000000 in
theorem rm_sC_0 (l : Launch) (Z : State) (a0 : Array Value) (hw : ∀ d ∈ tables_1, d.before a0 Z = true) (ws : List Jvm.Cond) (a1 : Addr) (v1 : Addr) (ka : ClassId) (h0 : Heap) (n0 : Nat) (Z0 : n0 ≤ h0.size) (pr0 : Old Z n0 h0) (pr1 : Exa Z h0 a1 "java/lang/String") (pr2 : Fld Z h0 a1 "java/lang/String" "value" "[B" .null) (pr3 : Fld Z h0 a1 "java/lang/String" "coder" "B" (.int 0)) (pr4 : n0 ≤ a1) (pr5 : Arv Z h0 v1 ka .char (0 : Int32) [] (.int 0)) :
    MetS l Z own_EL (⟨"java/lang/String", "<init>", "([C)V"⟩ : MethodName) jdk_42_method_3_code 2 none ws ({ frames := 2, cells := 2, slots := 4, locals := 29 } : Room) #[(.ref a1), (.ref v1)] h0 (Q_rm_sC_0 Z a1 v1 ka h0 n0) := by
  refine MetS.enter (f0 := fun m => mkF m 0 #[.val (.ref a1), .val (.ref v1)] []) (plainFor_of_name pn_java_lang_String) (fun m => ef_rm_sC_0 m a1 v1) ?_
  intro p e s m below meth c s₁ hx hby hml hown hnm hret hlk hZ X0 e0 hS C0
  have hown : s.vm.findClass "java/lang/String" = some m.cls := hown
  have hnm : meth.name = "<init>" := hnm
  have hml : c.maxLocals = 2 := hml
  have hby : c.code = jdk_42_method_3_code := hby
  have N0 := Fr.nil n0
  have hk : h0.size ≤ h0.size := Nat.le_refl _
  have hEL : EW Z a0 own_EL := own_hEL hw
  have wS : ∀ a ∈ Bundle.stringAtoms, a.before a0 Z = true := own_wS hw
  refine Go.by (B := (s₁.setTop (mkF m 4 #[.val (.ref a1), .val (.ref v1)] [(.ref v1), (.int 0), (.ref v1), (.ref a1)]))) (fun _ k => XS.aloadN X0.here hx rfl (hb hby d14_0) rfl rfl (XS.aloadN X0.here hx rfl (hb hby d14_1) rfl rfl (XS.iconst X0.here hx rfl (hb hby d14_2) (XS.aloadN X0.here hx rfl (hb hby d14_3) rfl rfl k)))) ?_
  obtain ⟨cl63, Ar63, q63, S63, N_63, Hs63, G63⟩ := id pr5
  refine Go.by (B := (s₁.setTop (mkF m 5 #[.val (.ref a1), .val (.ref v1)] [(.int 0), (.int 0), (.ref v1), (.ref a1)]))) (fun _ k => X0.arraylength hx (by rw [e0]; exact Ar63.1) (State.isArrayOf_alike hZ.alike Ar63.2.1) (g := (mkF m 4 #[.val (.ref a1), .val (.ref v1)] [(.ref v1), (.int 0), (.ref v1), (.ref a1)])) rfl rfl (hb hby d14_4) _ (by rw [len_of S63 N_63]; exact k)) ?_
  refine Go.by (B := (s₁.setTop (mkF m 6 #[.val (.ref a1), .val (.ref v1)] [.null, (.int 0), (.int 0), (.ref v1), (.ref a1)]))) (fun _ k => XS.aconstNull X0.here hx rfl (hb hby d14_5) k) ?_
  have hkT64 : _ ≤ s₁.heap.size := (by rw [e0]; exact hk)
  obtain ⟨_, _, ⟨T64, L64, k64, n64⟩, -, X64, hSn64, hgr64, ⟨Lc64, hQ64, l64, y64, z64, CS64⟩, st64⟩ := X0.specialBackS hx (y := (⟨"java/lang/String", "<init>", "([CIILjava/lang/Void;)V"⟩ : MethodName)) rfl hown (mvT hZ (wd hw 88 rfl)) (mvT hZ (wd hw 89 rfl)) (mvT hZ (wd hw 90 rfl)) (by decide) (backOfSH (W := 0) (rm_sV_0 l Z a0 hw [] a1 v1 h0 n0 Z0 pr0 pr1 pr2 pr3 pr4) hZ (wd hw 90 rfl) (wd hw 6 rfl) (by decide) (by decide) hEL C0.1) (g := (mkF m 6 #[.val (.ref a1), .val (.ref v1)] [.null, (.int 0), (.int 0), (.ref v1), (.ref a1)])) rfl (by rw [hml]; rfl) (Steps.refl _) (a := a1) (argsL := [(.ref v1), (.int 0), (.int 0), .null]) (rest := []) (lenOf pd_3 rfl) rfl (by show 2 * 0 + _ ≤ _; exact Nat.le_of_eq rfl) (hb hby d14_6) (fun _ _ => ⟨rfl, e0, Nat.le_of_ble_eq_true rfl, Nat.le_of_ble_eq_true rfl⟩)
  dsimp only [Pt.U, Pt.locs, Pt.cells, Pt.slots] at X64 l64 y64 z64 st64 hQ64 hSn64 hgr64 CS64
  subst l64 y64 z64
  obtain ⟨X64, hS, hZ, hown⟩ := rebS hS hkT64 X64 hSn64 hgr64 hZ hown
  have hk : T64.heap.size ≤ T64.heap.size := Nat.le_refl _
  obtain ⟨t64, k64, rfl, Nq64, K64, p64_0, p64_1, p64_2, p64_3⟩ := hQ64
  have N64 := Fr.app N0 Nq64
  have C65 := C0.trans CS64
  have O65 := pr0.keep K64 (allS pr4 all0)
  have Z65 : n0 ≤ T64.heap.size := Nat.le_trans Z0 K64.1
  refine Go.by (B := (T64.setTop (mkF m 9 #[.val (.ref a1), .val (.ref v1)] []))) (fun _ k => st64.trans k) ?_
  have hkE66 : _ ≤ T64.heap.size := hk
  have CE66 : CHr Z own_EL s.vm s.heap T64.vm T64.heap := C65
  refine Go.retVS X64 hx hlk hS hkE66 hZ hEL CE66 hret (hb hby d14_9) (by decide) (by decide) ?_
  exact ⟨t64, k64, rfl, N64, ((Keep.refl h0 [a1]).trans K64 (allS (Or.inl (List.mem_of_getElem? (i := 0) rfl)) all0)), p64_0, p64_1, p64_2, p64_3⟩
theorem ef_rm_drawn (m : MethodId) (x0 : Int32) (x1 : Int32) : entryFrame m #[(.int x0), (.int x1)] 3 = mkF m 0 #[.val (.int x0), .val (.int x1), .unset] [] := by first | (simp [entryFrame, mkF, argsToLocals, Value.category]; done) | rfl
theorem d1_0 : decode method_2_code 0 = .ok (.iload_n 0, 1) := by decide +kernel
theorem d1_1 : decode method_2_code 1 = .ok (.iconst 3, 1) := by decide +kernel
theorem d1_2 : decode method_2_code 2 = .ok (.iand, 1) := by decide +kernel
theorem d1_3 : decode method_2_code 3 = .ok (.istore_n 2, 1) := by decide +kernel
theorem d1_4 : decode method_2_code 4 = .ok (.iload_n 2, 1) := by decide +kernel
theorem d1_5 : decode method_2_code 5 = .ok (.ifCond .ne 5, 3) := by decide +kernel
theorem d1_8 : decode method_2_code 8 = .ok (.aconst_null, 1) := by decide +kernel
theorem d1_9 : decode method_2_code 9 = .ok (.areturn, 1) := by decide +kernel
theorem d1_10 : decode method_2_code 10 = .ok (.iload_n 2, 1) := by decide +kernel
theorem d1_11 : decode method_2_code 11 = .ok (.iconst 1, 1) := by decide +kernel
theorem d1_12 : decode method_2_code 12 = .ok (.if_icmp .ne 14, 3) := by decide +kernel
theorem d1_15 : decode method_2_code 15 = .ok (.new 7, 3) := by decide +kernel
theorem d1_18 : decode method_2_code 18 = .ok (.dup, 1) := by decide +kernel
theorem d1_19 : decode method_2_code 19 = .ok (.iconst 0, 1) := by decide +kernel
theorem d1_20 : decode method_2_code 20 = .ok (.newarray .char, 2) := by decide +kernel
theorem d1_22 : decode method_2_code 22 = .ok (.invokespecial 9, 3) := by decide +kernel
theorem pd_7 : parseMethodDescriptor "([C)V" = some ⟨[(.array .char)], none⟩ := by decide +kernel
theorem d1_25 : decode method_2_code 25 = .ok (.areturn, 1) := by decide +kernel
theorem d1_26 : decode method_2_code 26 = .ok (.iload_n 2, 1) := by decide +kernel
theorem d1_27 : decode method_2_code 27 = .ok (.iconst 2, 1) := by decide +kernel
theorem d1_28 : decode method_2_code 28 = .ok (.if_icmp .ne 13, 3) := by decide +kernel
theorem d1_31 : decode method_2_code 31 = .ok (.iload_n 1, 1) := by decide +kernel
theorem d1_32 : decode method_2_code 32 = .ok (.sipush 255, 3) := by decide +kernel
theorem d1_35 : decode method_2_code 35 = .ok (.iand, 1) := by decide +kernel
theorem d1_36 : decode method_2_code 36 = .ok (.i2c, 1) := by decide +kernel
theorem d1_37 : decode method_2_code 37 = .ok (.invokestatic 12, 3) := by decide +kernel
theorem pd_8 : parseMethodDescriptor "(C)Ljava/lang/String;" = some ⟨[.char], some (.object "java/lang/String")⟩ := by decide +kernel
theorem d1_40 : decode method_2_code 40 = .ok (.areturn, 1) := by decide +kernel
theorem d1_41 : decode method_2_code 41 = .ok (.new 7, 3) := by decide +kernel
theorem d1_44 : decode method_2_code 44 = .ok (.dup, 1) := by decide +kernel
theorem d1_45 : decode method_2_code 45 = .ok (.iconst 2, 1) := by decide +kernel
theorem d1_46 : decode method_2_code 46 = .ok (.newarray .char, 2) := by decide +kernel
theorem d1_48 : decode method_2_code 48 = .ok (.dup, 1) := by decide +kernel
theorem d1_49 : decode method_2_code 49 = .ok (.iconst 0, 1) := by decide +kernel
theorem d1_50 : decode method_2_code 50 = .ok (.iload_n 1, 1) := by decide +kernel
theorem d1_51 : decode method_2_code 51 = .ok (.sipush 255, 3) := by decide +kernel
theorem d1_54 : decode method_2_code 54 = .ok (.iand, 1) := by decide +kernel
theorem d1_55 : decode method_2_code 55 = .ok (.i2c, 1) := by decide +kernel
theorem d1_56 : decode method_2_code 56 = .ok (.castore, 1) := by decide +kernel
theorem d1_57 : decode method_2_code 57 = .ok (.dup, 1) := by decide +kernel
theorem d1_58 : decode method_2_code 58 = .ok (.iconst 1, 1) := by decide +kernel
theorem d1_59 : decode method_2_code 59 = .ok (.iload_n 1, 1) := by decide +kernel
theorem d1_60 : decode method_2_code 60 = .ok (.bipush 8, 2) := by decide +kernel
theorem d1_62 : decode method_2_code 62 = .ok (.iushr, 1) := by decide +kernel
theorem d1_63 : decode method_2_code 63 = .ok (.sipush 255, 3) := by decide +kernel
theorem d1_66 : decode method_2_code 66 = .ok (.iand, 1) := by decide +kernel
theorem d1_67 : decode method_2_code 67 = .ok (.i2c, 1) := by decide +kernel
theorem d1_68 : decode method_2_code 68 = .ok (.castore, 1) := by decide +kernel
theorem d1_69 : decode method_2_code 69 = .ok (.invokespecial 9, 3) := by decide +kernel
theorem d1_72 : decode method_2_code 72 = .ok (.areturn, 1) := by decide +kernel
theorem pn_com_example_floodgauge_floodgauge_cli_OptionIsFlagPinLaw : plainName "com/example/floodgauge/floodgauge/cli/OptionIsFlagPinLaw" = true := by first | (simp [plainName, overriddenIn]; done) | decide +kernel
def Q_rm_drawn (Z : State) (p1 : Int32) (p2 : Int32) (cs : Int32) (h0 : Heap) (n0 : Nat) (vv : Option Value) (h : Heap) (L : List Loc) : Prop := ∃ o : Value, vv = some o ∧ Fr n0 L ∧ Keep h0 h [] ∧ o.isRef = true ∧ (((p1 &&& (3 : Int32)) = (0 : Int32) ∧ o = .null) ∨ (¬ (p1 &&& (3 : Int32)) = (0 : Int32) ∧ ∃ b, o = .ref b))
set_option maxRecDepth 65536 in
set_option maxHeartbeats 40000000 in
theorem rm_drawn (l : Launch) (Z : State) (a0 : Array Value) (hw : ∀ d ∈ tables_1, d.before a0 Z = true) (ws : List Jvm.Cond) (p1 : Int32) (p2 : Int32) (cs : Int32) (h0 : Heap) (n0 : Nat) (Z0 : n0 ≤ h0.size) (pr0 : Old Z n0 h0) (pr1 : Sta Z Z.heap "java/lang/String" "COMPACT_STRINGS" "Z" (.int cs)) (hcs : ¬ (cs = (0 : Int32))) :
    MetS l Z own_EL (⟨"com/example/floodgauge/floodgauge/cli/OptionIsFlagPinLaw", "drawn", "(II)Ljava/lang/String;"⟩ : MethodName) method_2_code 3 (some (.object "java/lang/String")) ws ({ frames := 4, cells := 4, slots := 8, locals := 66 } : Room) #[(.int p1), (.int p2)] h0 (Q_rm_drawn Z p1 p2 cs h0 n0) := by
  refine MetS.enter (f0 := fun m => mkF m 0 #[.val (.int p1), .val (.int p2), .unset] []) (plainFor_of_name pn_com_example_floodgauge_floodgauge_cli_OptionIsFlagPinLaw) (fun m => ef_rm_drawn m p1 p2) ?_
  intro p e s m below meth c s₁ hx hby hml hown hnm hret hlk hZ X0 e0 hS C0
  have hown : s.vm.findClass "com/example/floodgauge/floodgauge/cli/OptionIsFlagPinLaw" = some m.cls := hown
  have hnm : meth.name = "drawn" := hnm
  have hml : c.maxLocals = 3 := hml
  have hby : c.code = method_2_code := hby
  have N0 := Fr.nil n0
  have hk : h0.size ≤ h0.size := Nat.le_refl _
  have hEL : EW Z a0 own_EL := own_hEL hw
  have wS : ∀ a ∈ Bundle.stringAtoms, a.before a0 Z = true := own_wS hw
  refine Go.by (B := (s₁.setTop (mkF m 3 #[.val (.int p1), .val (.int p2), .unset] [(.int (p1 &&& (3 : Int32)))]))) (fun _ k => XS.iloadN X0.here hx rfl (hb hby d1_0) rfl (XS.iconst X0.here hx rfl (hb hby d1_1) (XS.iand X0.here hx rfl (hb hby d1_2) rfl k))) ?_
  obtain ⟨v67, hv67⟩ : ∃ v, v = (p1 &&& (3 : Int32)) := ⟨_, rfl⟩
  refine Go.by (B := (s₁.setTop (mkF m 5 #[.val (.int p1), .val (.int p2), .val (.int v67)] [(.int v67)]))) (fun _ k => XS.istoreN (x := v67) (rest := []) X0.here hx rfl (hb hby d1_3) (by rw [hv67]) (l' := #[.val (.int p1), .val (.int p2), .val (.int v67)]) rfl (XS.iloadN X0.here hx rfl (hb hby d1_4) rfl k)) ?_
  by_cases c68 : v67 = (0 : Int32)
  · skip
    refine Go.by (B := (s₁.setTop (mkF m 9 #[.val (.int p1), .val (.int p2), .val (.int v67)] [.null]))) (fun _ k => XS.ifNo X0.here hx rfl (hb hby d1_5) rfl ((if0 _ _).trans (teq c68).2) (XS.aconstNull X0.here hx rfl (hb hby d1_8) k)) ?_
    have hkE69 : _ ≤ s₁.heap.size := (by rw [e0]; exact hk)
    have CE69 : CHr Z own_EL s.vm s.heap s.vm s₁.heap := (by rw [e0]; exact C0)
    refine Go.retS X0 hx hlk hS hkE69 hZ hEL CE69 (t := (.object "java/lang/String")) hret rfl (Or.inr (Or.inr (Or.inr (Or.inr ⟨rfl, rfl, rfl⟩)))) (hb hby d1_9) (by decide) (by decide) ?_
    rw [e0]
    exact ⟨.null, rfl, N0, (Keep.refl h0 []), rfl, (Or.inl ⟨hv67 ▸ c68, rfl⟩)⟩
  · skip
    refine Go.by (B := (s₁.setTop (mkF m 12 #[.val (.int p1), .val (.int p2), .val (.int v67)] [(.int 1), (.int v67)]))) (fun _ k => XS.ifYes X0.here hx rfl (pc0 := 5) (pc' := 10) rfl (hb hby d1_5) rfl ((if0 _ _).trans (feq c68).2) (by decide) (by decide) (XS.iloadN X0.here hx rfl (hb hby d1_10) rfl (XS.iconst X0.here hx rfl (hb hby d1_11) k))) ?_
    by_cases c70 : v67 = (1 : Int32)
    · skip
      refine Go.by (B := (s₁.setTop (mkF m 15 #[.val (.int p1), .val (.int p2), .val (.int v67)] []))) (fun _ k => XS.icmpNo X0.here hx rfl (hb hby d1_12) rfl (teq c70).2 k) ?_
      obtain ⟨T71, h71, X71, e71, E71, A71, D71, -, st71⟩ := newO X0 hx hZ hown (wd hw 83 rfl) (wd hw 14 rfl) (wd hw 6 rfl) e0 (g := (mkF m 15 #[.val (.int p1), .val (.int p2), .val (.int v67)] [])) rfl (hb hby d1_15) (by decide) (by decide)
      obtain ⟨b71, g71⟩ : ∃ z, z = h0.size := ⟨_, rfl⟩
      rw [← g71] at A71 D71 st71
      have sz_b71 : h0.size ≤ b71 := Nat.le_of_eq g71.symm
      have C72 := C0.trans (CHr.ext E71 C0.1)
      have O72 := pr0.ext E71
      have Z72 : n0 ≤ h71.size := Nat.le_trans Z0 E71.1
      have Sf73_b71 : Safe Z own_EL s.vm h71 b71 := Safe.ext E71 C0.1 (Safe.new sz_b71)
      have F74 : Fld Z h71 b71 "java/lang/String" "value" "[B" .null := D71 (Or.inr (wd hw 27 rfl)) (ty := (.array .byte)) (by decide)
      have F75 : Fld Z h71 b71 "java/lang/String" "coder" "B" (.int 0) := D71 (Or.inr (wd hw 29 rfl)) (ty := .byte) (by decide)
      refine Go.by (B := (T71.setTop (mkF m 18 #[.val (.int p1), .val (.int p2), .val (.int v67)] [(.ref b71)]))) st71 ?_
      refine Go.by (B := (T71.setTop (mkF m 20 #[.val (.int p1), .val (.int p2), .val (.int v67)] [(.int 0), (.ref b71), (.ref b71)]))) (fun _ k => XS.dup X71.here hx rfl (hb hby d1_18) rfl rfl (XS.iconst X71.here hx rfl (hb hby d1_19) k)) ?_
      obtain ⟨T76, h76, k76, X76, e76, E76, A76, st76⟩ := newP X71 hx hZ (wd hw 84 rfl) e71 (g := (mkF m 20 #[.val (.int p1), .val (.int p2), .val (.int v67)] [(.int 0), (.ref b71), (.ref b71)])) rfl (hb hby d1_20) rfl (by decide) (cap := 0) (by decide) (by decide) (by decide) (by decide)
      obtain ⟨b76, g76⟩ : ∃ z, z = h71.size := ⟨_, rfl⟩
      rw [← g76] at A76 st76
      have sz_b76 : h71.size ≤ b76 := Nat.le_of_eq g76.symm
      have V76 : Arv Z h76 b76 k76 .char (0 : Int32) [] (.int 0) := (Arv.new A76 (by decide)).pad (pad_rep [] (.int 0) 0)
      have Sf77_b71 := Safe.ext E76 C72.1 Sf73_b71
      have C77 := C72.trans (CHr.ext E76 C72.1)
      have O77 := O72.ext E76
      have Z77 : n0 ≤ h76.size := Nat.le_trans Z72 E76.1
      refine Go.by (B := (T76.setTop (mkF m 22 #[.val (.int p1), .val (.int p2), .val (.int v67)] [(.ref b76), (.ref b71), (.ref b71)]))) st76 ?_
      have hkT78 : _ ≤ T76.heap.size := (by rw [e76]; exact (Nat.le_trans (Nat.le_trans hk E71.1) E76.1))
      obtain ⟨_, _, ⟨T78, L78, k78, n78⟩, -, X78, hSn78, hgr78, ⟨Lc78, hQ78, l78, y78, z78, CS78⟩, st78⟩ := X76.specialBackS hx (y := (⟨"java/lang/String", "<init>", "([C)V"⟩ : MethodName)) rfl hown (mvT hZ (wd hw 85 rfl)) (mvT hZ (wd hw 86 rfl)) (mvT hZ (wd hw 87 rfl)) (by decide) (backOfSH (W := 1) (rm_sC_0 l Z a0 hw [] b71 b76 k76 h76 n0 Z77 O77 (A71.ext E76) (F74.ext E76) (F75.ext E76) (Nat.le_trans Z0 sz_b71) V76) hZ (wd hw 87 rfl) (wd hw 6 rfl) (by decide) (by decide) hEL C77.1) (g := (mkF m 22 #[.val (.int p1), .val (.int p2), .val (.int v67)] [(.ref b76), (.ref b71), (.ref b71)])) rfl (by rw [hml]; rfl) (Steps.refl _) (a := b71) (argsL := [(.ref b76)]) (rest := [(.ref b71)]) (lenOf pd_7 rfl) rfl (by show 2 * 0 + _ ≤ _; exact Nat.le_of_eq rfl) (hb hby d1_22) (fun _ _ => ⟨rfl, e76, Nat.le_of_ble_eq_true rfl, Nat.le_of_ble_eq_true rfl⟩)
      dsimp only [Pt.U, Pt.locs, Pt.cells, Pt.slots] at X78 l78 y78 z78 st78 hQ78 hSn78 hgr78 CS78
      subst l78 y78 z78
      obtain ⟨X78, hS, hZ, hown⟩ := rebS hS hkT78 X78 hSn78 hgr78 hZ hown
      have hk : T78.heap.size ≤ T78.heap.size := Nat.le_refl _
      obtain ⟨t78, k78, rfl, Nq78, K78, p78_0, p78_1, p78_2, p78_3⟩ := hQ78
      have N78 := Fr.app N0 Nq78
      have Sf79_b71 := CHr.safe CS78 (A71.ext E76).lt Sf77_b71
      have C79 := C77.trans CS78
      have O79 := O77.keep K78 (allS (Nat.le_trans Z0 sz_b71) all0)
      have Z79 : n0 ≤ T78.heap.size := Nat.le_trans Z77 K78.1
      refine Go.by (B := (T78.setTop (mkF m 25 #[.val (.int p1), .val (.int p2), .val (.int v67)] [(.ref b71)]))) (fun _ k => st78.trans k) ?_
      have hkE80 : _ ≤ T78.heap.size := hk
      have CE80 : CHr Z own_EL s.vm s.heap T78.vm T78.heap := C79
      refine Go.retS X78 hx hlk hS hkE80 hZ hEL CE80 (t := (.object "java/lang/String")) hret rfl (Or.inr (Or.inr (Or.inr (Or.inr ⟨rfl, rfl, rfl⟩)))) (hb hby d1_25) (by decide) (by decide) ?_
      exact ⟨(.ref b71), rfl, N78, ((((Keep.refl h0 []).ext E71).ext E76).trans K78 (allS (Or.inr (Nat.le_trans (Nat.le_refl _) sz_b71)) all0)), rfl, (Or.inr ⟨hv67 ▸ c68, _, rfl⟩)⟩
    · skip
      refine Go.by (B := (s₁.setTop (mkF m 28 #[.val (.int p1), .val (.int p2), .val (.int v67)] [(.int 2), (.int v67)]))) (fun _ k => XS.icmpYes X0.here hx rfl (pc0 := 12) (pc' := 26) rfl (hb hby d1_12) rfl (feq c70).2 (by decide) (by decide) (XS.iloadN X0.here hx rfl (hb hby d1_26) rfl (XS.iconst X0.here hx rfl (hb hby d1_27) k))) ?_
      by_cases c81 : v67 = (2 : Int32)
      · skip
        refine Go.by (B := (s₁.setTop (mkF m 37 #[.val (.int p1), .val (.int p2), .val (.int v67)] [(.int ((p2 &&& (255 : Int32)).toUInt32.toUInt16.toUInt32.toInt32))]))) (fun _ k => XS.icmpNo X0.here hx rfl (hb hby d1_28) rfl (teq c81).2 (XS.iloadN X0.here hx rfl (hb hby d1_31) rfl (XS.sipush X0.here hx rfl (hb hby d1_32) (XS.iand X0.here hx rfl (hb hby d1_35) rfl (XS.i2c X0.here hx rfl (hb hby d1_36) rfl k))))) ?_
        obtain ⟨_, _, ⟨T82, L82, k82, n82⟩, -, X82, ⟨Lc82, hQ82, l82, y82, z82⟩, st82⟩ := Jvm.LawKit.callS X0 hx (y := (⟨"java/lang/String", "valueOf", "(C)Ljava/lang/String;"⟩ : MethodName)) hown (mvT hZ (wd hw 4 rfl)) (mvT hZ (wd hw 5 rfl)) (mvT hZ (wd hw 6 rfl)) (mvT hZ (wd hw 7 rfl)) (by decide) (backOf (W := 0) (rm_valueOfC l Z a0 hw [] ((p2 &&& (255 : Int32)).toUInt32.toUInt16.toUInt32.toInt32) cs h0 n0 Z0 pr0 pr1 hcs (own_ch _)) hZ (wd hw 7 rfl) (wd hw 6 rfl) (by decide) (by decide)) (g := (mkF m 37 #[.val (.int p1), .val (.int p2), .val (.int v67)] [(.int ((p2 &&& (255 : Int32)).toUInt32.toUInt16.toUInt32.toInt32))])) rfl (by rw [hml]; rfl) (argsL := [(.int ((p2 &&& (255 : Int32)).toUInt32.toUInt16.toUInt32.toInt32))]) (rest := []) (lenOf pd_8 rfl) rfl (by show 2 * 0 + _ ≤ _; exact Nat.le_of_eq rfl) (hb hby d1_37) (fun _ _ => ⟨rfl, e0, Nat.le_of_ble_eq_true rfl, Nat.le_of_ble_eq_true rfl⟩)
        dsimp only [Pt.U, Pt.locs, Pt.cells, Pt.slots] at X82 l82 y82 z82 st82 hQ82
        subst l82 y82 z82
        obtain ⟨b82, t82, k82, rfl, Nq82, K82, p82_0, p82_1, p82_2, p82_3, p82_4, p82_5⟩ := hQ82
        have N82 := Fr.app N0 Nq82
        have C83 := C0.trans (CHr.keep K82 sf0 C0.1)
        have O83 := pr0.keep K82 all0
        have Z83 : n0 ≤ T82.heap.size := Nat.le_trans Z0 K82.1
        have sz_b82 : h0.size ≤ b82 := p82_4
        have sz_t82 : h0.size ≤ t82 := p82_5
        refine Go.by (B := (T82.setTop (mkF m 40 #[.val (.int p1), .val (.int p2), .val (.int v67)] [(.ref b82)]))) (fun _ k => st82 _ k) ?_
        have hkE84 : _ ≤ T82.heap.size := (Nat.le_trans hk K82.1)
        have CE84 : CHr Z own_EL s.vm s.heap s.vm T82.heap := C83
        refine Go.retS X82 hx hlk hS hkE84 hZ hEL CE84 (t := (.object "java/lang/String")) hret rfl (Or.inr (Or.inr (Or.inr (Or.inr ⟨rfl, rfl, rfl⟩)))) (hb hby d1_40) (by decide) (by decide) ?_
        exact ⟨(.ref b82), rfl, N82, ((Keep.refl h0 []).trans K82 all0), rfl, (Or.inr ⟨hv67 ▸ c68, _, rfl⟩)⟩
      · skip
        refine Go.by (B := (s₁.setTop (mkF m 41 #[.val (.int p1), .val (.int p2), .val (.int v67)] []))) (fun _ k => XS.icmpYes X0.here hx rfl (pc0 := 28) (pc' := 41) rfl (hb hby d1_28) rfl (feq c81).2 (by decide) (by decide) k) ?_
        obtain ⟨T85, h85, X85, e85, E85, A85, D85, -, st85⟩ := newO X0 hx hZ hown (wd hw 83 rfl) (wd hw 14 rfl) (wd hw 6 rfl) e0 (g := (mkF m 41 #[.val (.int p1), .val (.int p2), .val (.int v67)] [])) rfl (hb hby d1_41) (by decide) (by decide)
        obtain ⟨b85, g85⟩ : ∃ z, z = h0.size := ⟨_, rfl⟩
        rw [← g85] at A85 D85 st85
        have sz_b85 : h0.size ≤ b85 := Nat.le_of_eq g85.symm
        have C86 := C0.trans (CHr.ext E85 C0.1)
        have O86 := pr0.ext E85
        have Z86 : n0 ≤ h85.size := Nat.le_trans Z0 E85.1
        have Sf87_b85 : Safe Z own_EL s.vm h85 b85 := Safe.ext E85 C0.1 (Safe.new sz_b85)
        have F88 : Fld Z h85 b85 "java/lang/String" "value" "[B" .null := D85 (Or.inr (wd hw 27 rfl)) (ty := (.array .byte)) (by decide)
        have F89 : Fld Z h85 b85 "java/lang/String" "coder" "B" (.int 0) := D85 (Or.inr (wd hw 29 rfl)) (ty := .byte) (by decide)
        refine Go.by (B := (T85.setTop (mkF m 44 #[.val (.int p1), .val (.int p2), .val (.int v67)] [(.ref b85)]))) st85 ?_
        refine Go.by (B := (T85.setTop (mkF m 46 #[.val (.int p1), .val (.int p2), .val (.int v67)] [(.int 2), (.ref b85), (.ref b85)]))) (fun _ k => XS.dup X85.here hx rfl (hb hby d1_44) rfl rfl (XS.iconst X85.here hx rfl (hb hby d1_45) k)) ?_
        obtain ⟨T90, h90, k90, X90, e90, E90, A90, st90⟩ := newP X85 hx hZ (wd hw 84 rfl) e85 (g := (mkF m 46 #[.val (.int p1), .val (.int p2), .val (.int v67)] [(.int 2), (.ref b85), (.ref b85)])) rfl (hb hby d1_46) rfl (by decide) (cap := 2) (by decide) (by decide) (by decide) (by decide)
        obtain ⟨b90, g90⟩ : ∃ z, z = h85.size := ⟨_, rfl⟩
        rw [← g90] at A90 st90
        have sz_b90 : h85.size ≤ b90 := Nat.le_of_eq g90.symm
        have V90 : Arv Z h90 b90 k90 .char (2 : Int32) [(.int 0), (.int 0)] (.int 0) := (Arv.new A90 (by decide)).pad (pad_rep [] (.int 0) 2)
        have Sf91_b85 := Safe.ext E90 C86.1 Sf87_b85
        have C91 := C86.trans (CHr.ext E90 C86.1)
        have O91 := O86.ext E90
        have Z91 : n0 ≤ h90.size := Nat.le_trans Z86 E90.1
        refine Go.by (B := (T90.setTop (mkF m 48 #[.val (.int p1), .val (.int p2), .val (.int v67)] [(.ref b90), (.ref b85), (.ref b85)]))) st90 ?_
        refine Go.by (B := (T90.setTop (mkF m 56 #[.val (.int p1), .val (.int p2), .val (.int v67)] [(.int ((p2 &&& (255 : Int32)).toUInt32.toUInt16.toUInt32.toInt32)), (.int 0), (.ref b90), (.ref b90), (.ref b85), (.ref b85)]))) (fun _ k => XS.dup X90.here hx rfl (hb hby d1_48) rfl rfl (XS.iconst X90.here hx rfl (hb hby d1_49) (XS.iloadN X90.here hx rfl (hb hby d1_50) rfl (XS.sipush X90.here hx rfl (hb hby d1_51) (XS.iand X90.here hx rfl (hb hby d1_54) rfl (XS.i2c X90.here hx rfl (hb hby d1_55) rfl k)))))) ?_
        obtain ⟨cl92, Ar92, q92, S92, N_92, Hs92, G92⟩ := id V90
        have hin93 : ¬ ((0 : Int32) < 0 ∨ cl92.slots.size ≤ ((0 : Int32)).toNatClampNeg) := inb_of S92 ⟨by decide, by decide⟩
        obtain ⟨T93, h93, X93, e93, W93, st93⟩ := stC X90 hx hZ e90 Ar92 (j := (0 : Int32)) hin93 (g := (mkF m 56 #[.val (.int p1), .val (.int p2), .val (.int v67)] [(.int ((p2 &&& (255 : Int32)).toUInt32.toUInt16.toUInt32.toInt32)), (.int 0), (.ref b90), (.ref b90), (.ref b85), (.ref b85)])) rfl rfl (hb hby d1_56)
        have Sf94_b85 := Safe.wr W93 (Safe.arv hZ.alike V90 nofun) C91.1 Sf91_b85
        have C94 := C91.trans (CHr.wr W93 (Safe.arv hZ.alike V90 nofun) C91.1)
        have O94 := O91.wr W93 (Nat.le_trans Z86 sz_b90)
        have Z94 : n0 ≤ h93.size := Nat.le_trans Z91 (Keep.of_wr W93).1
        have V93 : Arv Z h93 b90 k90 .char (2 : Int32) [(.int (nar .char ((p2 &&& (255 : Int32)).toUInt32.toUInt16.toUInt32.toInt32))), (.int 0)] (.int 0) := Arv.set Ar92 q92 S92 N_92 Hs92 G92 (fits_nar_char _) W93 0 rfl (Nat.le_of_ble_eq_true rfl)
        have N93 := Fr.snoc X93 N0 (Nat.le_trans Z86 sz_b90)
        refine Go.by (B := (T93.setTop (mkF m 57 #[.val (.int p1), .val (.int p2), .val (.int v67)] [(.ref b90), (.ref b85), (.ref b85)]))) st93 ?_
        refine Go.by (B := (T93.setTop (mkF m 68 #[.val (.int p1), .val (.int p2), .val (.int v67)] [(.int ((((p2.toUInt32 >>> ((8 : Int32) &&& 31).toUInt32).toInt32) &&& (255 : Int32)).toUInt32.toUInt16.toUInt32.toInt32)), (.int 1), (.ref b90), (.ref b90), (.ref b85), (.ref b85)]))) (fun _ k => XS.dup X93.here hx rfl (hb hby d1_57) rfl rfl (XS.iconst X93.here hx rfl (hb hby d1_58) (XS.iloadN X93.here hx rfl (hb hby d1_59) rfl (XS.bipush X93.here hx rfl (hb hby d1_60) (XS.iushr X93.here hx rfl (hb hby d1_62) rfl (XS.sipush X93.here hx rfl (hb hby d1_63) (XS.iand X93.here hx rfl (hb hby d1_66) rfl (XS.i2c X93.here hx rfl (hb hby d1_67) rfl k)))))))) ?_
        obtain ⟨cl95, Ar95, q95, S95, N_95, Hs95, G95⟩ := id V93
        have hin96 : ¬ ((1 : Int32) < 0 ∨ cl95.slots.size ≤ ((1 : Int32)).toNatClampNeg) := inb_of S95 ⟨by decide, by decide⟩
        obtain ⟨T96, h96, X96, e96, W96, st96⟩ := stC X93 hx hZ e93 Ar95 (j := (1 : Int32)) hin96 (g := (mkF m 68 #[.val (.int p1), .val (.int p2), .val (.int v67)] [(.int ((((p2.toUInt32 >>> ((8 : Int32) &&& 31).toUInt32).toInt32) &&& (255 : Int32)).toUInt32.toUInt16.toUInt32.toInt32)), (.int 1), (.ref b90), (.ref b90), (.ref b85), (.ref b85)])) rfl rfl (hb hby d1_68)
        have Sf97_b85 := Safe.wr W96 (Safe.arv hZ.alike V93 nofun) C94.1 Sf94_b85
        have C97 := C94.trans (CHr.wr W96 (Safe.arv hZ.alike V93 nofun) C94.1)
        have O97 := O94.wr W96 (Nat.le_trans Z86 sz_b90)
        have Z97 : n0 ≤ h96.size := Nat.le_trans Z94 (Keep.of_wr W96).1
        have V96 : Arv Z h96 b90 k90 .char (2 : Int32) [(.int (nar .char ((p2 &&& (255 : Int32)).toUInt32.toUInt16.toUInt32.toInt32))), (.int (nar .char ((((p2.toUInt32 >>> ((8 : Int32) &&& 31).toUInt32).toInt32) &&& (255 : Int32)).toUInt32.toUInt16.toUInt32.toInt32)))] (.int 0) := Arv.set Ar95 q95 S95 N_95 Hs95 G95 (fits_nar_char _) W96 1 rfl (Nat.le_of_ble_eq_true rfl)
        have N96 := Fr.snoc X96 N93 (Nat.le_trans Z86 sz_b90)
        refine Go.by (B := (T96.setTop (mkF m 69 #[.val (.int p1), .val (.int p2), .val (.int v67)] [(.ref b90), (.ref b85), (.ref b85)]))) st96 ?_
        have f98 := (((A85.ext E90).wr W93).wr W96)
        have f99 := (((F88.ext E90).other W93 (Or.inl (Nat.ne_of_lt (Nat.lt_of_lt_of_le A85.lt sz_b90)))).other W96 (Or.inl (Nat.ne_of_lt (Nat.lt_of_lt_of_le A85.lt sz_b90))))
        have f100 := (((F89.ext E90).other W93 (Or.inl (Nat.ne_of_lt (Nat.lt_of_lt_of_le A85.lt sz_b90)))).other W96 (Or.inl (Nat.ne_of_lt (Nat.lt_of_lt_of_le A85.lt sz_b90))))
        obtain ⟨_, _, ⟨T101, L101, k101, n101⟩, -, X101, ⟨Lc101, hQ101, l101, y101, z101⟩, st101⟩ := X96.specialBack hx (y := (⟨"java/lang/String", "<init>", "([C)V"⟩ : MethodName)) rfl hown (mvT hZ (wd hw 85 rfl)) (mvT hZ (wd hw 86 rfl)) (mvT hZ (wd hw 87 rfl)) (by decide) (backOf (W := 1) (rm_sC_2 l Z a0 hw [] b85 b90 k90 (nar .char ((p2 &&& (255 : Int32)).toUInt32.toUInt16.toUInt32.toInt32)) (nar .char ((((p2.toUInt32 >>> ((8 : Int32) &&& 31).toUInt32).toInt32) &&& (255 : Int32)).toUInt32.toUInt16.toUInt32.toInt32)) cs h96 n0 Z97 O97 pr1 hcs f98 f99 f100 (Nat.le_trans Z0 sz_b85) V96 (own_chn _) (own_chn _)) hZ (wd hw 87 rfl) (wd hw 6 rfl) (by decide) (by decide)) (g := (mkF m 69 #[.val (.int p1), .val (.int p2), .val (.int v67)] [(.ref b90), (.ref b85), (.ref b85)])) rfl (by rw [hml]; rfl) (Steps.refl _) (a := b85) (argsL := [(.ref b90)]) (rest := [(.ref b85)]) (lenOf pd_7 rfl) rfl (by show 2 * 0 + _ ≤ _; exact Nat.le_of_eq rfl) (hb hby d1_69) (fun _ _ => ⟨rfl, e96, Nat.le_of_ble_eq_true rfl, Nat.le_of_ble_eq_true rfl⟩)
        dsimp only [Pt.U, Pt.locs, Pt.cells, Pt.slots] at X101 l101 y101 z101 st101 hQ101
        subst l101 y101 z101
        obtain ⟨t101, k101, rfl, Nq101, K101, p101_0, p101_1, p101_2, p101_3, p101_4⟩ := hQ101
        have N101 := Fr.app N96 Nq101
        have Sf102_b85 := Safe.keep K101 (sfS Sf97_b85 sf0) C97.1 Sf97_b85
        have C102 := C97.trans (CHr.keep K101 (sfS Sf97_b85 sf0) C97.1)
        have O102 := O97.keep K101 (allS (Nat.le_trans Z0 sz_b85) all0)
        have Z102 : n0 ≤ T101.heap.size := Nat.le_trans Z97 K101.1
        have sz_t101 : h96.size ≤ t101 := p101_4
        refine Go.by (B := (T101.setTop (mkF m 72 #[.val (.int p1), .val (.int p2), .val (.int v67)] [(.ref b85)]))) (fun _ k => st101.trans k) ?_
        have hkE103 : _ ≤ T101.heap.size := (Nat.le_trans (Nat.le_trans (Nat.le_trans (Nat.le_trans (Nat.le_trans hk E85.1) E90.1) (Keep.of_wr W93).1) (Keep.of_wr W96).1) K101.1)
        have CE103 : CHr Z own_EL s.vm s.heap s.vm T101.heap := C102
        refine Go.retS X101 hx hlk hS hkE103 hZ hEL CE103 (t := (.object "java/lang/String")) hret rfl (Or.inr (Or.inr (Or.inr (Or.inr ⟨rfl, rfl, rfl⟩)))) (hb hby d1_72) (by decide) (by decide) ?_
        exact ⟨(.ref b85), rfl, N101, ((((((Keep.refl h0 []).ext E85).ext E90).wr W93 (Or.inr (Nat.le_trans (Nat.le_trans (Nat.le_refl _) E85.1) sz_b90))).wr W96 (Or.inr (Nat.le_trans (Nat.le_trans (Nat.le_refl _) E85.1) sz_b90))).trans K101 (allS (Or.inr (Nat.le_trans (Nat.le_refl _) sz_b85)) all0)), rfl, (Or.inr ⟨hv67 ▸ c68, _, rfl⟩)⟩
theorem ef_rm_opt (m : MethodId) (x0 : Addr) (x1 : Value) (hx1 : x1.category = 1) (x2 : Value) (hx2 : x2.category = 1) (x3 : Value) (hx3 : x3.category = 1) (x4 : Value) (hx4 : x4.category = 1) (x5 : Int32) (x6 : Value) (hx6 : x6.category = 1) (x7 : Value) (hx7 : x7.category = 1) (x8 : Int32) : entryFrame m #[(.ref x0), x1, x2, x3, x4, (.int x5), x6, x7, (.int x8)] 9 = mkF m 0 #[.val (.ref x0), .val x1, .val x2, .val x3, .val x4, .val (.int x5), .val x6, .val x7, .val (.int x8)] [] := own_ent m (xs := [(.ref x0), x1, x2, x3, x4, (.int x5), x6, x7, (.int x8)]) (k := 0) (own_a rfl (own_a hx1 (own_a hx2 (own_a hx3 (own_a hx4 (own_a rfl (own_a hx6 (own_a hx7 (own_a rfl (fun _ q => nomatch q)))))))))) rfl
theorem d7_0 : decode prog_7_method_1_code 0 = .ok (.aload_n 0, 1) := by decide +kernel
theorem d7_1 : decode prog_7_method_1_code 1 = .ok (.invokespecial 1, 3) := by decide +kernel
theorem pd_9 : parseMethodDescriptor "()V" = some ⟨[], none⟩ := by decide +kernel
theorem d7_4 : decode prog_7_method_1_code 4 = .ok (.aload_n 0, 1) := by decide +kernel
theorem d7_5 : decode prog_7_method_1_code 5 = .ok (.aload_n 1, 1) := by decide +kernel
theorem d7_6 : decode prog_7_method_1_code 6 = .ok (.putfield 7, 3) := by decide +kernel
theorem d7_9 : decode prog_7_method_1_code 9 = .ok (.aload_n 0, 1) := by decide +kernel
theorem d7_10 : decode prog_7_method_1_code 10 = .ok (.aload_n 2, 1) := by decide +kernel
theorem d7_11 : decode prog_7_method_1_code 11 = .ok (.putfield 13, 3) := by decide +kernel
theorem d7_14 : decode prog_7_method_1_code 14 = .ok (.aload_n 0, 1) := by decide +kernel
theorem d7_15 : decode prog_7_method_1_code 15 = .ok (.aload_n 3, 1) := by decide +kernel
theorem d7_16 : decode prog_7_method_1_code 16 = .ok (.putfield 16, 3) := by decide +kernel
theorem d7_19 : decode prog_7_method_1_code 19 = .ok (.aload_n 0, 1) := by decide +kernel
theorem d7_20 : decode prog_7_method_1_code 20 = .ok (.aload 4, 2) := by decide +kernel
theorem d7_22 : decode prog_7_method_1_code 22 = .ok (.putfield 19, 3) := by decide +kernel
theorem d7_25 : decode prog_7_method_1_code 25 = .ok (.aload_n 0, 1) := by decide +kernel
theorem d7_26 : decode prog_7_method_1_code 26 = .ok (.iload 5, 2) := by decide +kernel
theorem d7_28 : decode prog_7_method_1_code 28 = .ok (.putfield 22, 3) := by decide +kernel
theorem d7_31 : decode prog_7_method_1_code 31 = .ok (.aload_n 0, 1) := by decide +kernel
theorem d7_32 : decode prog_7_method_1_code 32 = .ok (.aload 6, 2) := by decide +kernel
theorem d7_34 : decode prog_7_method_1_code 34 = .ok (.putfield 26, 3) := by decide +kernel
theorem d7_37 : decode prog_7_method_1_code 37 = .ok (.aload_n 0, 1) := by decide +kernel
theorem d7_38 : decode prog_7_method_1_code 38 = .ok (.aload 7, 2) := by decide +kernel
theorem d7_40 : decode prog_7_method_1_code 40 = .ok (.putfield 29, 3) := by decide +kernel
theorem d7_43 : decode prog_7_method_1_code 43 = .ok (.aload_n 0, 1) := by decide +kernel
theorem d7_44 : decode prog_7_method_1_code 44 = .ok (.iload 8, 2) := by decide +kernel
theorem d7_46 : decode prog_7_method_1_code 46 = .ok (.putfield 32, 3) := by decide +kernel
theorem d7_49 : decode prog_7_method_1_code 49 = .ok (.return_, 1) := by decide +kernel
theorem pn_com_example_floodgauge_floodgauge_cli_Option : plainName "com/example/floodgauge/floodgauge/cli/Option" = true := by first | (simp [plainName, overriddenIn]; done) | decide +kernel
def Q_rm_opt (Z : State) (a1 : Addr) (x0 : Value) (x1 : Value) (x2 : Value) (x3 : Value) (x4 : Int32) (x5 : Value) (x6 : Value) (x7 : Int32) (h0 : Heap) (n0 : Nat) (vv : Option Value) (h : Heap) (L : List Loc) : Prop := vv = none ∧ Fr n0 L ∧ Keep h0 h [a1] ∧ Exa Z h a1 "com/example/floodgauge/floodgauge/cli/Option" ∧ Fld Z h a1 "com/example/floodgauge/floodgauge/cli/Option" "name" "Ljava/lang/String;" x0 ∧ Fld Z h a1 "com/example/floodgauge/floodgauge/cli/Option" "argument" "Ljava/lang/String;" x1 ∧ Fld Z h a1 "com/example/floodgauge/floodgauge/cli/Option" "purpose" "Ljava/lang/String;" x2 ∧ Fld Z h a1 "com/example/floodgauge/floodgauge/cli/Option" "condition" "Ljava/lang/String;" x3 ∧ Fld Z h a1 "com/example/floodgauge/floodgauge/cli/Option" "required" "Z" (.int (nar .boolean x4)) ∧ Fld Z h a1 "com/example/floodgauge/floodgauge/cli/Option" "fallback" "Ljava/lang/String;" x5 ∧ Fld Z h a1 "com/example/floodgauge/floodgauge/cli/Option" "note" "Ljava/lang/String;" x6 ∧ Fld Z h a1 "com/example/floodgauge/floodgauge/cli/Option" "variable" "Z" (.int (nar .boolean x7))
set_option maxRecDepth 65536 in
set_option maxHeartbeats 40000000 in
theorem rm_opt (l : Launch) (Z : State) (a0 : Array Value) (hw : ∀ d ∈ tables_1, d.before a0 Z = true) (ws : List Jvm.Cond) (a1 : Addr) (x0 : Value) (x1 : Value) (x2 : Value) (x3 : Value) (x4 : Int32) (x5 : Value) (x6 : Value) (x7 : Int32) (h0 : Heap) (n0 : Nat) (Z0 : n0 ≤ h0.size) (pr0 : Old Z n0 h0) (pr1 : Exa Z h0 a1 "com/example/floodgauge/floodgauge/cli/Option") (pr2 : Fld Z h0 a1 "com/example/floodgauge/floodgauge/cli/Option" "name" "Ljava/lang/String;" .null) (pr3 : Fld Z h0 a1 "com/example/floodgauge/floodgauge/cli/Option" "argument" "Ljava/lang/String;" .null) (pr4 : Fld Z h0 a1 "com/example/floodgauge/floodgauge/cli/Option" "purpose" "Ljava/lang/String;" .null) (pr5 : Fld Z h0 a1 "com/example/floodgauge/floodgauge/cli/Option" "condition" "Ljava/lang/String;" .null) (pr6 : Fld Z h0 a1 "com/example/floodgauge/floodgauge/cli/Option" "required" "Z" (.int 0)) (pr7 : Fld Z h0 a1 "com/example/floodgauge/floodgauge/cli/Option" "fallback" "Ljava/lang/String;" .null) (pr8 : Fld Z h0 a1 "com/example/floodgauge/floodgauge/cli/Option" "note" "Ljava/lang/String;" .null) (pr9 : Fld Z h0 a1 "com/example/floodgauge/floodgauge/cli/Option" "variable" "Z" (.int 0)) (pr10 : n0 ≤ a1) (hr_x0 : x0.isRef = true) (hr_x1 : x1.isRef = true) (hr_x2 : x2.isRef = true) (hr_x3 : x3.isRef = true) (hr_x5 : x5.isRef = true) (hr_x6 : x6.isRef = true) :
    Met l Z (⟨"com/example/floodgauge/floodgauge/cli/Option", "<init>", "(Ljava/lang/String;Ljava/lang/String;Ljava/lang/String;Ljava/lang/String;ZLjava/lang/String;Ljava/lang/String;Z)V"⟩ : MethodName) prog_7_method_1_code 9 none ws ({ frames := 2, cells := 0, slots := 0, locals := 24 } : Room) #[(.ref a1), x0, x1, x2, x3, (.int x4), x5, x6, (.int x7)] h0 (Q_rm_opt Z a1 x0 x1 x2 x3 x4 x5 x6 x7 h0 n0) := by
  refine Met.enter (f0 := fun m => mkF m 0 #[.val (.ref a1), .val x0, .val x1, .val x2, .val x3, .val (.int x4), .val x5, .val x6, .val (.int x7)] []) (plainFor_of_name pn_com_example_floodgauge_floodgauge_cli_Option) (fun m => ef_rm_opt m a1 x0 (own_cat hr_x0) x1 (own_cat hr_x1) x2 (own_cat hr_x2) x3 (own_cat hr_x3) x4 x5 (own_cat hr_x5) x6 (own_cat hr_x6) x7) ?_
  intro p e s m below meth c s₁ hx hby hml hown hnm hret hlk hZ X0 e0
  have hown : s.vm.findClass "com/example/floodgauge/floodgauge/cli/Option" = some m.cls := hown
  have hnm : meth.name = "<init>" := hnm
  have hml : c.maxLocals = 9 := hml
  have hby : c.code = prog_7_method_1_code := hby
  have N0 := Fr.nil n0
  refine Go.by (B := (s₁.setTop (mkF m 1 #[.val (.ref a1), .val x0, .val x1, .val x2, .val x3, .val (.int x4), .val x5, .val x6, .val (.int x7)] [(.ref a1)]))) (fun _ k => XS.aloadN X0.here hx rfl (hb hby d7_0) rfl rfl k) ?_
  obtain ⟨_, _, ⟨T104, L104, k104, n104⟩, -, X104, ⟨Lc104, hQ104, l104, y104, z104⟩, st104⟩ := X0.specialBack hx (y := (⟨"java/lang/Record", "<init>", "()V"⟩ : MethodName)) rfl hown (mvT hZ (wd hw 36 rfl)) (mvT hZ (wd hw 37 rfl)) (mvT hZ (wd hw 40 rfl)) (by decide) (backOf (W := 0) (rm_Record_init l Z a0 hw [] a1 h0 n0 Z0 ) hZ (wd hw 40 rfl) (wd hw 39 rfl) (by decide) (by decide)) (g := (mkF m 1 #[.val (.ref a1), .val x0, .val x1, .val x2, .val x3, .val (.int x4), .val x5, .val x6, .val (.int x7)] [(.ref a1)])) rfl (by rw [hml]; rfl) (Steps.refl _) (a := a1) (argsL := []) (rest := []) (lenOf pd_9 rfl) rfl (by show 2 * 0 + _ ≤ _; exact Nat.le_of_eq rfl) (hb hby d7_1) (fun _ _ => ⟨rfl, e0, Nat.le_of_ble_eq_true rfl, Nat.le_of_ble_eq_true rfl⟩)
  dsimp only [Pt.U, Pt.locs, Pt.cells, Pt.slots] at X104 l104 y104 z104 st104 hQ104
  subst l104 y104 z104
  obtain ⟨rfl, Nq104, hh104⟩ := hQ104
  have N104 := Fr.app N0 Nq104
  refine Go.by (B := (T104.setTop (mkF m 4 #[.val (.ref a1), .val x0, .val x1, .val x2, .val x3, .val (.int x4), .val x5, .val x6, .val (.int x7)] []))) (fun _ k => st104.trans k) ?_
  refine Go.by (B := (T104.setTop (mkF m 6 #[.val (.ref a1), .val x0, .val x1, .val x2, .val x3, .val (.int x4), .val x5, .val x6, .val (.int x7)] [x0, (.ref a1)]))) (fun _ k => XS.aloadN X104.here hx rfl (hb hby d7_4) rfl rfl (XS.aloadN X104.here hx rfl (hb hby d7_5) rfl hr_x0 k)) ?_
  obtain ⟨T105, h105, X105, e105, W105, st105⟩ := putF X104 hx hZ hown (host := "") (Or.inl (wd hw 42 rfl)) Via.refl hh104 pr2 pr1 (Or.inr ⟨(wd hw 43 rfl), rfl, hnm⟩) (wd hw 31 rfl) (ty := (.object "java/lang/String")) (by decide) (own_narR hr_x0 rfl) (own_fitR hr_x0 rfl) (g := (mkF m 6 #[.val (.ref a1), .val x0, .val x1, .val x2, .val x3, .val (.int x4), .val x5, .val x6, .val (.int x7)] [x0, (.ref a1)])) rfl rfl (hb hby d7_6)
  have N105 := Fr.snoc X105 N104 pr10
  have O106 := pr0.wr W105 pr10
  have Z106 : n0 ≤ h105.size := Nat.le_trans Z0 (Keep.of_wr W105).1
  have F105 := pr2.same W105
  refine Go.by (B := (T105.setTop (mkF m 9 #[.val (.ref a1), .val x0, .val x1, .val x2, .val x3, .val (.int x4), .val x5, .val x6, .val (.int x7)] []))) st105 ?_
  refine Go.by (B := (T105.setTop (mkF m 11 #[.val (.ref a1), .val x0, .val x1, .val x2, .val x3, .val (.int x4), .val x5, .val x6, .val (.int x7)] [x1, (.ref a1)]))) (fun _ k => XS.aloadN X105.here hx rfl (hb hby d7_9) rfl rfl (XS.aloadN X105.here hx rfl (hb hby d7_10) rfl hr_x1 k)) ?_
  have f107 := (pr3.other W105 (Or.inr (slot_ne (Or.inr (wd hw 45 rfl)) (Or.inr (wd hw 43 rfl)) (by decide) (t := (.object "java/lang/String")) (t' := (.object "java/lang/String")) (by decide) (by decide))))
  obtain ⟨T108, h108, X108, e108, W108, st108⟩ := putF X105 hx hZ hown (host := "") (Or.inl (wd hw 44 rfl)) Via.refl e105 f107 (pr1.wr W105) (Or.inr ⟨(wd hw 45 rfl), rfl, hnm⟩) (wd hw 31 rfl) (ty := (.object "java/lang/String")) (by decide) (own_narR hr_x1 rfl) (own_fitR hr_x1 rfl) (g := (mkF m 11 #[.val (.ref a1), .val x0, .val x1, .val x2, .val x3, .val (.int x4), .val x5, .val x6, .val (.int x7)] [x1, (.ref a1)])) rfl rfl (hb hby d7_11)
  have N108 := Fr.snoc X108 N105 pr10
  have O109 := O106.wr W108 pr10
  have Z109 : n0 ≤ h108.size := Nat.le_trans Z106 (Keep.of_wr W108).1
  have F108 := f107.same W108
  refine Go.by (B := (T108.setTop (mkF m 14 #[.val (.ref a1), .val x0, .val x1, .val x2, .val x3, .val (.int x4), .val x5, .val x6, .val (.int x7)] []))) st108 ?_
  refine Go.by (B := (T108.setTop (mkF m 16 #[.val (.ref a1), .val x0, .val x1, .val x2, .val x3, .val (.int x4), .val x5, .val x6, .val (.int x7)] [x2, (.ref a1)]))) (fun _ k => XS.aloadN X108.here hx rfl (hb hby d7_14) rfl rfl (XS.aloadN X108.here hx rfl (hb hby d7_15) rfl hr_x2 k)) ?_
  have f110 := ((pr4.other W105 (Or.inr (slot_ne (Or.inr (wd hw 47 rfl)) (Or.inr (wd hw 43 rfl)) (by decide) (t := (.object "java/lang/String")) (t' := (.object "java/lang/String")) (by decide) (by decide)))).other W108 (Or.inr (slot_ne (Or.inr (wd hw 47 rfl)) (Or.inr (wd hw 45 rfl)) (by decide) (t := (.object "java/lang/String")) (t' := (.object "java/lang/String")) (by decide) (by decide))))
  obtain ⟨T111, h111, X111, e111, W111, st111⟩ := putF X108 hx hZ hown (host := "") (Or.inl (wd hw 46 rfl)) Via.refl e108 f110 ((pr1.wr W105).wr W108) (Or.inr ⟨(wd hw 47 rfl), rfl, hnm⟩) (wd hw 31 rfl) (ty := (.object "java/lang/String")) (by decide) (own_narR hr_x2 rfl) (own_fitR hr_x2 rfl) (g := (mkF m 16 #[.val (.ref a1), .val x0, .val x1, .val x2, .val x3, .val (.int x4), .val x5, .val x6, .val (.int x7)] [x2, (.ref a1)])) rfl rfl (hb hby d7_16)
  have N111 := Fr.snoc X111 N108 pr10
  have O112 := O109.wr W111 pr10
  have Z112 : n0 ≤ h111.size := Nat.le_trans Z109 (Keep.of_wr W111).1
  have F111 := f110.same W111
  refine Go.by (B := (T111.setTop (mkF m 19 #[.val (.ref a1), .val x0, .val x1, .val x2, .val x3, .val (.int x4), .val x5, .val x6, .val (.int x7)] []))) st111 ?_
  refine Go.by (B := (T111.setTop (mkF m 22 #[.val (.ref a1), .val x0, .val x1, .val x2, .val x3, .val (.int x4), .val x5, .val x6, .val (.int x7)] [x3, (.ref a1)]))) (fun _ k => XS.aloadN X111.here hx rfl (hb hby d7_19) rfl rfl (XS.aload X111.here hx rfl (hb hby d7_20) rfl hr_x3 k)) ?_
  have f113 := (((pr5.other W105 (Or.inr (slot_ne (Or.inr (wd hw 49 rfl)) (Or.inr (wd hw 43 rfl)) (by decide) (t := (.object "java/lang/String")) (t' := (.object "java/lang/String")) (by decide) (by decide)))).other W108 (Or.inr (slot_ne (Or.inr (wd hw 49 rfl)) (Or.inr (wd hw 45 rfl)) (by decide) (t := (.object "java/lang/String")) (t' := (.object "java/lang/String")) (by decide) (by decide)))).other W111 (Or.inr (slot_ne (Or.inr (wd hw 49 rfl)) (Or.inr (wd hw 47 rfl)) (by decide) (t := (.object "java/lang/String")) (t' := (.object "java/lang/String")) (by decide) (by decide))))
  have f114 := (((pr1.wr W105).wr W108).wr W111)
  obtain ⟨T115, h115, X115, e115, W115, st115⟩ := putF X111 hx hZ hown (host := "") (Or.inl (wd hw 48 rfl)) Via.refl e111 f113 f114 (Or.inr ⟨(wd hw 49 rfl), rfl, hnm⟩) (wd hw 31 rfl) (ty := (.object "java/lang/String")) (by decide) (own_narR hr_x3 rfl) (own_fitR hr_x3 rfl) (g := (mkF m 22 #[.val (.ref a1), .val x0, .val x1, .val x2, .val x3, .val (.int x4), .val x5, .val x6, .val (.int x7)] [x3, (.ref a1)])) rfl rfl (hb hby d7_22)
  have N115 := Fr.snoc X115 N111 pr10
  have O116 := O112.wr W115 pr10
  have Z116 : n0 ≤ h115.size := Nat.le_trans Z112 (Keep.of_wr W115).1
  have F115 := f113.same W115
  refine Go.by (B := (T115.setTop (mkF m 25 #[.val (.ref a1), .val x0, .val x1, .val x2, .val x3, .val (.int x4), .val x5, .val x6, .val (.int x7)] []))) st115 ?_
  refine Go.by (B := (T115.setTop (mkF m 28 #[.val (.ref a1), .val x0, .val x1, .val x2, .val x3, .val (.int x4), .val x5, .val x6, .val (.int x7)] [(.int x4), (.ref a1)]))) (fun _ k => XS.aloadN X115.here hx rfl (hb hby d7_25) rfl rfl (XS.iload X115.here hx rfl (hb hby d7_26) rfl k)) ?_
  have f117 := ((((pr6.other W105 (Or.inr (slot_ne (Or.inr (wd hw 51 rfl)) (Or.inr (wd hw 43 rfl)) (by decide) (t := .boolean) (t' := (.object "java/lang/String")) (by decide) (by decide)))).other W108 (Or.inr (slot_ne (Or.inr (wd hw 51 rfl)) (Or.inr (wd hw 45 rfl)) (by decide) (t := .boolean) (t' := (.object "java/lang/String")) (by decide) (by decide)))).other W111 (Or.inr (slot_ne (Or.inr (wd hw 51 rfl)) (Or.inr (wd hw 47 rfl)) (by decide) (t := .boolean) (t' := (.object "java/lang/String")) (by decide) (by decide)))).other W115 (Or.inr (slot_ne (Or.inr (wd hw 51 rfl)) (Or.inr (wd hw 49 rfl)) (by decide) (t := .boolean) (t' := (.object "java/lang/String")) (by decide) (by decide))))
  obtain ⟨T118, h118, X118, e118, W118, st118⟩ := putFN X115 hx hZ hown (wd hw 50 rfl) Via.refl e115 f117 (f114.wr W115) (Or.inr ⟨(wd hw 51 rfl), rfl, hnm⟩) (wd hw 31 rfl) (ty := .boolean) (v' := (.int (nar .boolean x4))) (by decide) rfl (fits_nar_bool _) (g := (mkF m 28 #[.val (.ref a1), .val x0, .val x1, .val x2, .val x3, .val (.int x4), .val x5, .val x6, .val (.int x7)] [(.int x4), (.ref a1)])) rfl rfl (hb hby d7_28)
  have N118 := Fr.snoc X118 N115 pr10
  have O119 := O116.wr W118 pr10
  have Z119 : n0 ≤ h118.size := Nat.le_trans Z116 (Keep.of_wr W118).1
  have F118 := f117.same W118
  refine Go.by (B := (T118.setTop (mkF m 31 #[.val (.ref a1), .val x0, .val x1, .val x2, .val x3, .val (.int x4), .val x5, .val x6, .val (.int x7)] []))) st118 ?_
  refine Go.by (B := (T118.setTop (mkF m 34 #[.val (.ref a1), .val x0, .val x1, .val x2, .val x3, .val (.int x4), .val x5, .val x6, .val (.int x7)] [x5, (.ref a1)]))) (fun _ k => XS.aloadN X118.here hx rfl (hb hby d7_31) rfl rfl (XS.aload X118.here hx rfl (hb hby d7_32) rfl hr_x5 k)) ?_
  have f120 := (((((pr7.other W105 (Or.inr (slot_ne (Or.inr (wd hw 53 rfl)) (Or.inr (wd hw 43 rfl)) (by decide) (t := (.object "java/lang/String")) (t' := (.object "java/lang/String")) (by decide) (by decide)))).other W108 (Or.inr (slot_ne (Or.inr (wd hw 53 rfl)) (Or.inr (wd hw 45 rfl)) (by decide) (t := (.object "java/lang/String")) (t' := (.object "java/lang/String")) (by decide) (by decide)))).other W111 (Or.inr (slot_ne (Or.inr (wd hw 53 rfl)) (Or.inr (wd hw 47 rfl)) (by decide) (t := (.object "java/lang/String")) (t' := (.object "java/lang/String")) (by decide) (by decide)))).other W115 (Or.inr (slot_ne (Or.inr (wd hw 53 rfl)) (Or.inr (wd hw 49 rfl)) (by decide) (t := (.object "java/lang/String")) (t' := (.object "java/lang/String")) (by decide) (by decide)))).other W118 (Or.inr (slot_ne (Or.inr (wd hw 53 rfl)) (Or.inr (wd hw 51 rfl)) (by decide) (t := (.object "java/lang/String")) (t' := .boolean) (by decide) (by decide))))
  obtain ⟨T121, h121, X121, e121, W121, st121⟩ := putF X118 hx hZ hown (host := "") (Or.inl (wd hw 52 rfl)) Via.refl e118 f120 ((f114.wr W115).wr W118) (Or.inr ⟨(wd hw 53 rfl), rfl, hnm⟩) (wd hw 31 rfl) (ty := (.object "java/lang/String")) (by decide) (own_narR hr_x5 rfl) (own_fitR hr_x5 rfl) (g := (mkF m 34 #[.val (.ref a1), .val x0, .val x1, .val x2, .val x3, .val (.int x4), .val x5, .val x6, .val (.int x7)] [x5, (.ref a1)])) rfl rfl (hb hby d7_34)
  have N121 := Fr.snoc X121 N118 pr10
  have O122 := O119.wr W121 pr10
  have Z122 : n0 ≤ h121.size := Nat.le_trans Z119 (Keep.of_wr W121).1
  have F121 := f120.same W121
  refine Go.by (B := (T121.setTop (mkF m 37 #[.val (.ref a1), .val x0, .val x1, .val x2, .val x3, .val (.int x4), .val x5, .val x6, .val (.int x7)] []))) st121 ?_
  refine Go.by (B := (T121.setTop (mkF m 40 #[.val (.ref a1), .val x0, .val x1, .val x2, .val x3, .val (.int x4), .val x5, .val x6, .val (.int x7)] [x6, (.ref a1)]))) (fun _ k => XS.aloadN X121.here hx rfl (hb hby d7_37) rfl rfl (XS.aload X121.here hx rfl (hb hby d7_38) rfl hr_x6 k)) ?_
  have f123 := ((((((pr8.other W105 (Or.inr (slot_ne (Or.inr (wd hw 55 rfl)) (Or.inr (wd hw 43 rfl)) (by decide) (t := (.object "java/lang/String")) (t' := (.object "java/lang/String")) (by decide) (by decide)))).other W108 (Or.inr (slot_ne (Or.inr (wd hw 55 rfl)) (Or.inr (wd hw 45 rfl)) (by decide) (t := (.object "java/lang/String")) (t' := (.object "java/lang/String")) (by decide) (by decide)))).other W111 (Or.inr (slot_ne (Or.inr (wd hw 55 rfl)) (Or.inr (wd hw 47 rfl)) (by decide) (t := (.object "java/lang/String")) (t' := (.object "java/lang/String")) (by decide) (by decide)))).other W115 (Or.inr (slot_ne (Or.inr (wd hw 55 rfl)) (Or.inr (wd hw 49 rfl)) (by decide) (t := (.object "java/lang/String")) (t' := (.object "java/lang/String")) (by decide) (by decide)))).other W118 (Or.inr (slot_ne (Or.inr (wd hw 55 rfl)) (Or.inr (wd hw 51 rfl)) (by decide) (t := (.object "java/lang/String")) (t' := .boolean) (by decide) (by decide)))).other W121 (Or.inr (slot_ne (Or.inr (wd hw 55 rfl)) (Or.inr (wd hw 53 rfl)) (by decide) (t := (.object "java/lang/String")) (t' := (.object "java/lang/String")) (by decide) (by decide))))
  have f124 := (((f114.wr W115).wr W118).wr W121)
  obtain ⟨T125, h125, X125, e125, W125, st125⟩ := putF X121 hx hZ hown (host := "") (Or.inl (wd hw 54 rfl)) Via.refl e121 f123 f124 (Or.inr ⟨(wd hw 55 rfl), rfl, hnm⟩) (wd hw 31 rfl) (ty := (.object "java/lang/String")) (by decide) (own_narR hr_x6 rfl) (own_fitR hr_x6 rfl) (g := (mkF m 40 #[.val (.ref a1), .val x0, .val x1, .val x2, .val x3, .val (.int x4), .val x5, .val x6, .val (.int x7)] [x6, (.ref a1)])) rfl rfl (hb hby d7_40)
  have N125 := Fr.snoc X125 N121 pr10
  have O126 := O122.wr W125 pr10
  have Z126 : n0 ≤ h125.size := Nat.le_trans Z122 (Keep.of_wr W125).1
  have F125 := f123.same W125
  refine Go.by (B := (T125.setTop (mkF m 43 #[.val (.ref a1), .val x0, .val x1, .val x2, .val x3, .val (.int x4), .val x5, .val x6, .val (.int x7)] []))) st125 ?_
  refine Go.by (B := (T125.setTop (mkF m 46 #[.val (.ref a1), .val x0, .val x1, .val x2, .val x3, .val (.int x4), .val x5, .val x6, .val (.int x7)] [(.int x7), (.ref a1)]))) (fun _ k => XS.aloadN X125.here hx rfl (hb hby d7_43) rfl rfl (XS.iload X125.here hx rfl (hb hby d7_44) rfl k)) ?_
  have f127 := (((((((pr9.other W105 (Or.inr (slot_ne (Or.inr (wd hw 57 rfl)) (Or.inr (wd hw 43 rfl)) (by decide) (t := .boolean) (t' := (.object "java/lang/String")) (by decide) (by decide)))).other W108 (Or.inr (slot_ne (Or.inr (wd hw 57 rfl)) (Or.inr (wd hw 45 rfl)) (by decide) (t := .boolean) (t' := (.object "java/lang/String")) (by decide) (by decide)))).other W111 (Or.inr (slot_ne (Or.inr (wd hw 57 rfl)) (Or.inr (wd hw 47 rfl)) (by decide) (t := .boolean) (t' := (.object "java/lang/String")) (by decide) (by decide)))).other W115 (Or.inr (slot_ne (Or.inr (wd hw 57 rfl)) (Or.inr (wd hw 49 rfl)) (by decide) (t := .boolean) (t' := (.object "java/lang/String")) (by decide) (by decide)))).other W118 (Or.inr (slot_ne (Or.inr (wd hw 57 rfl)) (Or.inr (wd hw 51 rfl)) (by decide) (t := .boolean) (t' := .boolean) (by decide) (by decide)))).other W121 (Or.inr (slot_ne (Or.inr (wd hw 57 rfl)) (Or.inr (wd hw 53 rfl)) (by decide) (t := .boolean) (t' := (.object "java/lang/String")) (by decide) (by decide)))).other W125 (Or.inr (slot_ne (Or.inr (wd hw 57 rfl)) (Or.inr (wd hw 55 rfl)) (by decide) (t := .boolean) (t' := (.object "java/lang/String")) (by decide) (by decide))))
  obtain ⟨T128, h128, X128, e128, W128, st128⟩ := putFN X125 hx hZ hown (wd hw 56 rfl) Via.refl e125 f127 (f124.wr W125) (Or.inr ⟨(wd hw 57 rfl), rfl, hnm⟩) (wd hw 31 rfl) (ty := .boolean) (v' := (.int (nar .boolean x7))) (by decide) rfl (fits_nar_bool _) (g := (mkF m 46 #[.val (.ref a1), .val x0, .val x1, .val x2, .val x3, .val (.int x4), .val x5, .val x6, .val (.int x7)] [(.int x7), (.ref a1)])) rfl rfl (hb hby d7_46)
  have N128 := Fr.snoc X128 N125 pr10
  have O129 := O126.wr W128 pr10
  have Z129 : n0 ≤ h128.size := Nat.le_trans Z126 (Keep.of_wr W128).1
  have F128 := f127.same W128
  refine Go.by (B := (T128.setTop (mkF m 49 #[.val (.ref a1), .val x0, .val x1, .val x2, .val x3, .val (.int x4), .val x5, .val x6, .val (.int x7)] []))) st128 ?_
  refine Go.retV X128 hx hlk hret (hb hby d7_49) (by decide) (by decide) ?_
  rw [e128]
  exact ⟨rfl, N128, (((((((((Keep.refl h0 [a1]).wr W105 (Or.inl (List.mem_of_getElem? (i := 0) rfl))).wr W108 (Or.inl (List.mem_of_getElem? (i := 0) rfl))).wr W111 (Or.inl (List.mem_of_getElem? (i := 0) rfl))).wr W115 (Or.inl (List.mem_of_getElem? (i := 0) rfl))).wr W118 (Or.inl (List.mem_of_getElem? (i := 0) rfl))).wr W121 (Or.inl (List.mem_of_getElem? (i := 0) rfl))).wr W125 (Or.inl (List.mem_of_getElem? (i := 0) rfl))).wr W128 (Or.inl (List.mem_of_getElem? (i := 0) rfl))), ((f124.wr W125).wr W128), (((((((F105.other W108 (Or.inr (slot_ne (Or.inr (wd hw 43 rfl)) (Or.inr (wd hw 45 rfl)) (by decide) (t := (.object "java/lang/String")) (t' := (.object "java/lang/String")) (by decide) (by decide)))).other W111 (Or.inr (slot_ne (Or.inr (wd hw 43 rfl)) (Or.inr (wd hw 47 rfl)) (by decide) (t := (.object "java/lang/String")) (t' := (.object "java/lang/String")) (by decide) (by decide)))).other W115 (Or.inr (slot_ne (Or.inr (wd hw 43 rfl)) (Or.inr (wd hw 49 rfl)) (by decide) (t := (.object "java/lang/String")) (t' := (.object "java/lang/String")) (by decide) (by decide)))).other W118 (Or.inr (slot_ne (Or.inr (wd hw 43 rfl)) (Or.inr (wd hw 51 rfl)) (by decide) (t := (.object "java/lang/String")) (t' := .boolean) (by decide) (by decide)))).other W121 (Or.inr (slot_ne (Or.inr (wd hw 43 rfl)) (Or.inr (wd hw 53 rfl)) (by decide) (t := (.object "java/lang/String")) (t' := (.object "java/lang/String")) (by decide) (by decide)))).other W125 (Or.inr (slot_ne (Or.inr (wd hw 43 rfl)) (Or.inr (wd hw 55 rfl)) (by decide) (t := (.object "java/lang/String")) (t' := (.object "java/lang/String")) (by decide) (by decide)))).other W128 (Or.inr (slot_ne (Or.inr (wd hw 43 rfl)) (Or.inr (wd hw 57 rfl)) (by decide) (t := (.object "java/lang/String")) (t' := .boolean) (by decide) (by decide)))), ((((((F108.other W111 (Or.inr (slot_ne (Or.inr (wd hw 45 rfl)) (Or.inr (wd hw 47 rfl)) (by decide) (t := (.object "java/lang/String")) (t' := (.object "java/lang/String")) (by decide) (by decide)))).other W115 (Or.inr (slot_ne (Or.inr (wd hw 45 rfl)) (Or.inr (wd hw 49 rfl)) (by decide) (t := (.object "java/lang/String")) (t' := (.object "java/lang/String")) (by decide) (by decide)))).other W118 (Or.inr (slot_ne (Or.inr (wd hw 45 rfl)) (Or.inr (wd hw 51 rfl)) (by decide) (t := (.object "java/lang/String")) (t' := .boolean) (by decide) (by decide)))).other W121 (Or.inr (slot_ne (Or.inr (wd hw 45 rfl)) (Or.inr (wd hw 53 rfl)) (by decide) (t := (.object "java/lang/String")) (t' := (.object "java/lang/String")) (by decide) (by decide)))).other W125 (Or.inr (slot_ne (Or.inr (wd hw 45 rfl)) (Or.inr (wd hw 55 rfl)) (by decide) (t := (.object "java/lang/String")) (t' := (.object "java/lang/String")) (by decide) (by decide)))).other W128 (Or.inr (slot_ne (Or.inr (wd hw 45 rfl)) (Or.inr (wd hw 57 rfl)) (by decide) (t := (.object "java/lang/String")) (t' := .boolean) (by decide) (by decide)))), (((((F111.other W115 (Or.inr (slot_ne (Or.inr (wd hw 47 rfl)) (Or.inr (wd hw 49 rfl)) (by decide) (t := (.object "java/lang/String")) (t' := (.object "java/lang/String")) (by decide) (by decide)))).other W118 (Or.inr (slot_ne (Or.inr (wd hw 47 rfl)) (Or.inr (wd hw 51 rfl)) (by decide) (t := (.object "java/lang/String")) (t' := .boolean) (by decide) (by decide)))).other W121 (Or.inr (slot_ne (Or.inr (wd hw 47 rfl)) (Or.inr (wd hw 53 rfl)) (by decide) (t := (.object "java/lang/String")) (t' := (.object "java/lang/String")) (by decide) (by decide)))).other W125 (Or.inr (slot_ne (Or.inr (wd hw 47 rfl)) (Or.inr (wd hw 55 rfl)) (by decide) (t := (.object "java/lang/String")) (t' := (.object "java/lang/String")) (by decide) (by decide)))).other W128 (Or.inr (slot_ne (Or.inr (wd hw 47 rfl)) (Or.inr (wd hw 57 rfl)) (by decide) (t := (.object "java/lang/String")) (t' := .boolean) (by decide) (by decide)))), ((((F115.other W118 (Or.inr (slot_ne (Or.inr (wd hw 49 rfl)) (Or.inr (wd hw 51 rfl)) (by decide) (t := (.object "java/lang/String")) (t' := .boolean) (by decide) (by decide)))).other W121 (Or.inr (slot_ne (Or.inr (wd hw 49 rfl)) (Or.inr (wd hw 53 rfl)) (by decide) (t := (.object "java/lang/String")) (t' := (.object "java/lang/String")) (by decide) (by decide)))).other W125 (Or.inr (slot_ne (Or.inr (wd hw 49 rfl)) (Or.inr (wd hw 55 rfl)) (by decide) (t := (.object "java/lang/String")) (t' := (.object "java/lang/String")) (by decide) (by decide)))).other W128 (Or.inr (slot_ne (Or.inr (wd hw 49 rfl)) (Or.inr (wd hw 57 rfl)) (by decide) (t := (.object "java/lang/String")) (t' := .boolean) (by decide) (by decide)))), (((F118.other W121 (Or.inr (slot_ne (Or.inr (wd hw 51 rfl)) (Or.inr (wd hw 53 rfl)) (by decide) (t := .boolean) (t' := (.object "java/lang/String")) (by decide) (by decide)))).other W125 (Or.inr (slot_ne (Or.inr (wd hw 51 rfl)) (Or.inr (wd hw 55 rfl)) (by decide) (t := .boolean) (t' := (.object "java/lang/String")) (by decide) (by decide)))).other W128 (Or.inr (slot_ne (Or.inr (wd hw 51 rfl)) (Or.inr (wd hw 57 rfl)) (by decide) (t := .boolean) (t' := .boolean) (by decide) (by decide)))), ((F121.other W125 (Or.inr (slot_ne (Or.inr (wd hw 53 rfl)) (Or.inr (wd hw 55 rfl)) (by decide) (t := (.object "java/lang/String")) (t' := (.object "java/lang/String")) (by decide) (by decide)))).other W128 (Or.inr (slot_ne (Or.inr (wd hw 53 rfl)) (Or.inr (wd hw 57 rfl)) (by decide) (t := (.object "java/lang/String")) (t' := .boolean) (by decide) (by decide)))), (F125.other W128 (Or.inr (slot_ne (Or.inr (wd hw 55 rfl)) (Or.inr (wd hw 57 rfl)) (by decide) (t := (.object "java/lang/String")) (t' := .boolean) (by decide) (by decide)))), F128⟩
theorem ef_rm_flag0 (m : MethodId) (x0 : Addr) : entryFrame m #[(.ref x0)] 1 = mkF m 0 #[.val (.ref x0)] [] := by first | (simp [entryFrame, mkF, argsToLocals, Value.category]; done) | rfl
theorem d9_0 : decode prog_7_method_10_code 0 = .ok (.aload_n 0, 1) := by decide +kernel
theorem d9_1 : decode prog_7_method_10_code 1 = .ok (.getfield 13, 3) := by decide +kernel
theorem d9_4 : decode prog_7_method_10_code 4 = .ok (.ifnonnull 7, 3) := by decide +kernel
theorem d9_7 : decode prog_7_method_10_code 7 = .ok (.iconst 1, 1) := by decide +kernel
theorem d9_8 : decode prog_7_method_10_code 8 = .ok (.goto 4, 3) := by decide +kernel
theorem d9_12 : decode prog_7_method_10_code 12 = .ok (.ireturn, 1) := by decide +kernel
def Q_rm_flag0 (Z : State) (a1 : Addr) (h0 : Heap) (n0 : Nat) (vv : Option Value) (h : Heap) (L : List Loc) : Prop := vv = some (.int 1) ∧ Fr n0 L ∧ h = h0
set_option maxRecDepth 65536 in
set_option maxHeartbeats 40000000 in
theorem rm_flag0 (l : Launch) (Z : State) (a0 : Array Value) (hw : ∀ d ∈ tables_1, d.before a0 Z = true) (ws : List Jvm.Cond) (a1 : Addr) (h0 : Heap) (n0 : Nat) (Z0 : n0 ≤ h0.size) (pr0 : Fld Z h0 a1 "com/example/floodgauge/floodgauge/cli/Option" "argument" "Ljava/lang/String;" .null) :
    Met l Z (⟨"com/example/floodgauge/floodgauge/cli/Option", "isFlag", "()Z"⟩ : MethodName) prog_7_method_10_code 1 (some .boolean) ws ({ frames := 0, cells := 0, slots := 0, locals := 0 } : Room) #[(.ref a1)] h0 (Q_rm_flag0 Z a1 h0 n0) := by
  refine Met.enter (f0 := fun m => mkF m 0 #[.val (.ref a1)] []) (plainFor_of_name pn_com_example_floodgauge_floodgauge_cli_Option) (fun m => ef_rm_flag0 m a1) ?_
  intro p e s m below meth c s₁ hx hby hml hown hnm hret hlk hZ X0 e0
  have hown : s.vm.findClass "com/example/floodgauge/floodgauge/cli/Option" = some m.cls := hown
  have hnm : meth.name = "isFlag" := hnm
  have hml : c.maxLocals = 1 := hml
  have hby : c.code = prog_7_method_10_code := hby
  have N0 := Fr.nil n0
  refine Go.by (B := (s₁.setTop (mkF m 1 #[.val (.ref a1)] [(.ref a1)]))) (fun _ k => XS.aloadN X0.here hx rfl (hb hby d9_0) rfl rfl k) ?_
  obtain ⟨T130, X130, e130, st130⟩ := getF X0 hx hZ hown (host := "") (Or.inl (wd hw 44 rfl)) Via.refl e0 pr0 (g := (mkF m 1 #[.val (.ref a1)] [(.ref a1)])) rfl rfl (hb hby d9_1)
  refine Go.by (B := (T130.setTop (mkF m 4 #[.val (.ref a1)] [.null]))) st130 ?_
  refine Go.by (B := (T130.setTop (mkF m 12 #[.val (.ref a1)] [(.int 1)]))) (fun _ k => XS.ifnonnullNo X130.here hx rfl (hb hby d9_4) rfl (XS.iconst X130.here hx rfl (hb hby d9_7) (XS.goto X130.here hx rfl (pc0 := 8) (pc' := 12) rfl (hb hby d9_8) (by decide) (by decide) k))) ?_
  refine Go.ret X130 hx hlk (t := .boolean) hret rfl (Or.inl ⟨rfl, by simp, _, rfl⟩) (hb hby d9_12) (by decide) (by decide) ?_
  rw [e130]
  exact ⟨rfl, N0, rfl⟩
theorem ef_rm_flag1 (m : MethodId) (x0 : Addr) : entryFrame m #[(.ref x0)] 1 = mkF m 0 #[.val (.ref x0)] [] := by first | (simp [entryFrame, mkF, argsToLocals, Value.category]; done) | rfl
theorem d9_11 : decode prog_7_method_10_code 11 = .ok (.iconst 0, 1) := by decide +kernel
def Q_rm_flag1 (Z : State) (a1 : Addr) (x1 : Addr) (h0 : Heap) (n0 : Nat) (vv : Option Value) (h : Heap) (L : List Loc) : Prop := vv = some (.int 0) ∧ Fr n0 L ∧ h = h0
set_option maxRecDepth 65536 in
set_option maxHeartbeats 40000000 in
theorem rm_flag1 (l : Launch) (Z : State) (a0 : Array Value) (hw : ∀ d ∈ tables_1, d.before a0 Z = true) (ws : List Jvm.Cond) (a1 : Addr) (x1 : Addr) (h0 : Heap) (n0 : Nat) (Z0 : n0 ≤ h0.size) (pr0 : Fld Z h0 a1 "com/example/floodgauge/floodgauge/cli/Option" "argument" "Ljava/lang/String;" (.ref x1)) :
    Met l Z (⟨"com/example/floodgauge/floodgauge/cli/Option", "isFlag", "()Z"⟩ : MethodName) prog_7_method_10_code 1 (some .boolean) ws ({ frames := 0, cells := 0, slots := 0, locals := 0 } : Room) #[(.ref a1)] h0 (Q_rm_flag1 Z a1 x1 h0 n0) := by
  refine Met.enter (f0 := fun m => mkF m 0 #[.val (.ref a1)] []) (plainFor_of_name pn_com_example_floodgauge_floodgauge_cli_Option) (fun m => ef_rm_flag1 m a1) ?_
  intro p e s m below meth c s₁ hx hby hml hown hnm hret hlk hZ X0 e0
  have hown : s.vm.findClass "com/example/floodgauge/floodgauge/cli/Option" = some m.cls := hown
  have hnm : meth.name = "isFlag" := hnm
  have hml : c.maxLocals = 1 := hml
  have hby : c.code = prog_7_method_10_code := hby
  have N0 := Fr.nil n0
  refine Go.by (B := (s₁.setTop (mkF m 1 #[.val (.ref a1)] [(.ref a1)]))) (fun _ k => XS.aloadN X0.here hx rfl (hb hby d9_0) rfl rfl k) ?_
  obtain ⟨T131, X131, e131, st131⟩ := getF X0 hx hZ hown (host := "") (Or.inl (wd hw 44 rfl)) Via.refl e0 pr0 (g := (mkF m 1 #[.val (.ref a1)] [(.ref a1)])) rfl rfl (hb hby d9_1)
  refine Go.by (B := (T131.setTop (mkF m 4 #[.val (.ref a1)] [(.ref x1)]))) st131 ?_
  refine Go.by (B := (T131.setTop (mkF m 12 #[.val (.ref a1)] [(.int 0)]))) (fun _ k => XS.ifnonnullYes X131.here hx rfl (pc0 := 4) (pc' := 11) rfl (hb hby d9_4) rfl (by decide) (by decide) (XS.iconst X131.here hx rfl (hb hby d9_11) k)) ?_
  refine Go.ret X131 hx hlk (t := .boolean) hret rfl (Or.inl ⟨rfl, by simp, _, rfl⟩) (hb hby d9_12) (by decide) (by decide) ?_
  rw [e131]
  exact ⟨rfl, N0, rfl⟩
theorem ef_rm_withDefault (m : MethodId) (x0 : Addr) (x1 : Value) (hx1 : x1.category = 1) : entryFrame m #[(.ref x0), x1] 2 = mkF m 0 #[.val (.ref x0), .val x1] [] := own_ent m (xs := [(.ref x0), x1]) (k := 0) (own_a rfl (own_a hx1 (fun _ q => nomatch q))) rfl
theorem d10_0 : decode prog_7_method_5_code 0 = .ok (.new 8, 3) := by decide +kernel
theorem d10_3 : decode prog_7_method_5_code 3 = .ok (.dup, 1) := by decide +kernel
theorem d10_4 : decode prog_7_method_5_code 4 = .ok (.aload_n 0, 1) := by decide +kernel
theorem d10_5 : decode prog_7_method_5_code 5 = .ok (.getfield 7, 3) := by decide +kernel
theorem d10_8 : decode prog_7_method_5_code 8 = .ok (.aload_n 0, 1) := by decide +kernel
theorem d10_9 : decode prog_7_method_5_code 9 = .ok (.getfield 13, 3) := by decide +kernel
theorem d10_12 : decode prog_7_method_5_code 12 = .ok (.aload_n 0, 1) := by decide +kernel
theorem d10_13 : decode prog_7_method_5_code 13 = .ok (.getfield 16, 3) := by decide +kernel
theorem d10_16 : decode prog_7_method_5_code 16 = .ok (.aload_n 0, 1) := by decide +kernel
theorem d10_17 : decode prog_7_method_5_code 17 = .ok (.getfield 19, 3) := by decide +kernel
theorem d10_20 : decode prog_7_method_5_code 20 = .ok (.iconst 0, 1) := by decide +kernel
theorem d10_21 : decode prog_7_method_5_code 21 = .ok (.aload_n 1, 1) := by decide +kernel
theorem d10_22 : decode prog_7_method_5_code 22 = .ok (.aconst_null, 1) := by decide +kernel
theorem d10_23 : decode prog_7_method_5_code 23 = .ok (.aload_n 0, 1) := by decide +kernel
theorem d10_24 : decode prog_7_method_5_code 24 = .ok (.getfield 32, 3) := by decide +kernel
theorem d10_27 : decode prog_7_method_5_code 27 = .ok (.invokespecial 35, 3) := by decide +kernel
theorem pd_10 : parseMethodDescriptor "(Ljava/lang/String;Ljava/lang/String;Ljava/lang/String;Ljava/lang/String;ZLjava/lang/String;Ljava/lang/String;Z)V" = some ⟨[(.object "java/lang/String"), (.object "java/lang/String"), (.object "java/lang/String"), (.object "java/lang/String"), .boolean, (.object "java/lang/String"), (.object "java/lang/String"), .boolean], none⟩ := by decide +kernel
theorem d10_30 : decode prog_7_method_5_code 30 = .ok (.areturn, 1) := by decide +kernel
def Q_rm_withDefault (Z : State) (a1 : Addr) (y1 : Value) (x0 : Value) (x1 : Value) (x2 : Value) (x3 : Value) (x7 : Int32) (h0 : Heap) (n0 : Nat) (vv : Option Value) (h : Heap) (L : List Loc) : Prop := ∃ b : Addr, vv = some (.ref b) ∧ Fr n0 L ∧ Keep h0 h [] ∧ Exa Z h b "com/example/floodgauge/floodgauge/cli/Option" ∧ Fld Z h b "com/example/floodgauge/floodgauge/cli/Option" "argument" "Ljava/lang/String;" x1 ∧ h0.size ≤ b
set_option maxRecDepth 65536 in
set_option maxHeartbeats 40000000 in
theorem rm_withDefault (l : Launch) (Z : State) (a0 : Array Value) (hw : ∀ d ∈ tables_1, d.before a0 Z = true) (ws : List Jvm.Cond) (a1 : Addr) (y1 : Value) (x0 : Value) (x1 : Value) (x2 : Value) (x3 : Value) (x7 : Int32) (h0 : Heap) (n0 : Nat) (Z0 : n0 ≤ h0.size) (pr0 : Old Z n0 h0) (pr1 : Fld Z h0 a1 "com/example/floodgauge/floodgauge/cli/Option" "name" "Ljava/lang/String;" x0) (pr2 : Fld Z h0 a1 "com/example/floodgauge/floodgauge/cli/Option" "argument" "Ljava/lang/String;" x1) (pr3 : Fld Z h0 a1 "com/example/floodgauge/floodgauge/cli/Option" "purpose" "Ljava/lang/String;" x2) (pr4 : Fld Z h0 a1 "com/example/floodgauge/floodgauge/cli/Option" "condition" "Ljava/lang/String;" x3) (pr5 : Fld Z h0 a1 "com/example/floodgauge/floodgauge/cli/Option" "variable" "Z" (.int x7)) (hr_x0 : x0.isRef = true) (hr_x1 : x1.isRef = true) (hr_x2 : x2.isRef = true) (hr_x3 : x3.isRef = true) (hr_y1 : y1.isRef = true) :
    Met l Z (⟨"com/example/floodgauge/floodgauge/cli/Option", "withDefault", "(Ljava/lang/String;)Lcom/example/floodgauge/floodgauge/cli/Option;"⟩ : MethodName) prog_7_method_5_code 2 (some (.object "com/example/floodgauge/floodgauge/cli/Option")) ws ({ frames := 3, cells := 1, slots := 8, locals := 45 } : Room) #[(.ref a1), y1] h0 (Q_rm_withDefault Z a1 y1 x0 x1 x2 x3 x7 h0 n0) := by
  refine Met.enter (f0 := fun m => mkF m 0 #[.val (.ref a1), .val y1] []) (plainFor_of_name pn_com_example_floodgauge_floodgauge_cli_Option) (fun m => ef_rm_withDefault m a1 y1 (own_cat hr_y1)) ?_
  intro p e s m below meth c s₁ hx hby hml hown hnm hret hlk hZ X0 e0
  have hown : s.vm.findClass "com/example/floodgauge/floodgauge/cli/Option" = some m.cls := hown
  have hnm : meth.name = "withDefault" := hnm
  have hml : c.maxLocals = 2 := hml
  have hby : c.code = prog_7_method_5_code := hby
  have N0 := Fr.nil n0
  obtain ⟨T132, h132, X132, e132, E132, A132, D132, -, st132⟩ := newO X0 hx hZ hown (wd hw 68 rfl) (wd hw 31 rfl) (wd hw 32 rfl) e0 (g := (mkF m 0 #[.val (.ref a1), .val y1] [])) rfl (hb hby d10_0) (by decide) (by decide)
  obtain ⟨b132, g132⟩ : ∃ z, z = h0.size := ⟨_, rfl⟩
  rw [← g132] at A132 D132 st132
  have sz_b132 : h0.size ≤ b132 := Nat.le_of_eq g132.symm
  have O133 := pr0.ext E132
  have Z133 : n0 ≤ h132.size := Nat.le_trans Z0 E132.1
  have F134 : Fld Z h132 b132 "com/example/floodgauge/floodgauge/cli/Option" "name" "Ljava/lang/String;" .null := D132 (Or.inr (wd hw 43 rfl)) (ty := (.object "java/lang/String")) (by decide)
  have F135 : Fld Z h132 b132 "com/example/floodgauge/floodgauge/cli/Option" "argument" "Ljava/lang/String;" .null := D132 (Or.inr (wd hw 45 rfl)) (ty := (.object "java/lang/String")) (by decide)
  have F136 : Fld Z h132 b132 "com/example/floodgauge/floodgauge/cli/Option" "purpose" "Ljava/lang/String;" .null := D132 (Or.inr (wd hw 47 rfl)) (ty := (.object "java/lang/String")) (by decide)
  have F137 : Fld Z h132 b132 "com/example/floodgauge/floodgauge/cli/Option" "condition" "Ljava/lang/String;" .null := D132 (Or.inr (wd hw 49 rfl)) (ty := (.object "java/lang/String")) (by decide)
  have F138 : Fld Z h132 b132 "com/example/floodgauge/floodgauge/cli/Option" "required" "Z" (.int 0) := D132 (Or.inr (wd hw 51 rfl)) (ty := .boolean) (by decide)
  have F139 : Fld Z h132 b132 "com/example/floodgauge/floodgauge/cli/Option" "fallback" "Ljava/lang/String;" .null := D132 (Or.inr (wd hw 53 rfl)) (ty := (.object "java/lang/String")) (by decide)
  have F140 : Fld Z h132 b132 "com/example/floodgauge/floodgauge/cli/Option" "note" "Ljava/lang/String;" .null := D132 (Or.inr (wd hw 55 rfl)) (ty := (.object "java/lang/String")) (by decide)
  have F141 : Fld Z h132 b132 "com/example/floodgauge/floodgauge/cli/Option" "variable" "Z" (.int 0) := D132 (Or.inr (wd hw 57 rfl)) (ty := .boolean) (by decide)
  refine Go.by (B := (T132.setTop (mkF m 3 #[.val (.ref a1), .val y1] [(.ref b132)]))) st132 ?_
  refine Go.by (B := (T132.setTop (mkF m 5 #[.val (.ref a1), .val y1] [(.ref a1), (.ref b132), (.ref b132)]))) (fun _ k => XS.dup X132.here hx rfl (hb hby d10_3) rfl rfl (XS.aloadN X132.here hx rfl (hb hby d10_4) rfl rfl k)) ?_
  obtain ⟨T142, X142, e142, st142⟩ := getF X132 hx hZ hown (host := "") (Or.inl (wd hw 42 rfl)) Via.refl e132 (pr1.ext E132) (g := (mkF m 5 #[.val (.ref a1), .val y1] [(.ref a1), (.ref b132), (.ref b132)])) rfl rfl (hb hby d10_5)
  refine Go.by (B := (T142.setTop (mkF m 8 #[.val (.ref a1), .val y1] [x0, (.ref b132), (.ref b132)]))) st142 ?_
  refine Go.by (B := (T142.setTop (mkF m 9 #[.val (.ref a1), .val y1] [(.ref a1), x0, (.ref b132), (.ref b132)]))) (fun _ k => XS.aloadN X142.here hx rfl (hb hby d10_8) rfl rfl k) ?_
  obtain ⟨T143, X143, e143, st143⟩ := getF X142 hx hZ hown (host := "") (Or.inl (wd hw 44 rfl)) Via.refl e142 (pr2.ext E132) (g := (mkF m 9 #[.val (.ref a1), .val y1] [(.ref a1), x0, (.ref b132), (.ref b132)])) rfl rfl (hb hby d10_9)
  refine Go.by (B := (T143.setTop (mkF m 12 #[.val (.ref a1), .val y1] [x1, x0, (.ref b132), (.ref b132)]))) st143 ?_
  refine Go.by (B := (T143.setTop (mkF m 13 #[.val (.ref a1), .val y1] [(.ref a1), x1, x0, (.ref b132), (.ref b132)]))) (fun _ k => XS.aloadN X143.here hx rfl (hb hby d10_12) rfl rfl k) ?_
  obtain ⟨T144, X144, e144, st144⟩ := getF X143 hx hZ hown (host := "") (Or.inl (wd hw 46 rfl)) Via.refl e143 (pr3.ext E132) (g := (mkF m 13 #[.val (.ref a1), .val y1] [(.ref a1), x1, x0, (.ref b132), (.ref b132)])) rfl rfl (hb hby d10_13)
  refine Go.by (B := (T144.setTop (mkF m 16 #[.val (.ref a1), .val y1] [x2, x1, x0, (.ref b132), (.ref b132)]))) st144 ?_
  refine Go.by (B := (T144.setTop (mkF m 17 #[.val (.ref a1), .val y1] [(.ref a1), x2, x1, x0, (.ref b132), (.ref b132)]))) (fun _ k => XS.aloadN X144.here hx rfl (hb hby d10_16) rfl rfl k) ?_
  obtain ⟨T145, X145, e145, st145⟩ := getF X144 hx hZ hown (host := "") (Or.inl (wd hw 48 rfl)) Via.refl e144 (pr4.ext E132) (g := (mkF m 17 #[.val (.ref a1), .val y1] [(.ref a1), x2, x1, x0, (.ref b132), (.ref b132)])) rfl rfl (hb hby d10_17)
  refine Go.by (B := (T145.setTop (mkF m 20 #[.val (.ref a1), .val y1] [x3, x2, x1, x0, (.ref b132), (.ref b132)]))) st145 ?_
  refine Go.by (B := (T145.setTop (mkF m 24 #[.val (.ref a1), .val y1] [(.ref a1), .null, y1, (.int 0), x3, x2, x1, x0, (.ref b132), (.ref b132)]))) (fun _ k => XS.iconst X145.here hx rfl (hb hby d10_20) (XS.aloadN X145.here hx rfl (hb hby d10_21) rfl hr_y1 (XS.aconstNull X145.here hx rfl (hb hby d10_22) (XS.aloadN X145.here hx rfl (hb hby d10_23) rfl rfl k)))) ?_
  obtain ⟨T146, X146, e146, st146⟩ := getF X145 hx hZ hown (host := "") (Or.inl (wd hw 56 rfl)) Via.refl e145 (pr5.ext E132) (g := (mkF m 24 #[.val (.ref a1), .val y1] [(.ref a1), .null, y1, (.int 0), x3, x2, x1, x0, (.ref b132), (.ref b132)])) rfl rfl (hb hby d10_24)
  refine Go.by (B := (T146.setTop (mkF m 27 #[.val (.ref a1), .val y1] [(.int x7), .null, y1, (.int 0), x3, x2, x1, x0, (.ref b132), (.ref b132)]))) st146 ?_
  obtain ⟨_, _, ⟨T147, L147, k147, n147⟩, -, X147, ⟨Lc147, hQ147, l147, y147, z147⟩, st147⟩ := X146.specialBack hx (y := (⟨"com/example/floodgauge/floodgauge/cli/Option", "<init>", "(Ljava/lang/String;Ljava/lang/String;Ljava/lang/String;Ljava/lang/String;ZLjava/lang/String;Ljava/lang/String;Z)V"⟩ : MethodName)) rfl hown (mvT hZ (wd hw 69 rfl)) (mvT hZ (wd hw 34 rfl)) (mvT hZ (wd hw 35 rfl)) (by decide) (backOf (W := 1) (rm_opt l Z a0 hw [] b132 x0 x1 x2 x3 (0 : Int32) y1 (.null) x7 h132 n0 Z133 O133 A132 F134 F135 F136 F137 F138 F139 F140 F141 (Nat.le_trans Z0 sz_b132) hr_x0 hr_x1 hr_x2 hr_x3 hr_y1 rfl) hZ (wd hw 35 rfl) (wd hw 32 rfl) (by decide) (by decide)) (g := (mkF m 27 #[.val (.ref a1), .val y1] [(.int x7), .null, y1, (.int 0), x3, x2, x1, x0, (.ref b132), (.ref b132)])) rfl (by rw [hml]; rfl) (Steps.refl _) (a := b132) (argsL := [x0, x1, x2, x3, (.int 0), y1, .null, (.int x7)]) (rest := [(.ref b132)]) (lenOf pd_10 rfl) rfl (by show 2 * 0 + _ ≤ _; exact Nat.le_of_eq rfl) (hb hby d10_27) (fun _ _ => ⟨rfl, e146, Nat.le_of_ble_eq_true rfl, Nat.le_of_ble_eq_true rfl⟩)
  dsimp only [Pt.U, Pt.locs, Pt.cells, Pt.slots] at X147 l147 y147 z147 st147 hQ147
  subst l147 y147 z147
  obtain ⟨rfl, Nq147, K147, p147_0, p147_1, p147_2, p147_3, p147_4, p147_5, p147_6, p147_7, p147_8⟩ := hQ147
  have N147 := Fr.app N0 Nq147
  have O148 := O133.keep K147 (allS (Nat.le_trans Z0 sz_b132) all0)
  have Z148 : n0 ≤ T147.heap.size := Nat.le_trans Z133 K147.1
  have p147_5 : Fld Z T147.heap b132 "com/example/floodgauge/floodgauge/cli/Option" "required" "Z" (.int 0) := p147_5
  refine Go.by (B := (T147.setTop (mkF m 30 #[.val (.ref a1), .val y1] [(.ref b132)]))) (fun _ k => st147.trans k) ?_
  refine Go.ret X147 hx hlk (t := (.object "com/example/floodgauge/floodgauge/cli/Option")) hret rfl (Or.inr (Or.inr (Or.inr (Or.inr ⟨rfl, rfl, rfl⟩)))) (hb hby d10_30) (by decide) (by decide) ?_
  exact ⟨b132, rfl, N147, (((Keep.refl h0 []).ext E132).trans K147 (allS (Or.inr (Nat.le_trans (Nat.le_refl _) sz_b132)) all0)), p147_0, p147_2, (Nat.le_trans (Nat.le_refl _) sz_b132)⟩
theorem ef_rm_withNote (m : MethodId) (x0 : Addr) (x1 : Value) (hx1 : x1.category = 1) : entryFrame m #[(.ref x0), x1] 2 = mkF m 0 #[.val (.ref x0), .val x1] [] := own_ent m (xs := [(.ref x0), x1]) (k := 0) (own_a rfl (own_a hx1 (fun _ q => nomatch q))) rfl
theorem d11_0 : decode prog_7_method_6_code 0 = .ok (.new 8, 3) := by decide +kernel
theorem d11_3 : decode prog_7_method_6_code 3 = .ok (.dup, 1) := by decide +kernel
theorem d11_4 : decode prog_7_method_6_code 4 = .ok (.aload_n 0, 1) := by decide +kernel
theorem d11_5 : decode prog_7_method_6_code 5 = .ok (.getfield 7, 3) := by decide +kernel
theorem d11_8 : decode prog_7_method_6_code 8 = .ok (.aload_n 0, 1) := by decide +kernel
theorem d11_9 : decode prog_7_method_6_code 9 = .ok (.getfield 13, 3) := by decide +kernel
theorem d11_12 : decode prog_7_method_6_code 12 = .ok (.aload_n 0, 1) := by decide +kernel
theorem d11_13 : decode prog_7_method_6_code 13 = .ok (.getfield 16, 3) := by decide +kernel
theorem d11_16 : decode prog_7_method_6_code 16 = .ok (.aload_n 0, 1) := by decide +kernel
theorem d11_17 : decode prog_7_method_6_code 17 = .ok (.getfield 19, 3) := by decide +kernel
theorem d11_20 : decode prog_7_method_6_code 20 = .ok (.iconst 0, 1) := by decide +kernel
theorem d11_21 : decode prog_7_method_6_code 21 = .ok (.aconst_null, 1) := by decide +kernel
theorem d11_22 : decode prog_7_method_6_code 22 = .ok (.aload_n 1, 1) := by decide +kernel
theorem d11_23 : decode prog_7_method_6_code 23 = .ok (.aload_n 0, 1) := by decide +kernel
theorem d11_24 : decode prog_7_method_6_code 24 = .ok (.getfield 32, 3) := by decide +kernel
theorem d11_27 : decode prog_7_method_6_code 27 = .ok (.invokespecial 35, 3) := by decide +kernel
theorem d11_30 : decode prog_7_method_6_code 30 = .ok (.areturn, 1) := by decide +kernel
def Q_rm_withNote (Z : State) (a1 : Addr) (y1 : Value) (x0 : Value) (x1 : Value) (x2 : Value) (x3 : Value) (x7 : Int32) (h0 : Heap) (n0 : Nat) (vv : Option Value) (h : Heap) (L : List Loc) : Prop := ∃ b : Addr, vv = some (.ref b) ∧ Fr n0 L ∧ Keep h0 h [] ∧ Exa Z h b "com/example/floodgauge/floodgauge/cli/Option" ∧ Fld Z h b "com/example/floodgauge/floodgauge/cli/Option" "argument" "Ljava/lang/String;" x1 ∧ h0.size ≤ b
set_option maxRecDepth 65536 in
set_option maxHeartbeats 40000000 in
theorem rm_withNote (l : Launch) (Z : State) (a0 : Array Value) (hw : ∀ d ∈ tables_1, d.before a0 Z = true) (ws : List Jvm.Cond) (a1 : Addr) (y1 : Value) (x0 : Value) (x1 : Value) (x2 : Value) (x3 : Value) (x7 : Int32) (h0 : Heap) (n0 : Nat) (Z0 : n0 ≤ h0.size) (pr0 : Old Z n0 h0) (pr1 : Fld Z h0 a1 "com/example/floodgauge/floodgauge/cli/Option" "name" "Ljava/lang/String;" x0) (pr2 : Fld Z h0 a1 "com/example/floodgauge/floodgauge/cli/Option" "argument" "Ljava/lang/String;" x1) (pr3 : Fld Z h0 a1 "com/example/floodgauge/floodgauge/cli/Option" "purpose" "Ljava/lang/String;" x2) (pr4 : Fld Z h0 a1 "com/example/floodgauge/floodgauge/cli/Option" "condition" "Ljava/lang/String;" x3) (pr5 : Fld Z h0 a1 "com/example/floodgauge/floodgauge/cli/Option" "variable" "Z" (.int x7)) (hr_x0 : x0.isRef = true) (hr_x1 : x1.isRef = true) (hr_x2 : x2.isRef = true) (hr_x3 : x3.isRef = true) (hr_y1 : y1.isRef = true) :
    Met l Z (⟨"com/example/floodgauge/floodgauge/cli/Option", "withNote", "(Ljava/lang/String;)Lcom/example/floodgauge/floodgauge/cli/Option;"⟩ : MethodName) prog_7_method_6_code 2 (some (.object "com/example/floodgauge/floodgauge/cli/Option")) ws ({ frames := 3, cells := 1, slots := 8, locals := 45 } : Room) #[(.ref a1), y1] h0 (Q_rm_withNote Z a1 y1 x0 x1 x2 x3 x7 h0 n0) := by
  refine Met.enter (f0 := fun m => mkF m 0 #[.val (.ref a1), .val y1] []) (plainFor_of_name pn_com_example_floodgauge_floodgauge_cli_Option) (fun m => ef_rm_withNote m a1 y1 (own_cat hr_y1)) ?_
  intro p e s m below meth c s₁ hx hby hml hown hnm hret hlk hZ X0 e0
  have hown : s.vm.findClass "com/example/floodgauge/floodgauge/cli/Option" = some m.cls := hown
  have hnm : meth.name = "withNote" := hnm
  have hml : c.maxLocals = 2 := hml
  have hby : c.code = prog_7_method_6_code := hby
  have N0 := Fr.nil n0
  obtain ⟨T149, h149, X149, e149, E149, A149, D149, -, st149⟩ := newO X0 hx hZ hown (wd hw 68 rfl) (wd hw 31 rfl) (wd hw 32 rfl) e0 (g := (mkF m 0 #[.val (.ref a1), .val y1] [])) rfl (hb hby d11_0) (by decide) (by decide)
  obtain ⟨b149, g149⟩ : ∃ z, z = h0.size := ⟨_, rfl⟩
  rw [← g149] at A149 D149 st149
  have sz_b149 : h0.size ≤ b149 := Nat.le_of_eq g149.symm
  have O150 := pr0.ext E149
  have Z150 : n0 ≤ h149.size := Nat.le_trans Z0 E149.1
  have F151 : Fld Z h149 b149 "com/example/floodgauge/floodgauge/cli/Option" "name" "Ljava/lang/String;" .null := D149 (Or.inr (wd hw 43 rfl)) (ty := (.object "java/lang/String")) (by decide)
  have F152 : Fld Z h149 b149 "com/example/floodgauge/floodgauge/cli/Option" "argument" "Ljava/lang/String;" .null := D149 (Or.inr (wd hw 45 rfl)) (ty := (.object "java/lang/String")) (by decide)
  have F153 : Fld Z h149 b149 "com/example/floodgauge/floodgauge/cli/Option" "purpose" "Ljava/lang/String;" .null := D149 (Or.inr (wd hw 47 rfl)) (ty := (.object "java/lang/String")) (by decide)
  have F154 : Fld Z h149 b149 "com/example/floodgauge/floodgauge/cli/Option" "condition" "Ljava/lang/String;" .null := D149 (Or.inr (wd hw 49 rfl)) (ty := (.object "java/lang/String")) (by decide)
  have F155 : Fld Z h149 b149 "com/example/floodgauge/floodgauge/cli/Option" "required" "Z" (.int 0) := D149 (Or.inr (wd hw 51 rfl)) (ty := .boolean) (by decide)
  have F156 : Fld Z h149 b149 "com/example/floodgauge/floodgauge/cli/Option" "fallback" "Ljava/lang/String;" .null := D149 (Or.inr (wd hw 53 rfl)) (ty := (.object "java/lang/String")) (by decide)
  have F157 : Fld Z h149 b149 "com/example/floodgauge/floodgauge/cli/Option" "note" "Ljava/lang/String;" .null := D149 (Or.inr (wd hw 55 rfl)) (ty := (.object "java/lang/String")) (by decide)
  have F158 : Fld Z h149 b149 "com/example/floodgauge/floodgauge/cli/Option" "variable" "Z" (.int 0) := D149 (Or.inr (wd hw 57 rfl)) (ty := .boolean) (by decide)
  refine Go.by (B := (T149.setTop (mkF m 3 #[.val (.ref a1), .val y1] [(.ref b149)]))) st149 ?_
  refine Go.by (B := (T149.setTop (mkF m 5 #[.val (.ref a1), .val y1] [(.ref a1), (.ref b149), (.ref b149)]))) (fun _ k => XS.dup X149.here hx rfl (hb hby d11_3) rfl rfl (XS.aloadN X149.here hx rfl (hb hby d11_4) rfl rfl k)) ?_
  obtain ⟨T159, X159, e159, st159⟩ := getF X149 hx hZ hown (host := "") (Or.inl (wd hw 42 rfl)) Via.refl e149 (pr1.ext E149) (g := (mkF m 5 #[.val (.ref a1), .val y1] [(.ref a1), (.ref b149), (.ref b149)])) rfl rfl (hb hby d11_5)
  refine Go.by (B := (T159.setTop (mkF m 8 #[.val (.ref a1), .val y1] [x0, (.ref b149), (.ref b149)]))) st159 ?_
  refine Go.by (B := (T159.setTop (mkF m 9 #[.val (.ref a1), .val y1] [(.ref a1), x0, (.ref b149), (.ref b149)]))) (fun _ k => XS.aloadN X159.here hx rfl (hb hby d11_8) rfl rfl k) ?_
  obtain ⟨T160, X160, e160, st160⟩ := getF X159 hx hZ hown (host := "") (Or.inl (wd hw 44 rfl)) Via.refl e159 (pr2.ext E149) (g := (mkF m 9 #[.val (.ref a1), .val y1] [(.ref a1), x0, (.ref b149), (.ref b149)])) rfl rfl (hb hby d11_9)
  refine Go.by (B := (T160.setTop (mkF m 12 #[.val (.ref a1), .val y1] [x1, x0, (.ref b149), (.ref b149)]))) st160 ?_
  refine Go.by (B := (T160.setTop (mkF m 13 #[.val (.ref a1), .val y1] [(.ref a1), x1, x0, (.ref b149), (.ref b149)]))) (fun _ k => XS.aloadN X160.here hx rfl (hb hby d11_12) rfl rfl k) ?_
  obtain ⟨T161, X161, e161, st161⟩ := getF X160 hx hZ hown (host := "") (Or.inl (wd hw 46 rfl)) Via.refl e160 (pr3.ext E149) (g := (mkF m 13 #[.val (.ref a1), .val y1] [(.ref a1), x1, x0, (.ref b149), (.ref b149)])) rfl rfl (hb hby d11_13)
  refine Go.by (B := (T161.setTop (mkF m 16 #[.val (.ref a1), .val y1] [x2, x1, x0, (.ref b149), (.ref b149)]))) st161 ?_
  refine Go.by (B := (T161.setTop (mkF m 17 #[.val (.ref a1), .val y1] [(.ref a1), x2, x1, x0, (.ref b149), (.ref b149)]))) (fun _ k => XS.aloadN X161.here hx rfl (hb hby d11_16) rfl rfl k) ?_
  obtain ⟨T162, X162, e162, st162⟩ := getF X161 hx hZ hown (host := "") (Or.inl (wd hw 48 rfl)) Via.refl e161 (pr4.ext E149) (g := (mkF m 17 #[.val (.ref a1), .val y1] [(.ref a1), x2, x1, x0, (.ref b149), (.ref b149)])) rfl rfl (hb hby d11_17)
  refine Go.by (B := (T162.setTop (mkF m 20 #[.val (.ref a1), .val y1] [x3, x2, x1, x0, (.ref b149), (.ref b149)]))) st162 ?_
  refine Go.by (B := (T162.setTop (mkF m 24 #[.val (.ref a1), .val y1] [(.ref a1), y1, .null, (.int 0), x3, x2, x1, x0, (.ref b149), (.ref b149)]))) (fun _ k => XS.iconst X162.here hx rfl (hb hby d11_20) (XS.aconstNull X162.here hx rfl (hb hby d11_21) (XS.aloadN X162.here hx rfl (hb hby d11_22) rfl hr_y1 (XS.aloadN X162.here hx rfl (hb hby d11_23) rfl rfl k)))) ?_
  obtain ⟨T163, X163, e163, st163⟩ := getF X162 hx hZ hown (host := "") (Or.inl (wd hw 56 rfl)) Via.refl e162 (pr5.ext E149) (g := (mkF m 24 #[.val (.ref a1), .val y1] [(.ref a1), y1, .null, (.int 0), x3, x2, x1, x0, (.ref b149), (.ref b149)])) rfl rfl (hb hby d11_24)
  refine Go.by (B := (T163.setTop (mkF m 27 #[.val (.ref a1), .val y1] [(.int x7), y1, .null, (.int 0), x3, x2, x1, x0, (.ref b149), (.ref b149)]))) st163 ?_
  obtain ⟨_, _, ⟨T164, L164, k164, n164⟩, -, X164, ⟨Lc164, hQ164, l164, y164, z164⟩, st164⟩ := X163.specialBack hx (y := (⟨"com/example/floodgauge/floodgauge/cli/Option", "<init>", "(Ljava/lang/String;Ljava/lang/String;Ljava/lang/String;Ljava/lang/String;ZLjava/lang/String;Ljava/lang/String;Z)V"⟩ : MethodName)) rfl hown (mvT hZ (wd hw 69 rfl)) (mvT hZ (wd hw 34 rfl)) (mvT hZ (wd hw 35 rfl)) (by decide) (backOf (W := 1) (rm_opt l Z a0 hw [] b149 x0 x1 x2 x3 (0 : Int32) (.null) y1 x7 h149 n0 Z150 O150 A149 F151 F152 F153 F154 F155 F156 F157 F158 (Nat.le_trans Z0 sz_b149) hr_x0 hr_x1 hr_x2 hr_x3 rfl hr_y1) hZ (wd hw 35 rfl) (wd hw 32 rfl) (by decide) (by decide)) (g := (mkF m 27 #[.val (.ref a1), .val y1] [(.int x7), y1, .null, (.int 0), x3, x2, x1, x0, (.ref b149), (.ref b149)])) rfl (by rw [hml]; rfl) (Steps.refl _) (a := b149) (argsL := [x0, x1, x2, x3, (.int 0), .null, y1, (.int x7)]) (rest := [(.ref b149)]) (lenOf pd_10 rfl) rfl (by show 2 * 0 + _ ≤ _; exact Nat.le_of_eq rfl) (hb hby d11_27) (fun _ _ => ⟨rfl, e163, Nat.le_of_ble_eq_true rfl, Nat.le_of_ble_eq_true rfl⟩)
  dsimp only [Pt.U, Pt.locs, Pt.cells, Pt.slots] at X164 l164 y164 z164 st164 hQ164
  subst l164 y164 z164
  obtain ⟨rfl, Nq164, K164, p164_0, p164_1, p164_2, p164_3, p164_4, p164_5, p164_6, p164_7, p164_8⟩ := hQ164
  have N164 := Fr.app N0 Nq164
  have O165 := O150.keep K164 (allS (Nat.le_trans Z0 sz_b149) all0)
  have Z165 : n0 ≤ T164.heap.size := Nat.le_trans Z150 K164.1
  have p164_5 : Fld Z T164.heap b149 "com/example/floodgauge/floodgauge/cli/Option" "required" "Z" (.int 0) := p164_5
  refine Go.by (B := (T164.setTop (mkF m 30 #[.val (.ref a1), .val y1] [(.ref b149)]))) (fun _ k => st164.trans k) ?_
  refine Go.ret X164 hx hlk (t := (.object "com/example/floodgauge/floodgauge/cli/Option")) hret rfl (Or.inr (Or.inr (Or.inr (Or.inr ⟨rfl, rfl, rfl⟩)))) (hb hby d11_30) (by decide) (by decide) ?_
  exact ⟨b149, rfl, N164, (((Keep.refl h0 []).ext E149).trans K164 (allS (Or.inr (Nat.le_trans (Nat.le_refl _) sz_b149)) all0)), p164_0, p164_2, (Nat.le_trans (Nat.le_refl _) sz_b149)⟩
theorem ef_rm_fromVar (m : MethodId) (x0 : Addr) : entryFrame m #[(.ref x0)] 1 = mkF m 0 #[.val (.ref x0)] [] := by first | (simp [entryFrame, mkF, argsToLocals, Value.category]; done) | rfl
theorem d12_0 : decode prog_7_method_9_code 0 = .ok (.new 8, 3) := by decide +kernel
theorem d12_3 : decode prog_7_method_9_code 3 = .ok (.dup, 1) := by decide +kernel
theorem d12_4 : decode prog_7_method_9_code 4 = .ok (.aload_n 0, 1) := by decide +kernel
theorem d12_5 : decode prog_7_method_9_code 5 = .ok (.getfield 7, 3) := by decide +kernel
theorem d12_8 : decode prog_7_method_9_code 8 = .ok (.aload_n 0, 1) := by decide +kernel
theorem d12_9 : decode prog_7_method_9_code 9 = .ok (.getfield 13, 3) := by decide +kernel
theorem d12_12 : decode prog_7_method_9_code 12 = .ok (.aload_n 0, 1) := by decide +kernel
theorem d12_13 : decode prog_7_method_9_code 13 = .ok (.getfield 16, 3) := by decide +kernel
theorem d12_16 : decode prog_7_method_9_code 16 = .ok (.aload_n 0, 1) := by decide +kernel
theorem d12_17 : decode prog_7_method_9_code 17 = .ok (.getfield 19, 3) := by decide +kernel
theorem d12_20 : decode prog_7_method_9_code 20 = .ok (.aload_n 0, 1) := by decide +kernel
theorem d12_21 : decode prog_7_method_9_code 21 = .ok (.getfield 22, 3) := by decide +kernel
theorem d12_24 : decode prog_7_method_9_code 24 = .ok (.aload_n 0, 1) := by decide +kernel
theorem d12_25 : decode prog_7_method_9_code 25 = .ok (.getfield 26, 3) := by decide +kernel
theorem d12_28 : decode prog_7_method_9_code 28 = .ok (.aload_n 0, 1) := by decide +kernel
theorem d12_29 : decode prog_7_method_9_code 29 = .ok (.getfield 29, 3) := by decide +kernel
theorem d12_32 : decode prog_7_method_9_code 32 = .ok (.iconst 1, 1) := by decide +kernel
theorem d12_33 : decode prog_7_method_9_code 33 = .ok (.invokespecial 35, 3) := by decide +kernel
theorem d12_36 : decode prog_7_method_9_code 36 = .ok (.areturn, 1) := by decide +kernel
def Q_rm_fromVar (Z : State) (a1 : Addr) (x0 : Value) (x1 : Value) (x2 : Value) (x3 : Value) (x4 : Int32) (x5 : Value) (x6 : Value) (h0 : Heap) (n0 : Nat) (vv : Option Value) (h : Heap) (L : List Loc) : Prop := ∃ b : Addr, vv = some (.ref b) ∧ Fr n0 L ∧ Keep h0 h [] ∧ Exa Z h b "com/example/floodgauge/floodgauge/cli/Option" ∧ Fld Z h b "com/example/floodgauge/floodgauge/cli/Option" "argument" "Ljava/lang/String;" x1 ∧ h0.size ≤ b
set_option maxRecDepth 65536 in
set_option maxHeartbeats 40000000 in
theorem rm_fromVar (l : Launch) (Z : State) (a0 : Array Value) (hw : ∀ d ∈ tables_1, d.before a0 Z = true) (ws : List Jvm.Cond) (a1 : Addr) (x0 : Value) (x1 : Value) (x2 : Value) (x3 : Value) (x4 : Int32) (x5 : Value) (x6 : Value) (h0 : Heap) (n0 : Nat) (Z0 : n0 ≤ h0.size) (pr0 : Old Z n0 h0) (pr1 : Fld Z h0 a1 "com/example/floodgauge/floodgauge/cli/Option" "name" "Ljava/lang/String;" x0) (pr2 : Fld Z h0 a1 "com/example/floodgauge/floodgauge/cli/Option" "argument" "Ljava/lang/String;" x1) (pr3 : Fld Z h0 a1 "com/example/floodgauge/floodgauge/cli/Option" "purpose" "Ljava/lang/String;" x2) (pr4 : Fld Z h0 a1 "com/example/floodgauge/floodgauge/cli/Option" "condition" "Ljava/lang/String;" x3) (pr5 : Fld Z h0 a1 "com/example/floodgauge/floodgauge/cli/Option" "required" "Z" (.int x4)) (pr6 : Fld Z h0 a1 "com/example/floodgauge/floodgauge/cli/Option" "fallback" "Ljava/lang/String;" x5) (pr7 : Fld Z h0 a1 "com/example/floodgauge/floodgauge/cli/Option" "note" "Ljava/lang/String;" x6) (hr_x0 : x0.isRef = true) (hr_x1 : x1.isRef = true) (hr_x2 : x2.isRef = true) (hr_x3 : x3.isRef = true) (hr_x5 : x5.isRef = true) (hr_x6 : x6.isRef = true) :
    Met l Z (⟨"com/example/floodgauge/floodgauge/cli/Option", "fromVariable", "()Lcom/example/floodgauge/floodgauge/cli/Option;"⟩ : MethodName) prog_7_method_9_code 1 (some (.object "com/example/floodgauge/floodgauge/cli/Option")) ws ({ frames := 3, cells := 1, slots := 8, locals := 45 } : Room) #[(.ref a1)] h0 (Q_rm_fromVar Z a1 x0 x1 x2 x3 x4 x5 x6 h0 n0) := by
  refine Met.enter (f0 := fun m => mkF m 0 #[.val (.ref a1)] []) (plainFor_of_name pn_com_example_floodgauge_floodgauge_cli_Option) (fun m => ef_rm_fromVar m a1) ?_
  intro p e s m below meth c s₁ hx hby hml hown hnm hret hlk hZ X0 e0
  have hown : s.vm.findClass "com/example/floodgauge/floodgauge/cli/Option" = some m.cls := hown
  have hnm : meth.name = "fromVariable" := hnm
  have hml : c.maxLocals = 1 := hml
  have hby : c.code = prog_7_method_9_code := hby
  have N0 := Fr.nil n0
  obtain ⟨T166, h166, X166, e166, E166, A166, D166, -, st166⟩ := newO X0 hx hZ hown (wd hw 68 rfl) (wd hw 31 rfl) (wd hw 32 rfl) e0 (g := (mkF m 0 #[.val (.ref a1)] [])) rfl (hb hby d12_0) (by decide) (by decide)
  obtain ⟨b166, g166⟩ : ∃ z, z = h0.size := ⟨_, rfl⟩
  rw [← g166] at A166 D166 st166
  have sz_b166 : h0.size ≤ b166 := Nat.le_of_eq g166.symm
  have O167 := pr0.ext E166
  have Z167 : n0 ≤ h166.size := Nat.le_trans Z0 E166.1
  have F168 : Fld Z h166 b166 "com/example/floodgauge/floodgauge/cli/Option" "name" "Ljava/lang/String;" .null := D166 (Or.inr (wd hw 43 rfl)) (ty := (.object "java/lang/String")) (by decide)
  have F169 : Fld Z h166 b166 "com/example/floodgauge/floodgauge/cli/Option" "argument" "Ljava/lang/String;" .null := D166 (Or.inr (wd hw 45 rfl)) (ty := (.object "java/lang/String")) (by decide)
  have F170 : Fld Z h166 b166 "com/example/floodgauge/floodgauge/cli/Option" "purpose" "Ljava/lang/String;" .null := D166 (Or.inr (wd hw 47 rfl)) (ty := (.object "java/lang/String")) (by decide)
  have F171 : Fld Z h166 b166 "com/example/floodgauge/floodgauge/cli/Option" "condition" "Ljava/lang/String;" .null := D166 (Or.inr (wd hw 49 rfl)) (ty := (.object "java/lang/String")) (by decide)
  have F172 : Fld Z h166 b166 "com/example/floodgauge/floodgauge/cli/Option" "required" "Z" (.int 0) := D166 (Or.inr (wd hw 51 rfl)) (ty := .boolean) (by decide)
  have F173 : Fld Z h166 b166 "com/example/floodgauge/floodgauge/cli/Option" "fallback" "Ljava/lang/String;" .null := D166 (Or.inr (wd hw 53 rfl)) (ty := (.object "java/lang/String")) (by decide)
  have F174 : Fld Z h166 b166 "com/example/floodgauge/floodgauge/cli/Option" "note" "Ljava/lang/String;" .null := D166 (Or.inr (wd hw 55 rfl)) (ty := (.object "java/lang/String")) (by decide)
  have F175 : Fld Z h166 b166 "com/example/floodgauge/floodgauge/cli/Option" "variable" "Z" (.int 0) := D166 (Or.inr (wd hw 57 rfl)) (ty := .boolean) (by decide)
  refine Go.by (B := (T166.setTop (mkF m 3 #[.val (.ref a1)] [(.ref b166)]))) st166 ?_
  refine Go.by (B := (T166.setTop (mkF m 5 #[.val (.ref a1)] [(.ref a1), (.ref b166), (.ref b166)]))) (fun _ k => XS.dup X166.here hx rfl (hb hby d12_3) rfl rfl (XS.aloadN X166.here hx rfl (hb hby d12_4) rfl rfl k)) ?_
  obtain ⟨T176, X176, e176, st176⟩ := getF X166 hx hZ hown (host := "") (Or.inl (wd hw 42 rfl)) Via.refl e166 (pr1.ext E166) (g := (mkF m 5 #[.val (.ref a1)] [(.ref a1), (.ref b166), (.ref b166)])) rfl rfl (hb hby d12_5)
  refine Go.by (B := (T176.setTop (mkF m 8 #[.val (.ref a1)] [x0, (.ref b166), (.ref b166)]))) st176 ?_
  refine Go.by (B := (T176.setTop (mkF m 9 #[.val (.ref a1)] [(.ref a1), x0, (.ref b166), (.ref b166)]))) (fun _ k => XS.aloadN X176.here hx rfl (hb hby d12_8) rfl rfl k) ?_
  obtain ⟨T177, X177, e177, st177⟩ := getF X176 hx hZ hown (host := "") (Or.inl (wd hw 44 rfl)) Via.refl e176 (pr2.ext E166) (g := (mkF m 9 #[.val (.ref a1)] [(.ref a1), x0, (.ref b166), (.ref b166)])) rfl rfl (hb hby d12_9)
  refine Go.by (B := (T177.setTop (mkF m 12 #[.val (.ref a1)] [x1, x0, (.ref b166), (.ref b166)]))) st177 ?_
  refine Go.by (B := (T177.setTop (mkF m 13 #[.val (.ref a1)] [(.ref a1), x1, x0, (.ref b166), (.ref b166)]))) (fun _ k => XS.aloadN X177.here hx rfl (hb hby d12_12) rfl rfl k) ?_
  obtain ⟨T178, X178, e178, st178⟩ := getF X177 hx hZ hown (host := "") (Or.inl (wd hw 46 rfl)) Via.refl e177 (pr3.ext E166) (g := (mkF m 13 #[.val (.ref a1)] [(.ref a1), x1, x0, (.ref b166), (.ref b166)])) rfl rfl (hb hby d12_13)
  refine Go.by (B := (T178.setTop (mkF m 16 #[.val (.ref a1)] [x2, x1, x0, (.ref b166), (.ref b166)]))) st178 ?_
  refine Go.by (B := (T178.setTop (mkF m 17 #[.val (.ref a1)] [(.ref a1), x2, x1, x0, (.ref b166), (.ref b166)]))) (fun _ k => XS.aloadN X178.here hx rfl (hb hby d12_16) rfl rfl k) ?_
  obtain ⟨T179, X179, e179, st179⟩ := getF X178 hx hZ hown (host := "") (Or.inl (wd hw 48 rfl)) Via.refl e178 (pr4.ext E166) (g := (mkF m 17 #[.val (.ref a1)] [(.ref a1), x2, x1, x0, (.ref b166), (.ref b166)])) rfl rfl (hb hby d12_17)
  refine Go.by (B := (T179.setTop (mkF m 20 #[.val (.ref a1)] [x3, x2, x1, x0, (.ref b166), (.ref b166)]))) st179 ?_
  refine Go.by (B := (T179.setTop (mkF m 21 #[.val (.ref a1)] [(.ref a1), x3, x2, x1, x0, (.ref b166), (.ref b166)]))) (fun _ k => XS.aloadN X179.here hx rfl (hb hby d12_20) rfl rfl k) ?_
  obtain ⟨T180, X180, e180, st180⟩ := getF X179 hx hZ hown (host := "") (Or.inl (wd hw 50 rfl)) Via.refl e179 (pr5.ext E166) (g := (mkF m 21 #[.val (.ref a1)] [(.ref a1), x3, x2, x1, x0, (.ref b166), (.ref b166)])) rfl rfl (hb hby d12_21)
  refine Go.by (B := (T180.setTop (mkF m 24 #[.val (.ref a1)] [(.int x4), x3, x2, x1, x0, (.ref b166), (.ref b166)]))) st180 ?_
  refine Go.by (B := (T180.setTop (mkF m 25 #[.val (.ref a1)] [(.ref a1), (.int x4), x3, x2, x1, x0, (.ref b166), (.ref b166)]))) (fun _ k => XS.aloadN X180.here hx rfl (hb hby d12_24) rfl rfl k) ?_
  obtain ⟨T181, X181, e181, st181⟩ := getF X180 hx hZ hown (host := "") (Or.inl (wd hw 52 rfl)) Via.refl e180 (pr6.ext E166) (g := (mkF m 25 #[.val (.ref a1)] [(.ref a1), (.int x4), x3, x2, x1, x0, (.ref b166), (.ref b166)])) rfl rfl (hb hby d12_25)
  refine Go.by (B := (T181.setTop (mkF m 28 #[.val (.ref a1)] [x5, (.int x4), x3, x2, x1, x0, (.ref b166), (.ref b166)]))) st181 ?_
  refine Go.by (B := (T181.setTop (mkF m 29 #[.val (.ref a1)] [(.ref a1), x5, (.int x4), x3, x2, x1, x0, (.ref b166), (.ref b166)]))) (fun _ k => XS.aloadN X181.here hx rfl (hb hby d12_28) rfl rfl k) ?_
  obtain ⟨T182, X182, e182, st182⟩ := getF X181 hx hZ hown (host := "") (Or.inl (wd hw 54 rfl)) Via.refl e181 (pr7.ext E166) (g := (mkF m 29 #[.val (.ref a1)] [(.ref a1), x5, (.int x4), x3, x2, x1, x0, (.ref b166), (.ref b166)])) rfl rfl (hb hby d12_29)
  refine Go.by (B := (T182.setTop (mkF m 32 #[.val (.ref a1)] [x6, x5, (.int x4), x3, x2, x1, x0, (.ref b166), (.ref b166)]))) st182 ?_
  refine Go.by (B := (T182.setTop (mkF m 33 #[.val (.ref a1)] [(.int 1), x6, x5, (.int x4), x3, x2, x1, x0, (.ref b166), (.ref b166)]))) (fun _ k => XS.iconst X182.here hx rfl (hb hby d12_32) k) ?_
  obtain ⟨_, _, ⟨T183, L183, k183, n183⟩, -, X183, ⟨Lc183, hQ183, l183, y183, z183⟩, st183⟩ := X182.specialBack hx (y := (⟨"com/example/floodgauge/floodgauge/cli/Option", "<init>", "(Ljava/lang/String;Ljava/lang/String;Ljava/lang/String;Ljava/lang/String;ZLjava/lang/String;Ljava/lang/String;Z)V"⟩ : MethodName)) rfl hown (mvT hZ (wd hw 69 rfl)) (mvT hZ (wd hw 34 rfl)) (mvT hZ (wd hw 35 rfl)) (by decide) (backOf (W := 1) (rm_opt l Z a0 hw [] b166 x0 x1 x2 x3 x4 x5 x6 (1 : Int32) h166 n0 Z167 O167 A166 F168 F169 F170 F171 F172 F173 F174 F175 (Nat.le_trans Z0 sz_b166) hr_x0 hr_x1 hr_x2 hr_x3 hr_x5 hr_x6) hZ (wd hw 35 rfl) (wd hw 32 rfl) (by decide) (by decide)) (g := (mkF m 33 #[.val (.ref a1)] [(.int 1), x6, x5, (.int x4), x3, x2, x1, x0, (.ref b166), (.ref b166)])) rfl (by rw [hml]; rfl) (Steps.refl _) (a := b166) (argsL := [x0, x1, x2, x3, (.int x4), x5, x6, (.int 1)]) (rest := [(.ref b166)]) (lenOf pd_10 rfl) rfl (by show 2 * 0 + _ ≤ _; exact Nat.le_of_eq rfl) (hb hby d12_33) (fun _ _ => ⟨rfl, e182, Nat.le_of_ble_eq_true rfl, Nat.le_of_ble_eq_true rfl⟩)
  dsimp only [Pt.U, Pt.locs, Pt.cells, Pt.slots] at X183 l183 y183 z183 st183 hQ183
  subst l183 y183 z183
  obtain ⟨rfl, Nq183, K183, p183_0, p183_1, p183_2, p183_3, p183_4, p183_5, p183_6, p183_7, p183_8⟩ := hQ183
  have N183 := Fr.app N0 Nq183
  have O184 := O167.keep K183 (allS (Nat.le_trans Z0 sz_b166) all0)
  have Z184 : n0 ≤ T183.heap.size := Nat.le_trans Z167 K183.1
  have p183_8 : Fld Z T183.heap b166 "com/example/floodgauge/floodgauge/cli/Option" "variable" "Z" (.int 1) := p183_8
  refine Go.by (B := (T183.setTop (mkF m 36 #[.val (.ref a1)] [(.ref b166)]))) (fun _ k => st183.trans k) ?_
  refine Go.ret X183 hx hlk (t := (.object "com/example/floodgauge/floodgauge/cli/Option")) hret rfl (Or.inr (Or.inr (Or.inr (Or.inr ⟨rfl, rfl, rfl⟩)))) (hb hby d12_36) (by decide) (by decide) ?_
  exact ⟨b166, rfl, N183, (((Keep.refl h0 []).ext E166).trans K183 (allS (Or.inr (Nat.le_trans (Nat.le_refl _) sz_b166)) all0)), p183_0, p183_2, (Nat.le_trans (Nat.le_refl _) sz_b166)⟩
theorem ef_rm_flag (m : MethodId) (x0 : Value) (hx0 : x0.category = 1) (x1 : Value) (hx1 : x1.category = 1) : entryFrame m #[x0, x1] 2 = mkF m 0 #[.val x0, .val x1] [] := own_ent m (xs := [x0, x1]) (k := 0) (own_a hx0 (own_a hx1 (fun _ q => nomatch q))) rfl
theorem d13_0 : decode prog_7_method_4_code 0 = .ok (.new 8, 3) := by decide +kernel
theorem d13_3 : decode prog_7_method_4_code 3 = .ok (.dup, 1) := by decide +kernel
theorem d13_4 : decode prog_7_method_4_code 4 = .ok (.aload_n 0, 1) := by decide +kernel
theorem d13_5 : decode prog_7_method_4_code 5 = .ok (.aconst_null, 1) := by decide +kernel
theorem d13_6 : decode prog_7_method_4_code 6 = .ok (.aload_n 1, 1) := by decide +kernel
theorem d13_7 : decode prog_7_method_4_code 7 = .ok (.aconst_null, 1) := by decide +kernel
theorem d13_8 : decode prog_7_method_4_code 8 = .ok (.iconst 0, 1) := by decide +kernel
theorem d13_9 : decode prog_7_method_4_code 9 = .ok (.aconst_null, 1) := by decide +kernel
theorem d13_10 : decode prog_7_method_4_code 10 = .ok (.aconst_null, 1) := by decide +kernel
theorem d13_11 : decode prog_7_method_4_code 11 = .ok (.iconst 0, 1) := by decide +kernel
theorem d13_12 : decode prog_7_method_4_code 12 = .ok (.invokespecial 35, 3) := by decide +kernel
theorem d13_15 : decode prog_7_method_4_code 15 = .ok (.areturn, 1) := by decide +kernel
def Q_rm_flag (Z : State) (y1 : Value) (y2 : Value) (h0 : Heap) (n0 : Nat) (vv : Option Value) (h : Heap) (L : List Loc) : Prop := ∃ b : Addr, vv = some (.ref b) ∧ Fr n0 L ∧ Keep h0 h [] ∧ Exa Z h b "com/example/floodgauge/floodgauge/cli/Option" ∧ Fld Z h b "com/example/floodgauge/floodgauge/cli/Option" "argument" "Ljava/lang/String;" .null ∧ h0.size ≤ b
set_option maxRecDepth 65536 in
set_option maxHeartbeats 40000000 in
theorem rm_flag (l : Launch) (Z : State) (a0 : Array Value) (hw : ∀ d ∈ tables_1, d.before a0 Z = true) (ws : List Jvm.Cond) (y1 : Value) (y2 : Value) (h0 : Heap) (n0 : Nat) (Z0 : n0 ≤ h0.size) (pr0 : Old Z n0 h0) (hr_y1 : y1.isRef = true) (hr_y2 : y2.isRef = true) :
    Met l Z (⟨"com/example/floodgauge/floodgauge/cli/Option", "flag", "(Ljava/lang/String;Ljava/lang/String;)Lcom/example/floodgauge/floodgauge/cli/Option;"⟩ : MethodName) prog_7_method_4_code 2 (some (.object "com/example/floodgauge/floodgauge/cli/Option")) ws ({ frames := 3, cells := 1, slots := 8, locals := 45 } : Room) #[y1, y2] h0 (Q_rm_flag Z y1 y2 h0 n0) := by
  refine Met.enter (f0 := fun m => mkF m 0 #[.val y1, .val y2] []) (plainFor_of_name pn_com_example_floodgauge_floodgauge_cli_Option) (fun m => ef_rm_flag m y1 (own_cat hr_y1) y2 (own_cat hr_y2)) ?_
  intro p e s m below meth c s₁ hx hby hml hown hnm hret hlk hZ X0 e0
  have hown : s.vm.findClass "com/example/floodgauge/floodgauge/cli/Option" = some m.cls := hown
  have hnm : meth.name = "flag" := hnm
  have hml : c.maxLocals = 2 := hml
  have hby : c.code = prog_7_method_4_code := hby
  have N0 := Fr.nil n0
  obtain ⟨T185, h185, X185, e185, E185, A185, D185, -, st185⟩ := newO X0 hx hZ hown (wd hw 68 rfl) (wd hw 31 rfl) (wd hw 32 rfl) e0 (g := (mkF m 0 #[.val y1, .val y2] [])) rfl (hb hby d13_0) (by decide) (by decide)
  obtain ⟨b185, g185⟩ : ∃ z, z = h0.size := ⟨_, rfl⟩
  rw [← g185] at A185 D185 st185
  have sz_b185 : h0.size ≤ b185 := Nat.le_of_eq g185.symm
  have O186 := pr0.ext E185
  have Z186 : n0 ≤ h185.size := Nat.le_trans Z0 E185.1
  have F187 : Fld Z h185 b185 "com/example/floodgauge/floodgauge/cli/Option" "name" "Ljava/lang/String;" .null := D185 (Or.inr (wd hw 43 rfl)) (ty := (.object "java/lang/String")) (by decide)
  have F188 : Fld Z h185 b185 "com/example/floodgauge/floodgauge/cli/Option" "argument" "Ljava/lang/String;" .null := D185 (Or.inr (wd hw 45 rfl)) (ty := (.object "java/lang/String")) (by decide)
  have F189 : Fld Z h185 b185 "com/example/floodgauge/floodgauge/cli/Option" "purpose" "Ljava/lang/String;" .null := D185 (Or.inr (wd hw 47 rfl)) (ty := (.object "java/lang/String")) (by decide)
  have F190 : Fld Z h185 b185 "com/example/floodgauge/floodgauge/cli/Option" "condition" "Ljava/lang/String;" .null := D185 (Or.inr (wd hw 49 rfl)) (ty := (.object "java/lang/String")) (by decide)
  have F191 : Fld Z h185 b185 "com/example/floodgauge/floodgauge/cli/Option" "required" "Z" (.int 0) := D185 (Or.inr (wd hw 51 rfl)) (ty := .boolean) (by decide)
  have F192 : Fld Z h185 b185 "com/example/floodgauge/floodgauge/cli/Option" "fallback" "Ljava/lang/String;" .null := D185 (Or.inr (wd hw 53 rfl)) (ty := (.object "java/lang/String")) (by decide)
  have F193 : Fld Z h185 b185 "com/example/floodgauge/floodgauge/cli/Option" "note" "Ljava/lang/String;" .null := D185 (Or.inr (wd hw 55 rfl)) (ty := (.object "java/lang/String")) (by decide)
  have F194 : Fld Z h185 b185 "com/example/floodgauge/floodgauge/cli/Option" "variable" "Z" (.int 0) := D185 (Or.inr (wd hw 57 rfl)) (ty := .boolean) (by decide)
  refine Go.by (B := (T185.setTop (mkF m 3 #[.val y1, .val y2] [(.ref b185)]))) st185 ?_
  refine Go.by (B := (T185.setTop (mkF m 11 #[.val y1, .val y2] [.null, .null, (.int 0), .null, y2, .null, y1, (.ref b185), (.ref b185)]))) (fun _ k => XS.dup X185.here hx rfl (hb hby d13_3) rfl rfl (XS.aloadN X185.here hx rfl (hb hby d13_4) rfl hr_y1 (XS.aconstNull X185.here hx rfl (hb hby d13_5) (XS.aloadN X185.here hx rfl (hb hby d13_6) rfl hr_y2 (XS.aconstNull X185.here hx rfl (hb hby d13_7) (XS.iconst X185.here hx rfl (hb hby d13_8) (XS.aconstNull X185.here hx rfl (hb hby d13_9) (XS.aconstNull X185.here hx rfl (hb hby d13_10) k)))))))) ?_
  refine Go.by (B := (T185.setTop (mkF m 12 #[.val y1, .val y2] [(.int 0), .null, .null, (.int 0), .null, y2, .null, y1, (.ref b185), (.ref b185)]))) (fun _ k => XS.iconst X185.here hx rfl (hb hby d13_11) k) ?_
  obtain ⟨_, _, ⟨T195, L195, k195, n195⟩, -, X195, ⟨Lc195, hQ195, l195, y195, z195⟩, st195⟩ := X185.specialBack hx (y := (⟨"com/example/floodgauge/floodgauge/cli/Option", "<init>", "(Ljava/lang/String;Ljava/lang/String;Ljava/lang/String;Ljava/lang/String;ZLjava/lang/String;Ljava/lang/String;Z)V"⟩ : MethodName)) rfl hown (mvT hZ (wd hw 69 rfl)) (mvT hZ (wd hw 34 rfl)) (mvT hZ (wd hw 35 rfl)) (by decide) (backOf (W := 1) (rm_opt l Z a0 hw [] b185 y1 (.null) y2 (.null) (0 : Int32) (.null) (.null) (0 : Int32) h185 n0 Z186 O186 A185 F187 F188 F189 F190 F191 F192 F193 F194 (Nat.le_trans Z0 sz_b185) hr_y1 rfl hr_y2 rfl rfl rfl) hZ (wd hw 35 rfl) (wd hw 32 rfl) (by decide) (by decide)) (g := (mkF m 12 #[.val y1, .val y2] [(.int 0), .null, .null, (.int 0), .null, y2, .null, y1, (.ref b185), (.ref b185)])) rfl (by rw [hml]; rfl) (Steps.refl _) (a := b185) (argsL := [y1, .null, y2, .null, (.int 0), .null, .null, (.int 0)]) (rest := [(.ref b185)]) (lenOf pd_10 rfl) rfl (by show 2 * 0 + _ ≤ _; exact Nat.le_of_eq rfl) (hb hby d13_12) (fun _ _ => ⟨rfl, e185, Nat.le_of_ble_eq_true rfl, Nat.le_of_ble_eq_true rfl⟩)
  dsimp only [Pt.U, Pt.locs, Pt.cells, Pt.slots] at X195 l195 y195 z195 st195 hQ195
  subst l195 y195 z195
  obtain ⟨rfl, Nq195, K195, p195_0, p195_1, p195_2, p195_3, p195_4, p195_5, p195_6, p195_7, p195_8⟩ := hQ195
  have N195 := Fr.app N0 Nq195
  have O196 := O186.keep K195 (allS (Nat.le_trans Z0 sz_b185) all0)
  have Z196 : n0 ≤ T195.heap.size := Nat.le_trans Z186 K195.1
  have p195_5 : Fld Z T195.heap b185 "com/example/floodgauge/floodgauge/cli/Option" "required" "Z" (.int 0) := p195_5
  have p195_8 : Fld Z T195.heap b185 "com/example/floodgauge/floodgauge/cli/Option" "variable" "Z" (.int 0) := p195_8
  refine Go.by (B := (T195.setTop (mkF m 15 #[.val y1, .val y2] [(.ref b185)]))) (fun _ k => st195.trans k) ?_
  refine Go.ret X195 hx hlk (t := (.object "com/example/floodgauge/floodgauge/cli/Option")) hret rfl (Or.inr (Or.inr (Or.inr (Or.inr ⟨rfl, rfl, rfl⟩)))) (hb hby d13_15) (by decide) (by decide) ?_
  exact ⟨b185, rfl, N195, (((Keep.refl h0 []).ext E185).trans K195 (allS (Or.inr (Nat.le_trans (Nat.le_refl _) sz_b185)) all0)), p195_0, p195_2, (Nat.le_trans (Nat.le_refl _) sz_b185)⟩
theorem ef_rm0 (m : MethodId) (x0 : Int32) (x1 : Int32) (x2 : Int32) (x3 : Int32) : entryFrame m #[(.int x0), (.int x1), (.int x2), (.int x3)] maxLocals = mkF m 0 #[.val (.int x0), .val (.int x1), .val (.int x2), .val (.int x3), .unset, .unset, .unset, .unset, .unset, .unset, .unset, .unset, .unset, .unset, .unset] [] := by first | (simp [entryFrame, mkF, argsToLocals, Value.category, maxLocals]; done) | rfl
theorem pd_11 : parseMethodDescriptor "(II)Ljava/lang/String;" = some ⟨[.int, .int], some (.object "java/lang/String")⟩ := by decide +kernel
theorem pd_12 : parseMethodDescriptor "()Z" = some ⟨[], some .boolean⟩ := by decide +kernel
theorem pd_13 : parseMethodDescriptor "(Ljava/lang/String;)Lcom/example/floodgauge/floodgauge/cli/Option;" = some ⟨[(.object "java/lang/String")], some (.object "com/example/floodgauge/floodgauge/cli/Option")⟩ := by decide +kernel
theorem pd_14 : parseMethodDescriptor "()Lcom/example/floodgauge/floodgauge/cli/Option;" = some ⟨[], some (.object "com/example/floodgauge/floodgauge/cli/Option")⟩ := by decide +kernel
theorem pd_15 : parseMethodDescriptor "(Ljava/lang/String;Ljava/lang/String;)Lcom/example/floodgauge/floodgauge/cli/Option;" = some ⟨[(.object "java/lang/String"), (.object "java/lang/String")], some (.object "com/example/floodgauge/floodgauge/cli/Option")⟩ := by decide +kernel
def Q_rm0 (Z : State) (p1 : Int32) (p2 : Int32) (p3 : Int32) (p4 : Int32) (cs : Int32) (h0 : Heap) (n0 : Nat) (vv : Option Value) (h : Heap) (L : List Loc) : Prop := vv = some (.int 1) ∧ Fr n0 L
set_option maxRecDepth 65536 in
set_option maxHeartbeats 40000000 in
theorem rm0 (l : Launch) (Z : State) (a0 : Array Value) (hw : ∀ d ∈ tables_1, d.before a0 Z = true) (ws : List Jvm.Cond) (p1 : Int32) (p2 : Int32) (p3 : Int32) (p4 : Int32) (cs : Int32) (h0 : Heap) (n0 : Nat) (Z0 : n0 ≤ h0.size) (pr0 : Old Z n0 h0) (pr1 : Sta Z Z.heap "java/lang/String" "COMPACT_STRINGS" "Z" (.int cs)) (hcs : ¬ (cs = (0 : Int32))) :
    MetS l Z own_EL x code maxLocals ret ws room_1 #[(.int p1), (.int p2), (.int p3), (.int p4)] h0 (Q_rm0 Z p1 p2 p3 p4 cs h0 n0) := by
  refine MetS.enter (f0 := fun m => mkF m 0 #[.val (.int p1), .val (.int p2), .val (.int p3), .val (.int p4), .unset, .unset, .unset, .unset, .unset, .unset, .unset, .unset, .unset, .unset, .unset] []) (plainFor_of_name pn_com_example_floodgauge_floodgauge_cli_OptionIsFlagPinLaw) (fun m => ef_rm0 m p1 p2 p3 p4) ?_
  intro p e s m below meth c s₁ hx hby hml hown hnm hret hlk hZ X0 e0 hS C0
  have hown : s.vm.findClass "com/example/floodgauge/floodgauge/cli/OptionIsFlagPinLaw" = some m.cls := hown
  have hnm : meth.name = "law" := hnm
  have hml : c.maxLocals = 15 := hml
  have hby : c.code = code := hby
  have N0 := Fr.nil n0
  have hk : h0.size ≤ h0.size := Nat.le_refl _
  have hEL : EW Z a0 own_EL := own_hEL hw
  have wS : ∀ a ∈ Bundle.stringAtoms, a.before a0 Z = true := own_wS hw
  refine Go.by (B := (s₁.setTop (mkF m 3 #[.val (.int p1), .val (.int p2), .val (.int p3), .val (.int p4), .unset, .unset, .unset, .unset, .unset, .unset, .unset, .unset, .unset, .unset, .unset] [(.int (p1 &&& (3 : Int32)))]))) (fun _ k => XS.iloadN X0.here hx rfl (hb hby at_0) rfl (XS.iconst X0.here hx rfl (hb hby at_1) (XS.iand X0.here hx rfl (hb hby at_2) rfl k))) ?_
  obtain ⟨v197, hv197⟩ : ∃ v, v = (p1 &&& (3 : Int32)) := ⟨_, rfl⟩
  refine Go.by (B := (s₁.setTop (mkF m 8 #[.val (.int p1), .val (.int p2), .val (.int p3), .val (.int p4), .val (.int v197), .unset, .unset, .unset, .unset, .unset, .unset, .unset, .unset, .unset, .unset] [(.int p2), (.int v197)]))) (fun _ k => XS.istore (x := v197) (rest := []) X0.here hx rfl (hb hby at_3) (by rw [hv197]) (l' := #[.val (.int p1), .val (.int p2), .val (.int p3), .val (.int p4), .val (.int v197), .unset, .unset, .unset, .unset, .unset, .unset, .unset, .unset, .unset, .unset]) rfl (XS.iload X0.here hx rfl (hb hby at_5) rfl (XS.iloadN X0.here hx rfl (hb hby at_7) rfl k))) ?_
  have hkT198 : _ ≤ s₁.heap.size := (by rw [e0]; exact hk)
  obtain ⟨_, _, ⟨T198, L198, k198, n198⟩, -, X198, hSn198, hgr198, ⟨Lc198, hQ198, l198, y198, z198, CS198⟩, st198⟩ := callSS X0 hx (y := (⟨"com/example/floodgauge/floodgauge/cli/OptionIsFlagPinLaw", "drawn", "(II)Ljava/lang/String;"⟩ : MethodName)) hown (mvT hZ (wd hw 0 rfl)) (mvT hZ (wd hw 1 rfl)) (mvT hZ (wd hw 2 rfl)) (mvT hZ (wd hw 3 rfl)) (by decide) (backOfSH (W := 0) (rm_drawn l Z a0 hw [] v197 p2 cs h0 n0 Z0 pr0 pr1 hcs) hZ (wd hw 3 rfl) (wd hw 2 rfl) (by decide) (by decide) hEL C0.1) (g := (mkF m 8 #[.val (.int p1), .val (.int p2), .val (.int p3), .val (.int p4), .val (.int v197), .unset, .unset, .unset, .unset, .unset, .unset, .unset, .unset, .unset, .unset] [(.int p2), (.int v197)])) rfl (by rw [hml]; rfl) (argsL := [(.int v197), (.int p2)]) (rest := []) (lenOf pd_11 rfl) rfl (by show 2 * 0 + _ ≤ _; exact Nat.le_of_eq rfl) (hb hby at_8) (fun _ _ => ⟨rfl, e0, Nat.le_of_ble_eq_true rfl, Nat.le_of_ble_eq_true rfl⟩)
  dsimp only [Pt.U, Pt.locs, Pt.cells, Pt.slots] at X198 l198 y198 z198 st198 hQ198 hSn198 hgr198 CS198
  subst l198 y198 z198
  obtain ⟨X198, hS, hZ, hown⟩ := rebS hS hkT198 X198 hSn198 hgr198 hZ hown
  have hk : T198.heap.size ≤ T198.heap.size := Nat.le_refl _
  obtain ⟨o198, rfl, Nq198, K198, p198_0, p198_1⟩ := hQ198
  have N198 := Fr.app N0 Nq198
  have C199 := C0.trans CS198
  have O199 := pr0.keep K198 all0
  have Z199 : n0 ≤ T198.heap.size := Nat.le_trans Z0 K198.1
  refine Go.by (B := (T198.setTop (mkF m 11 #[.val (.int p1), .val (.int p2), .val (.int p3), .val (.int p4), .val (.int v197), .unset, .unset, .unset, .unset, .unset, .unset, .unset, .unset, .unset, .unset] [o198]))) (fun _ k => st198.trans k) ?_
  rw [own_33 hv197] at p198_1
  rcases p198_1 with ⟨c200, rfl⟩ | ⟨c200, b201, rfl⟩
  · skip
    refine Go.by (B := (T198.setTop (mkF m 22 #[.val (.int p1), .val (.int p2), .val (.int p3), .val (.int p4), .val (.int v197), .val .null, .unset, .unset, .unset, .unset, .unset, .unset, .unset, .unset, .unset] [(.int ((((p2.toUInt32 >>> ((16 : Int32) &&& 31).toUInt32).toInt32) &&& (255 : Int32)).toUInt32.toUInt16.toUInt32.toInt32))]))) (fun _ k => XS.astore X198.here hx rfl (hb hby at_11) rfl rfl (l' := #[.val (.int p1), .val (.int p2), .val (.int p3), .val (.int p4), .val (.int v197), .val .null, .unset, .unset, .unset, .unset, .unset, .unset, .unset, .unset, .unset]) rfl (XS.iloadN X198.here hx rfl (hb hby at_13) rfl (XS.bipush X198.here hx rfl (hb hby at_14) (XS.iushr X198.here hx rfl (hb hby at_16) rfl (XS.sipush X198.here hx rfl (hb hby at_17) (XS.iand X198.here hx rfl (hb hby at_20) rfl (XS.i2c X198.here hx rfl (hb hby at_21) rfl k))))))) ?_
    obtain ⟨_, _, ⟨T202, L202, k202, n202⟩, -, X202, ⟨Lc202, hQ202, l202, y202, z202⟩, st202⟩ := Jvm.LawKit.callS X198 hx (y := (⟨"java/lang/String", "valueOf", "(C)Ljava/lang/String;"⟩ : MethodName)) hown (mvT hZ (wd hw 4 rfl)) (mvT hZ (wd hw 5 rfl)) (mvT hZ (wd hw 6 rfl)) (mvT hZ (wd hw 7 rfl)) (by decide) (backOf (W := 0) (rm_valueOfC l Z a0 hw [] ((((p2.toUInt32 >>> ((16 : Int32) &&& 31).toUInt32).toInt32) &&& (255 : Int32)).toUInt32.toUInt16.toUInt32.toInt32) cs T198.heap n0 Z199 O199 pr1 hcs (own_ch _)) hZ (wd hw 7 rfl) (wd hw 6 rfl) (by decide) (by decide)) (g := (mkF m 22 #[.val (.int p1), .val (.int p2), .val (.int p3), .val (.int p4), .val (.int v197), .val .null, .unset, .unset, .unset, .unset, .unset, .unset, .unset, .unset, .unset] [(.int ((((p2.toUInt32 >>> ((16 : Int32) &&& 31).toUInt32).toInt32) &&& (255 : Int32)).toUInt32.toUInt16.toUInt32.toInt32))])) rfl (by rw [hml]; rfl) (argsL := [(.int ((((p2.toUInt32 >>> ((16 : Int32) &&& 31).toUInt32).toInt32) &&& (255 : Int32)).toUInt32.toUInt16.toUInt32.toInt32))]) (rest := []) (lenOf pd_8 rfl) rfl (by show 2 * 0 + _ ≤ _; exact Nat.le_of_eq rfl) (hb hby at_22) (fun _ _ => ⟨rfl, rfl, Nat.le_of_ble_eq_true rfl, Nat.le_of_ble_eq_true rfl⟩)
    dsimp only [Pt.U, Pt.locs, Pt.cells, Pt.slots] at X202 l202 y202 z202 st202 hQ202
    subst l202 y202 z202
    obtain ⟨b202, t202, k202, rfl, Nq202, K202, p202_0, p202_1, p202_2, p202_3, p202_4, p202_5⟩ := hQ202
    have N202 := Fr.app N198 Nq202
    have C203 := C199.trans (CHr.keep K202 sf0 C199.1)
    have O203 := O199.keep K202 all0
    have Z203 : n0 ≤ T202.heap.size := Nat.le_trans Z199 K202.1
    have sz_b202 : T198.heap.size ≤ b202 := p202_4
    have sz_t202 : T198.heap.size ≤ t202 := p202_5
    refine Go.by (B := (T202.setTop (mkF m 25 #[.val (.int p1), .val (.int p2), .val (.int p3), .val (.int p4), .val (.int v197), .val .null, .unset, .unset, .unset, .unset, .unset, .unset, .unset, .unset, .unset] [(.ref b202)]))) (fun _ k => st202 _ k) ?_
    refine Go.by (B := (T202.setTop (mkF m 31 #[.val (.int p1), .val (.int p2), .val (.int p3), .val (.int p4), .val (.int v197), .val .null, .val (.ref b202), .unset, .unset, .unset, .unset, .unset, .unset, .unset, .unset] [(.int p4), (.int ((p3.toUInt32 >>> ((2 : Int32) &&& 31).toUInt32).toInt32))]))) (fun _ k => XS.astore X202.here hx rfl (hb hby at_25) rfl rfl (l' := #[.val (.int p1), .val (.int p2), .val (.int p3), .val (.int p4), .val (.int v197), .val .null, .val (.ref b202), .unset, .unset, .unset, .unset, .unset, .unset, .unset, .unset]) rfl (XS.iloadN X202.here hx rfl (hb hby at_27) rfl (XS.iconst X202.here hx rfl (hb hby at_28) (XS.iushr X202.here hx rfl (hb hby at_29) rfl (XS.iloadN X202.here hx rfl (hb hby at_30) rfl k))))) ?_
    have hkT204 : _ ≤ T202.heap.size := (Nat.le_trans hk K202.1)
    obtain ⟨_, _, ⟨T204, L204, k204, n204⟩, -, X204, hSn204, hgr204, ⟨Lc204, hQ204, l204, y204, z204, CS204⟩, st204⟩ := callSS X202 hx (y := (⟨"com/example/floodgauge/floodgauge/cli/OptionIsFlagPinLaw", "drawn", "(II)Ljava/lang/String;"⟩ : MethodName)) hown (mvT hZ (wd hw 0 rfl)) (mvT hZ (wd hw 1 rfl)) (mvT hZ (wd hw 2 rfl)) (mvT hZ (wd hw 3 rfl)) (by decide) (backOfSH (W := 0) (rm_drawn l Z a0 hw [] ((p3.toUInt32 >>> ((2 : Int32) &&& 31).toUInt32).toInt32) p4 cs T202.heap n0 Z203 O203 pr1 hcs) hZ (wd hw 3 rfl) (wd hw 2 rfl) (by decide) (by decide) hEL C203.1) (g := (mkF m 31 #[.val (.int p1), .val (.int p2), .val (.int p3), .val (.int p4), .val (.int v197), .val .null, .val (.ref b202), .unset, .unset, .unset, .unset, .unset, .unset, .unset, .unset] [(.int p4), (.int ((p3.toUInt32 >>> ((2 : Int32) &&& 31).toUInt32).toInt32))])) rfl (by rw [hml]; rfl) (argsL := [(.int ((p3.toUInt32 >>> ((2 : Int32) &&& 31).toUInt32).toInt32)), (.int p4)]) (rest := []) (lenOf pd_11 rfl) rfl (by show 2 * 0 + _ ≤ _; exact Nat.le_of_eq rfl) (hb hby at_31) (fun _ _ => ⟨rfl, rfl, Nat.le_of_ble_eq_true rfl, Nat.le_of_ble_eq_true rfl⟩)
    dsimp only [Pt.U, Pt.locs, Pt.cells, Pt.slots] at X204 l204 y204 z204 st204 hQ204 hSn204 hgr204 CS204
    subst l204 y204 z204
    obtain ⟨X204, hS, hZ, hown⟩ := rebS hS hkT204 X204 hSn204 hgr204 hZ hown
    have hk : T204.heap.size ≤ T204.heap.size := Nat.le_refl _
    obtain ⟨o204, rfl, Nq204, K204, p204_0, p204_1⟩ := hQ204
    have N204 := Fr.app N202 Nq204
    have C205 := C203.trans CS204
    have O205 := O203.keep K204 all0
    have Z205 : n0 ≤ T204.heap.size := Nat.le_trans Z203 K204.1
    refine Go.by (B := (T204.setTop (mkF m 34 #[.val (.int p1), .val (.int p2), .val (.int p3), .val (.int p4), .val (.int v197), .val .null, .val (.ref b202), .unset, .unset, .unset, .unset, .unset, .unset, .unset, .unset] [o204]))) (fun _ k => st204.trans k) ?_
    refine Go.by (B := (T204.setTop (mkF m 43 #[.val (.int p1), .val (.int p2), .val (.int p3), .val (.int p4), .val (.int v197), .val .null, .val (.ref b202), .val o204, .unset, .unset, .unset, .unset, .unset, .unset, .unset] [(.int ((p4.toUInt32 >>> ((16 : Int32) &&& 31).toUInt32).toInt32)), (.int ((p3.toUInt32 >>> ((4 : Int32) &&& 31).toUInt32).toInt32))]))) (fun _ k => XS.astore X204.here hx rfl (hb hby at_34) rfl p204_0 (l' := #[.val (.int p1), .val (.int p2), .val (.int p3), .val (.int p4), .val (.int v197), .val .null, .val (.ref b202), .val o204, .unset, .unset, .unset, .unset, .unset, .unset, .unset]) (XS.store1 rfl (Or.inl rfl) (own_cat p204_0)) (XS.iloadN X204.here hx rfl (hb hby at_36) rfl (XS.iconst X204.here hx rfl (hb hby at_37) (XS.iushr X204.here hx rfl (hb hby at_38) rfl (XS.iloadN X204.here hx rfl (hb hby at_39) rfl (XS.bipush X204.here hx rfl (hb hby at_40) (XS.iushr X204.here hx rfl (hb hby at_42) rfl k))))))) ?_
    have hkT206 : _ ≤ T204.heap.size := hk
    obtain ⟨_, _, ⟨T206, L206, k206, n206⟩, -, X206, hSn206, hgr206, ⟨Lc206, hQ206, l206, y206, z206, CS206⟩, st206⟩ := callSS X204 hx (y := (⟨"com/example/floodgauge/floodgauge/cli/OptionIsFlagPinLaw", "drawn", "(II)Ljava/lang/String;"⟩ : MethodName)) hown (mvT hZ (wd hw 0 rfl)) (mvT hZ (wd hw 1 rfl)) (mvT hZ (wd hw 2 rfl)) (mvT hZ (wd hw 3 rfl)) (by decide) (backOfSH (W := 0) (rm_drawn l Z a0 hw [] ((p3.toUInt32 >>> ((4 : Int32) &&& 31).toUInt32).toInt32) ((p4.toUInt32 >>> ((16 : Int32) &&& 31).toUInt32).toInt32) cs T204.heap n0 Z205 O205 pr1 hcs) hZ (wd hw 3 rfl) (wd hw 2 rfl) (by decide) (by decide) hEL C205.1) (g := (mkF m 43 #[.val (.int p1), .val (.int p2), .val (.int p3), .val (.int p4), .val (.int v197), .val .null, .val (.ref b202), .val o204, .unset, .unset, .unset, .unset, .unset, .unset, .unset] [(.int ((p4.toUInt32 >>> ((16 : Int32) &&& 31).toUInt32).toInt32)), (.int ((p3.toUInt32 >>> ((4 : Int32) &&& 31).toUInt32).toInt32))])) rfl (by rw [hml]; rfl) (argsL := [(.int ((p3.toUInt32 >>> ((4 : Int32) &&& 31).toUInt32).toInt32)), (.int ((p4.toUInt32 >>> ((16 : Int32) &&& 31).toUInt32).toInt32))]) (rest := []) (lenOf pd_11 rfl) rfl (by show 2 * 0 + _ ≤ _; exact Nat.le_of_eq rfl) (hb hby at_43) (fun _ _ => ⟨rfl, rfl, Nat.le_of_ble_eq_true rfl, Nat.le_of_ble_eq_true rfl⟩)
    dsimp only [Pt.U, Pt.locs, Pt.cells, Pt.slots] at X206 l206 y206 z206 st206 hQ206 hSn206 hgr206 CS206
    subst l206 y206 z206
    obtain ⟨X206, hS, hZ, hown⟩ := rebS hS hkT206 X206 hSn206 hgr206 hZ hown
    have hk : T206.heap.size ≤ T206.heap.size := Nat.le_refl _
    obtain ⟨o206, rfl, Nq206, K206, p206_0, p206_1⟩ := hQ206
    have N206 := Fr.app N204 Nq206
    have C207 := C205.trans CS206
    have O207 := O205.keep K206 all0
    have Z207 : n0 ≤ T206.heap.size := Nat.le_trans Z205 K206.1
    refine Go.by (B := (T206.setTop (mkF m 46 #[.val (.int p1), .val (.int p2), .val (.int p3), .val (.int p4), .val (.int v197), .val .null, .val (.ref b202), .val o204, .unset, .unset, .unset, .unset, .unset, .unset, .unset] [o206]))) (fun _ k => st206.trans k) ?_
    refine Go.by (B := (T206.setTop (mkF m 56 #[.val (.int p1), .val (.int p2), .val (.int p3), .val (.int p4), .val (.int v197), .val .null, .val (.ref b202), .val o204, .val o206, .unset, .unset, .unset, .unset, .unset, .unset] [(.int ((p4.toUInt32 >>> ((8 : Int32) &&& 31).toUInt32).toInt32)), (.int ((p3.toUInt32 >>> ((6 : Int32) &&& 31).toUInt32).toInt32))]))) (fun _ k => XS.astore X206.here hx rfl (hb hby at_46) rfl p206_0 (l' := #[.val (.int p1), .val (.int p2), .val (.int p3), .val (.int p4), .val (.int v197), .val .null, .val (.ref b202), .val o204, .val o206, .unset, .unset, .unset, .unset, .unset, .unset]) (XS.store1 rfl (Or.inl rfl) (own_cat p206_0)) (XS.iloadN X206.here hx rfl (hb hby at_48) rfl (XS.bipush X206.here hx rfl (hb hby at_49) (XS.iushr X206.here hx rfl (hb hby at_51) rfl (XS.iloadN X206.here hx rfl (hb hby at_52) rfl (XS.bipush X206.here hx rfl (hb hby at_53) (XS.iushr X206.here hx rfl (hb hby at_55) rfl k))))))) ?_
    have hkT208 : _ ≤ T206.heap.size := hk
    obtain ⟨_, _, ⟨T208, L208, k208, n208⟩, -, X208, hSn208, hgr208, ⟨Lc208, hQ208, l208, y208, z208, CS208⟩, st208⟩ := callSS X206 hx (y := (⟨"com/example/floodgauge/floodgauge/cli/OptionIsFlagPinLaw", "drawn", "(II)Ljava/lang/String;"⟩ : MethodName)) hown (mvT hZ (wd hw 0 rfl)) (mvT hZ (wd hw 1 rfl)) (mvT hZ (wd hw 2 rfl)) (mvT hZ (wd hw 3 rfl)) (by decide) (backOfSH (W := 0) (rm_drawn l Z a0 hw [] ((p3.toUInt32 >>> ((6 : Int32) &&& 31).toUInt32).toInt32) ((p4.toUInt32 >>> ((8 : Int32) &&& 31).toUInt32).toInt32) cs T206.heap n0 Z207 O207 pr1 hcs) hZ (wd hw 3 rfl) (wd hw 2 rfl) (by decide) (by decide) hEL C207.1) (g := (mkF m 56 #[.val (.int p1), .val (.int p2), .val (.int p3), .val (.int p4), .val (.int v197), .val .null, .val (.ref b202), .val o204, .val o206, .unset, .unset, .unset, .unset, .unset, .unset] [(.int ((p4.toUInt32 >>> ((8 : Int32) &&& 31).toUInt32).toInt32)), (.int ((p3.toUInt32 >>> ((6 : Int32) &&& 31).toUInt32).toInt32))])) rfl (by rw [hml]; rfl) (argsL := [(.int ((p3.toUInt32 >>> ((6 : Int32) &&& 31).toUInt32).toInt32)), (.int ((p4.toUInt32 >>> ((8 : Int32) &&& 31).toUInt32).toInt32))]) (rest := []) (lenOf pd_11 rfl) rfl (by show 2 * 0 + _ ≤ _; exact Nat.le_of_eq rfl) (hb hby at_56) (fun _ _ => ⟨rfl, rfl, Nat.le_of_ble_eq_true rfl, Nat.le_of_ble_eq_true rfl⟩)
    dsimp only [Pt.U, Pt.locs, Pt.cells, Pt.slots] at X208 l208 y208 z208 st208 hQ208 hSn208 hgr208 CS208
    subst l208 y208 z208
    obtain ⟨X208, hS, hZ, hown⟩ := rebS hS hkT208 X208 hSn208 hgr208 hZ hown
    have hk : T208.heap.size ≤ T208.heap.size := Nat.le_refl _
    obtain ⟨o208, rfl, Nq208, K208, p208_0, p208_1⟩ := hQ208
    have N208 := Fr.app N206 Nq208
    have C209 := C207.trans CS208
    have O209 := O207.keep K208 all0
    have Z209 : n0 ≤ T208.heap.size := Nat.le_trans Z207 K208.1
    refine Go.by (B := (T208.setTop (mkF m 59 #[.val (.int p1), .val (.int p2), .val (.int p3), .val (.int p4), .val (.int v197), .val .null, .val (.ref b202), .val o204, .val o206, .unset, .unset, .unset, .unset, .unset, .unset] [o208]))) (fun _ k => st208.trans k) ?_
    refine Go.by (B := (T208.setTop (mkF m 69 #[.val (.int p1), .val (.int p2), .val (.int p3), .val (.int p4), .val (.int v197), .val .null, .val (.ref b202), .val o204, .val o206, .val o208, .unset, .unset, .unset, .unset, .unset] [(.int ((p4.toUInt32 >>> ((24 : Int32) &&& 31).toUInt32).toInt32)), (.int ((p3.toUInt32 >>> ((8 : Int32) &&& 31).toUInt32).toInt32))]))) (fun _ k => XS.astore X208.here hx rfl (hb hby at_59) rfl p208_0 (l' := #[.val (.int p1), .val (.int p2), .val (.int p3), .val (.int p4), .val (.int v197), .val .null, .val (.ref b202), .val o204, .val o206, .val o208, .unset, .unset, .unset, .unset, .unset]) (XS.store1 rfl (Or.inl rfl) (own_cat p208_0)) (XS.iloadN X208.here hx rfl (hb hby at_61) rfl (XS.bipush X208.here hx rfl (hb hby at_62) (XS.iushr X208.here hx rfl (hb hby at_64) rfl (XS.iloadN X208.here hx rfl (hb hby at_65) rfl (XS.bipush X208.here hx rfl (hb hby at_66) (XS.iushr X208.here hx rfl (hb hby at_68) rfl k))))))) ?_
    have hkT210 : _ ≤ T208.heap.size := hk
    obtain ⟨_, _, ⟨T210, L210, k210, n210⟩, -, X210, hSn210, hgr210, ⟨Lc210, hQ210, l210, y210, z210, CS210⟩, st210⟩ := callSS X208 hx (y := (⟨"com/example/floodgauge/floodgauge/cli/OptionIsFlagPinLaw", "drawn", "(II)Ljava/lang/String;"⟩ : MethodName)) hown (mvT hZ (wd hw 0 rfl)) (mvT hZ (wd hw 1 rfl)) (mvT hZ (wd hw 2 rfl)) (mvT hZ (wd hw 3 rfl)) (by decide) (backOfSH (W := 0) (rm_drawn l Z a0 hw [] ((p3.toUInt32 >>> ((8 : Int32) &&& 31).toUInt32).toInt32) ((p4.toUInt32 >>> ((24 : Int32) &&& 31).toUInt32).toInt32) cs T208.heap n0 Z209 O209 pr1 hcs) hZ (wd hw 3 rfl) (wd hw 2 rfl) (by decide) (by decide) hEL C209.1) (g := (mkF m 69 #[.val (.int p1), .val (.int p2), .val (.int p3), .val (.int p4), .val (.int v197), .val .null, .val (.ref b202), .val o204, .val o206, .val o208, .unset, .unset, .unset, .unset, .unset] [(.int ((p4.toUInt32 >>> ((24 : Int32) &&& 31).toUInt32).toInt32)), (.int ((p3.toUInt32 >>> ((8 : Int32) &&& 31).toUInt32).toInt32))])) rfl (by rw [hml]; rfl) (argsL := [(.int ((p3.toUInt32 >>> ((8 : Int32) &&& 31).toUInt32).toInt32)), (.int ((p4.toUInt32 >>> ((24 : Int32) &&& 31).toUInt32).toInt32))]) (rest := []) (lenOf pd_11 rfl) rfl (by show 2 * 0 + _ ≤ _; exact Nat.le_of_eq rfl) (hb hby at_69) (fun _ _ => ⟨rfl, rfl, Nat.le_of_ble_eq_true rfl, Nat.le_of_ble_eq_true rfl⟩)
    dsimp only [Pt.U, Pt.locs, Pt.cells, Pt.slots] at X210 l210 y210 z210 st210 hQ210 hSn210 hgr210 CS210
    subst l210 y210 z210
    obtain ⟨X210, hS, hZ, hown⟩ := rebS hS hkT210 X210 hSn210 hgr210 hZ hown
    have hk : T210.heap.size ≤ T210.heap.size := Nat.le_refl _
    obtain ⟨o210, rfl, Nq210, K210, p210_0, p210_1⟩ := hQ210
    have N210 := Fr.app N208 Nq210
    have C211 := C209.trans CS210
    have O211 := O209.keep K210 all0
    have Z211 : n0 ≤ T210.heap.size := Nat.le_trans Z209 K210.1
    refine Go.by (B := (T210.setTop (mkF m 72 #[.val (.int p1), .val (.int p2), .val (.int p3), .val (.int p4), .val (.int v197), .val .null, .val (.ref b202), .val o204, .val o206, .val o208, .unset, .unset, .unset, .unset, .unset] [o210]))) (fun _ k => st210.trans k) ?_
    refine Go.by (B := (T210.setTop (mkF m 74 #[.val (.int p1), .val (.int p2), .val (.int p3), .val (.int p4), .val (.int v197), .val .null, .val (.ref b202), .val o204, .val o206, .val o208, .val o210, .unset, .unset, .unset, .unset] []))) (fun _ k => XS.astore X210.here hx rfl (hb hby at_72) rfl p210_0 (l' := #[.val (.int p1), .val (.int p2), .val (.int p3), .val (.int p4), .val (.int v197), .val .null, .val (.ref b202), .val o204, .val o206, .val o208, .val o210, .unset, .unset, .unset, .unset]) (XS.store1 rfl (Or.inl rfl) (own_cat p210_0)) k) ?_
    obtain ⟨lc212, X212, N212⟩ : ∃ lc, Stand p l e room_1 (s.setVm T210.vm) m #[(.int p1), (.int p2), (.int p3), (.int p4)] below meth c T210 lc 22 45 ∧ Fr n0 lc := ⟨_, X210, N210⟩
    have e212 : T210.heap = T210.heap := rfl
    have J212 : ∀ (T213 : State) (X213 : Stand p l e room_1 (s.setVm T210.vm) m #[(.int p1), (.int p2), (.int p3), (.int p4)] below meth c T213 lc212 22 45) (e213 : T213.heap = T210.heap) (rq213 : Int32), Go p e below (PostS Z own_EL s room_1.cells room_1.slots (Q_rm0 Z p1 p2 p3 p4 cs h0 n0)) (T213.setTop (mkF m 85 #[.val (.int p1), .val (.int p2), .val (.int p3), .val (.int p4), .val (.int v197), .val .null, .val (.ref b202), .val o204, .val o206, .val o208, .val o210, .unset, .unset, .unset, .unset] [(.int rq213)])) := by
      intro T213 X213 e213 rq213
      refine Go.by (B := (T213.setTop (mkF m 87 #[.val (.int p1), .val (.int p2), .val (.int p3), .val (.int p4), .val (.int v197), .val .null, .val (.ref b202), .val o204, .val o206, .val o208, .val o210, .val (.int rq213), .unset, .unset, .unset] []))) (fun _ k => XS.istore X213.here hx rfl (hb hby at_85) rfl (l' := #[.val (.int p1), .val (.int p2), .val (.int p3), .val (.int p4), .val (.int v197), .val .null, .val (.ref b202), .val o204, .val o206, .val o208, .val o210, .val (.int rq213), .unset, .unset, .unset]) rfl k) ?_
      obtain ⟨lc214, X214, N214⟩ : ∃ lc, Stand p l e room_1 (s.setVm T210.vm) m #[(.int p1), (.int p2), (.int p3), (.int p4)] below meth c T213 lc 22 45 ∧ Fr n0 lc := ⟨_, X213, N212⟩
      have e214 : T213.heap = T210.heap := e213
      have J214 : ∀ (T215 : State) (X215 : Stand p l e room_1 (s.setVm T210.vm) m #[(.int p1), (.int p2), (.int p3), (.int p4)] below meth c T215 lc214 22 45) (e215 : T215.heap = T210.heap) (vr215 : Int32), Go p e below (PostS Z own_EL s room_1.cells room_1.slots (Q_rm0 Z p1 p2 p3 p4 cs h0 n0)) (T215.setTop (mkF m 98 #[.val (.int p1), .val (.int p2), .val (.int p3), .val (.int p4), .val (.int v197), .val .null, .val (.ref b202), .val o204, .val o206, .val o208, .val o210, .val (.int rq213), .unset, .unset, .unset] [(.int vr215)])) := by
        intro T215 X215 e215 vr215
        refine Go.by (B := (T215.setTop (mkF m 112 #[.val (.int p1), .val (.int p2), .val (.int p3), .val (.int p4), .val (.int v197), .val .null, .val (.ref b202), .val o204, .val o206, .val o208, .val o210, .val (.int rq213), .val (.int vr215), .val (.int 1), .unset] []))) (fun _ k => XS.istore X215.here hx rfl (hb hby at_98) rfl (l' := #[.val (.int p1), .val (.int p2), .val (.int p3), .val (.int p4), .val (.int v197), .val .null, .val (.ref b202), .val o204, .val o206, .val o208, .val o210, .val (.int rq213), .val (.int vr215), .unset, .unset]) rfl (XS.iload X215.here hx rfl (hb hby at_100) rfl (XS.ifNo X215.here hx rfl (hb hby at_102) rfl ((if0 _ _).trans (teq c200).2) (XS.iconst X215.here hx rfl (hb hby at_105) (XS.goto X215.here hx rfl (pc0 := 106) (pc' := 110) rfl (hb hby at_106) (by decide) (by decide) (XS.istore X215.here hx rfl (hb hby at_110) rfl (l' := #[.val (.int p1), .val (.int p2), .val (.int p3), .val (.int p4), .val (.int v197), .val .null, .val (.ref b202), .val o204, .val o206, .val o208, .val o210, .val (.int rq213), .val (.int vr215), .val (.int 1), .unset]) rfl k)))))) ?_
        obtain ⟨T216, h216, X216, e216, E216, A216, D216, -, st216⟩ := newO X215 hx hZ hown (wd hw 30 rfl) (wd hw 31 rfl) (wd hw 32 rfl) e215 (g := (mkF m 112 #[.val (.int p1), .val (.int p2), .val (.int p3), .val (.int p4), .val (.int v197), .val .null, .val (.ref b202), .val o204, .val o206, .val o208, .val o210, .val (.int rq213), .val (.int vr215), .val (.int 1), .unset] [])) rfl (hb hby at_112) (by decide) (by decide)
        obtain ⟨b216, g216⟩ : ∃ z, z = T210.heap.size := ⟨_, rfl⟩
        rw [← g216] at A216 D216 st216
        have sz_b216 : T210.heap.size ≤ b216 := Nat.le_of_eq g216.symm
        have C217 := C211.trans (CHr.ext E216 C211.1)
        have O217 := O211.ext E216
        have Z217 : n0 ≤ h216.size := Nat.le_trans Z211 E216.1
        have F218 : Fld Z h216 b216 "com/example/floodgauge/floodgauge/cli/Option" "name" "Ljava/lang/String;" .null := D216 (Or.inr (wd hw 43 rfl)) (ty := (.object "java/lang/String")) (by decide)
        have F219 : Fld Z h216 b216 "com/example/floodgauge/floodgauge/cli/Option" "argument" "Ljava/lang/String;" .null := D216 (Or.inr (wd hw 45 rfl)) (ty := (.object "java/lang/String")) (by decide)
        have F220 : Fld Z h216 b216 "com/example/floodgauge/floodgauge/cli/Option" "purpose" "Ljava/lang/String;" .null := D216 (Or.inr (wd hw 47 rfl)) (ty := (.object "java/lang/String")) (by decide)
        have F221 : Fld Z h216 b216 "com/example/floodgauge/floodgauge/cli/Option" "condition" "Ljava/lang/String;" .null := D216 (Or.inr (wd hw 49 rfl)) (ty := (.object "java/lang/String")) (by decide)
        have F222 : Fld Z h216 b216 "com/example/floodgauge/floodgauge/cli/Option" "required" "Z" (.int 0) := D216 (Or.inr (wd hw 51 rfl)) (ty := .boolean) (by decide)
        have F223 : Fld Z h216 b216 "com/example/floodgauge/floodgauge/cli/Option" "fallback" "Ljava/lang/String;" .null := D216 (Or.inr (wd hw 53 rfl)) (ty := (.object "java/lang/String")) (by decide)
        have F224 : Fld Z h216 b216 "com/example/floodgauge/floodgauge/cli/Option" "note" "Ljava/lang/String;" .null := D216 (Or.inr (wd hw 55 rfl)) (ty := (.object "java/lang/String")) (by decide)
        have F225 : Fld Z h216 b216 "com/example/floodgauge/floodgauge/cli/Option" "variable" "Z" (.int 0) := D216 (Or.inr (wd hw 57 rfl)) (ty := .boolean) (by decide)
        refine Go.by (B := (T216.setTop (mkF m 115 #[.val (.int p1), .val (.int p2), .val (.int p3), .val (.int p4), .val (.int v197), .val .null, .val (.ref b202), .val o204, .val o206, .val o208, .val o210, .val (.int rq213), .val (.int vr215), .val (.int 1), .unset] [(.ref b216)]))) st216 ?_
        refine Go.by (B := (T216.setTop (mkF m 130 #[.val (.int p1), .val (.int p2), .val (.int p3), .val (.int p4), .val (.int v197), .val .null, .val (.ref b202), .val o204, .val o206, .val o208, .val o210, .val (.int rq213), .val (.int vr215), .val (.int 1), .unset] [o210, o208, (.int rq213), o206, o204, .null, (.ref b202), (.ref b216), (.ref b216)]))) (fun _ k => XS.dup X216.here hx rfl (hb hby at_115) rfl rfl (XS.aload X216.here hx rfl (hb hby at_116) rfl rfl (XS.aload X216.here hx rfl (hb hby at_118) rfl rfl (XS.aload X216.here hx rfl (hb hby at_120) rfl p204_0 (XS.aload X216.here hx rfl (hb hby at_122) rfl p206_0 (XS.iload X216.here hx rfl (hb hby at_124) rfl (XS.aload X216.here hx rfl (hb hby at_126) rfl p208_0 (XS.aload X216.here hx rfl (hb hby at_128) rfl p210_0 k)))))))) ?_
        refine Go.by (B := (T216.setTop (mkF m 132 #[.val (.int p1), .val (.int p2), .val (.int p3), .val (.int p4), .val (.int v197), .val .null, .val (.ref b202), .val o204, .val o206, .val o208, .val o210, .val (.int rq213), .val (.int vr215), .val (.int 1), .unset] [(.int vr215), o210, o208, (.int rq213), o206, o204, .null, (.ref b202), (.ref b216), (.ref b216)]))) (fun _ k => XS.iload X216.here hx rfl (hb hby at_130) rfl k) ?_
        obtain ⟨_, _, ⟨T226, L226, k226, n226⟩, -, X226, ⟨Lc226, hQ226, l226, y226, z226⟩, st226⟩ := X216.specialBack hx (y := (⟨"com/example/floodgauge/floodgauge/cli/Option", "<init>", "(Ljava/lang/String;Ljava/lang/String;Ljava/lang/String;Ljava/lang/String;ZLjava/lang/String;Ljava/lang/String;Z)V"⟩ : MethodName)) rfl hown (mvT hZ (wd hw 33 rfl)) (mvT hZ (wd hw 34 rfl)) (mvT hZ (wd hw 35 rfl)) (by decide) (backOf (W := 1) (rm_opt l Z a0 hw [] b216 (.ref b202) (.null) o204 o206 rq213 o208 o210 vr215 h216 n0 Z217 O217 A216 F218 F219 F220 F221 F222 F223 F224 F225 (Nat.le_trans Z211 sz_b216) rfl rfl p204_0 p206_0 p208_0 p210_0) hZ (wd hw 35 rfl) (wd hw 32 rfl) (by decide) (by decide)) (g := (mkF m 132 #[.val (.int p1), .val (.int p2), .val (.int p3), .val (.int p4), .val (.int v197), .val .null, .val (.ref b202), .val o204, .val o206, .val o208, .val o210, .val (.int rq213), .val (.int vr215), .val (.int 1), .unset] [(.int vr215), o210, o208, (.int rq213), o206, o204, .null, (.ref b202), (.ref b216), (.ref b216)])) rfl (by rw [hml]; rfl) (Steps.refl _) (a := b216) (argsL := [(.ref b202), .null, o204, o206, (.int rq213), o208, o210, (.int vr215)]) (rest := [(.ref b216)]) (lenOf pd_10 rfl) rfl (by show 2 * 0 + _ ≤ _; exact Nat.le_of_eq rfl) (hb hby at_132) (fun _ _ => ⟨rfl, e216, Nat.le_of_ble_eq_true rfl, Nat.le_of_ble_eq_true rfl⟩)
        dsimp only [Pt.U, Pt.locs, Pt.cells, Pt.slots] at X226 l226 y226 z226 st226 hQ226
        subst l226 y226 z226
        obtain ⟨rfl, Nq226, K226, p226_0, p226_1, p226_2, p226_3, p226_4, p226_5, p226_6, p226_7, p226_8⟩ := hQ226
        have N226 := Fr.app N214 Nq226
        have C227 := C217.trans (CHr.keep K226 (sfS (Safe.exa hZ.alike A216 (by decide) (by decide)) sf0) C217.1)
        have O227 := O217.keep K226 (allS (Nat.le_trans Z211 sz_b216) all0)
        have Z227 : n0 ≤ T226.heap.size := Nat.le_trans Z217 K226.1
        refine Go.by (B := (T226.setTop (mkF m 135 #[.val (.int p1), .val (.int p2), .val (.int p3), .val (.int p4), .val (.int v197), .val .null, .val (.ref b202), .val o204, .val o206, .val o208, .val o210, .val (.int rq213), .val (.int vr215), .val (.int 1), .unset] [(.ref b216)]))) (fun _ k => st226.trans k) ?_
        refine Go.by (B := (T226.setTop (mkF m 139 #[.val (.int p1), .val (.int p2), .val (.int p3), .val (.int p4), .val (.int v197), .val .null, .val (.ref b202), .val o204, .val o206, .val o208, .val o210, .val (.int rq213), .val (.int vr215), .val (.int 1), .val (.ref b216)] [(.ref b216)]))) (fun _ k => XS.astore X226.here hx rfl (hb hby at_135) rfl rfl (l' := #[.val (.int p1), .val (.int p2), .val (.int p3), .val (.int p4), .val (.int v197), .val .null, .val (.ref b202), .val o204, .val o206, .val o208, .val o210, .val (.int rq213), .val (.int vr215), .val (.int 1), .val (.ref b216)]) rfl (XS.aload X226.here hx rfl (hb hby at_137) rfl rfl k)) ?_
        obtain ⟨cq228, kq228, q228a, q228b, q228c⟩ := isOf hZ rfl p226_0
        obtain ⟨_, _, ⟨T228, L228, k228, n228⟩, -, X228, ⟨Lc228, hQ228, l228, y228, z228⟩, st228⟩ := X226.virtualBack hx (y := (⟨"com/example/floodgauge/floodgauge/cli/Option", "isFlag", "()Z"⟩ : MethodName)) (z := (⟨"com/example/floodgauge/floodgauge/cli/Option", "isFlag", "()Z"⟩ : MethodName)) hown (mvT hZ (wd hw 58 rfl)) (mvT hZ (wd hw 59 rfl)) (notFace_of_selects (args := #[]) (mvT hZ (wd hw 61 rfl))) (mvT hZ (wd hw 61 rfl)) (mvT hZ (wd hw 60 rfl)) (by decide) (backOf (W := 0) (rm_flag0 l Z a0 hw [] b216 T226.heap n0 Z227 p226_2) hZ (wd hw 62 rfl) (wd hw 32 rfl) (by decide) (by decide)) q228a q228c (g := (mkF m 139 #[.val (.int p1), .val (.int p2), .val (.int p3), .val (.int p4), .val (.int v197), .val .null, .val (.ref b202), .val o204, .val o206, .val o208, .val o210, .val (.int rq213), .val (.int vr215), .val (.int 1), .val (.ref b216)] [(.ref b216)])) rfl (by rw [hml]; rfl) (Steps.refl _) (argsL := []) (rest := []) (lenOf pd_12 rfl) rfl (by show 2 * 0 + _ ≤ _; exact Nat.le_of_eq rfl) (hb hby at_139) (fun _ _ => ⟨rfl, rfl, Nat.le_of_ble_eq_true rfl, Nat.le_of_ble_eq_true rfl⟩)
        dsimp only [Pt.U, Pt.locs, Pt.cells, Pt.slots] at X228 l228 y228 z228 st228 hQ228
        subst l228 y228 z228
        obtain ⟨rfl, Nq228, hh228⟩ := hQ228
        have N228 := Fr.app N226 Nq228
        refine Go.by (B := (T228.setTop (mkF m 142 #[.val (.int p1), .val (.int p2), .val (.int p3), .val (.int p4), .val (.int v197), .val .null, .val (.ref b202), .val o204, .val o206, .val o208, .val o210, .val (.int rq213), .val (.int vr215), .val (.int 1), .val (.ref b216)] [(.int 1)]))) (fun _ k => st228.trans k) ?_
        refine Go.by (B := (T228.setTop (mkF m 153 #[.val (.int p1), .val (.int p2), .val (.int p3), .val (.int p4), .val (.int v197), .val .null, .val (.ref b202), .val o204, .val o206, .val o208, .val o210, .val (.int rq213), .val (.int vr215), .val (.int 1), .val (.ref b216)] [o208, (.ref b216)]))) (fun _ k => XS.iload X228.here hx rfl (hb hby at_142) rfl (XS.icmpYes X228.here hx rfl (pc0 := 144) (pc' := 149) rfl (hb hby at_144) rfl (teq (by decide : (1 : Int32) = (1 : Int32))).1 (by decide) (by decide) (XS.aload X228.here hx rfl (hb hby at_149) rfl rfl (XS.aload X228.here hx rfl (hb hby at_151) rfl p208_0 k)))) ?_
        obtain ⟨cq229, kq229, q229a, q229b, q229c⟩ := isOf hZ hh228 p226_0
        obtain ⟨_, _, ⟨T229, L229, k229, n229⟩, -, X229, ⟨Lc229, hQ229, l229, y229, z229⟩, st229⟩ := X228.virtualBack hx (y := (⟨"com/example/floodgauge/floodgauge/cli/Option", "withDefault", "(Ljava/lang/String;)Lcom/example/floodgauge/floodgauge/cli/Option;"⟩ : MethodName)) (z := (⟨"com/example/floodgauge/floodgauge/cli/Option", "withDefault", "(Ljava/lang/String;)Lcom/example/floodgauge/floodgauge/cli/Option;"⟩ : MethodName)) hown (mvT hZ (wd hw 63 rfl)) (mvT hZ (wd hw 64 rfl)) (notFace_of_selects (args := #[]) (mvT hZ (wd hw 66 rfl))) (mvT hZ (wd hw 66 rfl)) (mvT hZ (wd hw 65 rfl)) (by decide) (backOf (W := 0) (rm_withDefault l Z a0 hw [] b216 o208 (.ref b202) (.null) o204 o206 (nar .boolean vr215) T226.heap n0 Z227 O227 p226_1 p226_2 p226_3 p226_4 p226_8 rfl rfl p204_0 p206_0 p208_0) hZ (wd hw 67 rfl) (wd hw 32 rfl) (by decide) (by decide)) q229a q229c (g := (mkF m 153 #[.val (.int p1), .val (.int p2), .val (.int p3), .val (.int p4), .val (.int v197), .val .null, .val (.ref b202), .val o204, .val o206, .val o208, .val o210, .val (.int rq213), .val (.int vr215), .val (.int 1), .val (.ref b216)] [o208, (.ref b216)])) rfl (by rw [hml]; rfl) (Steps.refl _) (argsL := [o208]) (rest := []) (lenOf pd_13 rfl) rfl (by show 2 * 0 + _ ≤ _; exact Nat.le_of_eq rfl) (hb hby at_153) (fun _ _ => ⟨rfl, hh228, Nat.le_of_ble_eq_true rfl, Nat.le_of_ble_eq_true rfl⟩)
        dsimp only [Pt.U, Pt.locs, Pt.cells, Pt.slots] at X229 l229 y229 z229 st229 hQ229
        subst l229 y229 z229
        obtain ⟨b229, rfl, Nq229, K229, p229_0, p229_1, p229_2⟩ := hQ229
        have N229 := Fr.app N228 Nq229
        have C230 := C227.trans (CHr.keep K229 sf0 C227.1)
        have O230 := O227.keep K229 all0
        have Z230 : n0 ≤ T229.heap.size := Nat.le_trans Z227 K229.1
        have sz_b229 : T226.heap.size ≤ b229 := p229_2
        refine Go.by (B := (T229.setTop (mkF m 156 #[.val (.int p1), .val (.int p2), .val (.int p3), .val (.int p4), .val (.int v197), .val .null, .val (.ref b202), .val o204, .val o206, .val o208, .val o210, .val (.int rq213), .val (.int vr215), .val (.int 1), .val (.ref b216)] [(.ref b229)]))) (fun _ k => st229.trans k) ?_
        obtain ⟨cq231, kq231, q231a, q231b, q231c⟩ := isOf hZ rfl p229_0
        obtain ⟨_, _, ⟨T231, L231, k231, n231⟩, -, X231, ⟨Lc231, hQ231, l231, y231, z231⟩, st231⟩ := X229.virtualBack hx (y := (⟨"com/example/floodgauge/floodgauge/cli/Option", "isFlag", "()Z"⟩ : MethodName)) (z := (⟨"com/example/floodgauge/floodgauge/cli/Option", "isFlag", "()Z"⟩ : MethodName)) hown (mvT hZ (wd hw 58 rfl)) (mvT hZ (wd hw 59 rfl)) (notFace_of_selects (args := #[]) (mvT hZ (wd hw 61 rfl))) (mvT hZ (wd hw 61 rfl)) (mvT hZ (wd hw 60 rfl)) (by decide) (backOf (W := 0) (rm_flag0 l Z a0 hw [] b229 T229.heap n0 Z230 p229_1) hZ (wd hw 62 rfl) (wd hw 32 rfl) (by decide) (by decide)) q231a q231c (g := (mkF m 156 #[.val (.int p1), .val (.int p2), .val (.int p3), .val (.int p4), .val (.int v197), .val .null, .val (.ref b202), .val o204, .val o206, .val o208, .val o210, .val (.int rq213), .val (.int vr215), .val (.int 1), .val (.ref b216)] [(.ref b229)])) rfl (by rw [hml]; rfl) (Steps.refl _) (argsL := []) (rest := []) (lenOf pd_12 rfl) rfl (by show 2 * 0 + _ ≤ _; exact Nat.le_of_eq rfl) (hb hby at_156) (fun _ _ => ⟨rfl, rfl, Nat.le_of_ble_eq_true rfl, Nat.le_of_ble_eq_true rfl⟩)
        dsimp only [Pt.U, Pt.locs, Pt.cells, Pt.slots] at X231 l231 y231 z231 st231 hQ231
        subst l231 y231 z231
        obtain ⟨rfl, Nq231, hh231⟩ := hQ231
        have N231 := Fr.app N229 Nq231
        refine Go.by (B := (T231.setTop (mkF m 159 #[.val (.int p1), .val (.int p2), .val (.int p3), .val (.int p4), .val (.int v197), .val .null, .val (.ref b202), .val o204, .val o206, .val o208, .val o210, .val (.int rq213), .val (.int vr215), .val (.int 1), .val (.ref b216)] [(.int 1)]))) (fun _ k => st231.trans k) ?_
        refine Go.by (B := (T231.setTop (mkF m 170 #[.val (.int p1), .val (.int p2), .val (.int p3), .val (.int p4), .val (.int v197), .val .null, .val (.ref b202), .val o204, .val o206, .val o208, .val o210, .val (.int rq213), .val (.int vr215), .val (.int 1), .val (.ref b216)] [o210, (.ref b216)]))) (fun _ k => XS.iload X231.here hx rfl (hb hby at_159) rfl (XS.icmpYes X231.here hx rfl (pc0 := 161) (pc' := 166) rfl (hb hby at_161) rfl (teq (by decide : (1 : Int32) = (1 : Int32))).1 (by decide) (by decide) (XS.aload X231.here hx rfl (hb hby at_166) rfl rfl (XS.aload X231.here hx rfl (hb hby at_168) rfl p210_0 k)))) ?_
        obtain ⟨cq232, kq232, q232a, q232b, q232c⟩ := isOf hZ hh231 (p226_0.keep K229)
        obtain ⟨_, _, ⟨T232, L232, k232, n232⟩, -, X232, ⟨Lc232, hQ232, l232, y232, z232⟩, st232⟩ := X231.virtualBack hx (y := (⟨"com/example/floodgauge/floodgauge/cli/Option", "withNote", "(Ljava/lang/String;)Lcom/example/floodgauge/floodgauge/cli/Option;"⟩ : MethodName)) (z := (⟨"com/example/floodgauge/floodgauge/cli/Option", "withNote", "(Ljava/lang/String;)Lcom/example/floodgauge/floodgauge/cli/Option;"⟩ : MethodName)) hown (mvT hZ (wd hw 70 rfl)) (mvT hZ (wd hw 71 rfl)) (notFace_of_selects (args := #[]) (mvT hZ (wd hw 73 rfl))) (mvT hZ (wd hw 73 rfl)) (mvT hZ (wd hw 72 rfl)) (by decide) (backOf (W := 0) (rm_withNote l Z a0 hw [] b216 o210 (.ref b202) (.null) o204 o206 (nar .boolean vr215) T229.heap n0 Z230 O230 (p226_1.keep K229 nin0) (p226_2.keep K229 nin0) (p226_3.keep K229 nin0) (p226_4.keep K229 nin0) (p226_8.keep K229 nin0) rfl rfl p204_0 p206_0 p210_0) hZ (wd hw 74 rfl) (wd hw 32 rfl) (by decide) (by decide)) q232a q232c (g := (mkF m 170 #[.val (.int p1), .val (.int p2), .val (.int p3), .val (.int p4), .val (.int v197), .val .null, .val (.ref b202), .val o204, .val o206, .val o208, .val o210, .val (.int rq213), .val (.int vr215), .val (.int 1), .val (.ref b216)] [o210, (.ref b216)])) rfl (by rw [hml]; rfl) (Steps.refl _) (argsL := [o210]) (rest := []) (lenOf pd_13 rfl) rfl (by show 2 * 0 + _ ≤ _; exact Nat.le_of_eq rfl) (hb hby at_170) (fun _ _ => ⟨rfl, hh231, Nat.le_of_ble_eq_true rfl, Nat.le_of_ble_eq_true rfl⟩)
        dsimp only [Pt.U, Pt.locs, Pt.cells, Pt.slots] at X232 l232 y232 z232 st232 hQ232
        subst l232 y232 z232
        obtain ⟨b232, rfl, Nq232, K232, p232_0, p232_1, p232_2⟩ := hQ232
        have N232 := Fr.app N231 Nq232
        have C233 := C230.trans (CHr.keep K232 sf0 C230.1)
        have O233 := O230.keep K232 all0
        have Z233 : n0 ≤ T232.heap.size := Nat.le_trans Z230 K232.1
        have sz_b232 : T229.heap.size ≤ b232 := p232_2
        refine Go.by (B := (T232.setTop (mkF m 173 #[.val (.int p1), .val (.int p2), .val (.int p3), .val (.int p4), .val (.int v197), .val .null, .val (.ref b202), .val o204, .val o206, .val o208, .val o210, .val (.int rq213), .val (.int vr215), .val (.int 1), .val (.ref b216)] [(.ref b232)]))) (fun _ k => st232.trans k) ?_
        obtain ⟨cq234, kq234, q234a, q234b, q234c⟩ := isOf hZ rfl p232_0
        obtain ⟨_, _, ⟨T234, L234, k234, n234⟩, -, X234, ⟨Lc234, hQ234, l234, y234, z234⟩, st234⟩ := X232.virtualBack hx (y := (⟨"com/example/floodgauge/floodgauge/cli/Option", "isFlag", "()Z"⟩ : MethodName)) (z := (⟨"com/example/floodgauge/floodgauge/cli/Option", "isFlag", "()Z"⟩ : MethodName)) hown (mvT hZ (wd hw 58 rfl)) (mvT hZ (wd hw 59 rfl)) (notFace_of_selects (args := #[]) (mvT hZ (wd hw 61 rfl))) (mvT hZ (wd hw 61 rfl)) (mvT hZ (wd hw 60 rfl)) (by decide) (backOf (W := 0) (rm_flag0 l Z a0 hw [] b232 T232.heap n0 Z233 p232_1) hZ (wd hw 62 rfl) (wd hw 32 rfl) (by decide) (by decide)) q234a q234c (g := (mkF m 173 #[.val (.int p1), .val (.int p2), .val (.int p3), .val (.int p4), .val (.int v197), .val .null, .val (.ref b202), .val o204, .val o206, .val o208, .val o210, .val (.int rq213), .val (.int vr215), .val (.int 1), .val (.ref b216)] [(.ref b232)])) rfl (by rw [hml]; rfl) (Steps.refl _) (argsL := []) (rest := []) (lenOf pd_12 rfl) rfl (by show 2 * 0 + _ ≤ _; exact Nat.le_of_eq rfl) (hb hby at_173) (fun _ _ => ⟨rfl, rfl, Nat.le_of_ble_eq_true rfl, Nat.le_of_ble_eq_true rfl⟩)
        dsimp only [Pt.U, Pt.locs, Pt.cells, Pt.slots] at X234 l234 y234 z234 st234 hQ234
        subst l234 y234 z234
        obtain ⟨rfl, Nq234, hh234⟩ := hQ234
        have N234 := Fr.app N232 Nq234
        refine Go.by (B := (T234.setTop (mkF m 176 #[.val (.int p1), .val (.int p2), .val (.int p3), .val (.int p4), .val (.int v197), .val .null, .val (.ref b202), .val o204, .val o206, .val o208, .val o210, .val (.int rq213), .val (.int vr215), .val (.int 1), .val (.ref b216)] [(.int 1)]))) (fun _ k => st234.trans k) ?_
        refine Go.by (B := (T234.setTop (mkF m 185 #[.val (.int p1), .val (.int p2), .val (.int p3), .val (.int p4), .val (.int v197), .val .null, .val (.ref b202), .val o204, .val o206, .val o208, .val o210, .val (.int rq213), .val (.int vr215), .val (.int 1), .val (.ref b216)] [(.ref b216)]))) (fun _ k => XS.iload X234.here hx rfl (hb hby at_176) rfl (XS.icmpYes X234.here hx rfl (pc0 := 178) (pc' := 183) rfl (hb hby at_178) rfl (teq (by decide : (1 : Int32) = (1 : Int32))).1 (by decide) (by decide) (XS.aload X234.here hx rfl (hb hby at_183) rfl rfl k))) ?_
        have f235 := ((p226_1.keep K229 nin0).keep K232 nin0)
        have f236 := ((p226_2.keep K229 nin0).keep K232 nin0)
        have f237 := ((p226_3.keep K229 nin0).keep K232 nin0)
        have f238 := ((p226_4.keep K229 nin0).keep K232 nin0)
        have f239 := ((p226_5.keep K229 nin0).keep K232 nin0)
        have f240 := ((p226_6.keep K229 nin0).keep K232 nin0)
        have f241 := ((p226_7.keep K229 nin0).keep K232 nin0)
        obtain ⟨cq242, kq242, q242a, q242b, q242c⟩ := isOf hZ hh234 ((p226_0.keep K229).keep K232)
        obtain ⟨_, _, ⟨T242, L242, k242, n242⟩, -, X242, ⟨Lc242, hQ242, l242, y242, z242⟩, st242⟩ := X234.virtualBack hx (y := (⟨"com/example/floodgauge/floodgauge/cli/Option", "fromVariable", "()Lcom/example/floodgauge/floodgauge/cli/Option;"⟩ : MethodName)) (z := (⟨"com/example/floodgauge/floodgauge/cli/Option", "fromVariable", "()Lcom/example/floodgauge/floodgauge/cli/Option;"⟩ : MethodName)) hown (mvT hZ (wd hw 75 rfl)) (mvT hZ (wd hw 76 rfl)) (notFace_of_selects (args := #[]) (mvT hZ (wd hw 78 rfl))) (mvT hZ (wd hw 78 rfl)) (mvT hZ (wd hw 77 rfl)) (by decide) (backOf (W := 0) (rm_fromVar l Z a0 hw [] b216 (.ref b202) (.null) o204 o206 (nar .boolean rq213) o208 o210 T232.heap n0 Z233 O233 f235 f236 f237 f238 f239 f240 f241 rfl rfl p204_0 p206_0 p208_0 p210_0) hZ (wd hw 79 rfl) (wd hw 32 rfl) (by decide) (by decide)) q242a q242c (g := (mkF m 185 #[.val (.int p1), .val (.int p2), .val (.int p3), .val (.int p4), .val (.int v197), .val .null, .val (.ref b202), .val o204, .val o206, .val o208, .val o210, .val (.int rq213), .val (.int vr215), .val (.int 1), .val (.ref b216)] [(.ref b216)])) rfl (by rw [hml]; rfl) (Steps.refl _) (argsL := []) (rest := []) (lenOf pd_14 rfl) rfl (by show 2 * 0 + _ ≤ _; exact Nat.le_of_eq rfl) (hb hby at_185) (fun _ _ => ⟨rfl, hh234, Nat.le_of_ble_eq_true rfl, Nat.le_of_ble_eq_true rfl⟩)
        dsimp only [Pt.U, Pt.locs, Pt.cells, Pt.slots] at X242 l242 y242 z242 st242 hQ242
        subst l242 y242 z242
        obtain ⟨b242, rfl, Nq242, K242, p242_0, p242_1, p242_2⟩ := hQ242
        have N242 := Fr.app N234 Nq242
        have C243 := C233.trans (CHr.keep K242 sf0 C233.1)
        have O243 := O233.keep K242 all0
        have Z243 : n0 ≤ T242.heap.size := Nat.le_trans Z233 K242.1
        have sz_b242 : T232.heap.size ≤ b242 := p242_2
        refine Go.by (B := (T242.setTop (mkF m 188 #[.val (.int p1), .val (.int p2), .val (.int p3), .val (.int p4), .val (.int v197), .val .null, .val (.ref b202), .val o204, .val o206, .val o208, .val o210, .val (.int rq213), .val (.int vr215), .val (.int 1), .val (.ref b216)] [(.ref b242)]))) (fun _ k => st242.trans k) ?_
        obtain ⟨cq244, kq244, q244a, q244b, q244c⟩ := isOf hZ rfl p242_0
        obtain ⟨_, _, ⟨T244, L244, k244, n244⟩, -, X244, ⟨Lc244, hQ244, l244, y244, z244⟩, st244⟩ := X242.virtualBack hx (y := (⟨"com/example/floodgauge/floodgauge/cli/Option", "isFlag", "()Z"⟩ : MethodName)) (z := (⟨"com/example/floodgauge/floodgauge/cli/Option", "isFlag", "()Z"⟩ : MethodName)) hown (mvT hZ (wd hw 58 rfl)) (mvT hZ (wd hw 59 rfl)) (notFace_of_selects (args := #[]) (mvT hZ (wd hw 61 rfl))) (mvT hZ (wd hw 61 rfl)) (mvT hZ (wd hw 60 rfl)) (by decide) (backOf (W := 0) (rm_flag0 l Z a0 hw [] b242 T242.heap n0 Z243 p242_1) hZ (wd hw 62 rfl) (wd hw 32 rfl) (by decide) (by decide)) q244a q244c (g := (mkF m 188 #[.val (.int p1), .val (.int p2), .val (.int p3), .val (.int p4), .val (.int v197), .val .null, .val (.ref b202), .val o204, .val o206, .val o208, .val o210, .val (.int rq213), .val (.int vr215), .val (.int 1), .val (.ref b216)] [(.ref b242)])) rfl (by rw [hml]; rfl) (Steps.refl _) (argsL := []) (rest := []) (lenOf pd_12 rfl) rfl (by show 2 * 0 + _ ≤ _; exact Nat.le_of_eq rfl) (hb hby at_188) (fun _ _ => ⟨rfl, rfl, Nat.le_of_ble_eq_true rfl, Nat.le_of_ble_eq_true rfl⟩)
        dsimp only [Pt.U, Pt.locs, Pt.cells, Pt.slots] at X244 l244 y244 z244 st244 hQ244
        subst l244 y244 z244
        obtain ⟨rfl, Nq244, hh244⟩ := hQ244
        have N244 := Fr.app N242 Nq244
        refine Go.by (B := (T244.setTop (mkF m 191 #[.val (.int p1), .val (.int p2), .val (.int p3), .val (.int p4), .val (.int v197), .val .null, .val (.ref b202), .val o204, .val o206, .val o208, .val o210, .val (.int rq213), .val (.int vr215), .val (.int 1), .val (.ref b216)] [(.int 1)]))) (fun _ k => st244.trans k) ?_
        refine Go.by (B := (T244.setTop (mkF m 202 #[.val (.int p1), .val (.int p2), .val (.int p3), .val (.int p4), .val (.int v197), .val .null, .val (.ref b202), .val o204, .val o206, .val o208, .val o210, .val (.int rq213), .val (.int vr215), .val (.int 1), .val (.ref b216)] [o204, (.ref b202)]))) (fun _ k => XS.iload X244.here hx rfl (hb hby at_191) rfl (XS.icmpYes X244.here hx rfl (pc0 := 193) (pc' := 198) rfl (hb hby at_193) rfl (teq (by decide : (1 : Int32) = (1 : Int32))).1 (by decide) (by decide) (XS.aload X244.here hx rfl (hb hby at_198) rfl rfl (XS.aload X244.here hx rfl (hb hby at_200) rfl p204_0 k)))) ?_
        obtain ⟨_, _, ⟨T245, L245, k245, n245⟩, -, X245, ⟨Lc245, hQ245, l245, y245, z245⟩, st245⟩ := Jvm.LawKit.callS X244 hx (y := (⟨"com/example/floodgauge/floodgauge/cli/Option", "flag", "(Ljava/lang/String;Ljava/lang/String;)Lcom/example/floodgauge/floodgauge/cli/Option;"⟩ : MethodName)) hown (mvT hZ (wd hw 80 rfl)) (mvT hZ (wd hw 81 rfl)) (mvT hZ (wd hw 32 rfl)) (mvT hZ (wd hw 82 rfl)) (by decide) (backOf (W := 0) (rm_flag l Z a0 hw [] (.ref b202) o204 T242.heap n0 Z243 O243 rfl p204_0) hZ (wd hw 82 rfl) (wd hw 32 rfl) (by decide) (by decide)) (g := (mkF m 202 #[.val (.int p1), .val (.int p2), .val (.int p3), .val (.int p4), .val (.int v197), .val .null, .val (.ref b202), .val o204, .val o206, .val o208, .val o210, .val (.int rq213), .val (.int vr215), .val (.int 1), .val (.ref b216)] [o204, (.ref b202)])) rfl (by rw [hml]; rfl) (argsL := [(.ref b202), o204]) (rest := []) (lenOf pd_15 rfl) rfl (by show 2 * 0 + _ ≤ _; exact Nat.le_of_eq rfl) (hb hby at_202) (fun _ _ => ⟨rfl, hh244, Nat.le_of_ble_eq_true rfl, Nat.le_of_ble_eq_true rfl⟩)
        dsimp only [Pt.U, Pt.locs, Pt.cells, Pt.slots] at X245 l245 y245 z245 st245 hQ245
        subst l245 y245 z245
        obtain ⟨b245, rfl, Nq245, K245, p245_0, p245_1, p245_2⟩ := hQ245
        have N245 := Fr.app N244 Nq245
        have C246 := C243.trans (CHr.keep K245 sf0 C243.1)
        have O246 := O243.keep K245 all0
        have Z246 : n0 ≤ T245.heap.size := Nat.le_trans Z243 K245.1
        have sz_b245 : T242.heap.size ≤ b245 := p245_2
        refine Go.by (B := (T245.setTop (mkF m 205 #[.val (.int p1), .val (.int p2), .val (.int p3), .val (.int p4), .val (.int v197), .val .null, .val (.ref b202), .val o204, .val o206, .val o208, .val o210, .val (.int rq213), .val (.int vr215), .val (.int 1), .val (.ref b216)] [(.ref b245)]))) (fun _ k => st245 _ k) ?_
        obtain ⟨cq247, kq247, q247a, q247b, q247c⟩ := isOf hZ rfl p245_0
        obtain ⟨_, _, ⟨T247, L247, k247, n247⟩, -, X247, ⟨Lc247, hQ247, l247, y247, z247⟩, st247⟩ := X245.virtualBack hx (y := (⟨"com/example/floodgauge/floodgauge/cli/Option", "isFlag", "()Z"⟩ : MethodName)) (z := (⟨"com/example/floodgauge/floodgauge/cli/Option", "isFlag", "()Z"⟩ : MethodName)) hown (mvT hZ (wd hw 58 rfl)) (mvT hZ (wd hw 59 rfl)) (notFace_of_selects (args := #[]) (mvT hZ (wd hw 61 rfl))) (mvT hZ (wd hw 61 rfl)) (mvT hZ (wd hw 60 rfl)) (by decide) (backOf (W := 0) (rm_flag0 l Z a0 hw [] b245 T245.heap n0 Z246 p245_1) hZ (wd hw 62 rfl) (wd hw 32 rfl) (by decide) (by decide)) q247a q247c (g := (mkF m 205 #[.val (.int p1), .val (.int p2), .val (.int p3), .val (.int p4), .val (.int v197), .val .null, .val (.ref b202), .val o204, .val o206, .val o208, .val o210, .val (.int rq213), .val (.int vr215), .val (.int 1), .val (.ref b216)] [(.ref b245)])) rfl (by rw [hml]; rfl) (Steps.refl _) (argsL := []) (rest := []) (lenOf pd_12 rfl) rfl (by show 2 * 0 + _ ≤ _; exact Nat.le_of_eq rfl) (hb hby at_205) (fun _ _ => ⟨rfl, rfl, Nat.le_of_ble_eq_true rfl, Nat.le_of_ble_eq_true rfl⟩)
        dsimp only [Pt.U, Pt.locs, Pt.cells, Pt.slots] at X247 l247 y247 z247 st247 hQ247
        subst l247 y247 z247
        obtain ⟨rfl, Nq247, hh247⟩ := hQ247
        have N247 := Fr.app N245 Nq247
        refine Go.by (B := (T247.setTop (mkF m 208 #[.val (.int p1), .val (.int p2), .val (.int p3), .val (.int p4), .val (.int v197), .val .null, .val (.ref b202), .val o204, .val o206, .val o208, .val o210, .val (.int rq213), .val (.int vr215), .val (.int 1), .val (.ref b216)] [(.int 1)]))) (fun _ k => st247.trans k) ?_
        have hkE248 : _ ≤ T247.heap.size := (by rw [hh247]; exact (Nat.le_trans (Nat.le_trans (Nat.le_trans (Nat.le_trans (Nat.le_trans (Nat.le_trans hk E216.1) K226.1) K229.1) K232.1) K242.1) K245.1))
        have CE248 : CHr Z own_EL s.vm s.heap T210.vm T247.heap := (by rw [hh247]; exact C246)
        refine Go.retS X247 hx hlk hS hkE248 hZ hEL CE248 (t := .boolean) hret rfl (Or.inl ⟨rfl, by simp, _, rfl⟩) (hb hby at_208) (by decide) (by decide) ?_
        exact ⟨rfl, N247⟩
      refine Go.by (B := (T213.setTop (mkF m 90 #[.val (.int p1), .val (.int p2), .val (.int p3), .val (.int p4), .val (.int v197), .val .null, .val (.ref b202), .val o204, .val o206, .val o208, .val o210, .val (.int rq213), .unset, .unset, .unset] [(.int (p3 &&& (2 : Int32)))]))) (fun _ k => XS.iloadN X214.here hx rfl (hb hby at_87) rfl (XS.iconst X214.here hx rfl (hb hby at_88) (XS.iand X214.here hx rfl (hb hby at_89) rfl k))) ?_
      by_cases c249 : (p3 &&& (2 : Int32)) = (0 : Int32)
      · skip
        refine Go.by (B := (T213.setTop (mkF m 98 #[.val (.int p1), .val (.int p2), .val (.int p3), .val (.int p4), .val (.int v197), .val .null, .val (.ref b202), .val o204, .val o206, .val o208, .val o210, .val (.int rq213), .unset, .unset, .unset] [(.int 0)]))) (fun _ k => XS.ifYes X214.here hx rfl (pc0 := 90) (pc' := 97) rfl (hb hby at_90) rfl ((if0 _ _).trans (teq c249).1) (by decide) (by decide) (XS.iconst X214.here hx rfl (hb hby at_97) k)) ?_
        exact J214 T213 X214 e214 (0 : Int32)
      · skip
        refine Go.by (B := (T213.setTop (mkF m 98 #[.val (.int p1), .val (.int p2), .val (.int p3), .val (.int p4), .val (.int v197), .val .null, .val (.ref b202), .val o204, .val o206, .val o208, .val o210, .val (.int rq213), .unset, .unset, .unset] [(.int 1)]))) (fun _ k => XS.ifNo X214.here hx rfl (hb hby at_90) rfl ((if0 _ _).trans (feq c249).1) (XS.iconst X214.here hx rfl (hb hby at_93) (XS.goto X214.here hx rfl (pc0 := 94) (pc' := 98) rfl (hb hby at_94) (by decide) (by decide) k))) ?_
        exact J214 T213 X214 e214 (1 : Int32)
    refine Go.by (B := (T210.setTop (mkF m 77 #[.val (.int p1), .val (.int p2), .val (.int p3), .val (.int p4), .val (.int v197), .val .null, .val (.ref b202), .val o204, .val o206, .val o208, .val o210, .unset, .unset, .unset, .unset] [(.int (p3 &&& (1 : Int32)))]))) (fun _ k => XS.iloadN X212.here hx rfl (hb hby at_74) rfl (XS.iconst X212.here hx rfl (hb hby at_75) (XS.iand X212.here hx rfl (hb hby at_76) rfl k))) ?_
    by_cases c250 : (p3 &&& (1 : Int32)) = (0 : Int32)
    · skip
      refine Go.by (B := (T210.setTop (mkF m 85 #[.val (.int p1), .val (.int p2), .val (.int p3), .val (.int p4), .val (.int v197), .val .null, .val (.ref b202), .val o204, .val o206, .val o208, .val o210, .unset, .unset, .unset, .unset] [(.int 0)]))) (fun _ k => XS.ifYes X212.here hx rfl (pc0 := 77) (pc' := 84) rfl (hb hby at_77) rfl ((if0 _ _).trans (teq c250).1) (by decide) (by decide) (XS.iconst X212.here hx rfl (hb hby at_84) k)) ?_
      exact J212 T210 X212 e212 (0 : Int32)
    · skip
      refine Go.by (B := (T210.setTop (mkF m 85 #[.val (.int p1), .val (.int p2), .val (.int p3), .val (.int p4), .val (.int v197), .val .null, .val (.ref b202), .val o204, .val o206, .val o208, .val o210, .unset, .unset, .unset, .unset] [(.int 1)]))) (fun _ k => XS.ifNo X212.here hx rfl (hb hby at_77) rfl ((if0 _ _).trans (feq c250).1) (XS.iconst X212.here hx rfl (hb hby at_80) (XS.goto X212.here hx rfl (pc0 := 81) (pc' := 85) rfl (hb hby at_81) (by decide) (by decide) k))) ?_
      exact J212 T210 X212 e212 (1 : Int32)
  · skip
    refine Go.by (B := (T198.setTop (mkF m 22 #[.val (.int p1), .val (.int p2), .val (.int p3), .val (.int p4), .val (.int v197), .val (.ref b201), .unset, .unset, .unset, .unset, .unset, .unset, .unset, .unset, .unset] [(.int ((((p2.toUInt32 >>> ((16 : Int32) &&& 31).toUInt32).toInt32) &&& (255 : Int32)).toUInt32.toUInt16.toUInt32.toInt32))]))) (fun _ k => XS.astore X198.here hx rfl (hb hby at_11) rfl rfl (l' := #[.val (.int p1), .val (.int p2), .val (.int p3), .val (.int p4), .val (.int v197), .val (.ref b201), .unset, .unset, .unset, .unset, .unset, .unset, .unset, .unset, .unset]) rfl (XS.iloadN X198.here hx rfl (hb hby at_13) rfl (XS.bipush X198.here hx rfl (hb hby at_14) (XS.iushr X198.here hx rfl (hb hby at_16) rfl (XS.sipush X198.here hx rfl (hb hby at_17) (XS.iand X198.here hx rfl (hb hby at_20) rfl (XS.i2c X198.here hx rfl (hb hby at_21) rfl k))))))) ?_
    obtain ⟨_, _, ⟨T251, L251, k251, n251⟩, -, X251, ⟨Lc251, hQ251, l251, y251, z251⟩, st251⟩ := Jvm.LawKit.callS X198 hx (y := (⟨"java/lang/String", "valueOf", "(C)Ljava/lang/String;"⟩ : MethodName)) hown (mvT hZ (wd hw 4 rfl)) (mvT hZ (wd hw 5 rfl)) (mvT hZ (wd hw 6 rfl)) (mvT hZ (wd hw 7 rfl)) (by decide) (backOf (W := 0) (rm_valueOfC l Z a0 hw [] ((((p2.toUInt32 >>> ((16 : Int32) &&& 31).toUInt32).toInt32) &&& (255 : Int32)).toUInt32.toUInt16.toUInt32.toInt32) cs T198.heap n0 Z199 O199 pr1 hcs (own_ch _)) hZ (wd hw 7 rfl) (wd hw 6 rfl) (by decide) (by decide)) (g := (mkF m 22 #[.val (.int p1), .val (.int p2), .val (.int p3), .val (.int p4), .val (.int v197), .val (.ref b201), .unset, .unset, .unset, .unset, .unset, .unset, .unset, .unset, .unset] [(.int ((((p2.toUInt32 >>> ((16 : Int32) &&& 31).toUInt32).toInt32) &&& (255 : Int32)).toUInt32.toUInt16.toUInt32.toInt32))])) rfl (by rw [hml]; rfl) (argsL := [(.int ((((p2.toUInt32 >>> ((16 : Int32) &&& 31).toUInt32).toInt32) &&& (255 : Int32)).toUInt32.toUInt16.toUInt32.toInt32))]) (rest := []) (lenOf pd_8 rfl) rfl (by show 2 * 0 + _ ≤ _; exact Nat.le_of_eq rfl) (hb hby at_22) (fun _ _ => ⟨rfl, rfl, Nat.le_of_ble_eq_true rfl, Nat.le_of_ble_eq_true rfl⟩)
    dsimp only [Pt.U, Pt.locs, Pt.cells, Pt.slots] at X251 l251 y251 z251 st251 hQ251
    subst l251 y251 z251
    obtain ⟨b251, t251, k251, rfl, Nq251, K251, p251_0, p251_1, p251_2, p251_3, p251_4, p251_5⟩ := hQ251
    have N251 := Fr.app N198 Nq251
    have C252 := C199.trans (CHr.keep K251 sf0 C199.1)
    have O252 := O199.keep K251 all0
    have Z252 : n0 ≤ T251.heap.size := Nat.le_trans Z199 K251.1
    have sz_b251 : T198.heap.size ≤ b251 := p251_4
    have sz_t251 : T198.heap.size ≤ t251 := p251_5
    refine Go.by (B := (T251.setTop (mkF m 25 #[.val (.int p1), .val (.int p2), .val (.int p3), .val (.int p4), .val (.int v197), .val (.ref b201), .unset, .unset, .unset, .unset, .unset, .unset, .unset, .unset, .unset] [(.ref b251)]))) (fun _ k => st251 _ k) ?_
    refine Go.by (B := (T251.setTop (mkF m 31 #[.val (.int p1), .val (.int p2), .val (.int p3), .val (.int p4), .val (.int v197), .val (.ref b201), .val (.ref b251), .unset, .unset, .unset, .unset, .unset, .unset, .unset, .unset] [(.int p4), (.int ((p3.toUInt32 >>> ((2 : Int32) &&& 31).toUInt32).toInt32))]))) (fun _ k => XS.astore X251.here hx rfl (hb hby at_25) rfl rfl (l' := #[.val (.int p1), .val (.int p2), .val (.int p3), .val (.int p4), .val (.int v197), .val (.ref b201), .val (.ref b251), .unset, .unset, .unset, .unset, .unset, .unset, .unset, .unset]) rfl (XS.iloadN X251.here hx rfl (hb hby at_27) rfl (XS.iconst X251.here hx rfl (hb hby at_28) (XS.iushr X251.here hx rfl (hb hby at_29) rfl (XS.iloadN X251.here hx rfl (hb hby at_30) rfl k))))) ?_
    have hkT253 : _ ≤ T251.heap.size := (Nat.le_trans hk K251.1)
    obtain ⟨_, _, ⟨T253, L253, k253, n253⟩, -, X253, hSn253, hgr253, ⟨Lc253, hQ253, l253, y253, z253, CS253⟩, st253⟩ := callSS X251 hx (y := (⟨"com/example/floodgauge/floodgauge/cli/OptionIsFlagPinLaw", "drawn", "(II)Ljava/lang/String;"⟩ : MethodName)) hown (mvT hZ (wd hw 0 rfl)) (mvT hZ (wd hw 1 rfl)) (mvT hZ (wd hw 2 rfl)) (mvT hZ (wd hw 3 rfl)) (by decide) (backOfSH (W := 0) (rm_drawn l Z a0 hw [] ((p3.toUInt32 >>> ((2 : Int32) &&& 31).toUInt32).toInt32) p4 cs T251.heap n0 Z252 O252 pr1 hcs) hZ (wd hw 3 rfl) (wd hw 2 rfl) (by decide) (by decide) hEL C252.1) (g := (mkF m 31 #[.val (.int p1), .val (.int p2), .val (.int p3), .val (.int p4), .val (.int v197), .val (.ref b201), .val (.ref b251), .unset, .unset, .unset, .unset, .unset, .unset, .unset, .unset] [(.int p4), (.int ((p3.toUInt32 >>> ((2 : Int32) &&& 31).toUInt32).toInt32))])) rfl (by rw [hml]; rfl) (argsL := [(.int ((p3.toUInt32 >>> ((2 : Int32) &&& 31).toUInt32).toInt32)), (.int p4)]) (rest := []) (lenOf pd_11 rfl) rfl (by show 2 * 0 + _ ≤ _; exact Nat.le_of_eq rfl) (hb hby at_31) (fun _ _ => ⟨rfl, rfl, Nat.le_of_ble_eq_true rfl, Nat.le_of_ble_eq_true rfl⟩)
    dsimp only [Pt.U, Pt.locs, Pt.cells, Pt.slots] at X253 l253 y253 z253 st253 hQ253 hSn253 hgr253 CS253
    subst l253 y253 z253
    obtain ⟨X253, hS, hZ, hown⟩ := rebS hS hkT253 X253 hSn253 hgr253 hZ hown
    have hk : T253.heap.size ≤ T253.heap.size := Nat.le_refl _
    obtain ⟨o253, rfl, Nq253, K253, p253_0, p253_1⟩ := hQ253
    have N253 := Fr.app N251 Nq253
    have C254 := C252.trans CS253
    have O254 := O252.keep K253 all0
    have Z254 : n0 ≤ T253.heap.size := Nat.le_trans Z252 K253.1
    refine Go.by (B := (T253.setTop (mkF m 34 #[.val (.int p1), .val (.int p2), .val (.int p3), .val (.int p4), .val (.int v197), .val (.ref b201), .val (.ref b251), .unset, .unset, .unset, .unset, .unset, .unset, .unset, .unset] [o253]))) (fun _ k => st253.trans k) ?_
    refine Go.by (B := (T253.setTop (mkF m 43 #[.val (.int p1), .val (.int p2), .val (.int p3), .val (.int p4), .val (.int v197), .val (.ref b201), .val (.ref b251), .val o253, .unset, .unset, .unset, .unset, .unset, .unset, .unset] [(.int ((p4.toUInt32 >>> ((16 : Int32) &&& 31).toUInt32).toInt32)), (.int ((p3.toUInt32 >>> ((4 : Int32) &&& 31).toUInt32).toInt32))]))) (fun _ k => XS.astore X253.here hx rfl (hb hby at_34) rfl p253_0 (l' := #[.val (.int p1), .val (.int p2), .val (.int p3), .val (.int p4), .val (.int v197), .val (.ref b201), .val (.ref b251), .val o253, .unset, .unset, .unset, .unset, .unset, .unset, .unset]) (XS.store1 rfl (Or.inl rfl) (own_cat p253_0)) (XS.iloadN X253.here hx rfl (hb hby at_36) rfl (XS.iconst X253.here hx rfl (hb hby at_37) (XS.iushr X253.here hx rfl (hb hby at_38) rfl (XS.iloadN X253.here hx rfl (hb hby at_39) rfl (XS.bipush X253.here hx rfl (hb hby at_40) (XS.iushr X253.here hx rfl (hb hby at_42) rfl k))))))) ?_
    have hkT255 : _ ≤ T253.heap.size := hk
    obtain ⟨_, _, ⟨T255, L255, k255, n255⟩, -, X255, hSn255, hgr255, ⟨Lc255, hQ255, l255, y255, z255, CS255⟩, st255⟩ := callSS X253 hx (y := (⟨"com/example/floodgauge/floodgauge/cli/OptionIsFlagPinLaw", "drawn", "(II)Ljava/lang/String;"⟩ : MethodName)) hown (mvT hZ (wd hw 0 rfl)) (mvT hZ (wd hw 1 rfl)) (mvT hZ (wd hw 2 rfl)) (mvT hZ (wd hw 3 rfl)) (by decide) (backOfSH (W := 0) (rm_drawn l Z a0 hw [] ((p3.toUInt32 >>> ((4 : Int32) &&& 31).toUInt32).toInt32) ((p4.toUInt32 >>> ((16 : Int32) &&& 31).toUInt32).toInt32) cs T253.heap n0 Z254 O254 pr1 hcs) hZ (wd hw 3 rfl) (wd hw 2 rfl) (by decide) (by decide) hEL C254.1) (g := (mkF m 43 #[.val (.int p1), .val (.int p2), .val (.int p3), .val (.int p4), .val (.int v197), .val (.ref b201), .val (.ref b251), .val o253, .unset, .unset, .unset, .unset, .unset, .unset, .unset] [(.int ((p4.toUInt32 >>> ((16 : Int32) &&& 31).toUInt32).toInt32)), (.int ((p3.toUInt32 >>> ((4 : Int32) &&& 31).toUInt32).toInt32))])) rfl (by rw [hml]; rfl) (argsL := [(.int ((p3.toUInt32 >>> ((4 : Int32) &&& 31).toUInt32).toInt32)), (.int ((p4.toUInt32 >>> ((16 : Int32) &&& 31).toUInt32).toInt32))]) (rest := []) (lenOf pd_11 rfl) rfl (by show 2 * 0 + _ ≤ _; exact Nat.le_of_eq rfl) (hb hby at_43) (fun _ _ => ⟨rfl, rfl, Nat.le_of_ble_eq_true rfl, Nat.le_of_ble_eq_true rfl⟩)
    dsimp only [Pt.U, Pt.locs, Pt.cells, Pt.slots] at X255 l255 y255 z255 st255 hQ255 hSn255 hgr255 CS255
    subst l255 y255 z255
    obtain ⟨X255, hS, hZ, hown⟩ := rebS hS hkT255 X255 hSn255 hgr255 hZ hown
    have hk : T255.heap.size ≤ T255.heap.size := Nat.le_refl _
    obtain ⟨o255, rfl, Nq255, K255, p255_0, p255_1⟩ := hQ255
    have N255 := Fr.app N253 Nq255
    have C256 := C254.trans CS255
    have O256 := O254.keep K255 all0
    have Z256 : n0 ≤ T255.heap.size := Nat.le_trans Z254 K255.1
    refine Go.by (B := (T255.setTop (mkF m 46 #[.val (.int p1), .val (.int p2), .val (.int p3), .val (.int p4), .val (.int v197), .val (.ref b201), .val (.ref b251), .val o253, .unset, .unset, .unset, .unset, .unset, .unset, .unset] [o255]))) (fun _ k => st255.trans k) ?_
    refine Go.by (B := (T255.setTop (mkF m 56 #[.val (.int p1), .val (.int p2), .val (.int p3), .val (.int p4), .val (.int v197), .val (.ref b201), .val (.ref b251), .val o253, .val o255, .unset, .unset, .unset, .unset, .unset, .unset] [(.int ((p4.toUInt32 >>> ((8 : Int32) &&& 31).toUInt32).toInt32)), (.int ((p3.toUInt32 >>> ((6 : Int32) &&& 31).toUInt32).toInt32))]))) (fun _ k => XS.astore X255.here hx rfl (hb hby at_46) rfl p255_0 (l' := #[.val (.int p1), .val (.int p2), .val (.int p3), .val (.int p4), .val (.int v197), .val (.ref b201), .val (.ref b251), .val o253, .val o255, .unset, .unset, .unset, .unset, .unset, .unset]) (XS.store1 rfl (Or.inl rfl) (own_cat p255_0)) (XS.iloadN X255.here hx rfl (hb hby at_48) rfl (XS.bipush X255.here hx rfl (hb hby at_49) (XS.iushr X255.here hx rfl (hb hby at_51) rfl (XS.iloadN X255.here hx rfl (hb hby at_52) rfl (XS.bipush X255.here hx rfl (hb hby at_53) (XS.iushr X255.here hx rfl (hb hby at_55) rfl k))))))) ?_
    have hkT257 : _ ≤ T255.heap.size := hk
    obtain ⟨_, _, ⟨T257, L257, k257, n257⟩, -, X257, hSn257, hgr257, ⟨Lc257, hQ257, l257, y257, z257, CS257⟩, st257⟩ := callSS X255 hx (y := (⟨"com/example/floodgauge/floodgauge/cli/OptionIsFlagPinLaw", "drawn", "(II)Ljava/lang/String;"⟩ : MethodName)) hown (mvT hZ (wd hw 0 rfl)) (mvT hZ (wd hw 1 rfl)) (mvT hZ (wd hw 2 rfl)) (mvT hZ (wd hw 3 rfl)) (by decide) (backOfSH (W := 0) (rm_drawn l Z a0 hw [] ((p3.toUInt32 >>> ((6 : Int32) &&& 31).toUInt32).toInt32) ((p4.toUInt32 >>> ((8 : Int32) &&& 31).toUInt32).toInt32) cs T255.heap n0 Z256 O256 pr1 hcs) hZ (wd hw 3 rfl) (wd hw 2 rfl) (by decide) (by decide) hEL C256.1) (g := (mkF m 56 #[.val (.int p1), .val (.int p2), .val (.int p3), .val (.int p4), .val (.int v197), .val (.ref b201), .val (.ref b251), .val o253, .val o255, .unset, .unset, .unset, .unset, .unset, .unset] [(.int ((p4.toUInt32 >>> ((8 : Int32) &&& 31).toUInt32).toInt32)), (.int ((p3.toUInt32 >>> ((6 : Int32) &&& 31).toUInt32).toInt32))])) rfl (by rw [hml]; rfl) (argsL := [(.int ((p3.toUInt32 >>> ((6 : Int32) &&& 31).toUInt32).toInt32)), (.int ((p4.toUInt32 >>> ((8 : Int32) &&& 31).toUInt32).toInt32))]) (rest := []) (lenOf pd_11 rfl) rfl (by show 2 * 0 + _ ≤ _; exact Nat.le_of_eq rfl) (hb hby at_56) (fun _ _ => ⟨rfl, rfl, Nat.le_of_ble_eq_true rfl, Nat.le_of_ble_eq_true rfl⟩)
    dsimp only [Pt.U, Pt.locs, Pt.cells, Pt.slots] at X257 l257 y257 z257 st257 hQ257 hSn257 hgr257 CS257
    subst l257 y257 z257
    obtain ⟨X257, hS, hZ, hown⟩ := rebS hS hkT257 X257 hSn257 hgr257 hZ hown
    have hk : T257.heap.size ≤ T257.heap.size := Nat.le_refl _
    obtain ⟨o257, rfl, Nq257, K257, p257_0, p257_1⟩ := hQ257
    have N257 := Fr.app N255 Nq257
    have C258 := C256.trans CS257
    have O258 := O256.keep K257 all0
    have Z258 : n0 ≤ T257.heap.size := Nat.le_trans Z256 K257.1
    refine Go.by (B := (T257.setTop (mkF m 59 #[.val (.int p1), .val (.int p2), .val (.int p3), .val (.int p4), .val (.int v197), .val (.ref b201), .val (.ref b251), .val o253, .val o255, .unset, .unset, .unset, .unset, .unset, .unset] [o257]))) (fun _ k => st257.trans k) ?_
    refine Go.by (B := (T257.setTop (mkF m 69 #[.val (.int p1), .val (.int p2), .val (.int p3), .val (.int p4), .val (.int v197), .val (.ref b201), .val (.ref b251), .val o253, .val o255, .val o257, .unset, .unset, .unset, .unset, .unset] [(.int ((p4.toUInt32 >>> ((24 : Int32) &&& 31).toUInt32).toInt32)), (.int ((p3.toUInt32 >>> ((8 : Int32) &&& 31).toUInt32).toInt32))]))) (fun _ k => XS.astore X257.here hx rfl (hb hby at_59) rfl p257_0 (l' := #[.val (.int p1), .val (.int p2), .val (.int p3), .val (.int p4), .val (.int v197), .val (.ref b201), .val (.ref b251), .val o253, .val o255, .val o257, .unset, .unset, .unset, .unset, .unset]) (XS.store1 rfl (Or.inl rfl) (own_cat p257_0)) (XS.iloadN X257.here hx rfl (hb hby at_61) rfl (XS.bipush X257.here hx rfl (hb hby at_62) (XS.iushr X257.here hx rfl (hb hby at_64) rfl (XS.iloadN X257.here hx rfl (hb hby at_65) rfl (XS.bipush X257.here hx rfl (hb hby at_66) (XS.iushr X257.here hx rfl (hb hby at_68) rfl k))))))) ?_
    have hkT259 : _ ≤ T257.heap.size := hk
    obtain ⟨_, _, ⟨T259, L259, k259, n259⟩, -, X259, hSn259, hgr259, ⟨Lc259, hQ259, l259, y259, z259, CS259⟩, st259⟩ := callSS X257 hx (y := (⟨"com/example/floodgauge/floodgauge/cli/OptionIsFlagPinLaw", "drawn", "(II)Ljava/lang/String;"⟩ : MethodName)) hown (mvT hZ (wd hw 0 rfl)) (mvT hZ (wd hw 1 rfl)) (mvT hZ (wd hw 2 rfl)) (mvT hZ (wd hw 3 rfl)) (by decide) (backOfSH (W := 0) (rm_drawn l Z a0 hw [] ((p3.toUInt32 >>> ((8 : Int32) &&& 31).toUInt32).toInt32) ((p4.toUInt32 >>> ((24 : Int32) &&& 31).toUInt32).toInt32) cs T257.heap n0 Z258 O258 pr1 hcs) hZ (wd hw 3 rfl) (wd hw 2 rfl) (by decide) (by decide) hEL C258.1) (g := (mkF m 69 #[.val (.int p1), .val (.int p2), .val (.int p3), .val (.int p4), .val (.int v197), .val (.ref b201), .val (.ref b251), .val o253, .val o255, .val o257, .unset, .unset, .unset, .unset, .unset] [(.int ((p4.toUInt32 >>> ((24 : Int32) &&& 31).toUInt32).toInt32)), (.int ((p3.toUInt32 >>> ((8 : Int32) &&& 31).toUInt32).toInt32))])) rfl (by rw [hml]; rfl) (argsL := [(.int ((p3.toUInt32 >>> ((8 : Int32) &&& 31).toUInt32).toInt32)), (.int ((p4.toUInt32 >>> ((24 : Int32) &&& 31).toUInt32).toInt32))]) (rest := []) (lenOf pd_11 rfl) rfl (by show 2 * 0 + _ ≤ _; exact Nat.le_of_eq rfl) (hb hby at_69) (fun _ _ => ⟨rfl, rfl, Nat.le_of_ble_eq_true rfl, Nat.le_of_ble_eq_true rfl⟩)
    dsimp only [Pt.U, Pt.locs, Pt.cells, Pt.slots] at X259 l259 y259 z259 st259 hQ259 hSn259 hgr259 CS259
    subst l259 y259 z259
    obtain ⟨X259, hS, hZ, hown⟩ := rebS hS hkT259 X259 hSn259 hgr259 hZ hown
    have hk : T259.heap.size ≤ T259.heap.size := Nat.le_refl _
    obtain ⟨o259, rfl, Nq259, K259, p259_0, p259_1⟩ := hQ259
    have N259 := Fr.app N257 Nq259
    have C260 := C258.trans CS259
    have O260 := O258.keep K259 all0
    have Z260 : n0 ≤ T259.heap.size := Nat.le_trans Z258 K259.1
    refine Go.by (B := (T259.setTop (mkF m 72 #[.val (.int p1), .val (.int p2), .val (.int p3), .val (.int p4), .val (.int v197), .val (.ref b201), .val (.ref b251), .val o253, .val o255, .val o257, .unset, .unset, .unset, .unset, .unset] [o259]))) (fun _ k => st259.trans k) ?_
    refine Go.by (B := (T259.setTop (mkF m 74 #[.val (.int p1), .val (.int p2), .val (.int p3), .val (.int p4), .val (.int v197), .val (.ref b201), .val (.ref b251), .val o253, .val o255, .val o257, .val o259, .unset, .unset, .unset, .unset] []))) (fun _ k => XS.astore X259.here hx rfl (hb hby at_72) rfl p259_0 (l' := #[.val (.int p1), .val (.int p2), .val (.int p3), .val (.int p4), .val (.int v197), .val (.ref b201), .val (.ref b251), .val o253, .val o255, .val o257, .val o259, .unset, .unset, .unset, .unset]) (XS.store1 rfl (Or.inl rfl) (own_cat p259_0)) k) ?_
    obtain ⟨lc261, X261, N261⟩ : ∃ lc, Stand p l e room_1 (s.setVm T259.vm) m #[(.int p1), (.int p2), (.int p3), (.int p4)] below meth c T259 lc 22 45 ∧ Fr n0 lc := ⟨_, X259, N259⟩
    have e261 : T259.heap = T259.heap := rfl
    have J261 : ∀ (T262 : State) (X262 : Stand p l e room_1 (s.setVm T259.vm) m #[(.int p1), (.int p2), (.int p3), (.int p4)] below meth c T262 lc261 22 45) (e262 : T262.heap = T259.heap) (rq262 : Int32), Go p e below (PostS Z own_EL s room_1.cells room_1.slots (Q_rm0 Z p1 p2 p3 p4 cs h0 n0)) (T262.setTop (mkF m 85 #[.val (.int p1), .val (.int p2), .val (.int p3), .val (.int p4), .val (.int v197), .val (.ref b201), .val (.ref b251), .val o253, .val o255, .val o257, .val o259, .unset, .unset, .unset, .unset] [(.int rq262)])) := by
      intro T262 X262 e262 rq262
      refine Go.by (B := (T262.setTop (mkF m 87 #[.val (.int p1), .val (.int p2), .val (.int p3), .val (.int p4), .val (.int v197), .val (.ref b201), .val (.ref b251), .val o253, .val o255, .val o257, .val o259, .val (.int rq262), .unset, .unset, .unset] []))) (fun _ k => XS.istore X262.here hx rfl (hb hby at_85) rfl (l' := #[.val (.int p1), .val (.int p2), .val (.int p3), .val (.int p4), .val (.int v197), .val (.ref b201), .val (.ref b251), .val o253, .val o255, .val o257, .val o259, .val (.int rq262), .unset, .unset, .unset]) rfl k) ?_
      obtain ⟨lc263, X263, N263⟩ : ∃ lc, Stand p l e room_1 (s.setVm T259.vm) m #[(.int p1), (.int p2), (.int p3), (.int p4)] below meth c T262 lc 22 45 ∧ Fr n0 lc := ⟨_, X262, N261⟩
      have e263 : T262.heap = T259.heap := e262
      have J263 : ∀ (T264 : State) (X264 : Stand p l e room_1 (s.setVm T259.vm) m #[(.int p1), (.int p2), (.int p3), (.int p4)] below meth c T264 lc263 22 45) (e264 : T264.heap = T259.heap) (vr264 : Int32), Go p e below (PostS Z own_EL s room_1.cells room_1.slots (Q_rm0 Z p1 p2 p3 p4 cs h0 n0)) (T264.setTop (mkF m 98 #[.val (.int p1), .val (.int p2), .val (.int p3), .val (.int p4), .val (.int v197), .val (.ref b201), .val (.ref b251), .val o253, .val o255, .val o257, .val o259, .val (.int rq262), .unset, .unset, .unset] [(.int vr264)])) := by
        intro T264 X264 e264 vr264
        refine Go.by (B := (T264.setTop (mkF m 112 #[.val (.int p1), .val (.int p2), .val (.int p3), .val (.int p4), .val (.int v197), .val (.ref b201), .val (.ref b251), .val o253, .val o255, .val o257, .val o259, .val (.int rq262), .val (.int vr264), .val (.int 0), .unset] []))) (fun _ k => XS.istore X264.here hx rfl (hb hby at_98) rfl (l' := #[.val (.int p1), .val (.int p2), .val (.int p3), .val (.int p4), .val (.int v197), .val (.ref b201), .val (.ref b251), .val o253, .val o255, .val o257, .val o259, .val (.int rq262), .val (.int vr264), .unset, .unset]) rfl (XS.iload X264.here hx rfl (hb hby at_100) rfl (XS.ifYes X264.here hx rfl (pc0 := 102) (pc' := 109) rfl (hb hby at_102) rfl ((if0 _ _).trans (feq c200).2) (by decide) (by decide) (XS.iconst X264.here hx rfl (hb hby at_109) (XS.istore X264.here hx rfl (hb hby at_110) rfl (l' := #[.val (.int p1), .val (.int p2), .val (.int p3), .val (.int p4), .val (.int v197), .val (.ref b201), .val (.ref b251), .val o253, .val o255, .val o257, .val o259, .val (.int rq262), .val (.int vr264), .val (.int 0), .unset]) rfl k))))) ?_
        obtain ⟨T265, h265, X265, e265, E265, A265, D265, -, st265⟩ := newO X264 hx hZ hown (wd hw 30 rfl) (wd hw 31 rfl) (wd hw 32 rfl) e264 (g := (mkF m 112 #[.val (.int p1), .val (.int p2), .val (.int p3), .val (.int p4), .val (.int v197), .val (.ref b201), .val (.ref b251), .val o253, .val o255, .val o257, .val o259, .val (.int rq262), .val (.int vr264), .val (.int 0), .unset] [])) rfl (hb hby at_112) (by decide) (by decide)
        obtain ⟨b265, g265⟩ : ∃ z, z = T259.heap.size := ⟨_, rfl⟩
        rw [← g265] at A265 D265 st265
        have sz_b265 : T259.heap.size ≤ b265 := Nat.le_of_eq g265.symm
        have C266 := C260.trans (CHr.ext E265 C260.1)
        have O266 := O260.ext E265
        have Z266 : n0 ≤ h265.size := Nat.le_trans Z260 E265.1
        have F267 : Fld Z h265 b265 "com/example/floodgauge/floodgauge/cli/Option" "name" "Ljava/lang/String;" .null := D265 (Or.inr (wd hw 43 rfl)) (ty := (.object "java/lang/String")) (by decide)
        have F268 : Fld Z h265 b265 "com/example/floodgauge/floodgauge/cli/Option" "argument" "Ljava/lang/String;" .null := D265 (Or.inr (wd hw 45 rfl)) (ty := (.object "java/lang/String")) (by decide)
        have F269 : Fld Z h265 b265 "com/example/floodgauge/floodgauge/cli/Option" "purpose" "Ljava/lang/String;" .null := D265 (Or.inr (wd hw 47 rfl)) (ty := (.object "java/lang/String")) (by decide)
        have F270 : Fld Z h265 b265 "com/example/floodgauge/floodgauge/cli/Option" "condition" "Ljava/lang/String;" .null := D265 (Or.inr (wd hw 49 rfl)) (ty := (.object "java/lang/String")) (by decide)
        have F271 : Fld Z h265 b265 "com/example/floodgauge/floodgauge/cli/Option" "required" "Z" (.int 0) := D265 (Or.inr (wd hw 51 rfl)) (ty := .boolean) (by decide)
        have F272 : Fld Z h265 b265 "com/example/floodgauge/floodgauge/cli/Option" "fallback" "Ljava/lang/String;" .null := D265 (Or.inr (wd hw 53 rfl)) (ty := (.object "java/lang/String")) (by decide)
        have F273 : Fld Z h265 b265 "com/example/floodgauge/floodgauge/cli/Option" "note" "Ljava/lang/String;" .null := D265 (Or.inr (wd hw 55 rfl)) (ty := (.object "java/lang/String")) (by decide)
        have F274 : Fld Z h265 b265 "com/example/floodgauge/floodgauge/cli/Option" "variable" "Z" (.int 0) := D265 (Or.inr (wd hw 57 rfl)) (ty := .boolean) (by decide)
        refine Go.by (B := (T265.setTop (mkF m 115 #[.val (.int p1), .val (.int p2), .val (.int p3), .val (.int p4), .val (.int v197), .val (.ref b201), .val (.ref b251), .val o253, .val o255, .val o257, .val o259, .val (.int rq262), .val (.int vr264), .val (.int 0), .unset] [(.ref b265)]))) st265 ?_
        refine Go.by (B := (T265.setTop (mkF m 130 #[.val (.int p1), .val (.int p2), .val (.int p3), .val (.int p4), .val (.int v197), .val (.ref b201), .val (.ref b251), .val o253, .val o255, .val o257, .val o259, .val (.int rq262), .val (.int vr264), .val (.int 0), .unset] [o259, o257, (.int rq262), o255, o253, (.ref b201), (.ref b251), (.ref b265), (.ref b265)]))) (fun _ k => XS.dup X265.here hx rfl (hb hby at_115) rfl rfl (XS.aload X265.here hx rfl (hb hby at_116) rfl rfl (XS.aload X265.here hx rfl (hb hby at_118) rfl rfl (XS.aload X265.here hx rfl (hb hby at_120) rfl p253_0 (XS.aload X265.here hx rfl (hb hby at_122) rfl p255_0 (XS.iload X265.here hx rfl (hb hby at_124) rfl (XS.aload X265.here hx rfl (hb hby at_126) rfl p257_0 (XS.aload X265.here hx rfl (hb hby at_128) rfl p259_0 k)))))))) ?_
        refine Go.by (B := (T265.setTop (mkF m 132 #[.val (.int p1), .val (.int p2), .val (.int p3), .val (.int p4), .val (.int v197), .val (.ref b201), .val (.ref b251), .val o253, .val o255, .val o257, .val o259, .val (.int rq262), .val (.int vr264), .val (.int 0), .unset] [(.int vr264), o259, o257, (.int rq262), o255, o253, (.ref b201), (.ref b251), (.ref b265), (.ref b265)]))) (fun _ k => XS.iload X265.here hx rfl (hb hby at_130) rfl k) ?_
        obtain ⟨_, _, ⟨T275, L275, k275, n275⟩, -, X275, ⟨Lc275, hQ275, l275, y275, z275⟩, st275⟩ := X265.specialBack hx (y := (⟨"com/example/floodgauge/floodgauge/cli/Option", "<init>", "(Ljava/lang/String;Ljava/lang/String;Ljava/lang/String;Ljava/lang/String;ZLjava/lang/String;Ljava/lang/String;Z)V"⟩ : MethodName)) rfl hown (mvT hZ (wd hw 33 rfl)) (mvT hZ (wd hw 34 rfl)) (mvT hZ (wd hw 35 rfl)) (by decide) (backOf (W := 1) (rm_opt l Z a0 hw [] b265 (.ref b251) (.ref b201) o253 o255 rq262 o257 o259 vr264 h265 n0 Z266 O266 A265 F267 F268 F269 F270 F271 F272 F273 F274 (Nat.le_trans Z260 sz_b265) rfl rfl p253_0 p255_0 p257_0 p259_0) hZ (wd hw 35 rfl) (wd hw 32 rfl) (by decide) (by decide)) (g := (mkF m 132 #[.val (.int p1), .val (.int p2), .val (.int p3), .val (.int p4), .val (.int v197), .val (.ref b201), .val (.ref b251), .val o253, .val o255, .val o257, .val o259, .val (.int rq262), .val (.int vr264), .val (.int 0), .unset] [(.int vr264), o259, o257, (.int rq262), o255, o253, (.ref b201), (.ref b251), (.ref b265), (.ref b265)])) rfl (by rw [hml]; rfl) (Steps.refl _) (a := b265) (argsL := [(.ref b251), (.ref b201), o253, o255, (.int rq262), o257, o259, (.int vr264)]) (rest := [(.ref b265)]) (lenOf pd_10 rfl) rfl (by show 2 * 0 + _ ≤ _; exact Nat.le_of_eq rfl) (hb hby at_132) (fun _ _ => ⟨rfl, e265, Nat.le_of_ble_eq_true rfl, Nat.le_of_ble_eq_true rfl⟩)
        dsimp only [Pt.U, Pt.locs, Pt.cells, Pt.slots] at X275 l275 y275 z275 st275 hQ275
        subst l275 y275 z275
        obtain ⟨rfl, Nq275, K275, p275_0, p275_1, p275_2, p275_3, p275_4, p275_5, p275_6, p275_7, p275_8⟩ := hQ275
        have N275 := Fr.app N263 Nq275
        have C276 := C266.trans (CHr.keep K275 (sfS (Safe.exa hZ.alike A265 (by decide) (by decide)) sf0) C266.1)
        have O276 := O266.keep K275 (allS (Nat.le_trans Z260 sz_b265) all0)
        have Z276 : n0 ≤ T275.heap.size := Nat.le_trans Z266 K275.1
        refine Go.by (B := (T275.setTop (mkF m 135 #[.val (.int p1), .val (.int p2), .val (.int p3), .val (.int p4), .val (.int v197), .val (.ref b201), .val (.ref b251), .val o253, .val o255, .val o257, .val o259, .val (.int rq262), .val (.int vr264), .val (.int 0), .unset] [(.ref b265)]))) (fun _ k => st275.trans k) ?_
        refine Go.by (B := (T275.setTop (mkF m 139 #[.val (.int p1), .val (.int p2), .val (.int p3), .val (.int p4), .val (.int v197), .val (.ref b201), .val (.ref b251), .val o253, .val o255, .val o257, .val o259, .val (.int rq262), .val (.int vr264), .val (.int 0), .val (.ref b265)] [(.ref b265)]))) (fun _ k => XS.astore X275.here hx rfl (hb hby at_135) rfl rfl (l' := #[.val (.int p1), .val (.int p2), .val (.int p3), .val (.int p4), .val (.int v197), .val (.ref b201), .val (.ref b251), .val o253, .val o255, .val o257, .val o259, .val (.int rq262), .val (.int vr264), .val (.int 0), .val (.ref b265)]) rfl (XS.aload X275.here hx rfl (hb hby at_137) rfl rfl k)) ?_
        obtain ⟨cq277, kq277, q277a, q277b, q277c⟩ := isOf hZ rfl p275_0
        obtain ⟨_, _, ⟨T277, L277, k277, n277⟩, -, X277, ⟨Lc277, hQ277, l277, y277, z277⟩, st277⟩ := X275.virtualBack hx (y := (⟨"com/example/floodgauge/floodgauge/cli/Option", "isFlag", "()Z"⟩ : MethodName)) (z := (⟨"com/example/floodgauge/floodgauge/cli/Option", "isFlag", "()Z"⟩ : MethodName)) hown (mvT hZ (wd hw 58 rfl)) (mvT hZ (wd hw 59 rfl)) (notFace_of_selects (args := #[]) (mvT hZ (wd hw 61 rfl))) (mvT hZ (wd hw 61 rfl)) (mvT hZ (wd hw 60 rfl)) (by decide) (backOf (W := 0) (rm_flag1 l Z a0 hw [] b265 b201 T275.heap n0 Z276 p275_2) hZ (wd hw 62 rfl) (wd hw 32 rfl) (by decide) (by decide)) q277a q277c (g := (mkF m 139 #[.val (.int p1), .val (.int p2), .val (.int p3), .val (.int p4), .val (.int v197), .val (.ref b201), .val (.ref b251), .val o253, .val o255, .val o257, .val o259, .val (.int rq262), .val (.int vr264), .val (.int 0), .val (.ref b265)] [(.ref b265)])) rfl (by rw [hml]; rfl) (Steps.refl _) (argsL := []) (rest := []) (lenOf pd_12 rfl) rfl (by show 2 * 0 + _ ≤ _; exact Nat.le_of_eq rfl) (hb hby at_139) (fun _ _ => ⟨rfl, rfl, Nat.le_of_ble_eq_true rfl, Nat.le_of_ble_eq_true rfl⟩)
        dsimp only [Pt.U, Pt.locs, Pt.cells, Pt.slots] at X277 l277 y277 z277 st277 hQ277
        subst l277 y277 z277
        obtain ⟨rfl, Nq277, hh277⟩ := hQ277
        have N277 := Fr.app N275 Nq277
        refine Go.by (B := (T277.setTop (mkF m 142 #[.val (.int p1), .val (.int p2), .val (.int p3), .val (.int p4), .val (.int v197), .val (.ref b201), .val (.ref b251), .val o253, .val o255, .val o257, .val o259, .val (.int rq262), .val (.int vr264), .val (.int 0), .val (.ref b265)] [(.int 0)]))) (fun _ k => st277.trans k) ?_
        refine Go.by (B := (T277.setTop (mkF m 153 #[.val (.int p1), .val (.int p2), .val (.int p3), .val (.int p4), .val (.int v197), .val (.ref b201), .val (.ref b251), .val o253, .val o255, .val o257, .val o259, .val (.int rq262), .val (.int vr264), .val (.int 0), .val (.ref b265)] [o257, (.ref b265)]))) (fun _ k => XS.iload X277.here hx rfl (hb hby at_142) rfl (XS.icmpYes X277.here hx rfl (pc0 := 144) (pc' := 149) rfl (hb hby at_144) rfl (teq (by decide : (0 : Int32) = (0 : Int32))).1 (by decide) (by decide) (XS.aload X277.here hx rfl (hb hby at_149) rfl rfl (XS.aload X277.here hx rfl (hb hby at_151) rfl p257_0 k)))) ?_
        obtain ⟨cq278, kq278, q278a, q278b, q278c⟩ := isOf hZ hh277 p275_0
        obtain ⟨_, _, ⟨T278, L278, k278, n278⟩, -, X278, ⟨Lc278, hQ278, l278, y278, z278⟩, st278⟩ := X277.virtualBack hx (y := (⟨"com/example/floodgauge/floodgauge/cli/Option", "withDefault", "(Ljava/lang/String;)Lcom/example/floodgauge/floodgauge/cli/Option;"⟩ : MethodName)) (z := (⟨"com/example/floodgauge/floodgauge/cli/Option", "withDefault", "(Ljava/lang/String;)Lcom/example/floodgauge/floodgauge/cli/Option;"⟩ : MethodName)) hown (mvT hZ (wd hw 63 rfl)) (mvT hZ (wd hw 64 rfl)) (notFace_of_selects (args := #[]) (mvT hZ (wd hw 66 rfl))) (mvT hZ (wd hw 66 rfl)) (mvT hZ (wd hw 65 rfl)) (by decide) (backOf (W := 0) (rm_withDefault l Z a0 hw [] b265 o257 (.ref b251) (.ref b201) o253 o255 (nar .boolean vr264) T275.heap n0 Z276 O276 p275_1 p275_2 p275_3 p275_4 p275_8 rfl rfl p253_0 p255_0 p257_0) hZ (wd hw 67 rfl) (wd hw 32 rfl) (by decide) (by decide)) q278a q278c (g := (mkF m 153 #[.val (.int p1), .val (.int p2), .val (.int p3), .val (.int p4), .val (.int v197), .val (.ref b201), .val (.ref b251), .val o253, .val o255, .val o257, .val o259, .val (.int rq262), .val (.int vr264), .val (.int 0), .val (.ref b265)] [o257, (.ref b265)])) rfl (by rw [hml]; rfl) (Steps.refl _) (argsL := [o257]) (rest := []) (lenOf pd_13 rfl) rfl (by show 2 * 0 + _ ≤ _; exact Nat.le_of_eq rfl) (hb hby at_153) (fun _ _ => ⟨rfl, hh277, Nat.le_of_ble_eq_true rfl, Nat.le_of_ble_eq_true rfl⟩)
        dsimp only [Pt.U, Pt.locs, Pt.cells, Pt.slots] at X278 l278 y278 z278 st278 hQ278
        subst l278 y278 z278
        obtain ⟨b278, rfl, Nq278, K278, p278_0, p278_1, p278_2⟩ := hQ278
        have N278 := Fr.app N277 Nq278
        have C279 := C276.trans (CHr.keep K278 sf0 C276.1)
        have O279 := O276.keep K278 all0
        have Z279 : n0 ≤ T278.heap.size := Nat.le_trans Z276 K278.1
        have sz_b278 : T275.heap.size ≤ b278 := p278_2
        refine Go.by (B := (T278.setTop (mkF m 156 #[.val (.int p1), .val (.int p2), .val (.int p3), .val (.int p4), .val (.int v197), .val (.ref b201), .val (.ref b251), .val o253, .val o255, .val o257, .val o259, .val (.int rq262), .val (.int vr264), .val (.int 0), .val (.ref b265)] [(.ref b278)]))) (fun _ k => st278.trans k) ?_
        obtain ⟨cq280, kq280, q280a, q280b, q280c⟩ := isOf hZ rfl p278_0
        obtain ⟨_, _, ⟨T280, L280, k280, n280⟩, -, X280, ⟨Lc280, hQ280, l280, y280, z280⟩, st280⟩ := X278.virtualBack hx (y := (⟨"com/example/floodgauge/floodgauge/cli/Option", "isFlag", "()Z"⟩ : MethodName)) (z := (⟨"com/example/floodgauge/floodgauge/cli/Option", "isFlag", "()Z"⟩ : MethodName)) hown (mvT hZ (wd hw 58 rfl)) (mvT hZ (wd hw 59 rfl)) (notFace_of_selects (args := #[]) (mvT hZ (wd hw 61 rfl))) (mvT hZ (wd hw 61 rfl)) (mvT hZ (wd hw 60 rfl)) (by decide) (backOf (W := 0) (rm_flag1 l Z a0 hw [] b278 b201 T278.heap n0 Z279 p278_1) hZ (wd hw 62 rfl) (wd hw 32 rfl) (by decide) (by decide)) q280a q280c (g := (mkF m 156 #[.val (.int p1), .val (.int p2), .val (.int p3), .val (.int p4), .val (.int v197), .val (.ref b201), .val (.ref b251), .val o253, .val o255, .val o257, .val o259, .val (.int rq262), .val (.int vr264), .val (.int 0), .val (.ref b265)] [(.ref b278)])) rfl (by rw [hml]; rfl) (Steps.refl _) (argsL := []) (rest := []) (lenOf pd_12 rfl) rfl (by show 2 * 0 + _ ≤ _; exact Nat.le_of_eq rfl) (hb hby at_156) (fun _ _ => ⟨rfl, rfl, Nat.le_of_ble_eq_true rfl, Nat.le_of_ble_eq_true rfl⟩)
        dsimp only [Pt.U, Pt.locs, Pt.cells, Pt.slots] at X280 l280 y280 z280 st280 hQ280
        subst l280 y280 z280
        obtain ⟨rfl, Nq280, hh280⟩ := hQ280
        have N280 := Fr.app N278 Nq280
        refine Go.by (B := (T280.setTop (mkF m 159 #[.val (.int p1), .val (.int p2), .val (.int p3), .val (.int p4), .val (.int v197), .val (.ref b201), .val (.ref b251), .val o253, .val o255, .val o257, .val o259, .val (.int rq262), .val (.int vr264), .val (.int 0), .val (.ref b265)] [(.int 0)]))) (fun _ k => st280.trans k) ?_
        refine Go.by (B := (T280.setTop (mkF m 170 #[.val (.int p1), .val (.int p2), .val (.int p3), .val (.int p4), .val (.int v197), .val (.ref b201), .val (.ref b251), .val o253, .val o255, .val o257, .val o259, .val (.int rq262), .val (.int vr264), .val (.int 0), .val (.ref b265)] [o259, (.ref b265)]))) (fun _ k => XS.iload X280.here hx rfl (hb hby at_159) rfl (XS.icmpYes X280.here hx rfl (pc0 := 161) (pc' := 166) rfl (hb hby at_161) rfl (teq (by decide : (0 : Int32) = (0 : Int32))).1 (by decide) (by decide) (XS.aload X280.here hx rfl (hb hby at_166) rfl rfl (XS.aload X280.here hx rfl (hb hby at_168) rfl p259_0 k)))) ?_
        obtain ⟨cq281, kq281, q281a, q281b, q281c⟩ := isOf hZ hh280 (p275_0.keep K278)
        obtain ⟨_, _, ⟨T281, L281, k281, n281⟩, -, X281, ⟨Lc281, hQ281, l281, y281, z281⟩, st281⟩ := X280.virtualBack hx (y := (⟨"com/example/floodgauge/floodgauge/cli/Option", "withNote", "(Ljava/lang/String;)Lcom/example/floodgauge/floodgauge/cli/Option;"⟩ : MethodName)) (z := (⟨"com/example/floodgauge/floodgauge/cli/Option", "withNote", "(Ljava/lang/String;)Lcom/example/floodgauge/floodgauge/cli/Option;"⟩ : MethodName)) hown (mvT hZ (wd hw 70 rfl)) (mvT hZ (wd hw 71 rfl)) (notFace_of_selects (args := #[]) (mvT hZ (wd hw 73 rfl))) (mvT hZ (wd hw 73 rfl)) (mvT hZ (wd hw 72 rfl)) (by decide) (backOf (W := 0) (rm_withNote l Z a0 hw [] b265 o259 (.ref b251) (.ref b201) o253 o255 (nar .boolean vr264) T278.heap n0 Z279 O279 (p275_1.keep K278 nin0) (p275_2.keep K278 nin0) (p275_3.keep K278 nin0) (p275_4.keep K278 nin0) (p275_8.keep K278 nin0) rfl rfl p253_0 p255_0 p259_0) hZ (wd hw 74 rfl) (wd hw 32 rfl) (by decide) (by decide)) q281a q281c (g := (mkF m 170 #[.val (.int p1), .val (.int p2), .val (.int p3), .val (.int p4), .val (.int v197), .val (.ref b201), .val (.ref b251), .val o253, .val o255, .val o257, .val o259, .val (.int rq262), .val (.int vr264), .val (.int 0), .val (.ref b265)] [o259, (.ref b265)])) rfl (by rw [hml]; rfl) (Steps.refl _) (argsL := [o259]) (rest := []) (lenOf pd_13 rfl) rfl (by show 2 * 0 + _ ≤ _; exact Nat.le_of_eq rfl) (hb hby at_170) (fun _ _ => ⟨rfl, hh280, Nat.le_of_ble_eq_true rfl, Nat.le_of_ble_eq_true rfl⟩)
        dsimp only [Pt.U, Pt.locs, Pt.cells, Pt.slots] at X281 l281 y281 z281 st281 hQ281
        subst l281 y281 z281
        obtain ⟨b281, rfl, Nq281, K281, p281_0, p281_1, p281_2⟩ := hQ281
        have N281 := Fr.app N280 Nq281
        have C282 := C279.trans (CHr.keep K281 sf0 C279.1)
        have O282 := O279.keep K281 all0
        have Z282 : n0 ≤ T281.heap.size := Nat.le_trans Z279 K281.1
        have sz_b281 : T278.heap.size ≤ b281 := p281_2
        refine Go.by (B := (T281.setTop (mkF m 173 #[.val (.int p1), .val (.int p2), .val (.int p3), .val (.int p4), .val (.int v197), .val (.ref b201), .val (.ref b251), .val o253, .val o255, .val o257, .val o259, .val (.int rq262), .val (.int vr264), .val (.int 0), .val (.ref b265)] [(.ref b281)]))) (fun _ k => st281.trans k) ?_
        obtain ⟨cq283, kq283, q283a, q283b, q283c⟩ := isOf hZ rfl p281_0
        obtain ⟨_, _, ⟨T283, L283, k283, n283⟩, -, X283, ⟨Lc283, hQ283, l283, y283, z283⟩, st283⟩ := X281.virtualBack hx (y := (⟨"com/example/floodgauge/floodgauge/cli/Option", "isFlag", "()Z"⟩ : MethodName)) (z := (⟨"com/example/floodgauge/floodgauge/cli/Option", "isFlag", "()Z"⟩ : MethodName)) hown (mvT hZ (wd hw 58 rfl)) (mvT hZ (wd hw 59 rfl)) (notFace_of_selects (args := #[]) (mvT hZ (wd hw 61 rfl))) (mvT hZ (wd hw 61 rfl)) (mvT hZ (wd hw 60 rfl)) (by decide) (backOf (W := 0) (rm_flag1 l Z a0 hw [] b281 b201 T281.heap n0 Z282 p281_1) hZ (wd hw 62 rfl) (wd hw 32 rfl) (by decide) (by decide)) q283a q283c (g := (mkF m 173 #[.val (.int p1), .val (.int p2), .val (.int p3), .val (.int p4), .val (.int v197), .val (.ref b201), .val (.ref b251), .val o253, .val o255, .val o257, .val o259, .val (.int rq262), .val (.int vr264), .val (.int 0), .val (.ref b265)] [(.ref b281)])) rfl (by rw [hml]; rfl) (Steps.refl _) (argsL := []) (rest := []) (lenOf pd_12 rfl) rfl (by show 2 * 0 + _ ≤ _; exact Nat.le_of_eq rfl) (hb hby at_173) (fun _ _ => ⟨rfl, rfl, Nat.le_of_ble_eq_true rfl, Nat.le_of_ble_eq_true rfl⟩)
        dsimp only [Pt.U, Pt.locs, Pt.cells, Pt.slots] at X283 l283 y283 z283 st283 hQ283
        subst l283 y283 z283
        obtain ⟨rfl, Nq283, hh283⟩ := hQ283
        have N283 := Fr.app N281 Nq283
        refine Go.by (B := (T283.setTop (mkF m 176 #[.val (.int p1), .val (.int p2), .val (.int p3), .val (.int p4), .val (.int v197), .val (.ref b201), .val (.ref b251), .val o253, .val o255, .val o257, .val o259, .val (.int rq262), .val (.int vr264), .val (.int 0), .val (.ref b265)] [(.int 0)]))) (fun _ k => st283.trans k) ?_
        refine Go.by (B := (T283.setTop (mkF m 185 #[.val (.int p1), .val (.int p2), .val (.int p3), .val (.int p4), .val (.int v197), .val (.ref b201), .val (.ref b251), .val o253, .val o255, .val o257, .val o259, .val (.int rq262), .val (.int vr264), .val (.int 0), .val (.ref b265)] [(.ref b265)]))) (fun _ k => XS.iload X283.here hx rfl (hb hby at_176) rfl (XS.icmpYes X283.here hx rfl (pc0 := 178) (pc' := 183) rfl (hb hby at_178) rfl (teq (by decide : (0 : Int32) = (0 : Int32))).1 (by decide) (by decide) (XS.aload X283.here hx rfl (hb hby at_183) rfl rfl k))) ?_
        have f284 := ((p275_1.keep K278 nin0).keep K281 nin0)
        have f285 := ((p275_2.keep K278 nin0).keep K281 nin0)
        have f286 := ((p275_3.keep K278 nin0).keep K281 nin0)
        have f287 := ((p275_4.keep K278 nin0).keep K281 nin0)
        have f288 := ((p275_5.keep K278 nin0).keep K281 nin0)
        have f289 := ((p275_6.keep K278 nin0).keep K281 nin0)
        have f290 := ((p275_7.keep K278 nin0).keep K281 nin0)
        obtain ⟨cq291, kq291, q291a, q291b, q291c⟩ := isOf hZ hh283 ((p275_0.keep K278).keep K281)
        obtain ⟨_, _, ⟨T291, L291, k291, n291⟩, -, X291, ⟨Lc291, hQ291, l291, y291, z291⟩, st291⟩ := X283.virtualBack hx (y := (⟨"com/example/floodgauge/floodgauge/cli/Option", "fromVariable", "()Lcom/example/floodgauge/floodgauge/cli/Option;"⟩ : MethodName)) (z := (⟨"com/example/floodgauge/floodgauge/cli/Option", "fromVariable", "()Lcom/example/floodgauge/floodgauge/cli/Option;"⟩ : MethodName)) hown (mvT hZ (wd hw 75 rfl)) (mvT hZ (wd hw 76 rfl)) (notFace_of_selects (args := #[]) (mvT hZ (wd hw 78 rfl))) (mvT hZ (wd hw 78 rfl)) (mvT hZ (wd hw 77 rfl)) (by decide) (backOf (W := 0) (rm_fromVar l Z a0 hw [] b265 (.ref b251) (.ref b201) o253 o255 (nar .boolean rq262) o257 o259 T281.heap n0 Z282 O282 f284 f285 f286 f287 f288 f289 f290 rfl rfl p253_0 p255_0 p257_0 p259_0) hZ (wd hw 79 rfl) (wd hw 32 rfl) (by decide) (by decide)) q291a q291c (g := (mkF m 185 #[.val (.int p1), .val (.int p2), .val (.int p3), .val (.int p4), .val (.int v197), .val (.ref b201), .val (.ref b251), .val o253, .val o255, .val o257, .val o259, .val (.int rq262), .val (.int vr264), .val (.int 0), .val (.ref b265)] [(.ref b265)])) rfl (by rw [hml]; rfl) (Steps.refl _) (argsL := []) (rest := []) (lenOf pd_14 rfl) rfl (by show 2 * 0 + _ ≤ _; exact Nat.le_of_eq rfl) (hb hby at_185) (fun _ _ => ⟨rfl, hh283, Nat.le_of_ble_eq_true rfl, Nat.le_of_ble_eq_true rfl⟩)
        dsimp only [Pt.U, Pt.locs, Pt.cells, Pt.slots] at X291 l291 y291 z291 st291 hQ291
        subst l291 y291 z291
        obtain ⟨b291, rfl, Nq291, K291, p291_0, p291_1, p291_2⟩ := hQ291
        have N291 := Fr.app N283 Nq291
        have C292 := C282.trans (CHr.keep K291 sf0 C282.1)
        have O292 := O282.keep K291 all0
        have Z292 : n0 ≤ T291.heap.size := Nat.le_trans Z282 K291.1
        have sz_b291 : T281.heap.size ≤ b291 := p291_2
        refine Go.by (B := (T291.setTop (mkF m 188 #[.val (.int p1), .val (.int p2), .val (.int p3), .val (.int p4), .val (.int v197), .val (.ref b201), .val (.ref b251), .val o253, .val o255, .val o257, .val o259, .val (.int rq262), .val (.int vr264), .val (.int 0), .val (.ref b265)] [(.ref b291)]))) (fun _ k => st291.trans k) ?_
        obtain ⟨cq293, kq293, q293a, q293b, q293c⟩ := isOf hZ rfl p291_0
        obtain ⟨_, _, ⟨T293, L293, k293, n293⟩, -, X293, ⟨Lc293, hQ293, l293, y293, z293⟩, st293⟩ := X291.virtualBack hx (y := (⟨"com/example/floodgauge/floodgauge/cli/Option", "isFlag", "()Z"⟩ : MethodName)) (z := (⟨"com/example/floodgauge/floodgauge/cli/Option", "isFlag", "()Z"⟩ : MethodName)) hown (mvT hZ (wd hw 58 rfl)) (mvT hZ (wd hw 59 rfl)) (notFace_of_selects (args := #[]) (mvT hZ (wd hw 61 rfl))) (mvT hZ (wd hw 61 rfl)) (mvT hZ (wd hw 60 rfl)) (by decide) (backOf (W := 0) (rm_flag1 l Z a0 hw [] b291 b201 T291.heap n0 Z292 p291_1) hZ (wd hw 62 rfl) (wd hw 32 rfl) (by decide) (by decide)) q293a q293c (g := (mkF m 188 #[.val (.int p1), .val (.int p2), .val (.int p3), .val (.int p4), .val (.int v197), .val (.ref b201), .val (.ref b251), .val o253, .val o255, .val o257, .val o259, .val (.int rq262), .val (.int vr264), .val (.int 0), .val (.ref b265)] [(.ref b291)])) rfl (by rw [hml]; rfl) (Steps.refl _) (argsL := []) (rest := []) (lenOf pd_12 rfl) rfl (by show 2 * 0 + _ ≤ _; exact Nat.le_of_eq rfl) (hb hby at_188) (fun _ _ => ⟨rfl, rfl, Nat.le_of_ble_eq_true rfl, Nat.le_of_ble_eq_true rfl⟩)
        dsimp only [Pt.U, Pt.locs, Pt.cells, Pt.slots] at X293 l293 y293 z293 st293 hQ293
        subst l293 y293 z293
        obtain ⟨rfl, Nq293, hh293⟩ := hQ293
        have N293 := Fr.app N291 Nq293
        refine Go.by (B := (T293.setTop (mkF m 191 #[.val (.int p1), .val (.int p2), .val (.int p3), .val (.int p4), .val (.int v197), .val (.ref b201), .val (.ref b251), .val o253, .val o255, .val o257, .val o259, .val (.int rq262), .val (.int vr264), .val (.int 0), .val (.ref b265)] [(.int 0)]))) (fun _ k => st293.trans k) ?_
        refine Go.by (B := (T293.setTop (mkF m 202 #[.val (.int p1), .val (.int p2), .val (.int p3), .val (.int p4), .val (.int v197), .val (.ref b201), .val (.ref b251), .val o253, .val o255, .val o257, .val o259, .val (.int rq262), .val (.int vr264), .val (.int 0), .val (.ref b265)] [o253, (.ref b251)]))) (fun _ k => XS.iload X293.here hx rfl (hb hby at_191) rfl (XS.icmpYes X293.here hx rfl (pc0 := 193) (pc' := 198) rfl (hb hby at_193) rfl (teq (by decide : (0 : Int32) = (0 : Int32))).1 (by decide) (by decide) (XS.aload X293.here hx rfl (hb hby at_198) rfl rfl (XS.aload X293.here hx rfl (hb hby at_200) rfl p253_0 k)))) ?_
        obtain ⟨_, _, ⟨T294, L294, k294, n294⟩, -, X294, ⟨Lc294, hQ294, l294, y294, z294⟩, st294⟩ := Jvm.LawKit.callS X293 hx (y := (⟨"com/example/floodgauge/floodgauge/cli/Option", "flag", "(Ljava/lang/String;Ljava/lang/String;)Lcom/example/floodgauge/floodgauge/cli/Option;"⟩ : MethodName)) hown (mvT hZ (wd hw 80 rfl)) (mvT hZ (wd hw 81 rfl)) (mvT hZ (wd hw 32 rfl)) (mvT hZ (wd hw 82 rfl)) (by decide) (backOf (W := 0) (rm_flag l Z a0 hw [] (.ref b251) o253 T291.heap n0 Z292 O292 rfl p253_0) hZ (wd hw 82 rfl) (wd hw 32 rfl) (by decide) (by decide)) (g := (mkF m 202 #[.val (.int p1), .val (.int p2), .val (.int p3), .val (.int p4), .val (.int v197), .val (.ref b201), .val (.ref b251), .val o253, .val o255, .val o257, .val o259, .val (.int rq262), .val (.int vr264), .val (.int 0), .val (.ref b265)] [o253, (.ref b251)])) rfl (by rw [hml]; rfl) (argsL := [(.ref b251), o253]) (rest := []) (lenOf pd_15 rfl) rfl (by show 2 * 0 + _ ≤ _; exact Nat.le_of_eq rfl) (hb hby at_202) (fun _ _ => ⟨rfl, hh293, Nat.le_of_ble_eq_true rfl, Nat.le_of_ble_eq_true rfl⟩)
        dsimp only [Pt.U, Pt.locs, Pt.cells, Pt.slots] at X294 l294 y294 z294 st294 hQ294
        subst l294 y294 z294
        obtain ⟨b294, rfl, Nq294, K294, p294_0, p294_1, p294_2⟩ := hQ294
        have N294 := Fr.app N293 Nq294
        have C295 := C292.trans (CHr.keep K294 sf0 C292.1)
        have O295 := O292.keep K294 all0
        have Z295 : n0 ≤ T294.heap.size := Nat.le_trans Z292 K294.1
        have sz_b294 : T291.heap.size ≤ b294 := p294_2
        refine Go.by (B := (T294.setTop (mkF m 205 #[.val (.int p1), .val (.int p2), .val (.int p3), .val (.int p4), .val (.int v197), .val (.ref b201), .val (.ref b251), .val o253, .val o255, .val o257, .val o259, .val (.int rq262), .val (.int vr264), .val (.int 0), .val (.ref b265)] [(.ref b294)]))) (fun _ k => st294 _ k) ?_
        obtain ⟨cq296, kq296, q296a, q296b, q296c⟩ := isOf hZ rfl p294_0
        obtain ⟨_, _, ⟨T296, L296, k296, n296⟩, -, X296, ⟨Lc296, hQ296, l296, y296, z296⟩, st296⟩ := X294.virtualBack hx (y := (⟨"com/example/floodgauge/floodgauge/cli/Option", "isFlag", "()Z"⟩ : MethodName)) (z := (⟨"com/example/floodgauge/floodgauge/cli/Option", "isFlag", "()Z"⟩ : MethodName)) hown (mvT hZ (wd hw 58 rfl)) (mvT hZ (wd hw 59 rfl)) (notFace_of_selects (args := #[]) (mvT hZ (wd hw 61 rfl))) (mvT hZ (wd hw 61 rfl)) (mvT hZ (wd hw 60 rfl)) (by decide) (backOf (W := 0) (rm_flag0 l Z a0 hw [] b294 T294.heap n0 Z295 p294_1) hZ (wd hw 62 rfl) (wd hw 32 rfl) (by decide) (by decide)) q296a q296c (g := (mkF m 205 #[.val (.int p1), .val (.int p2), .val (.int p3), .val (.int p4), .val (.int v197), .val (.ref b201), .val (.ref b251), .val o253, .val o255, .val o257, .val o259, .val (.int rq262), .val (.int vr264), .val (.int 0), .val (.ref b265)] [(.ref b294)])) rfl (by rw [hml]; rfl) (Steps.refl _) (argsL := []) (rest := []) (lenOf pd_12 rfl) rfl (by show 2 * 0 + _ ≤ _; exact Nat.le_of_eq rfl) (hb hby at_205) (fun _ _ => ⟨rfl, rfl, Nat.le_of_ble_eq_true rfl, Nat.le_of_ble_eq_true rfl⟩)
        dsimp only [Pt.U, Pt.locs, Pt.cells, Pt.slots] at X296 l296 y296 z296 st296 hQ296
        subst l296 y296 z296
        obtain ⟨rfl, Nq296, hh296⟩ := hQ296
        have N296 := Fr.app N294 Nq296
        refine Go.by (B := (T296.setTop (mkF m 208 #[.val (.int p1), .val (.int p2), .val (.int p3), .val (.int p4), .val (.int v197), .val (.ref b201), .val (.ref b251), .val o253, .val o255, .val o257, .val o259, .val (.int rq262), .val (.int vr264), .val (.int 0), .val (.ref b265)] [(.int 1)]))) (fun _ k => st296.trans k) ?_
        have hkE297 : _ ≤ T296.heap.size := (by rw [hh296]; exact (Nat.le_trans (Nat.le_trans (Nat.le_trans (Nat.le_trans (Nat.le_trans (Nat.le_trans hk E265.1) K275.1) K278.1) K281.1) K291.1) K294.1))
        have CE297 : CHr Z own_EL s.vm s.heap T259.vm T296.heap := (by rw [hh296]; exact C295)
        refine Go.retS X296 hx hlk hS hkE297 hZ hEL CE297 (t := .boolean) hret rfl (Or.inl ⟨rfl, by simp, _, rfl⟩) (hb hby at_208) (by decide) (by decide) ?_
        exact ⟨rfl, N296⟩
      refine Go.by (B := (T262.setTop (mkF m 90 #[.val (.int p1), .val (.int p2), .val (.int p3), .val (.int p4), .val (.int v197), .val (.ref b201), .val (.ref b251), .val o253, .val o255, .val o257, .val o259, .val (.int rq262), .unset, .unset, .unset] [(.int (p3 &&& (2 : Int32)))]))) (fun _ k => XS.iloadN X263.here hx rfl (hb hby at_87) rfl (XS.iconst X263.here hx rfl (hb hby at_88) (XS.iand X263.here hx rfl (hb hby at_89) rfl k))) ?_
      by_cases c298 : (p3 &&& (2 : Int32)) = (0 : Int32)
      · skip
        refine Go.by (B := (T262.setTop (mkF m 98 #[.val (.int p1), .val (.int p2), .val (.int p3), .val (.int p4), .val (.int v197), .val (.ref b201), .val (.ref b251), .val o253, .val o255, .val o257, .val o259, .val (.int rq262), .unset, .unset, .unset] [(.int 0)]))) (fun _ k => XS.ifYes X263.here hx rfl (pc0 := 90) (pc' := 97) rfl (hb hby at_90) rfl ((if0 _ _).trans (teq c298).1) (by decide) (by decide) (XS.iconst X263.here hx rfl (hb hby at_97) k)) ?_
        exact J263 T262 X263 e263 (0 : Int32)
      · skip
        refine Go.by (B := (T262.setTop (mkF m 98 #[.val (.int p1), .val (.int p2), .val (.int p3), .val (.int p4), .val (.int v197), .val (.ref b201), .val (.ref b251), .val o253, .val o255, .val o257, .val o259, .val (.int rq262), .unset, .unset, .unset] [(.int 1)]))) (fun _ k => XS.ifNo X263.here hx rfl (hb hby at_90) rfl ((if0 _ _).trans (feq c298).1) (XS.iconst X263.here hx rfl (hb hby at_93) (XS.goto X263.here hx rfl (pc0 := 94) (pc' := 98) rfl (hb hby at_94) (by decide) (by decide) k))) ?_
        exact J263 T262 X263 e263 (1 : Int32)
    refine Go.by (B := (T259.setTop (mkF m 77 #[.val (.int p1), .val (.int p2), .val (.int p3), .val (.int p4), .val (.int v197), .val (.ref b201), .val (.ref b251), .val o253, .val o255, .val o257, .val o259, .unset, .unset, .unset, .unset] [(.int (p3 &&& (1 : Int32)))]))) (fun _ k => XS.iloadN X261.here hx rfl (hb hby at_74) rfl (XS.iconst X261.here hx rfl (hb hby at_75) (XS.iand X261.here hx rfl (hb hby at_76) rfl k))) ?_
    by_cases c299 : (p3 &&& (1 : Int32)) = (0 : Int32)
    · skip
      refine Go.by (B := (T259.setTop (mkF m 85 #[.val (.int p1), .val (.int p2), .val (.int p3), .val (.int p4), .val (.int v197), .val (.ref b201), .val (.ref b251), .val o253, .val o255, .val o257, .val o259, .unset, .unset, .unset, .unset] [(.int 0)]))) (fun _ k => XS.ifYes X261.here hx rfl (pc0 := 77) (pc' := 84) rfl (hb hby at_77) rfl ((if0 _ _).trans (teq c299).1) (by decide) (by decide) (XS.iconst X261.here hx rfl (hb hby at_84) k)) ?_
      exact J261 T259 X261 e261 (0 : Int32)
    · skip
      refine Go.by (B := (T259.setTop (mkF m 85 #[.val (.int p1), .val (.int p2), .val (.int p3), .val (.int p4), .val (.int v197), .val (.ref b201), .val (.ref b251), .val o253, .val o255, .val o257, .val o259, .unset, .unset, .unset, .unset] [(.int 1)]))) (fun _ k => XS.ifNo X261.here hx rfl (hb hby at_77) rfl ((if0 _ _).trans (feq c299).1) (XS.iconst X261.here hx rfl (hb hby at_80) (XS.goto X261.here hx rfl (pc0 := 81) (pc' := 85) rfl (hb hby at_81) (by decide) (by decide) k))) ?_
      exact J261 T259 X261 e261 (1 : Int32)
set_option maxRecDepth 65536 in
set_option maxHeartbeats 40000000 in
theorem comes_1 {Post : Tables → Env → Array Value → State → Outcome → State → Prop} (hpost : ∀ tb e args s v u, (limb_1_1.after args s (.returned v) u = true ∧ limb_1_2.after args s (.returned v) u = true ∧ True) → ReturnedEndW s (.returned v) u (Jvm.fieldLocs frame_1_writes args s ++ Jvm.arrayLocs frame_1_arrays args s ++ Jvm.staticLocs frame_1_statics s) 56 1280 → Post tb e args s (.returned v) u) :
    ArmFor flags0 classFile x code maxLocals ret World_1 tables_1 room_1 Calls_1 rest_1 Pre_1 Post := by
  intro l hfl _ _ p e ha hc hk s m args below hf hA hF happ hP
  obtain ⟨hcalls, hrest, hpre⟩ := hP
  obtain ⟨-, -, -, hnamed, -, -, -, hat⟩ := (Spec.applies_iff hf).mp happ
  obtain ⟨hg, hn⟩ := and_e (Cond.before_iff.mp (show (Jvm.Cond.and given_1 narrow_1).before args s = true from hpre))
  obtain ⟨hg0, hgr0⟩ := and_e hg
  obtain ⟨ga0, hgr1⟩ := and_e hgr0
  obtain ⟨ga1, hgr2⟩ := and_e hgr1
  obtain ⟨ga2, hgr3⟩ := and_e hgr2
  obtain ⟨w0, w1, w2, w3, rfl⟩ : ∃ w0 w1 w2 w3 : Value, args = #[w0, w1, w2, w3] := by
    have hs : args.size = 4 := by simpa [Cond.value, given_1] using hg0
    obtain ⟨L⟩ := args
    match L, hs with
    | [w0, w1, w2, w3], _ => exact ⟨w0, w1, w2, w3, rfl⟩
  have hw := fun d (hd : d ∈ tables_1) => atoms_spec (ws := Jvm.Cond.code x code maxLocals ret :: tables_1) hat d (List.mem_cons_of_mem _ hd)
  have hfit : Fit s := fun {y c} hc i hi => by
    obtain ⟨ha, rfl⟩ := Array.getElem?_eq_some_iff.mp hc
    have q := List.all_eq_true.mp ((Array.all_eq_true_iff_forall_mem.mp hF) _ (Array.getElem_mem ha)) i (List.mem_range.mpr hi)
    simpa [Array.getElem?_eq_getElem hi] using q
  obtain ⟨hsets, hown0⟩ := atoms_of _ (rest_1_c_eq ▸ (show rest_1_c.before _ s = true from hrest))
  have hr0 := Cond.before_iff.mp hown0
  obtain ⟨i0, ei0⟩ := is_v ga0
  obtain rfl : w0 = (.int i0) := Option.some.inj ei0
  obtain ⟨i1, ei1⟩ := is_v ga1
  obtain rfl : w1 = (.int i1) := Option.some.inj ei1
  obtain ⟨i2, ei2⟩ := is_v ga2
  obtain rfl : w2 = (.int i2) := Option.some.inj ei2
  obtain ⟨i3, ei3⟩ := is_v hgr3
  obtain rfl : w3 = (.int i3) := Option.some.inj ei3
  have ncs := not_v (Cond.before_iff.mp (hsets _ (List.mem_of_getElem? (i := 2) rfl)))
  obtain ⟨cs, ecs⟩ := is_v (Cond.before_iff.mp (hsets _ (List.mem_of_getElem? (i := 1) rfl)))
  have Scs : Sta s s.heap "java/lang/String" "COMPACT_STRINGS" "Z" (.int cs) := Sta.start ecs (Or.inl (hsets _ (List.mem_of_getElem? (i := 0) rfl)))
  have hcs : ¬ (cs = (0 : Int32)) := gotF (Cond.eq_ints ecs (Term.int_eval (0))) ncs
  have hCH : CHv s own_EL s.vm s.heap := CHv.start (own_hEL hw) (fun p hp => hcalls.1 p hp) (hsets _ (List.mem_of_getElem? (i := 2) rfl)) (wd hw 18 rfl) (wd hw 14 rfl)
  obtain ⟨n, o, h1, h2, h3, _, L, rfl, ⟨rfl, N⟩, -, hq⟩ := rm0 l s _ hw tables_1 i0 i1 i2 i3 cs s.heap s.heap.size (Nat.le_refl _) (Old.start s) Scs hcs p e ha hc hk s m _ below hf ((Spec.applies_iff_loose hf).mp happ).1 ⟨rfl, State.Warmed39.refl s, rfl, hCH⟩ trivial
  refine ⟨n, _, h1, h2, h3, hpost _ _ _ _ _ _ ⟨Cond.after_iff.mpr rfl, Cond.after_iff.mpr (eq_i res_at (Term.int_eval (1)) rfl), trivial⟩ ⟨hq.1, hq.2.1, hq.2.2.1, (hq.2.2.2.sift fun y hy => Or.inr (N y hy)).mono (by decide) (by decide)⟩⟩
theorem main_1_1 : Claimed_1_1 := comes_1 fun _ _ _ _ _ _ h hF => ⟨h.1, hF⟩
theorem main_1_2 : Claimed_1_2 := comes_1 fun _ _ _ _ _ _ h hF => ⟨h.2.1, hF⟩
end Jvm.Pilot.@@N@@
namespace Jvm.Pilot.@@N@@
open Jvm Jvm.ClassFile Sem Op Lib Jvm.Free Jvm.Stand Jvm.Pilot.@@N@@.Jvm.D
/-! MADE BY PROGRAM (witnessworld.py) out of the Statement's table words and the real class files: 21 classes; the members and pool entries that the words name. The judged class is class 1, her method 2. -/
namespace start1
open Jvm.ClassFile
def u (s : String) : CpInfo := .utf8 (stringToUtf16 s)
/-- a pool by its gaps: so many unusable entries, then the entry; so many at the end -/
def gap : Nat → List CpInfo → List CpInfo
  | 0, r => r
  | n + 1, r => .unusable :: gap n r
def poolList (es : List (Nat × CpInfo)) (last : Nat) : List CpInfo := es.foldr (fun e r => gap e.1 (e.2 :: r)) (gap last [])
def pool (es : List (Nat × CpInfo)) (last : Nat) : Array CpInfo := ⟨poolList es last⟩
def fileOf (pool : Array CpInfo) (this : Nat) (attrs : Array Attribute := #[]) (ms : Array MethodInfo := #[]) (fl : Nat := 33) (sup : Nat := 0) (ifs : Array Nat := #[]) (fds : Array FieldInfo := #[]) : ClassFile where
  minorVersion := 0
  majorVersion := 65
  constantPool := pool
  accessFlags := fl
  thisClass := this
  superClass := sup
  interfaces := ifs
  fields := fds
  methods := ms
  attributes := attrs
def plain (name : String) (sup : Option ClassId) : Class where
  name := name
  kind := .ordinary
  loader := none
  accessFlags := 33
  super := sup
  interfaces := #[]
  cf := none
  fields := #[]
  methods := #[]
  instanceTypes := #[]
  staticTypes := #[]
  resolved := #[]
  callSites := []
  init := .initialized
  statics := none
  mirror := none

def pool0 : Array CpInfo := pool [(5, u "<init>"), (0, u "()V"), (1, .class_ 10), (1, u "java/lang/Object")] 113

def k0c0 : Code := { maxStack := 0, maxLocals := 1, code := object_method_1_code, exceptionTable := #[], attributes := #[] }
def k0m0 : Method := { name := "<init>", desc := "()V", sig := { parameters := [], returnType := none }, accessFlags := 1, code := some k0c0 }
/-- java/lang/Object -/
def k0 : Class := { plain "java/lang/Object" none with
  accessFlags := 33
  interfaces := #[]
  cf := some (fileOf pool0 8 #[] #[{ accessFlags := 1, nameIndex := 5, descriptorIndex := 6, attributes := #[] }] 33 0 #[] #[])
  fields := #[]
  methods := #[k0m0]
  instanceTypes := #[]
  staticTypes := #[]
  resolved := Array.replicate 124 none
  statics := none }

def pool1 : Array CpInfo := pool [(2, .class_ 4), (1, u "java/lang/Object"), (0, u "<init>"), (0, u "()V"), (0, .class_ 8), (0, u "java/lang/String"), (0, .methodref 7 10), (0, .nameAndType 5 11), (0, u "([C)V"), (0, .methodref 7 13), (0, .nameAndType 14 15), (0, u "valueOf"), (0, u "(C)Ljava/lang/String;"), (0, .methodref 17 18), (0, .class_ 19), (0, .nameAndType 20 21), (0, u "com/example/floodgauge/floodgauge/cli/OptionIsFlagPinLaw"), (0, u "drawn"), (0, u "(II)Ljava/lang/String;"), (0, .class_ 23), (0, u "com/example/floodgauge/floodgauge/cli/Option"), (0, .methodref 22 25), (0, .nameAndType 5 26), (0, u "(Ljava/lang/String;Ljava/lang/String;Ljava/lang/String;Ljava/lang/String;ZLjava/lang/String;Ljava/lang/String;Z)V"), (0, .methodref 22 28), (0, .nameAndType 29 30), (0, u "isFlag"), (0, u "()Z"), (0, .methodref 22 32), (0, .nameAndType 33 34), (0, u "withDefault"), (0, u "(Ljava/lang/String;)Lcom/example/floodgauge/floodgauge/cli/Option;"), (0, .methodref 22 36), (0, .nameAndType 37 34), (0, u "withNote"), (0, .methodref 22 39), (0, .nameAndType 40 41), (0, u "fromVariable"), (0, u "()Lcom/example/floodgauge/floodgauge/cli/Option;"), (0, .methodref 22 43), (0, .nameAndType 44 45), (0, u "flag"), (0, u "(Ljava/lang/String;Ljava/lang/String;)Lcom/example/floodgauge/floodgauge/cli/Option;"), (3, u "law"), (0, u "(IIII)Z")] 2

def k1m0 : Method := { name := "<init>", desc := "()V", sig := { parameters := [], returnType := none }, accessFlags := 1, code := none }
def k1c1 : Code := { maxStack := 7, maxLocals := 3, code := method_2_code, exceptionTable := #[], attributes := #[] }
def k1m1 : Method := { name := "drawn", desc := "(II)Ljava/lang/String;", sig := { parameters := [.int, .int], returnType := some (.object "java/lang/String") }, accessFlags := 10, code := some k1c1 }
def k1c2 : Code := { maxStack := 10, maxLocals := 15, code := code, exceptionTable := #[], attributes := #[] }
def k1m2 : Method := { name := "law", desc := "(IIII)Z", sig := { parameters := [.int, .int, .int, .int], returnType := some .boolean }, accessFlags := 9, code := some k1c2 }
/-- com/example/floodgauge/floodgauge/cli/OptionIsFlagPinLaw -/
def k1 : Class := { plain "com/example/floodgauge/floodgauge/cli/OptionIsFlagPinLaw" (some 0) with
  accessFlags := 49
  interfaces := #[]
  cf := some (fileOf pool1 17 #[] #[{ accessFlags := 1, nameIndex := 5, descriptorIndex := 6, attributes := #[] }, { accessFlags := 10, nameIndex := 20, descriptorIndex := 21, attributes := #[] }, { accessFlags := 9, nameIndex := 49, descriptorIndex := 50, attributes := #[] }] 49 2 #[] #[])
  fields := #[]
  methods := #[k1m0, k1m1, k1m2]
  instanceTypes := #[]
  staticTypes := #[]
  resolved := Array.replicate 53 none
  statics := none }

def pool2 : Array CpInfo := pool [(1, .class_ 2), (0, u "java/io/Serializable"), (0, .class_ 4), (0, u "java/lang/Object")] 2

/-- java/io/Serializable -/
def k2 : Class := { plain "java/io/Serializable" (some 0) with
  accessFlags := 1537
  interfaces := #[]
  cf := some (fileOf pool2 1 #[] #[] 1537 3 #[] #[])
  fields := #[]
  methods := #[]
  instanceTypes := #[]
  staticTypes := #[]
  resolved := Array.replicate 7 none
  statics := none }

def pool3 : Array CpInfo := pool [(1, .class_ 2), (0, u "java/lang/Comparable"), (0, .class_ 4), (0, u "java/lang/Object")] 7

/-- java/lang/Comparable -/
def k3 : Class := { plain "java/lang/Comparable" (some 0) with
  accessFlags := 1537
  interfaces := #[]
  cf := some (fileOf pool3 1 #[] #[] 1537 3 #[] #[])
  fields := #[]
  methods := #[]
  instanceTypes := #[]
  staticTypes := #[]
  resolved := Array.replicate 12 none
  statics := none }

def pool4 : Array CpInfo := pool [(2, .class_ 4), (1, u "java/lang/CharSequence"), (42, .class_ 48), (0, u "java/lang/CharSequence$1CodePointIterator"), (10, .class_ 60), (0, u "java/lang/CharSequence$1CharIterator"), (5, .class_ 67), (0, u "java/lang/Object")] 63

/-- java/lang/CharSequence -/
def k4 : Class := { plain "java/lang/CharSequence" (some 0) with
  accessFlags := 1537
  interfaces := #[]
  cf := some (fileOf pool4 2 #[.nestMembers #[47, 59]] #[] 1537 66 #[] #[])
  fields := #[]
  methods := #[]
  instanceTypes := #[]
  staticTypes := #[]
  resolved := Array.replicate 131 none
  statics := none }

def pool5 : Array CpInfo := pool [(1, .class_ 2), (0, u "java/lang/constant/Constable"), (0, .class_ 4), (0, u "java/lang/Object")] 6

/-- java/lang/constant/Constable -/
def k5 : Class := { plain "java/lang/constant/Constable" (some 0) with
  accessFlags := 1537
  interfaces := #[]
  cf := some (fileOf pool5 1 #[] #[] 1537 3 #[] #[])
  fields := #[]
  methods := #[]
  instanceTypes := #[]
  staticTypes := #[]
  resolved := Array.replicate 11 none
  statics := none }

def pool6 : Array CpInfo := pool [(1, .class_ 2), (0, u "java/lang/constant/ConstantDesc"), (0, .class_ 4), (0, u "java/lang/Object")] 32

/-- java/lang/constant/ConstantDesc -/
def k6 : Class := { plain "java/lang/constant/ConstantDesc" (some 0) with
  accessFlags := 1537
  interfaces := #[]
  cf := some (fileOf pool6 1 #[] #[] 1537 3 #[] #[])
  fields := #[]
  methods := #[]
  instanceTypes := #[]
  staticTypes := #[]
  resolved := Array.replicate 37 none
  statics := none }

def pool7 : Array CpInfo := pool [(1, .methodref 2 3), (0, .class_ 4), (0, .nameAndType 5 6), (0, u "java/lang/Object"), (0, u "<init>"), (0, u "()V"), (0, .string 8), (0, u ""), (0, .fieldref 10 11), (0, .class_ 12), (0, .nameAndType 13 14), (0, u "java/lang/String"), (0, u "value"), (0, u "[B"), (0, .fieldref 10 16), (0, .nameAndType 17 18), (0, u "coder"), (0, u "B"), (2, u "hash"), (0, u "I"), (2, u "hashIsZero"), (0, u "Z"), (0, .methodref 10 28), (0, .nameAndType 5 29), (0, u "([CIILjava/lang/Void;)V"), (8, .fieldref 10 39), (0, .nameAndType 40 26), (0, u "COMPACT_STRINGS"), (1, .class_ 44), (1, u "java/lang/StringUTF16"), (0, u "compress"), (1, .methodref 42 48), (0, .nameAndType 49 50), (0, u "coderFromArrayLen"), (0, u "([BI)B"), (2, u "toBytes"), (53, .class_ 109), (1, u "java/lang/StringLatin1"), (67, .methodref 42 178), (0, .nameAndType 45 179), (0, u "([CII)[B"), (29, .methodref 10 210), (0, .nameAndType 5 211), (0, u "([BB)V"), (157, u "(C)Z"), (205, .class_ 576), (0, u "java/lang/CharSequence"), (22, u "CASE_INSENSITIVE_ORDER"), (0, u "Ljava/util/Comparator;"), (181, u "valueOf"), (0, u "(C)Ljava/lang/String;"), (226, u "([C)V"), (4, .methodref 107 1016), (0, .nameAndType 1017 369), (0, u "canEncode"), (0, .methodref 107 1019), (0, .nameAndType 53 1020), (0, u "(C)[B"), (80, u "serialPersistentFields"), (0, u "[Ljava/io/ObjectStreamField;"), (0, .class_ 1104), (0, u "java/lang/String$CaseInsensitiveComparator"), (1, .class_ 1107), (0, u "java/io/Serializable"), (0, .class_ 1109), (0, u "java/lang/Comparable"), (0, .class_ 1111), (0, u "java/lang/constant/Constable"), (0, .class_ 1113), (0, u "java/lang/constant/ConstantDesc"), (2, u "serialVersionUID"), (0, u "J"), (3, u "REPL"), (0, u "C"), (2, u "LATIN1"), (1, u "UTF16")] 323

def k7m0 : Method := { name := "<init>", desc := "()V", sig := { parameters := [], returnType := none }, accessFlags := 1, code := none }
def k7c1 : Code := { maxStack := 5, maxLocals := 2, code := jdk_42_method_3_code, exceptionTable := #[], attributes := #[] }
def k7m1 : Method := { name := "<init>", desc := "([C)V", sig := { parameters := [(.array .char)], returnType := none }, accessFlags := 1, code := some k7c1 }
def k7c2 : Code := { maxStack := 4, maxLocals := 1, code := jdk_42_method_139_code, exceptionTable := #[], attributes := #[] }
def k7m2 : Method := { name := "valueOf", desc := "(C)Ljava/lang/String;", sig := { parameters := [.char], returnType := some (.object "java/lang/String") }, accessFlags := 9, code := some k7c2 }
def k7c3 : Code := { maxStack := 4, maxLocals := 6, code := jdk_42_method_149_code, exceptionTable := #[], attributes := #[] }
def k7m3 : Method := { name := "<init>", desc := "([CIILjava/lang/Void;)V", sig := { parameters := [(.array .char), .int, .int, (.object "java/lang/Void")], returnType := none }, accessFlags := 2, code := some k7c3 }
def k7c4 : Code := { maxStack := 2, maxLocals := 3, code := jdk_42_method_151_code, exceptionTable := #[], attributes := #[] }
def k7m4 : Method := { name := "<init>", desc := "([BB)V", sig := { parameters := [(.array .byte), .byte], returnType := none }, accessFlags := 0, code := some k7c4 }
/-- java/lang/String -/
def k7 : Class := { plain "java/lang/String" (some 0) with
  accessFlags := 49
  interfaces := #[2, 3, 4, 5, 6]
  cf := some (fileOf pool7 10 #[.nestMembers #[1103]] #[{ accessFlags := 1, nameIndex := 5, descriptorIndex := 6, attributes := #[] }, { accessFlags := 1, nameIndex := 5, descriptorIndex := 1010, attributes := #[] }, { accessFlags := 9, nameIndex := 782, descriptorIndex := 783, attributes := #[] }, { accessFlags := 2, nameIndex := 5, descriptorIndex := 29, attributes := #[] }, { accessFlags := 0, nameIndex := 5, descriptorIndex := 211, attributes := #[] }] 49 2 #[1106, 1108, 575, 1110, 1112] #[{ accessFlags := 18, nameIndex := 13, descriptorIndex := 14, attributes := #[] }, { accessFlags := 18, nameIndex := 17, descriptorIndex := 18, attributes := #[] }, { accessFlags := 2, nameIndex := 21, descriptorIndex := 22, attributes := #[] }, { accessFlags := 2, nameIndex := 25, descriptorIndex := 26, attributes := #[] }, { accessFlags := 26, nameIndex := 1116, descriptorIndex := 1117, attributes := #[] }, { accessFlags := 24, nameIndex := 40, descriptorIndex := 26, attributes := #[] }, { accessFlags := 26, nameIndex := 1101, descriptorIndex := 1102, attributes := #[] }, { accessFlags := 26, nameIndex := 1121, descriptorIndex := 1122, attributes := #[] }, { accessFlags := 25, nameIndex := 599, descriptorIndex := 600, attributes := #[] }, { accessFlags := 24, nameIndex := 1125, descriptorIndex := 18, attributes := #[] }, { accessFlags := 24, nameIndex := 1127, descriptorIndex := 18, attributes := #[] }])
  fields := #[{ name := "value", type := (.array .byte), accessFlags := 18, slot := 0, constantValue := 0 }, { name := "coder", type := .byte, accessFlags := 18, slot := 1, constantValue := 0 }, { name := "hash", type := .int, accessFlags := 2, slot := 2, constantValue := 0 }, { name := "hashIsZero", type := .boolean, accessFlags := 2, slot := 3, constantValue := 0 }, { name := "serialVersionUID", type := .long, accessFlags := 26, slot := 0, constantValue := 0 }, { name := "COMPACT_STRINGS", type := .boolean, accessFlags := 24, slot := 1, constantValue := 0 }, { name := "serialPersistentFields", type := (.array (.object "java/io/ObjectStreamField")), accessFlags := 26, slot := 2, constantValue := 0 }, { name := "REPL", type := .char, accessFlags := 26, slot := 3, constantValue := 0 }, { name := "CASE_INSENSITIVE_ORDER", type := (.object "java/util/Comparator"), accessFlags := 25, slot := 4, constantValue := 0 }, { name := "LATIN1", type := .byte, accessFlags := 24, slot := 5, constantValue := 0 }, { name := "UTF16", type := .byte, accessFlags := 24, slot := 6, constantValue := 0 }]
  methods := #[k7m0, k7m1, k7m2, k7m3, k7m4]
  instanceTypes := #[(.array .byte), .byte, .int, .boolean]
  staticTypes := #[.long, .boolean, (.array (.object "java/io/ObjectStreamField")), .char, (.object "java/util/Comparator"), .byte, .byte]
  resolved := Array.replicate 1451 none
  statics := some 0 }

def pool8 : Array CpInfo := pool [(4, .class_ 6), (1, u "java/lang/Object"), (0, u "<init>"), (0, u "()V"), (5, .class_ 16), (1, u "java/lang/StringLatin1"), (73, u "canEncode"), (14, u "(C)Z"), (15, u "$assertionsDisabled"), (0, u "Z"), (98, .class_ 223), (1, u "java/lang/StringLatin1$LinesSpliterator"), (156, u "toBytes"), (1, u "(C)[B"), (7, .class_ 391), (0, u "java/lang/StringLatin1$CharsSpliterator")] 3

def k8m0 : Method := { name := "<init>", desc := "()V", sig := { parameters := [], returnType := none }, accessFlags := 0, code := none }
def k8c1 : Code := { maxStack := 2, maxLocals := 1, code := jdk_43_method_3_code, exceptionTable := #[], attributes := #[] }
def k8m1 : Method := { name := "canEncode", desc := "(C)Z", sig := { parameters := [.char], returnType := some .boolean }, accessFlags := 9, code := some k8c1 }
def k8c2 : Code := { maxStack := 4, maxLocals := 1, code := jdk_43_method_46_code, exceptionTable := #[], attributes := #[] }
def k8m2 : Method := { name := "toBytes", desc := "(C)[B", sig := { parameters := [.char], returnType := some (.array .byte) }, accessFlags := 9, code := some k8c2 }
/-- java/lang/StringLatin1 -/
def k8 : Class := { plain "java/lang/StringLatin1" (some 0) with
  accessFlags := 48
  interfaces := #[]
  cf := some (fileOf pool8 14 #[.nestMembers #[390, 221]] #[{ accessFlags := 0, nameIndex := 7, descriptorIndex := 8, attributes := #[] }, { accessFlags := 9, nameIndex := 90, descriptorIndex := 105, attributes := #[] }, { accessFlags := 9, nameIndex := 380, descriptorIndex := 382, attributes := #[] }] 48 4 #[] #[{ accessFlags := 4120, nameIndex := 121, descriptorIndex := 122, attributes := #[] }])
  fields := #[{ name := "$assertionsDisabled", type := .boolean, accessFlags := 4120, slot := 0, constantValue := 0 }]
  methods := #[k8m0, k8m1, k8m2]
  instanceTypes := #[]
  staticTypes := #[.boolean]
  resolved := Array.replicate 395 none
  statics := none }

def pool9 : Array CpInfo := pool [(1, .methodref 2 3), (0, .class_ 4), (0, .nameAndType 5 6), (0, u "java/lang/Object"), (0, u "<init>"), (0, u "()V"), (0, .class_ 8), (0, u "java/lang/Record")] 13

def k9c0 : Code := { maxStack := 1, maxLocals := 1, code := jdk_30_method_1_code, exceptionTable := #[], attributes := #[] }
def k9m0 : Method := { name := "<init>", desc := "()V", sig := { parameters := [], returnType := none }, accessFlags := 4, code := some k9c0 }
/-- java/lang/Record -/
def k9 : Class := { plain "java/lang/Record" (some 0) with
  accessFlags := 1057
  interfaces := #[]
  cf := some (fileOf pool9 7 #[] #[{ accessFlags := 4, nameIndex := 5, descriptorIndex := 6, attributes := #[] }] 1057 2 #[] #[])
  fields := #[]
  methods := #[k9m0]
  instanceTypes := #[]
  staticTypes := #[]
  resolved := Array.replicate 22 none
  statics := none }

def pool10 : Array CpInfo := pool [(1, .methodref 2 3), (0, .class_ 4), (0, .nameAndType 5 6), (0, u "java/lang/Record"), (0, u "<init>"), (0, u "()V"), (0, .fieldref 8 9), (0, .class_ 10), (0, .nameAndType 11 12), (0, u "com/example/floodgauge/floodgauge/cli/Option"), (0, u "name"), (0, u "Ljava/lang/String;"), (0, .fieldref 8 14), (0, .nameAndType 15 12), (0, u "argument"), (0, .fieldref 8 17), (0, .nameAndType 18 12), (0, u "purpose"), (0, .fieldref 8 20), (0, .nameAndType 21 12), (0, u "condition"), (0, .fieldref 8 23), (0, .nameAndType 24 25), (0, u "required"), (0, u "Z"), (0, .fieldref 8 27), (0, .nameAndType 28 12), (0, u "fallback"), (0, .fieldref 8 30), (0, .nameAndType 31 12), (0, u "note"), (0, .fieldref 8 33), (0, .nameAndType 34 25), (0, u "variable"), (0, .methodref 8 36), (0, .nameAndType 5 37), (0, u "(Ljava/lang/String;Ljava/lang/String;Ljava/lang/String;Ljava/lang/String;ZLjava/lang/String;Ljava/lang/String;Z)V"), (2, u "isFlag"), (0, u "()Z"), (50, u "flag"), (0, u "(Ljava/lang/String;Ljava/lang/String;)Lcom/example/floodgauge/floodgauge/cli/Option;"), (0, u "withDefault"), (0, u "(Ljava/lang/String;)Lcom/example/floodgauge/floodgauge/cli/Option;"), (0, u "withNote"), (2, u "fromVariable"), (0, u "()Lcom/example/floodgauge/floodgauge/cli/Option;")] 48

def k10c0 : Code := { maxStack := 2, maxLocals := 9, code := prog_7_method_1_code, exceptionTable := #[], attributes := #[] }
def k10m0 : Method := { name := "<init>", desc := "(Ljava/lang/String;Ljava/lang/String;Ljava/lang/String;Ljava/lang/String;ZLjava/lang/String;Ljava/lang/String;Z)V", sig := { parameters := [(.object "java/lang/String"), (.object "java/lang/String"), (.object "java/lang/String"), (.object "java/lang/String"), .boolean, (.object "java/lang/String"), (.object "java/lang/String"), .boolean], returnType := none }, accessFlags := 1, code := some k10c0 }
def k10c1 : Code := { maxStack := 10, maxLocals := 2, code := prog_7_method_4_code, exceptionTable := #[], attributes := #[] }
def k10m1 : Method := { name := "flag", desc := "(Ljava/lang/String;Ljava/lang/String;)Lcom/example/floodgauge/floodgauge/cli/Option;", sig := { parameters := [(.object "java/lang/String"), (.object "java/lang/String")], returnType := some (.object "com/example/floodgauge/floodgauge/cli/Option") }, accessFlags := 9, code := some k10c1 }
def k10c2 : Code := { maxStack := 10, maxLocals := 2, code := prog_7_method_5_code, exceptionTable := #[], attributes := #[] }
def k10m2 : Method := { name := "withDefault", desc := "(Ljava/lang/String;)Lcom/example/floodgauge/floodgauge/cli/Option;", sig := { parameters := [(.object "java/lang/String")], returnType := some (.object "com/example/floodgauge/floodgauge/cli/Option") }, accessFlags := 1, code := some k10c2 }
def k10c3 : Code := { maxStack := 10, maxLocals := 2, code := prog_7_method_6_code, exceptionTable := #[], attributes := #[] }
def k10m3 : Method := { name := "withNote", desc := "(Ljava/lang/String;)Lcom/example/floodgauge/floodgauge/cli/Option;", sig := { parameters := [(.object "java/lang/String")], returnType := some (.object "com/example/floodgauge/floodgauge/cli/Option") }, accessFlags := 1, code := some k10c3 }
def k10c4 : Code := { maxStack := 10, maxLocals := 1, code := prog_7_method_9_code, exceptionTable := #[], attributes := #[] }
def k10m4 : Method := { name := "fromVariable", desc := "()Lcom/example/floodgauge/floodgauge/cli/Option;", sig := { parameters := [], returnType := some (.object "com/example/floodgauge/floodgauge/cli/Option") }, accessFlags := 1, code := some k10c4 }
def k10c5 : Code := { maxStack := 1, maxLocals := 1, code := prog_7_method_10_code, exceptionTable := #[], attributes := #[] }
def k10m5 : Method := { name := "isFlag", desc := "()Z", sig := { parameters := [], returnType := some .boolean }, accessFlags := 1, code := some k10c5 }
/-- com/example/floodgauge/floodgauge/cli/Option -/
def k10 : Class := { plain "com/example/floodgauge/floodgauge/cli/Option" (some 9) with
  accessFlags := 49
  interfaces := #[]
  cf := some (fileOf pool10 8 #[] #[{ accessFlags := 1, nameIndex := 5, descriptorIndex := 37, attributes := #[] }, { accessFlags := 9, nameIndex := 92, descriptorIndex := 93, attributes := #[] }, { accessFlags := 1, nameIndex := 94, descriptorIndex := 95, attributes := #[] }, { accessFlags := 1, nameIndex := 96, descriptorIndex := 95, attributes := #[] }, { accessFlags := 1, nameIndex := 99, descriptorIndex := 100, attributes := #[] }, { accessFlags := 1, nameIndex := 40, descriptorIndex := 41, attributes := #[] }] 49 2 #[] #[{ accessFlags := 18, nameIndex := 11, descriptorIndex := 12, attributes := #[] }, { accessFlags := 18, nameIndex := 15, descriptorIndex := 12, attributes := #[] }, { accessFlags := 18, nameIndex := 18, descriptorIndex := 12, attributes := #[] }, { accessFlags := 18, nameIndex := 21, descriptorIndex := 12, attributes := #[] }, { accessFlags := 18, nameIndex := 24, descriptorIndex := 25, attributes := #[] }, { accessFlags := 18, nameIndex := 28, descriptorIndex := 12, attributes := #[] }, { accessFlags := 18, nameIndex := 31, descriptorIndex := 12, attributes := #[] }, { accessFlags := 18, nameIndex := 34, descriptorIndex := 25, attributes := #[] }])
  fields := #[{ name := "name", type := (.object "java/lang/String"), accessFlags := 18, slot := 0, constantValue := 0 }, { name := "argument", type := (.object "java/lang/String"), accessFlags := 18, slot := 1, constantValue := 0 }, { name := "purpose", type := (.object "java/lang/String"), accessFlags := 18, slot := 2, constantValue := 0 }, { name := "condition", type := (.object "java/lang/String"), accessFlags := 18, slot := 3, constantValue := 0 }, { name := "required", type := .boolean, accessFlags := 18, slot := 4, constantValue := 0 }, { name := "fallback", type := (.object "java/lang/String"), accessFlags := 18, slot := 5, constantValue := 0 }, { name := "note", type := (.object "java/lang/String"), accessFlags := 18, slot := 6, constantValue := 0 }, { name := "variable", type := .boolean, accessFlags := 18, slot := 7, constantValue := 0 }]
  methods := #[k10m0, k10m1, k10m2, k10m3, k10m4, k10m5]
  instanceTypes := #[(.object "java/lang/String"), (.object "java/lang/String"), (.object "java/lang/String"), (.object "java/lang/String"), .boolean, (.object "java/lang/String"), (.object "java/lang/String"), .boolean]
  staticTypes := #[]
  resolved := Array.replicate 149 none
  statics := none }

def pool11 : Array CpInfo := pool [(6, .class_ 8), (1, u "java/lang/Object"), (0, u "<init>"), (0, u "()V"), (1, .class_ 14), (1, u "java/lang/StringUTF16"), (31, u "$assertionsDisabled"), (0, u "Z"), (13, u "HI_BYTE_SHIFT"), (0, u "I"), (2, u "LO_BYTE_SHIFT"), (49, .methodref 12 116), (0, .nameAndType 117 118), (0, u "compress"), (0, u "([CI[BII)I"), (3, u "([CII)[B"), (138, u "coderFromArrayLen"), (0, u "([BI)B"), (106, .class_ 371), (1, u "java/lang/StringUTF16$LinesSpliterator"), (58, u "MAX_LENGTH"), (196, .class_ 628), (0, u "java/lang/StringUTF16$CodePointsSpliterator"), (0, .class_ 630), (0, u "java/lang/StringUTF16$CharsSpliterator")] 4

def k11m0 : Method := { name := "<init>", desc := "()V", sig := { parameters := [], returnType := none }, accessFlags := 0, code := none }
def k11c1 : Code := { maxStack := 2, maxLocals := 2, code := jdk_52_method_15_code, exceptionTable := #[], attributes := #[] }
def k11m1 : Method := { name := "coderFromArrayLen", desc := "([BI)B", sig := { parameters := [(.array .byte), .int], returnType := some .byte }, accessFlags := 8, code := some k11c1 }
def k11c2 : Code := { maxStack := 5, maxLocals := 6, code := jdk_52_method_16_code, exceptionTable := #[], attributes := #[] }
def k11m2 : Method := { name := "compress", desc := "([CII)[B", sig := { parameters := [(.array .char), .int, .int], returnType := some (.array .byte) }, accessFlags := 9, code := some k11c2 }
def k11c3 : Code := { maxStack := 3, maxLocals := 7, code := jdk_52_method_21_code, exceptionTable := #[], attributes := #[] }
def k11m3 : Method := { name := "compress", desc := "([CI[BII)I", sig := { parameters := [(.array .char), .int, (.array .byte), .int, .int], returnType := some .int }, accessFlags := 9, code := some k11c3 }
/-- java/lang/StringUTF16 -/
def k11 : Class := { plain "java/lang/StringUTF16" (some 0) with
  accessFlags := 48
  interfaces := #[]
  cf := some (fileOf pool11 12 #[.nestMembers #[627, 629, 369]] #[{ accessFlags := 0, nameIndex := 9, descriptorIndex := 10, attributes := #[] }, { accessFlags := 8, nameIndex := 261, descriptorIndex := 262, attributes := #[] }, { accessFlags := 9, nameIndex := 117, descriptorIndex := 122, attributes := #[] }, { accessFlags := 9, nameIndex := 117, descriptorIndex := 118, attributes := #[] }] 48 6 #[] #[{ accessFlags := 26, nameIndex := 61, descriptorIndex := 62, attributes := #[] }, { accessFlags := 26, nameIndex := 65, descriptorIndex := 62, attributes := #[] }, { accessFlags := 24, nameIndex := 430, descriptorIndex := 62, attributes := #[] }, { accessFlags := 4120, nameIndex := 46, descriptorIndex := 47, attributes := #[] }])
  fields := #[{ name := "HI_BYTE_SHIFT", type := .int, accessFlags := 26, slot := 0, constantValue := 0 }, { name := "LO_BYTE_SHIFT", type := .int, accessFlags := 26, slot := 1, constantValue := 0 }, { name := "MAX_LENGTH", type := .int, accessFlags := 24, slot := 2, constantValue := 0 }, { name := "$assertionsDisabled", type := .boolean, accessFlags := 4120, slot := 3, constantValue := 0 }]
  methods := #[k11m0, k11m1, k11m2, k11m3]
  instanceTypes := #[]
  staticTypes := #[.int, .int, .int, .boolean]
  resolved := Array.replicate 635 none
  statics := none }

def pool12 : Array CpInfo := pool [(2, .class_ 4), (1, u "java/lang/Object"), (0, u "<init>"), (0, u "()V"), (17, .class_ 26), (1, u "jdk/internal/util/Preconditions"), (28, .class_ 56), (0, u "jdk/internal/util/Preconditions$4"), (57, .class_ 115), (0, u "jdk/internal/util/Preconditions$1"), (7, u "SIOOBE_FORMATTER"), (0, u "Ljava/util/function/BiFunction;"), (0, .class_ 126), (0, u "jdk/internal/util/Preconditions$2"), (3, u "AIOOBE_FORMATTER"), (0, .class_ 132), (0, u "jdk/internal/util/Preconditions$3"), (3, u "IOOBE_FORMATTER")] 57

def k12m0 : Method := { name := "<init>", desc := "()V", sig := { parameters := [], returnType := none }, accessFlags := 1, code := none }
/-- jdk/internal/util/Preconditions -/
def k12 : Class := { plain "jdk/internal/util/Preconditions" (some 0) with
  accessFlags := 33
  interfaces := #[]
  cf := some (fileOf pool12 24 #[.nestMembers #[55, 131, 125, 114]] #[{ accessFlags := 1, nameIndex := 5, descriptorIndex := 6, attributes := #[] }] 33 2 #[] #[{ accessFlags := 25, nameIndex := 123, descriptorIndex := 124, attributes := #[] }, { accessFlags := 25, nameIndex := 130, descriptorIndex := 124, attributes := #[] }, { accessFlags := 25, nameIndex := 136, descriptorIndex := 124, attributes := #[] }])
  fields := #[{ name := "SIOOBE_FORMATTER", type := (.object "java/util/function/BiFunction"), accessFlags := 25, slot := 0, constantValue := 0 }, { name := "AIOOBE_FORMATTER", type := (.object "java/util/function/BiFunction"), accessFlags := 25, slot := 1, constantValue := 0 }, { name := "IOOBE_FORMATTER", type := (.object "java/util/function/BiFunction"), accessFlags := 25, slot := 2, constantValue := 0 }]
  methods := #[k12m0]
  instanceTypes := #[]
  staticTypes := #[(.object "java/util/function/BiFunction"), (.object "java/util/function/BiFunction"), (.object "java/util/function/BiFunction")]
  resolved := Array.replicate 194 none
  statics := some 1 }

def pool13 : Array CpInfo := pool [(9, u "<init>"), (6, .class_ 18), (1, u "java/lang/Object"), (0, u "()V"), (1, .class_ 23), (1, u "jdk/internal/util/ArraysSupport"), (0, u "LOG2_ARRAY_LONG_INDEX_SCALE"), (0, u "I"), (2, u "U"), (0, u "Ljdk/internal/misc/Unsafe;"), (8, u "BIG_ENDIAN"), (0, u "Z"), (8, u "LOG2_BYTE_BIT_SIZE"), (4, u "LOG2_ARRAY_INT_INDEX_SCALE"), (54, u "JLA"), (0, u "Ljdk/internal/access/JavaLangAccess;"), (11, u "LOG2_ARRAY_BOOLEAN_INDEX_SCALE"), (9, u "LOG2_ARRAY_BYTE_INDEX_SCALE"), (5, u "LOG2_ARRAY_CHAR_INDEX_SCALE"), (5, u "LOG2_ARRAY_SHORT_INDEX_SCALE"), (18, u "LOG2_ARRAY_FLOAT_INDEX_SCALE"), (24, u "LOG2_ARRAY_DOUBLE_INDEX_SCALE"), (89, u "T_BOOLEAN"), (2, u "T_CHAR"), (1, u "T_FLOAT"), (1, u "T_DOUBLE"), (1, u "T_BYTE"), (1, u "T_SHORT"), (1, u "T_INT"), (1, u "T_LONG"), (1, u "SOFT_MAX_ARRAY_LENGTH")] 83

def k13m0 : Method := { name := "<init>", desc := "()V", sig := { parameters := [], returnType := none }, accessFlags := 2, code := none }
/-- jdk/internal/util/ArraysSupport -/
def k13 : Class := { plain "jdk/internal/util/ArraysSupport" (some 0) with
  accessFlags := 33
  interfaces := #[]
  cf := some (fileOf pool13 21 #[] #[{ accessFlags := 2, nameIndex := 9, descriptorIndex := 19, attributes := #[] }] 33 16 #[] #[{ accessFlags := 24, nameIndex := 28, descriptorIndex := 29, attributes := #[] }, { accessFlags := 26, nameIndex := 38, descriptorIndex := 39, attributes := #[] }, { accessFlags := 25, nameIndex := 121, descriptorIndex := 25, attributes := #[] }, { accessFlags := 25, nameIndex := 131, descriptorIndex := 25, attributes := #[] }, { accessFlags := 25, nameIndex := 137, descriptorIndex := 25, attributes := #[] }, { accessFlags := 25, nameIndex := 143, descriptorIndex := 25, attributes := #[] }, { accessFlags := 25, nameIndex := 53, descriptorIndex := 25, attributes := #[] }, { accessFlags := 25, nameIndex := 24, descriptorIndex := 25, attributes := #[] }, { accessFlags := 25, nameIndex := 162, descriptorIndex := 25, attributes := #[] }, { accessFlags := 25, nameIndex := 187, descriptorIndex := 25, attributes := #[] }, { accessFlags := 26, nameIndex := 48, descriptorIndex := 25, attributes := #[] }, { accessFlags := 25, nameIndex := 277, descriptorIndex := 25, attributes := #[] }, { accessFlags := 25, nameIndex := 280, descriptorIndex := 25, attributes := #[] }, { accessFlags := 25, nameIndex := 282, descriptorIndex := 25, attributes := #[] }, { accessFlags := 25, nameIndex := 284, descriptorIndex := 25, attributes := #[] }, { accessFlags := 25, nameIndex := 286, descriptorIndex := 25, attributes := #[] }, { accessFlags := 25, nameIndex := 288, descriptorIndex := 25, attributes := #[] }, { accessFlags := 25, nameIndex := 290, descriptorIndex := 25, attributes := #[] }, { accessFlags := 25, nameIndex := 292, descriptorIndex := 25, attributes := #[] }, { accessFlags := 26, nameIndex := 108, descriptorIndex := 109, attributes := #[] }, { accessFlags := 25, nameIndex := 294, descriptorIndex := 25, attributes := #[] }])
  fields := #[{ name := "U", type := (.object "jdk/internal/misc/Unsafe"), accessFlags := 24, slot := 0, constantValue := 0 }, { name := "BIG_ENDIAN", type := .boolean, accessFlags := 26, slot := 1, constantValue := 0 }, { name := "LOG2_ARRAY_BOOLEAN_INDEX_SCALE", type := .int, accessFlags := 25, slot := 2, constantValue := 0 }, { name := "LOG2_ARRAY_BYTE_INDEX_SCALE", type := .int, accessFlags := 25, slot := 3, constantValue := 0 }, { name := "LOG2_ARRAY_CHAR_INDEX_SCALE", type := .int, accessFlags := 25, slot := 4, constantValue := 0 }, { name := "LOG2_ARRAY_SHORT_INDEX_SCALE", type := .int, accessFlags := 25, slot := 5, constantValue := 0 }, { name := "LOG2_ARRAY_INT_INDEX_SCALE", type := .int, accessFlags := 25, slot := 6, constantValue := 0 }, { name := "LOG2_ARRAY_LONG_INDEX_SCALE", type := .int, accessFlags := 25, slot := 7, constantValue := 0 }, { name := "LOG2_ARRAY_FLOAT_INDEX_SCALE", type := .int, accessFlags := 25, slot := 8, constantValue := 0 }, { name := "LOG2_ARRAY_DOUBLE_INDEX_SCALE", type := .int, accessFlags := 25, slot := 9, constantValue := 0 }, { name := "LOG2_BYTE_BIT_SIZE", type := .int, accessFlags := 26, slot := 10, constantValue := 0 }, { name := "T_BOOLEAN", type := .int, accessFlags := 25, slot := 11, constantValue := 0 }, { name := "T_CHAR", type := .int, accessFlags := 25, slot := 12, constantValue := 0 }, { name := "T_FLOAT", type := .int, accessFlags := 25, slot := 13, constantValue := 0 }, { name := "T_DOUBLE", type := .int, accessFlags := 25, slot := 14, constantValue := 0 }, { name := "T_BYTE", type := .int, accessFlags := 25, slot := 15, constantValue := 0 }, { name := "T_SHORT", type := .int, accessFlags := 25, slot := 16, constantValue := 0 }, { name := "T_INT", type := .int, accessFlags := 25, slot := 17, constantValue := 0 }, { name := "T_LONG", type := .int, accessFlags := 25, slot := 18, constantValue := 0 }, { name := "JLA", type := (.object "jdk/internal/access/JavaLangAccess"), accessFlags := 26, slot := 19, constantValue := 0 }, { name := "SOFT_MAX_ARRAY_LENGTH", type := .int, accessFlags := 25, slot := 20, constantValue := 0 }]
  methods := #[k13m0]
  instanceTypes := #[]
  staticTypes := #[(.object "jdk/internal/misc/Unsafe"), .boolean, .int, .int, .int, .int, .int, .int, .int, .int, .int, .int, .int, .int, .int, .int, .int, .int, .int, (.object "jdk/internal/access/JavaLangAccess"), .int]
  resolved := Array.replicate 378 none
  statics := none }

def pool14 : Array CpInfo := pool [(1, u "java/lang/Cloneable"), (0, .class_ 1), (0, u "java/lang/Object"), (0, .class_ 3)] 3

/-- java/lang/Cloneable -/
def k14 : Class := { plain "java/lang/Cloneable" (some 0) with
  accessFlags := 1537
  interfaces := #[]
  cf := some (fileOf pool14 2 #[] #[] 1537 4 #[] #[])
  fields := #[]
  methods := #[]
  instanceTypes := #[]
  staticTypes := #[]
  resolved := Array.replicate 8 none
  statics := none }

/-- the primitive byte -/
def k15 : Class := { plain "byte" none with kind := .primitive 'B', accessFlags := 0x411 }
/-- [B -/
def k16 : Class := { plain "[B" (some 0) with kind := .array 15 .byte, interfaces := #[14, 2], accessFlags := 1041 }

/-- the primitive char -/
def k17 : Class := { plain "char" none with kind := .primitive 'C', accessFlags := 0x411 }
/-- [C -/
def k18 : Class := { plain "[C" (some 0) with kind := .array 17 .char, interfaces := #[14, 2], accessFlags := 1041 }

/-- the primitive int -/
def k19 : Class := { plain "int" none with kind := .primitive 'I', accessFlags := 0x411 }
/-- [I -/
def k20 : Class := { plain "[I" (some 0) with kind := .array 19 .int, interfaces := #[14, 2], accessFlags := 1041 }

def heap : Heap := #[{ cls := 7, slots := #[.long 0, .int 1, .null, .int 0, .null, .int 0, .int 0], vm := .statics 7 },
  { cls := 12, slots := #[.null, .null, .null], vm := .statics 12 }]
def classes : Array Class := #[k0, k1, k2, k3, k4, k5, k6, k7, k8, k9, k10, k11, k12, k13, k14, k15, k16, k17, k18, k19, k20]
def interned : List (Array UInt16 × Addr) := []
def slotsUsed : Nat := 10
def theMethod : MethodId := ⟨1, 2⟩
def args0 : Array Value := #[.int 5, .int 6, .int 7, .int 8]
def aboutOver (below : List Frame) : State where
  vm := { classes := classes, interned := interned.toArray }
  heap := heap
  slotsUsed := slotsUsed
  threads := #[{ frames := .invoking theMethod args0 :: below }]
def below0 : List Frame := [.native { method := ⟨0, 0⟩, args := #[] }]
def about1 : State := aboutOver below0
def p0 : Program := .bare "" "" ""
def e0 : Env := launch0.env 0 0 0
theorem w_frames : about1.frames = Frame.invoking theMethod args0 :: below0 := rfl
set_option maxRecDepth 65536 in
theorem w_args : argsFit about1.vm theMethod args0 = true := by decide +kernel
set_option maxRecDepth 65536 in
theorem w_heap : heapFits about1 = true := by decide +kernel
set_option maxRecDepth 65536 in
theorem w_runnable : about1.curStatus? = some .runnable := by decide +kernel
set_option maxRecDepth 65536 in
theorem w_alone : about1.alone = true := by decide +kernel
set_option maxRecDepth 65536 in
theorem w_named : about1.methodNamed? x = some theMethod := by decide +kernel
set_option maxRecDepth 65536 in
theorem w_hears : about1.hears theMethod below0 = true := by decide +kernel
set_option maxRecDepth 65536 in
theorem w_ripe : about1.ripe theMethod args0 below0 = true := by decide +kernel
theorem w_running : about1.status = .running := rfl
set_option maxRecDepth 65536 in
theorem w_room : about1.hasRoom e0.platform room_1 = true :=
  launch0.hasRoom_least _ room_1 (by decide +kernel) (by decide +kernel) (by decide +kernel) (by decide +kernel) (by decide +kernel) (by decide +kernel)
theorem allAtoms_all (ts : List Jvm.Cond) (a : Array Jvm.Value) (st : Jvm.State) : (allAtoms ts).before a st = ts.all (fun c => c.before a st) := by
  induction ts with
  | nil => rfl
  | cons c t ih =>
    show (Jvm.Cond.and c (allAtoms t)).before a st = _
    rw [Jvm.Cond.before_and, ih, List.all_cons]
def words1 : List Jvm.Cond := Jvm.Cond.code x code maxLocals ret :: tables_1
/-- a 'code' word, met by the world's own term for the bytes: nothing is compared byte by byte -/
theorem code_word {y : MethodName} {bytes : ByteArray} {mx : Nat} {rt : Option FieldType} {a : Array Value} {s : State} {m : MethodId} {meth : Method} {c : Code} (h1 : s.methodNamed? y = some m) (h2 : s.vm.method? m = some meth) (h3 : meth.code = some c) (h4 : c.code = bytes)
    (h5 : (c.maxLocals == mx && c.exceptionTable.isEmpty && decide (c.maxStack ≤ mostOperands) && decide (meth.sig.returnType = rt) && !meth.locks && decide (parseMethodDescriptor y.desc = some meth.sig)) = true) : (Jvm.Cond.code y bytes mx rt).before a s = true := by
  simp only [Bool.and_eq_true, beq_iff_eq, Bool.not_eq_true', decide_eq_true_eq] at h5
  obtain ⟨⟨⟨⟨⟨g1, g2⟩, g3⟩, g4⟩, g5⟩, g6⟩ := h5
  simp [Cond.before, Cond.holds, Cond.value, h1, h2, h3, h4, g1, g2, g3, g4, g5, g6]
def isCode : Jvm.Cond → Bool
  | .code _ _ _ _ => true
  | _ => false
theorem all_split {L : List Jvm.Cond} {P : Jvm.Cond → Bool} (h1 : L.all (fun c => isCode c || P c) = true) (h2 : ∀ c ∈ L.filter isCode, P c = true) : L.all P = true := by
  refine List.all_eq_true.mpr fun c hc => ?_
  have h := List.all_eq_true.mp h1 c hc
  rcases Bool.eq_false_or_eq_true (isCode c) with hi | hi
  · exact h2 c (List.mem_filter.mpr ⟨hc, hi⟩)
  · simpa [hi] using h
set_option maxRecDepth 65536 in
theorem w_c0 : (Jvm.Cond.code x code maxLocals ret).before args0 about1 = true := code_word (m := ⟨1, 2⟩) (meth := k1m2) (c := k1c2) (by decide +kernel) rfl rfl rfl (by decide +kernel)
set_option maxRecDepth 65536 in
theorem w_c1 : (Jvm.Cond.code ({ cls := "com/example/floodgauge/floodgauge/cli/OptionIsFlagPinLaw", name := "drawn", desc := "(II)Ljava/lang/String;" } : Jvm.MethodName) method_2_code (3 : Nat) (Option.some (Jvm.ClassFile.FieldType.object "java/lang/String"))).before args0 about1 = true := code_word (m := ⟨1, 1⟩) (meth := k1m1) (c := k1c1) (by decide +kernel) rfl rfl rfl (by decide +kernel)
set_option maxRecDepth 65536 in
theorem w_c2 : (Jvm.Cond.code ({ cls := "java/lang/String", name := "valueOf", desc := "(C)Ljava/lang/String;" } : Jvm.MethodName) jdk_42_method_139_code (1 : Nat) (Option.some (Jvm.ClassFile.FieldType.object "java/lang/String"))).before args0 about1 = true := code_word (m := ⟨7, 2⟩) (meth := k7m2) (c := k7c2) (by decide +kernel) rfl rfl rfl (by decide +kernel)
set_option maxRecDepth 65536 in
theorem w_c3 : (Jvm.Cond.code ({ cls := "java/lang/StringLatin1", name := "canEncode", desc := "(C)Z" } : Jvm.MethodName) jdk_43_method_3_code (1 : Nat) (Option.some Jvm.ClassFile.FieldType.boolean)).before args0 about1 = true := code_word (m := ⟨8, 1⟩) (meth := k8m1) (c := k8c1) (by decide +kernel) rfl rfl rfl (by decide +kernel)
set_option maxRecDepth 65536 in
theorem w_c4 : (Jvm.Cond.code ({ cls := "java/lang/StringLatin1", name := "toBytes", desc := "(C)[B" } : Jvm.MethodName) jdk_43_method_46_code (1 : Nat) (Option.some (Jvm.ClassFile.FieldType.array Jvm.ClassFile.FieldType.byte))).before args0 about1 = true := code_word (m := ⟨8, 2⟩) (meth := k8m2) (c := k8c2) (by decide +kernel) rfl rfl rfl (by decide +kernel)
set_option maxRecDepth 65536 in
theorem w_c5 : (Jvm.Cond.code ({ cls := "java/lang/String", name := "<init>", desc := "([BB)V" } : Jvm.MethodName) jdk_42_method_151_code (3 : Nat) (Option.none : Option Jvm.ClassFile.FieldType)).before args0 about1 = true := code_word (m := ⟨7, 4⟩) (meth := k7m4) (c := k7c4) (by decide +kernel) rfl rfl rfl (by decide +kernel)
set_option maxRecDepth 65536 in
theorem w_c6 : (Jvm.Cond.code ({ cls := "java/lang/Object", name := "<init>", desc := "()V" } : Jvm.MethodName) object_method_1_code (1 : Nat) (Option.none : Option Jvm.ClassFile.FieldType)).before args0 about1 = true := code_word (m := ⟨0, 0⟩) (meth := k0m0) (c := k0c0) (by decide +kernel) rfl rfl rfl (by decide +kernel)
set_option maxRecDepth 65536 in
theorem w_c7 : (Jvm.Cond.code ({ cls := "com/example/floodgauge/floodgauge/cli/Option", name := "<init>", desc := "(Ljava/lang/String;Ljava/lang/String;Ljava/lang/String;Ljava/lang/String;ZLjava/lang/String;Ljava/lang/String;Z)V" } : Jvm.MethodName) prog_7_method_1_code (9 : Nat) (Option.none : Option Jvm.ClassFile.FieldType)).before args0 about1 = true := code_word (m := ⟨10, 0⟩) (meth := k10m0) (c := k10c0) (by decide +kernel) rfl rfl rfl (by decide +kernel)
set_option maxRecDepth 65536 in
theorem w_c8 : (Jvm.Cond.code ({ cls := "java/lang/Record", name := "<init>", desc := "()V" } : Jvm.MethodName) jdk_30_method_1_code (1 : Nat) (Option.none : Option Jvm.ClassFile.FieldType)).before args0 about1 = true := code_word (m := ⟨9, 0⟩) (meth := k9m0) (c := k9c0) (by decide +kernel) rfl rfl rfl (by decide +kernel)
set_option maxRecDepth 65536 in
theorem w_c9 : (Jvm.Cond.code ({ cls := "com/example/floodgauge/floodgauge/cli/Option", name := "isFlag", desc := "()Z" } : Jvm.MethodName) prog_7_method_10_code (1 : Nat) (Option.some Jvm.ClassFile.FieldType.boolean)).before args0 about1 = true := code_word (m := ⟨10, 5⟩) (meth := k10m5) (c := k10c5) (by decide +kernel) rfl rfl rfl (by decide +kernel)
set_option maxRecDepth 65536 in
theorem w_c10 : (Jvm.Cond.code ({ cls := "com/example/floodgauge/floodgauge/cli/Option", name := "withDefault", desc := "(Ljava/lang/String;)Lcom/example/floodgauge/floodgauge/cli/Option;" } : Jvm.MethodName) prog_7_method_5_code (2 : Nat) (Option.some (Jvm.ClassFile.FieldType.object "com/example/floodgauge/floodgauge/cli/Option"))).before args0 about1 = true := code_word (m := ⟨10, 2⟩) (meth := k10m2) (c := k10c2) (by decide +kernel) rfl rfl rfl (by decide +kernel)
set_option maxRecDepth 65536 in
theorem w_c11 : (Jvm.Cond.code ({ cls := "com/example/floodgauge/floodgauge/cli/Option", name := "withNote", desc := "(Ljava/lang/String;)Lcom/example/floodgauge/floodgauge/cli/Option;" } : Jvm.MethodName) prog_7_method_6_code (2 : Nat) (Option.some (Jvm.ClassFile.FieldType.object "com/example/floodgauge/floodgauge/cli/Option"))).before args0 about1 = true := code_word (m := ⟨10, 3⟩) (meth := k10m3) (c := k10c3) (by decide +kernel) rfl rfl rfl (by decide +kernel)
set_option maxRecDepth 65536 in
theorem w_c12 : (Jvm.Cond.code ({ cls := "com/example/floodgauge/floodgauge/cli/Option", name := "fromVariable", desc := "()Lcom/example/floodgauge/floodgauge/cli/Option;" } : Jvm.MethodName) prog_7_method_9_code (1 : Nat) (Option.some (Jvm.ClassFile.FieldType.object "com/example/floodgauge/floodgauge/cli/Option"))).before args0 about1 = true := code_word (m := ⟨10, 4⟩) (meth := k10m4) (c := k10c4) (by decide +kernel) rfl rfl rfl (by decide +kernel)
set_option maxRecDepth 65536 in
theorem w_c13 : (Jvm.Cond.code ({ cls := "com/example/floodgauge/floodgauge/cli/Option", name := "flag", desc := "(Ljava/lang/String;Ljava/lang/String;)Lcom/example/floodgauge/floodgauge/cli/Option;" } : Jvm.MethodName) prog_7_method_4_code (2 : Nat) (Option.some (Jvm.ClassFile.FieldType.object "com/example/floodgauge/floodgauge/cli/Option"))).before args0 about1 = true := code_word (m := ⟨10, 1⟩) (meth := k10m1) (c := k10c1) (by decide +kernel) rfl rfl rfl (by decide +kernel)
set_option maxRecDepth 65536 in
theorem w_c14 : (Jvm.Cond.code ({ cls := "java/lang/String", name := "<init>", desc := "([C)V" } : Jvm.MethodName) jdk_42_method_3_code (2 : Nat) (Option.none : Option Jvm.ClassFile.FieldType)).before args0 about1 = true := code_word (m := ⟨7, 1⟩) (meth := k7m1) (c := k7c1) (by decide +kernel) rfl rfl rfl (by decide +kernel)
set_option maxRecDepth 65536 in
theorem w_c15 : (Jvm.Cond.code ({ cls := "java/lang/String", name := "<init>", desc := "([CIILjava/lang/Void;)V" } : Jvm.MethodName) jdk_42_method_149_code (6 : Nat) (Option.none : Option Jvm.ClassFile.FieldType)).before args0 about1 = true := code_word (m := ⟨7, 3⟩) (meth := k7m3) (c := k7c3) (by decide +kernel) rfl rfl rfl (by decide +kernel)
set_option maxRecDepth 65536 in
theorem w_c16 : (Jvm.Cond.code ({ cls := "java/lang/StringUTF16", name := "compress", desc := "([CII)[B" } : Jvm.MethodName) jdk_52_method_16_code (6 : Nat) (Option.some (Jvm.ClassFile.FieldType.array Jvm.ClassFile.FieldType.byte))).before args0 about1 = true := code_word (m := ⟨11, 2⟩) (meth := k11m2) (c := k11c2) (by decide +kernel) rfl rfl rfl (by decide +kernel)
set_option maxRecDepth 65536 in
theorem w_c17 : (Jvm.Cond.code ({ cls := "java/lang/StringUTF16", name := "compress", desc := "([CI[BII)I" } : Jvm.MethodName) jdk_52_method_21_code (7 : Nat) (Option.some Jvm.ClassFile.FieldType.int)).before args0 about1 = true := code_word (m := ⟨11, 3⟩) (meth := k11m3) (c := k11c3) (by decide +kernel) rfl rfl rfl (by decide +kernel)
set_option maxRecDepth 65536 in
theorem w_c18 : (Jvm.Cond.code ({ cls := "java/lang/StringUTF16", name := "coderFromArrayLen", desc := "([BI)B" } : Jvm.MethodName) jdk_52_method_15_code (2 : Nat) (Option.some Jvm.ClassFile.FieldType.byte)).before args0 about1 = true := code_word (m := ⟨11, 1⟩) (meth := k11m1) (c := k11c1) (by decide +kernel) rfl rfl rfl (by decide +kernel)
def codes1 : List Jvm.Cond := [Jvm.Cond.code x code maxLocals ret, Jvm.Cond.code ({ cls := "com/example/floodgauge/floodgauge/cli/OptionIsFlagPinLaw", name := "drawn", desc := "(II)Ljava/lang/String;" } : Jvm.MethodName) method_2_code (3 : Nat) (Option.some (Jvm.ClassFile.FieldType.object "java/lang/String")), Jvm.Cond.code ({ cls := "java/lang/String", name := "valueOf", desc := "(C)Ljava/lang/String;" } : Jvm.MethodName) jdk_42_method_139_code (1 : Nat) (Option.some (Jvm.ClassFile.FieldType.object "java/lang/String")), Jvm.Cond.code ({ cls := "java/lang/StringLatin1", name := "canEncode", desc := "(C)Z" } : Jvm.MethodName) jdk_43_method_3_code (1 : Nat) (Option.some Jvm.ClassFile.FieldType.boolean), Jvm.Cond.code ({ cls := "java/lang/StringLatin1", name := "toBytes", desc := "(C)[B" } : Jvm.MethodName) jdk_43_method_46_code (1 : Nat) (Option.some (Jvm.ClassFile.FieldType.array Jvm.ClassFile.FieldType.byte)), Jvm.Cond.code ({ cls := "java/lang/String", name := "<init>", desc := "([BB)V" } : Jvm.MethodName) jdk_42_method_151_code (3 : Nat) (Option.none : Option Jvm.ClassFile.FieldType), Jvm.Cond.code ({ cls := "java/lang/Object", name := "<init>", desc := "()V" } : Jvm.MethodName) object_method_1_code (1 : Nat) (Option.none : Option Jvm.ClassFile.FieldType), Jvm.Cond.code ({ cls := "com/example/floodgauge/floodgauge/cli/Option", name := "<init>", desc := "(Ljava/lang/String;Ljava/lang/String;Ljava/lang/String;Ljava/lang/String;ZLjava/lang/String;Ljava/lang/String;Z)V" } : Jvm.MethodName) prog_7_method_1_code (9 : Nat) (Option.none : Option Jvm.ClassFile.FieldType), Jvm.Cond.code ({ cls := "java/lang/Record", name := "<init>", desc := "()V" } : Jvm.MethodName) jdk_30_method_1_code (1 : Nat) (Option.none : Option Jvm.ClassFile.FieldType), Jvm.Cond.code ({ cls := "com/example/floodgauge/floodgauge/cli/Option", name := "isFlag", desc := "()Z" } : Jvm.MethodName) prog_7_method_10_code (1 : Nat) (Option.some Jvm.ClassFile.FieldType.boolean), Jvm.Cond.code ({ cls := "com/example/floodgauge/floodgauge/cli/Option", name := "withDefault", desc := "(Ljava/lang/String;)Lcom/example/floodgauge/floodgauge/cli/Option;" } : Jvm.MethodName) prog_7_method_5_code (2 : Nat) (Option.some (Jvm.ClassFile.FieldType.object "com/example/floodgauge/floodgauge/cli/Option")), Jvm.Cond.code ({ cls := "com/example/floodgauge/floodgauge/cli/Option", name := "withNote", desc := "(Ljava/lang/String;)Lcom/example/floodgauge/floodgauge/cli/Option;" } : Jvm.MethodName) prog_7_method_6_code (2 : Nat) (Option.some (Jvm.ClassFile.FieldType.object "com/example/floodgauge/floodgauge/cli/Option")), Jvm.Cond.code ({ cls := "com/example/floodgauge/floodgauge/cli/Option", name := "fromVariable", desc := "()Lcom/example/floodgauge/floodgauge/cli/Option;" } : Jvm.MethodName) prog_7_method_9_code (1 : Nat) (Option.some (Jvm.ClassFile.FieldType.object "com/example/floodgauge/floodgauge/cli/Option")), Jvm.Cond.code ({ cls := "com/example/floodgauge/floodgauge/cli/Option", name := "flag", desc := "(Ljava/lang/String;Ljava/lang/String;)Lcom/example/floodgauge/floodgauge/cli/Option;" } : Jvm.MethodName) prog_7_method_4_code (2 : Nat) (Option.some (Jvm.ClassFile.FieldType.object "com/example/floodgauge/floodgauge/cli/Option")), Jvm.Cond.code ({ cls := "java/lang/String", name := "<init>", desc := "([C)V" } : Jvm.MethodName) jdk_42_method_3_code (2 : Nat) (Option.none : Option Jvm.ClassFile.FieldType), Jvm.Cond.code ({ cls := "java/lang/String", name := "<init>", desc := "([CIILjava/lang/Void;)V" } : Jvm.MethodName) jdk_42_method_149_code (6 : Nat) (Option.none : Option Jvm.ClassFile.FieldType), Jvm.Cond.code ({ cls := "java/lang/StringUTF16", name := "compress", desc := "([CII)[B" } : Jvm.MethodName) jdk_52_method_16_code (6 : Nat) (Option.some (Jvm.ClassFile.FieldType.array Jvm.ClassFile.FieldType.byte)), Jvm.Cond.code ({ cls := "java/lang/StringUTF16", name := "compress", desc := "([CI[BII)I" } : Jvm.MethodName) jdk_52_method_21_code (7 : Nat) (Option.some Jvm.ClassFile.FieldType.int), Jvm.Cond.code ({ cls := "java/lang/StringUTF16", name := "coderFromArrayLen", desc := "([BI)B" } : Jvm.MethodName) jdk_52_method_15_code (2 : Nat) (Option.some Jvm.ClassFile.FieldType.byte)]
set_option maxRecDepth 65536 in
theorem codes_eq : words1.filter isCode = codes1 := rfl
theorem w_codes : ∀ c ∈ words1.filter isCode, c.before args0 about1 = true := by
  rw [codes_eq]
  intro c hc
  simp only [codes1, List.mem_cons, List.not_mem_nil, or_false] at hc
  rcases hc with rfl | rfl | rfl | rfl | rfl | rfl | rfl | rfl | rfl | rfl | rfl | rfl | rfl | rfl | rfl | rfl | rfl | rfl | rfl
  · exact w_c0
  · exact w_c1
  · exact w_c2
  · exact w_c3
  · exact w_c4
  · exact w_c5
  · exact w_c6
  · exact w_c7
  · exact w_c8
  · exact w_c9
  · exact w_c10
  · exact w_c11
  · exact w_c12
  · exact w_c13
  · exact w_c14
  · exact w_c15
  · exact w_c16
  · exact w_c17
  · exact w_c18
set_option maxRecDepth 65536 in
theorem w_t1 : (words1.take 24).all (fun c => isCode c || c.before args0 about1) = true := by decide +kernel
set_option maxRecDepth 65536 in
theorem w_t2 : ((words1.drop 24).take 24).all (fun c => isCode c || c.before args0 about1) = true := by decide +kernel
set_option maxRecDepth 65536 in
theorem w_t3 : (((words1.drop 24).drop 24).take 24).all (fun c => isCode c || c.before args0 about1) = true := by decide +kernel
set_option maxRecDepth 65536 in
theorem w_t4 : ((((words1.drop 24).drop 24).drop 24).take 24).all (fun c => isCode c || c.before args0 about1) = true := by decide +kernel
set_option maxRecDepth 65536 in
theorem w_t5 : ((((words1.drop 24).drop 24).drop 24).drop 24).all (fun c => isCode c || c.before args0 about1) = true := by decide +kernel
theorem w_tables : (allAtoms (Jvm.Cond.code x code maxLocals ret :: tables_1)).before args0 about1 = true := by
  rw [allAtoms_all]
  show words1.all (fun c => c.before args0 about1) = true
  refine all_split ?_ w_codes
  rw [← List.take_append_drop 24 words1, List.all_append, w_t1, ← List.take_append_drop 24 (words1.drop 24), List.all_append, w_t2, ← List.take_append_drop 24 ((words1.drop 24).drop 24), List.all_append, w_t3, ← List.take_append_drop 24 (((words1.drop 24).drop 24).drop 24), List.all_append, w_t4, w_t5]
  rfl
set_option maxRecDepth 65536 in
theorem w_rest : rest_1_c.before args0 about1 = true := by decide +kernel
set_option maxRecDepth 65536 in
theorem w_case : (Jvm.Cond.and given_1 narrow_1).before args0 about1 = true := by decide +kernel
set_option maxRecDepth 65536 in
theorem w_consts : constsHeld consts_1 about1 := Jvm.Lit.constsHeldB_iff.mp (by decide +kernel)
theorem w_applies : (headSpec (Jvm.Cond.code x code maxLocals ret :: tables_1) room_1).applies x e0.platform about1 = true :=
  (Spec.applies_iff w_frames).mpr ⟨w_running, w_runnable, w_alone, w_named, w_hears, w_ripe, w_room, w_tables⟩
theorem atStart : AtStart classFile x code maxLocals ret World_1 tables_1 room_1 Calls_1 rest_1 Pre_1 launch0 p0 e0 about1 theMethod args0 below0 :=
  ⟨lists_1, trivial, launch0.admits_env _ _ _, launch0.least_env, fairChoices_fair.cas, fairChoices_fair.clock, w_frames, w_args, w_heap, w_applies, ⟨w_consts, trivial⟩, w_rest, w_case⟩
end start1
theorem witness_1 : WitnessClaimed_1 := ⟨start1.p0, start1.e0, start1.about1, start1.theMethod, start1.args0, start1.below0, start1.atStart⟩
end Jvm.Pilot.@@N@@
