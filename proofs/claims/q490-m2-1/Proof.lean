import JvmDerived
import JvmDerived.Pilot.@@N@@Statement
import JvmDerived.Pilot.@@N@@Code
set_option linter.unusedVariables false
set_option linter.unusedSimpArgs false
namespace Jvm.RoadKit
open Sem ClassFile Op Lib Jvm.Stand Jvm.Free Jvm.LawKit
section Own
variable {p : Program} {l : Launch} {e : Env} {R : Room} {s : State} {m : MethodId} {args : Array Value} {below : List Frame} {meth : Method} {c : Code} {T A B : State} {locs : List Loc} {cells slots K N : Nat} {P : State → Outcome → Prop} {Q : Option Value → Heap → List Loc → Prop}
/-- the run that stands at A comes to an end of which P holds -/
def Go (p : Program) (e : Env) (below : List Frame) (P : State → Outcome → Prop) (A : State) : Prop := ∃ s₂ o, Steps p.tables e below A s₂ ∧ s₂.status = .running ∧ Ended s₂ below o ∧ P s₂ o
def PostW (s : State) (K N : Nat) (Q : Option Value → Heap → List Loc → Prop) : State → Outcome → Prop := fun s₂ o => ∃ v L, o = .returned v ∧ Q v s₂.heap L ∧ FrameEnd s o s₂ L K N
theorem Go.by (h : ∀ t, Steps p.tables e below B t → Steps p.tables e below A t) (k : Go p e below P B) : Go p e below P A := by
  obtain ⟨s₂, o, h1, h2⟩ := k
  exact ⟨s₂, o, h _ h1, h2⟩
theorem Go.to (h : Steps p.tables e below A B) (k : Go p e below P B) : Go p e below P A := Go.by (fun _ q => h.trans q) k
theorem Go.cast {g g' : JFrame} (q : g = g') (k : Go p e below P (T.setTop g')) : Go p e below P (T.setTop g) := q ▸ k
theorem Go.ret (X : Stand p l e R s m args below meth c T locs cells slots) (hx : p.tables.exec = Jvm.exec) (hlk : meth.locks = false) {pc : Nat} {Ls : Array Slot} {w : Value} {t : FieldType} {i : Instr} {rest : List Value} (hret : meth.sig.returnType = some t) (hn : narrow t w = w)
    (hi : (i = .ireturn ∧ (t = .int ∨ t = .boolean ∨ t = .byte ∨ t = .char ∨ t = .short) ∧ ∃ z, w = .int z) ∨ (i = .lreturn ∧ t = .long ∧ ∃ z, w = .long z) ∨ (i = .dreturn ∧ t = .double ∧ ∃ z, w = .double z) ∨ (i = .freturn ∧ t = .float ∧ ∃ z, w = .float z) ∨ (i = .areturn ∧ t.isReference = true ∧ w.isRef = true))
    (hd : decode c.code pc = .ok (i, 1)) (hc : cells ≤ K) (hs : slots ≤ N) (hQ : Q (some w) T.heap locs) : Go p e below (PostW s K N Q) (T.setTop (mkF m pc Ls (w :: rest))) := by
  obtain ⟨fs, hr, hrun, hended, hW, hsame⟩ := X.leave (v := some w) (fun h => by rw [hret] at h; cases h) hlk
  exact ⟨_, _, retOut X hx hret hn hi hd hr, hrun, hended, _, _, rfl, hQ, ⟨_, rfl⟩, hW, hsame.mono hc hs⟩
theorem Go.retZ (X : Stand p l e R s m args below meth c T locs cells slots) (hx : p.tables.exec = Jvm.exec) (hlk : meth.locks = false) {pc : Nat} {Ls : Array Slot} {z : Int32} {t : FieldType} {rest : List Value} (hret : meth.sig.returnType = some t) (ht : t = .boolean ∨ t = .byte ∨ t = .char ∨ t = .short)
    (hd : decode c.code pc = .ok (.ireturn, 1)) (hc : cells ≤ K) (hs : slots ≤ N) (hQ : Q (some (.int (nar t z))) T.heap locs) : Go p e below (PostW s K N Q) (T.setTop (mkF m pc Ls (.int z :: rest))) := by
  obtain ⟨fs, hr, hrun, hended, hW, hsame⟩ := X.leave (v := some (.int (nar t z))) (fun h => by rw [hret] at h; cases h) hlk
  exact ⟨_, _, retN X hx hret ht hd hr, hrun, hended, _, _, rfl, hQ, ⟨_, rfl⟩, hW, hsame.mono hc hs⟩
theorem own_cat {w : Value} (h : w.isRef = true) : w.category = 1 := by cases w <;> first | rfl | (simp [Value.isRef] at h)
theorem own_narR {w : Value} {t : FieldType} (h : w.isRef = true) (ht : t.isReference = true) : narrow t w = w := by cases t <;> first | (cases ht; done) | (cases w <;> first | rfl | (simp [Value.isRef] at h))
theorem own_fitR {w : Value} {t : FieldType} (h : w.isRef = true) (ht : t.isReference = true) : fits t w = true := by cases t <;> first | (cases ht; done) | (cases w <;> first | rfl | (simp [Value.isRef] at h))
theorem own_a {P : Value → Prop} {x : Value} {r : List Value} (h : P x) (k : ∀ v ∈ r, P v) : ∀ v ∈ x :: r, P v := List.forall_mem_cons.2 ⟨h, k⟩
theorem own_push (acc : Array Slot) {v : Value} (h : v.category = 1) : (if v.category = 2 then (acc.push (.val v)).push .second else acc.push (.val v)) = acc.push (.val v) := by rw [if_neg]; rw [h]; decide
theorem own_fold {xs : List Value} (h : ∀ v ∈ xs, v.category = 1) : ∀ acc : Array Slot, xs.foldl (fun acc v => if v.category = 2 then (acc.push (.val v)).push .second else acc.push (.val v)) acc = acc ++ (xs.map Slot.val).toArray := by
  induction xs with
  | nil => intro acc; simp
  | cons x r ih =>
    intro acc
    rw [List.foldl_cons, own_push acc (h x (List.mem_cons_self ..)), ih (fun v q => h v (List.mem_cons_of_mem _ q))]
    simp
theorem own_ent (m : MethodId) {xs : List Value} {n : Nat} {k : Nat} (h : ∀ v ∈ xs, v.category = 1) (hn : n = xs.length + k) : entryFrame m xs.toArray n = mkF m 0 ((xs.map Slot.val) ++ List.replicate k Slot.unset).toArray [] := by
  have e : xs.toArray.foldl (init := #[]) (fun acc v => if v.category = 2 then (acc.push (.val v)).push .second else acc.push (.val v)) = (xs.map Slot.val).toArray := by
    rw [List.foldl_toArray, own_fold h]; simp
  have z : n - (xs.map Slot.val).toArray.size = k := by simp; omega
  have q : argsToLocals xs.toArray n = ((xs.map Slot.val) ++ List.replicate k Slot.unset).toArray := by
    show (xs.toArray.foldl _ #[]) ++ Array.replicate (n - (xs.toArray.foldl _ #[]).size) Slot.unset = _
    rw [e, z]; simp
  show ({ method := m, pc := 0, locals := argsToLocals xs.toArray n, stack := [], locked := none } : JFrame) = _
  rw [q]
theorem Go.retV (X : Stand p l e R s m args below meth c T locs cells slots) (hx : p.tables.exec = Jvm.exec) (hlk : meth.locks = false) {pc : Nat} {Ls : Array Slot} (hret : meth.sig.returnType = none)
    (hd : decode c.code pc = .ok (.return_, 1)) (hc : cells ≤ K) (hs : slots ≤ N) (hQ : Q none T.heap locs) : Go p e below (PostW s K N Q) (T.setTop (mkF m pc Ls [])) := by
  obtain ⟨fs, hr, hrun, hended, hW, hsame⟩ := X.leave (v := none) (fun _ => rfl) hlk
  exact ⟨_, _, X.returnOut hx hret hd hr, hrun, hended, _, _, rfl, hQ, ⟨_, rfl⟩, hW, hsame.mono hc hs⟩
theorem wd {L : List Cond} {a0 : Array Value} {Z : State} (hw : ∀ d ∈ L, d.before a0 Z = true) (i : Nat) {d : Cond} (h : L[i]? = some d) : d.before a0 Z = true := hw d (List.mem_of_getElem? h)
/-- a callee's contract, as the walks here say it -/
abbrev Met (l : Launch) (Z : State) (y : MethodName) (bytes : ByteArray) (maxL : Nat) (ret : Option FieldType) (ws : List Cond) (rm : Room) (as' : Array Value) (h0 : Heap) (Q : Option Value → Heap → List Loc → Prop) : Prop :=
  MetFree l y (head1 (Cond.code y bytes maxL ret :: ws) rm) (fun a U => a = as' ∧ Z.Warmed39 U.vm ∧ U.heap = h0) (fun _ _ _ _ _ => True) (fun _ U o U' => ∃ v L, o = .returned v ∧ Q v U'.heap L ∧ FrameEnd U o U' L rm.cells rm.slots)
theorem Met.enter {Z : State} {y : MethodName} {bytes : ByteArray} {maxL : Nat} {ret : Option FieldType} {ws : List Cond} {rm : Room} {as' : Array Value} {h0 : Heap} {f0 : MethodId → JFrame} (hpl : plainFor y = true) (hf0 : ∀ m, entryFrame m as' maxL = f0 m)
    (body : ∀ (p : Program) (e : Env) (s : State) (m : MethodId) (below : List Frame) (meth : Method) (c : Code) (s₁ : State), p.tables.exec = Jvm.exec → c.code = bytes → c.maxLocals = maxL → s.vm.findClass y.cls = some m.cls → meth.name = y.name → meth.sig.returnType = ret → meth.locks = false → Z.Warmed39 s.vm → Stand p l e rm s m as' below meth c s₁ [] 0 0 → s₁.heap = h0 → Go p e below (PostW s rm.cells rm.slots Q) (s₁.setTop (f0 m))) : Met l Z y bytes maxL ret ws rm as' h0 Q := by
  refine MetFree.of_bodySF hpl hisR ?_
  intro p e s m args below meth c s₁ Bd hml0 hP hK
  obtain ⟨rfl, hZ, hh⟩ := hP
  have q := body p e s m below meth c s₁ Bd.exec Bd.bytes hml0 (findClass_of_methodNamed Bd.named) (name_of_methodNamed Bd.named Bd.method).1 Bd.returns Bd.notSynchronized hZ (Stand.of_body Bd) (by rw [← hh, Bd.state]; rfl)
  rw [← hf0] at q
  exact q
end Own
end Jvm.RoadKit
namespace Jvm.Pilot.@@N@@
open Jvm Jvm.ClassFile Sem Op Lib Jvm.Free Jvm.Stand Jvm.LawKit Jvm.RoadKit Bundle Jvm.Pilot.@@N@@.Jvm.D
theorem own_eqk {args : Array Value} {first s : State} {o : Option Outcome} {idx : List Nat} {t : Term} {k : Int32} (h : (Jvm.Cond.eq t (Term.int k)).value args first o s idx = some true) : t.eval args first o idx s = some (.int k) := by
  obtain ⟨x, y, ex, ey, -, k2⟩ := cmp_v (Or.inl h)
  have e2 : y = .int k := Option.some.inj (ey.symm.trans (Term.int_eval k))
  subst e2
  obtain ⟨z, rfl⟩ := k2
  have := gotT (Cond.eq_ints ex (Term.int_eval k)) h
  rw [ex, this]

def own_h (q : Int64) : Int32 := ((((q * (-7046029254386353131 : Int64)).toUInt64 >>> ((32 : Int32) &&& 0x3f).toInt64.toUInt64).toInt64).toInt32) &&& (1023 : Int32)
def own_nx (i : Int32) : Int32 := (i + (1 : Int32)) &&& (1023 : Int32)
def own_ins (q : Int64) (i : Int32) : Int32 := if own_h q = i then own_nx i else own_h q
def own_rg (i : Int32) : Prop := ¬ i < (0 : Int32) ∧ i < (1024 : Int32)
theorem own_idx {x v : Int32} (h : v = (x &&& (1023 : Int32))) : own_rg v := by
  have q := c_mask x 1023 10 (by decide) (by decide)
  have z0 : (0 : Int32).toInt = 0 := by decide
  have z1 : (1024 : Int32).toInt = 1024 := by decide
  rw [← h] at q
  refine ⟨?_, ?_⟩
  · rw [Int32.lt_iff_toInt_lt]; omega
  · rw [Int32.lt_iff_toInt_lt]; omega
theorem own_nxI {x v : Int32} (h : v = ((x + (1 : Int32)) &&& (1023 : Int32))) : v.toInt = (x.toInt + 1) % 1024 := by
  have q := c_mask (x + 1) 1023 10 (by decide) (by decide)
  have a := c_iadd x 1
  have z : (1 : Int32).toInt = 1 := by decide
  rw [← h] at q
  omega
theorem own_nx1 {x v : Int32} (h : v = ((x + (1 : Int32)) &&& (1023 : Int32))) : ¬ v = x := fun e => by
  have q := own_nxI h
  rw [e] at q
  omega
theorem own_nx2 {x v u : Int32} (h : v = ((x + (1 : Int32)) &&& (1023 : Int32))) (h2 : u = ((v + (1 : Int32)) &&& (1023 : Int32))) : ¬ u = x := fun e => by
  have q := own_nxI h
  have q2 := own_nxI h2
  rw [e] at q2
  omega
theorem own_L1 {q a : Int64} {v i : Int32} (hv : v = own_h q) (hi : i = own_h a) (n : ¬ v = i) : ¬ a = q := fun e => n (by rw [hv, hi, e])
theorem own_L2 {q b : Int64} {v i j : Int32} (hv : v = own_h q) (hj : j = own_ins b i) (n1 : ¬ v = i) (n2 : ¬ v = j) : ¬ b = q := fun e => n2 (by
  subst e
  rw [hj, own_ins, if_neg (fun q => n1 (hv.trans q))]
  exact hv)
theorem own_L3 {q b : Int64} {v u i j : Int32} (hv : v = own_h q) (hj : j = own_ins b i) (h0 : v = i) (hu : u = own_nx v) (n : ¬ u = j) : ¬ b = q := fun e => n (by
  subst e
  rw [hj, own_ins, if_pos (hv.symm.trans h0), hu, h0])
theorem own_insY {q : Int64} {v u i : Int32} (hv : v = own_h q) (h0 : v = i) (hu : u = own_nx v) : u = own_ins q i := by rw [own_ins, if_pos (hv.symm.trans h0), hu, h0]
theorem own_insN {q : Int64} {v i : Int32} (hv : v = own_h q) (n : ¬ v = i) : v = own_ins q i := by rw [own_ins, if_neg (fun q => n (hv.trans q))]; exact hv

theorem ef_rm_fill (m : MethodId) (x0 : Addr) : entryFrame m #[(.ref x0), (.long (-1 : Int64))] 5 = mkF m 0 #[.val (.ref x0), .val (.long (-1 : Int64)), .second, .unset, .unset] [] := by first | (simp [entryFrame, mkF, argsToLocals, Value.category]; done) | rfl
theorem d4_0 : decode jdk_65_method_101_code 0 = .ok (.iconst 0, 1) := by decide +kernel
theorem d4_1 : decode jdk_65_method_101_code 1 = .ok (.istore_n 3, 1) := by decide +kernel
theorem d4_2 : decode jdk_65_method_101_code 2 = .ok (.aload_n 0, 1) := by decide +kernel
theorem d4_3 : decode jdk_65_method_101_code 3 = .ok (.arraylength, 1) := by decide +kernel
theorem d4_4 : decode jdk_65_method_101_code 4 = .ok (.istore 4, 2) := by decide +kernel
theorem d4_6 : decode jdk_65_method_101_code 6 = .ok (.iload_n 3, 1) := by decide +kernel
theorem d4_7 : decode jdk_65_method_101_code 7 = .ok (.iload 4, 2) := by decide +kernel
theorem d4_9 : decode jdk_65_method_101_code 9 = .ok (.if_icmp .ge 13, 3) := by decide +kernel
theorem d4_22 : decode jdk_65_method_101_code 22 = .ok (.return_, 1) := by decide +kernel
theorem d4_12 : decode jdk_65_method_101_code 12 = .ok (.aload_n 0, 1) := by decide +kernel
theorem d4_13 : decode jdk_65_method_101_code 13 = .ok (.iload_n 3, 1) := by decide +kernel
theorem d4_14 : decode jdk_65_method_101_code 14 = .ok (.lload_n 1, 1) := by decide +kernel
theorem d4_15 : decode jdk_65_method_101_code 15 = .ok (.lastore, 1) := by decide +kernel
theorem d4_16 : decode jdk_65_method_101_code 16 = .ok (.iinc 3 1, 3) := by decide +kernel
theorem d4_19 : decode jdk_65_method_101_code 19 = .ok (.goto (-13), 3) := by decide +kernel
theorem pn_java_util_Arrays : plainName "java/util/Arrays" = true := by first | (simp [plainName, overriddenIn]; done) | decide +kernel
def Q_rm_fill (Z : State) (a1 : Addr) (ka : ClassId) (h0 : Heap) (n0 : Nat) (vv : Option Value) (h : Heap) (L : List Loc) : Prop := vv = none ∧ Fr n0 L ∧ Keep h0 h [a1] ∧ Arh Z h a1 ka .long (1024 : Int32) [] [] (.long (-1 : Int64))
set_option maxRecDepth 65536 in
set_option maxHeartbeats 40000000 in
theorem rm_fill (l : Launch) (Z : State) (a0 : Array Value) (hw : ∀ d ∈ tables_1, d.before a0 Z = true) (ws : List Jvm.Cond) (a1 : Addr) (ka : ClassId) (h0 : Heap) (n0 : Nat) (Z0 : n0 ≤ h0.size) (pr0 : Old Z n0 h0) (pr1 : Arh Z h0 a1 ka .long (1024 : Int32) [] [] (.long (0 : Int64))) (pr2 : n0 ≤ a1) :
    Met l Z (⟨"java/util/Arrays", "fill", "([JJ)V"⟩ : MethodName) jdk_65_method_101_code 5 none ws ({ frames := 0, cells := 0, slots := 0, locals := 0 } : Room) #[(.ref a1), (.long (-1 : Int64))] h0 (Q_rm_fill Z a1 ka h0 n0) := by
  refine Met.enter (f0 := fun m => mkF m 0 #[.val (.ref a1), .val (.long (-1 : Int64)), .second, .unset, .unset] []) (plainFor_of_name pn_java_util_Arrays) (fun m => ef_rm_fill m a1) ?_
  intro p e s m below meth c s₁ hx hby hml hown hnm hret hlk hZ X0 e0
  have hown : s.vm.findClass "java/util/Arrays" = some m.cls := hown
  have hnm : meth.name = "fill" := hnm
  have hml : c.maxLocals = 5 := hml
  have hby : c.code = jdk_65_method_101_code := hby
  have N0 := Fr.nil n0
  refine Go.by (B := (s₁.setTop (mkF m 3 #[.val (.ref a1), .val (.long (-1 : Int64)), .second, .val (.int 0), .unset] [(.ref a1)]))) (fun _ k => XS.iconst X0.here hx rfl (hb hby d4_0) (XS.istoreN X0.here hx rfl (hb hby d4_1) rfl (l' := #[.val (.ref a1), .val (.long (-1 : Int64)), .second, .val (.int 0), .unset]) rfl (XS.aloadN X0.here hx rfl (hb hby d4_2) rfl rfl k))) ?_
  obtain ⟨cl1, Ar1, q1, S1, N_1, Hs1, G1⟩ := id pr1
  refine Go.by (B := (s₁.setTop (mkF m 4 #[.val (.ref a1), .val (.long (-1 : Int64)), .second, .val (.int 0), .unset] [(.int 1024)]))) (fun _ k => X0.arraylength hx (by rw [e0]; exact Ar1.1) (State.isArrayOf_alike hZ.alike Ar1.2.1) (g := (mkF m 3 #[.val (.ref a1), .val (.long (-1 : Int64)), .second, .val (.int 0), .unset] [(.ref a1)])) rfl rfl (hb hby d4_3) _ (by rw [len_of S1 N_1]; exact k)) ?_
  refine Go.by (B := (s₁.setTop (mkF m 6 #[.val (.ref a1), .val (.long (-1 : Int64)), .second, .val (.int 0), .val (.int 1024)] []))) (fun _ k => XS.istore X0.here hx rfl (hb hby d4_4) rfl (l' := #[.val (.ref a1), .val (.long (-1 : Int64)), .second, .val (.int 0), .val (.int 1024)]) rfl k) ?_
  obtain ⟨cl2, Ar2, q2, S2, N_2, Hs2, G2⟩ := id pr1
  have LOOP : ∀ (k : Nat) (i : Nat), i + k = 1024 → ∀ (T' : State) (lc : List Loc) (h' : Heap) (X' : Stand p l e ({ frames := 0, cells := 0, slots := 0, locals := 0 } : Room) s m #[(.ref a1), (.long (-1 : Int64))] below meth c T' lc 0 0) (e' : T'.heap = h') (N' : Fr n0 lc) (K' : Keep h0 h' [a1]) (cl : Cell) (Ar : Arr Z h' a1 cl .long) (hq : cl.cls = ka) (hS : cl.slots.size = 1024) (hlo : ∀ j, j < i → cl.slots[j]? = some (.long (-1 : Int64))), Go p e below (PostW s ({ frames := 0, cells := 0, slots := 0, locals := 0 } : Room).cells ({ frames := 0, cells := 0, slots := 0, locals := 0 } : Room).slots (Q_rm_fill Z a1 ka h0 n0)) (T'.setTop (mkF m 6 #[.val (.ref a1), .val (.long (-1 : Int64)), .second, .val (.int (Int32.ofNat i)), .val (.int 1024)] [])) := by
    intro k
    induction k with
    | zero =>
      intro i hi T' lc h' X' e' N' K' cl Ar hq hS hlo
      have hi' : i = 1024 := by omega
      have hc : ¬ (Int32.ofNat i) < (1024 : Int32) := by subst hi'; decide
      refine Go.by (B := (T'.setTop (mkF m 22 #[.val (.ref a1), .val (.long (-1 : Int64)), .second, .val (.int (Int32.ofNat i)), .val (.int 1024)] []))) (fun _ k => XS.iloadN X'.here hx rfl (hb hby d4_6) rfl (XS.iload X'.here hx rfl (hb hby d4_7) rfl (XS.icmpYes X'.here hx rfl (pc0 := 9) (pc' := 22) rfl (hb hby d4_9) rfl (flt hc).2.1 (by decide) (by decide) k))) ?_
      refine Go.retV X' hx hlk hret (hb hby d4_22) (by decide) (by decide) ?_
      rw [e']
      exact ⟨rfl, N', K', cl, Ar, hq, hS, by decide, fun j hj => hlo j (by omega), fun _ _ => rfl⟩
    | succ k ih =>
      intro i hi T' lc h' X' e' N' K' cl Ar hq hS hlo
      have hti : (Int32.ofNat i).toInt = i := Int32.toInt_ofNat_small (by omega)
      have z0 : (0 : Int32).toInt = 0 := by decide
      have z1 : (1024 : Int32).toInt = 1024 := by decide
      have hc : (Int32.ofNat i) < (1024 : Int32) := by rw [Int32.lt_iff_toInt_lt]; omega
      have hn : ¬ (Int32.ofNat i) < (0 : Int32) := by rw [Int32.lt_iff_toInt_lt]; omega
      have hnat : (Int32.ofNat i).toNatClampNeg = i := by have := nat_of hn; omega
      have hin : ¬ ((Int32.ofNat i) < 0 ∨ cl.slots.size ≤ (Int32.ofNat i).toNatClampNeg) := fun q => q.elim hn (fun q => by omega)
      refine Go.by (B := (T'.setTop (mkF m 15 #[.val (.ref a1), .val (.long (-1 : Int64)), .second, .val (.int (Int32.ofNat i)), .val (.int 1024)] [(.long (-1 : Int64)), (.int (Int32.ofNat i)), (.ref a1)]))) (fun _ k => XS.iloadN X'.here hx rfl (hb hby d4_6) rfl (XS.iload X'.here hx rfl (hb hby d4_7) rfl (XS.icmpNo X'.here hx rfl (hb hby d4_9) rfl (tlt hc).2.1 (XS.aloadN X'.here hx rfl (hb hby d4_12) rfl rfl (XS.iloadN X'.here hx rfl (hb hby d4_13) rfl (XS.lloadN X'.here hx rfl (hb hby d4_14) rfl k)))))) ?_
      obtain ⟨T2, h2, X2, e2, W2, st2⟩ := stJ X' hx hZ e' Ar (j := (Int32.ofNat i)) hin (g := (mkF m 15 #[.val (.ref a1), .val (.long (-1 : Int64)), .second, .val (.int (Int32.ofNat i)), .val (.int 1024)] [(.long (-1 : Int64)), (.int (Int32.ofNat i)), (.ref a1)])) rfl rfl (hb hby d4_15)
      refine Go.by (B := (T2.setTop (mkF m 16 #[.val (.ref a1), .val (.long (-1 : Int64)), .second, .val (.int (Int32.ofNat i)), .val (.int 1024)] []))) st2 ?_
      refine Go.by (B := (T2.setTop (mkF m 6 #[.val (.ref a1), .val (.long (-1 : Int64)), .second, .val (.int ((Int32.ofNat i) + (1 : Int32))), .val (.int 1024)] []))) (fun _ k => XS.iinc X2.here hx rfl (hb hby d4_16) rfl (l' := #[.val (.ref a1), .val (.long (-1 : Int64)), .second, .val (.int ((Int32.ofNat i) + (1 : Int32))), .val (.int 1024)]) rfl (XS.goto X2.here hx rfl (pc0 := 19) (pc' := 6) rfl (hb hby d4_19) (by decide) (by decide) k)) ?_
      have ei : (Int32.ofNat i) + (1 : Int32) = Int32.ofNat (i + 1) := by rw [← Int32.toInt_inj]; have := c_iadd (Int32.ofNat i) 1; have r := rng32 ((Int32.ofNat i) + 1); have z2 : (1 : Int32).toInt = 1 := (by decide); rw [Int32.toInt_ofNat_small (by omega)]; omega
      rw [ei]
      exact ih (i + 1) (by omega) T2 _ h2 X2 e2 (Fr.snoc X2 N' pr2) (K'.wr W2 (Or.inl (List.mem_of_getElem? (i := 0) rfl))) (cl.setSlot (Int32.ofNat i).toNatClampNeg (.long (-1 : Int64))) (Ar.same W2) hq (by rw [sz_set]; exact hS) (fun j hj => by
        rw [hnat]
        by_cases hj2 : j = i
        · have hl : j < cl.slots.size := by omega
          subst hj2
          first | (simp [Cell.setSlot, Array.getElem?_setIfInBounds, hl]; done) | (simp [Cell.setSlot, hl]; done) | (simp [Cell.setSlot]; exact hl)
        · have := hlo j (by omega); simp [Cell.setSlot, Array.getElem?_setIfInBounds, Ne.symm hj2]; exact this)
  exact LOOP 1024 0 rfl s₁ [] h0 X0 e0 N0 (Keep.refl _ _) cl2 Ar2 q2 (S2.trans (by decide)) (fun j hj => absurd hj (Nat.not_lt_zero _))
theorem ef_rm_empty (m : MethodId)  : entryFrame m #[(.int 1024)] 2 = mkF m 0 #[.val (.int 1024), .unset] [] := by first | (simp [entryFrame, mkF, argsToLocals, Value.category]; done) | rfl
theorem d3_0 : decode prog_10_method_12_code 0 = .ok (.iload_n 0, 1) := by decide +kernel
theorem d3_1 : decode prog_10_method_12_code 1 = .ok (.newarray .long, 2) := by decide +kernel
theorem d3_3 : decode prog_10_method_12_code 3 = .ok (.astore_n 1, 1) := by decide +kernel
theorem d3_4 : decode prog_10_method_12_code 4 = .ok (.aload_n 1, 1) := by decide +kernel
theorem d3_5 : decode prog_10_method_12_code 5 = .ok (.ldc2_w 46, 3) := by decide +kernel
theorem d3_8 : decode prog_10_method_12_code 8 = .ok (.invokestatic 62, 3) := by decide +kernel
theorem pd_0 : parseMethodDescriptor "([JJ)V" = some ⟨[(.array .long), .long], none⟩ := by decide +kernel
theorem d3_11 : decode prog_10_method_12_code 11 = .ok (.aload_n 1, 1) := by decide +kernel
theorem d3_12 : decode prog_10_method_12_code 12 = .ok (.areturn, 1) := by decide +kernel
theorem pn_com_example_floodgauge_floodgauge_latency_SeqTable : plainName "com/example/floodgauge/floodgauge/latency/SeqTable" = true := by first | (simp [plainName, overriddenIn]; done) | decide +kernel
def Q_rm_empty (Z : State)  (h0 : Heap) (n0 : Nat) (vv : Option Value) (h : Heap) (L : List Loc) : Prop := ∃ b : Addr, ∃ k : ClassId, vv = some (.ref b) ∧ Fr n0 L ∧ Keep h0 h [] ∧ Arh Z h b k .long (1024 : Int32) [] [] (.long (-1 : Int64)) ∧ h0.size ≤ b
set_option maxRecDepth 65536 in
set_option maxHeartbeats 40000000 in
theorem rm_empty (l : Launch) (Z : State) (a0 : Array Value) (hw : ∀ d ∈ tables_1, d.before a0 Z = true) (ws : List Jvm.Cond)  (h0 : Heap) (n0 : Nat) (Z0 : n0 ≤ h0.size) (pr0 : Old Z n0 h0) :
    Met l Z (⟨"com/example/floodgauge/floodgauge/latency/SeqTable", "emptyTable", "(I)[J"⟩ : MethodName) prog_10_method_12_code 2 (some (.array .long)) ws ({ frames := 1, cells := 1, slots := 1024, locals := 16 } : Room) #[(.int 1024)] h0 (Q_rm_empty Z  h0 n0) := by
  refine Met.enter (f0 := fun m => mkF m 0 #[.val (.int 1024), .unset] []) (plainFor_of_name pn_com_example_floodgauge_floodgauge_latency_SeqTable) (fun m => ef_rm_empty m ) ?_
  intro p e s m below meth c s₁ hx hby hml hown hnm hret hlk hZ X0 e0
  have hown : s.vm.findClass "com/example/floodgauge/floodgauge/latency/SeqTable" = some m.cls := hown
  have hnm : meth.name = "emptyTable" := hnm
  have hml : c.maxLocals = 2 := hml
  have hby : c.code = prog_10_method_12_code := hby
  have N0 := Fr.nil n0
  refine Go.by (B := (s₁.setTop (mkF m 1 #[.val (.int 1024), .unset] [(.int 1024)]))) (fun _ k => XS.iloadN X0.here hx rfl (hb hby d3_0) rfl k) ?_
  obtain ⟨T3, h3, k3, X3, e3, E3, A3, st3⟩ := newP X0 hx hZ (wd hw 13 rfl) e0 (g := (mkF m 1 #[.val (.int 1024), .unset] [(.int 1024)])) rfl (hb hby d3_1) rfl (by decide) (cap := 1024) (by decide) (by decide) (by decide) (by decide)
  obtain ⟨b3, g3⟩ : ∃ z, z = h0.size := ⟨_, rfl⟩
  rw [← g3] at A3 st3
  have sz_b3 : h0.size ≤ b3 := Nat.le_of_eq g3.symm
  have V3 : Arh Z h3 b3 k3 .long (1024 : Int32) [] [] (.long (0 : Int64)) := Arv.arh (Arv.new A3 (by decide))
  have O4 := pr0.ext E3
  have Z4 : n0 ≤ h3.size := Nat.le_trans Z0 E3.1
  refine Go.by (B := (T3.setTop (mkF m 3 #[.val (.int 1024), .unset] [(.ref b3)]))) st3 ?_
  refine Go.by (B := (T3.setTop (mkF m 8 #[.val (.int 1024), .val (.ref b3)] [(.long (-1 : Int64)), (.ref b3)]))) (fun _ k => XS.astoreN X3.here hx rfl (hb hby d3_3) rfl rfl (l' := #[.val (.int 1024), .val (.ref b3)]) rfl (XS.aloadN X3.here hx rfl (hb hby d3_4) rfl rfl (X3.ldc2Long hx hown (mvT hZ (wd hw 14 rfl)) (g := (mkF m 5 #[.val (.int 1024), .val (.ref b3)] [(.ref b3)])) rfl (hb hby d3_5) _ k))) ?_
  obtain ⟨_, _, ⟨T5, L5, k5, n5⟩, -, X5, ⟨Lc5, hQ5, l5, y5, z5⟩, st5⟩ := Jvm.LawKit.callS X3 hx (y := (⟨"java/util/Arrays", "fill", "([JJ)V"⟩ : MethodName)) hown (mvT hZ (wd hw 15 rfl)) (mvT hZ (wd hw 16 rfl)) (mvT hZ (wd hw 17 rfl)) (mvT hZ (wd hw 18 rfl)) (by decide) (backOf (W := 0) (rm_fill l Z a0 hw [] b3 k3 h3 n0 Z4 O4 V3 (Nat.le_trans Z0 sz_b3)) hZ (wd hw 18 rfl) (wd hw 17 rfl) (by decide) (by decide)) (g := (mkF m 8 #[.val (.int 1024), .val (.ref b3)] [(.long (-1 : Int64)), (.ref b3)])) rfl (by rw [hml]; rfl) (argsL := [(.ref b3), (.long (-1 : Int64))]) (rest := []) (lenOf pd_0 rfl) rfl (by show 2 * 0 + _ ≤ _; exact Nat.le_of_eq rfl) (hb hby d3_8) (fun _ _ => ⟨rfl, e3, Nat.le_of_ble_eq_true rfl, Nat.le_of_ble_eq_true rfl⟩)
  dsimp only [Pt.U, Pt.locs, Pt.cells, Pt.slots] at X5 l5 y5 z5 st5 hQ5
  subst l5 y5 z5
  obtain ⟨rfl, Nq5, K5, p5_0⟩ := hQ5
  have N5 := Fr.app N0 Nq5
  have O6 := O4.keep K5 (allS (Nat.le_trans Z0 sz_b3) all0)
  have Z6 : n0 ≤ T5.heap.size := Nat.le_trans Z4 K5.1
  refine Go.by (B := (T5.setTop (mkF m 11 #[.val (.int 1024), .val (.ref b3)] []))) (fun _ k => st5 _ k) ?_
  refine Go.by (B := (T5.setTop (mkF m 12 #[.val (.int 1024), .val (.ref b3)] [(.ref b3)]))) (fun _ k => XS.aloadN X5.here hx rfl (hb hby d3_11) rfl rfl k) ?_
  refine Go.ret X5 hx hlk (t := (.array .long)) hret rfl (Or.inr (Or.inr (Or.inr (Or.inr ⟨rfl, rfl, rfl⟩)))) (hb hby d3_12) (by decide) (by decide) ?_
  exact ⟨b3, k3, rfl, N5, (((Keep.refl h0 []).ext E3).trans K5 (allS (Or.inr (Nat.le_trans (Nat.le_refl _) sz_b3)) all0)), p5_0, (Nat.le_trans (Nat.le_refl _) sz_b3)⟩
theorem ef_rm_tinit (m : MethodId) (x0 : Addr) : entryFrame m #[(.ref x0)] 1 = mkF m 0 #[.val (.ref x0)] [] := by first | (simp [entryFrame, mkF, argsToLocals, Value.category]; done) | rfl
theorem d1_0 : decode prog_10_method_1_code 0 = .ok (.aload_n 0, 1) := by decide +kernel
theorem d1_1 : decode prog_10_method_1_code 1 = .ok (.invokespecial 1, 3) := by decide +kernel
theorem d1_4 : decode prog_10_method_1_code 4 = .ok (.aload_n 0, 1) := by decide +kernel
theorem d1_5 : decode prog_10_method_1_code 5 = .ok (.sipush 1024, 3) := by decide +kernel
theorem d1_8 : decode prog_10_method_1_code 8 = .ok (.invokestatic 7, 3) := by decide +kernel
theorem pd_1 : parseMethodDescriptor "(I)[J" = some ⟨[.int], some (.array .long)⟩ := by decide +kernel
theorem d1_11 : decode prog_10_method_1_code 11 = .ok (.putfield 13, 3) := by decide +kernel
theorem d1_14 : decode prog_10_method_1_code 14 = .ok (.aload_n 0, 1) := by decide +kernel
theorem d1_15 : decode prog_10_method_1_code 15 = .ok (.sipush 1024, 3) := by decide +kernel
theorem d1_18 : decode prog_10_method_1_code 18 = .ok (.newarray .long, 2) := by decide +kernel
theorem d1_20 : decode prog_10_method_1_code 20 = .ok (.putfield 17, 3) := by decide +kernel
theorem d1_23 : decode prog_10_method_1_code 23 = .ok (.aload_n 0, 1) := by decide +kernel
theorem d1_24 : decode prog_10_method_1_code 24 = .ok (.sipush 1024, 3) := by decide +kernel
theorem d1_27 : decode prog_10_method_1_code 27 = .ok (.newarray .byte, 2) := by decide +kernel
theorem d1_29 : decode prog_10_method_1_code 29 = .ok (.putfield 20, 3) := by decide +kernel
theorem d1_32 : decode prog_10_method_1_code 32 = .ok (.return_, 1) := by decide +kernel
def Q_rm_tinit (Z : State) (a1 : Addr) (h0 : Heap) (n0 : Nat) (vv : Option Value) (h : Heap) (L : List Loc) : Prop := ∃ s1 : Addr, ∃ s2 : Addr, ∃ k1 : ClassId, ∃ k2 : ClassId, vv = none ∧ Fr n0 L ∧ Keep h0 h [a1] ∧ Exa Z h a1 "com/example/floodgauge/floodgauge/latency/SeqTable" ∧ Fld Z h a1 "com/example/floodgauge/floodgauge/latency/SeqTable" "seqs" "[J" (.ref s1) ∧ Fld Z h a1 "com/example/floodgauge/floodgauge/latency/SeqTable" "values" "[J" (.ref s2) ∧ Fld Z h a1 "com/example/floodgauge/floodgauge/latency/SeqTable" "size" "I" (.int 0) ∧ Arh Z h s1 k1 .long (1024 : Int32) [] [] (.long (-1 : Int64)) ∧ Arh Z h s2 k2 .long (1024 : Int32) [] [] (.long (0 : Int64)) ∧ h0.size ≤ s1 ∧ h0.size ≤ s2 ∧ s1 ≠ s2
set_option maxRecDepth 65536 in
set_option maxHeartbeats 40000000 in
theorem rm_tinit (l : Launch) (Z : State) (a0 : Array Value) (hw : ∀ d ∈ tables_1, d.before a0 Z = true) (ws : List Jvm.Cond) (a1 : Addr) (h0 : Heap) (n0 : Nat) (Z0 : n0 ≤ h0.size) (pr0 : Old Z n0 h0) (pr1 : Exa Z h0 a1 "com/example/floodgauge/floodgauge/latency/SeqTable") (pr2 : Fld Z h0 a1 "com/example/floodgauge/floodgauge/latency/SeqTable" "seqs" "[J" .null) (pr3 : Fld Z h0 a1 "com/example/floodgauge/floodgauge/latency/SeqTable" "values" "[J" .null) (pr4 : Fld Z h0 a1 "com/example/floodgauge/floodgauge/latency/SeqTable" "states" "[B" .null) (pr5 : Fld Z h0 a1 "com/example/floodgauge/floodgauge/latency/SeqTable" "size" "I" (.int 0)) (pr6 : n0 ≤ a1) :
    Met l Z (⟨"com/example/floodgauge/floodgauge/latency/SeqTable", "<init>", "()V"⟩ : MethodName) prog_10_method_1_code 1 none ws ({ frames := 2, cells := 3, slots := 3072, locals := 30 } : Room) #[(.ref a1)] h0 (Q_rm_tinit Z a1 h0 n0) := by
  refine Met.enter (f0 := fun m => mkF m 0 #[.val (.ref a1)] []) (plainFor_of_name pn_com_example_floodgauge_floodgauge_latency_SeqTable) (fun m => ef_rm_tinit m a1) ?_
  intro p e s m below meth c s₁ hx hby hml hown hnm hret hlk hZ X0 e0
  have hown : s.vm.findClass "com/example/floodgauge/floodgauge/latency/SeqTable" = some m.cls := hown
  have hnm : meth.name = "<init>" := hnm
  have hml : c.maxLocals = 1 := hml
  have hby : c.code = prog_10_method_1_code := hby
  have N0 := Fr.nil n0
  refine Go.by (B := (s₁.setTop (mkF m 1 #[.val (.ref a1)] [(.ref a1)]))) (fun _ k => XS.aloadN X0.here hx rfl (hb hby d1_0) rfl rfl k) ?_
  obtain ⟨T7, X7, e7, st7⟩ := initO X0 hx hZ hown (wd hw 7 rfl) (wd hw 8 rfl) (wd hw 9 rfl) e0 (g := (mkF m 1 #[.val (.ref a1)] [(.ref a1)])) rfl (by rw [hml]; rfl) rfl (hb hby d1_1) (by decide) (W := 0) (by show 2 * 0 + _ ≤ _; exact Nat.le_of_eq rfl) (by decide)
  refine Go.by (B := (T7.setTop (mkF m 4 #[.val (.ref a1)] []))) st7 ?_
  refine Go.by (B := (T7.setTop (mkF m 8 #[.val (.ref a1)] [(.int 1024), (.ref a1)]))) (fun _ k => XS.aloadN X7.here hx rfl (hb hby d1_4) rfl rfl (XS.sipush X7.here hx rfl (hb hby d1_5) k)) ?_
  obtain ⟨_, _, ⟨T8, L8, k8, n8⟩, -, X8, ⟨Lc8, hQ8, l8, y8, z8⟩, st8⟩ := Jvm.LawKit.callS X7 hx (y := (⟨"com/example/floodgauge/floodgauge/latency/SeqTable", "emptyTable", "(I)[J"⟩ : MethodName)) hown (mvT hZ (wd hw 10 rfl)) (mvT hZ (wd hw 11 rfl)) (mvT hZ (wd hw 3 rfl)) (mvT hZ (wd hw 12 rfl)) (by decide) (backOf (W := 1) (rm_empty l Z a0 hw []  h0 n0 Z0 pr0) hZ (wd hw 12 rfl) (wd hw 3 rfl) (by decide) (by decide)) (g := (mkF m 8 #[.val (.ref a1)] [(.int 1024), (.ref a1)])) rfl (by rw [hml]; rfl) (argsL := [(.int 1024)]) (rest := [(.ref a1)]) (lenOf pd_1 rfl) rfl (by show 2 * 0 + _ ≤ _; exact Nat.le_of_eq rfl) (hb hby d1_8) (fun _ _ => ⟨rfl, e7, Nat.le_of_ble_eq_true rfl, Nat.le_of_ble_eq_true rfl⟩)
  dsimp only [Pt.U, Pt.locs, Pt.cells, Pt.slots] at X8 l8 y8 z8 st8 hQ8
  subst l8 y8 z8
  obtain ⟨b8, k8, rfl, Nq8, K8, p8_0, p8_1⟩ := hQ8
  have N8 := Fr.app N0 Nq8
  have O9 := pr0.keep K8 all0
  have Z9 : n0 ≤ T8.heap.size := Nat.le_trans Z0 K8.1
  have sz_b8 : h0.size ≤ b8 := p8_1
  refine Go.by (B := (T8.setTop (mkF m 11 #[.val (.ref a1)] [(.ref b8), (.ref a1)]))) (fun _ k => st8 _ k) ?_
  obtain ⟨T10, h10, X10, e10, W10, st10⟩ := putF X8 hx hZ hown (host := "") (Or.inl (wd hw 19 rfl)) Via.refl rfl (pr2.keep K8 nin0) (pr1.keep K8) (Or.inl (wd hw 20 rfl)) (wd hw 2 rfl) (ty := (.array .long)) (by decide) rfl rfl (g := (mkF m 11 #[.val (.ref a1)] [(.ref b8), (.ref a1)])) rfl rfl (hb hby d1_11)
  have N10 := Fr.snoc X10 N8 pr6
  have O11 := O9.wr W10 pr6
  have Z11 : n0 ≤ h10.size := Nat.le_trans Z9 (Keep.of_wr W10).1
  have F10 := (pr2.keep K8 nin0).same W10
  refine Go.by (B := (T10.setTop (mkF m 14 #[.val (.ref a1)] []))) st10 ?_
  refine Go.by (B := (T10.setTop (mkF m 18 #[.val (.ref a1)] [(.int 1024), (.ref a1)]))) (fun _ k => XS.aloadN X10.here hx rfl (hb hby d1_14) rfl rfl (XS.sipush X10.here hx rfl (hb hby d1_15) k)) ?_
  obtain ⟨T12, h12, k12, X12, e12, E12, A12, st12⟩ := newP X10 hx hZ (wd hw 13 rfl) e10 (g := (mkF m 18 #[.val (.ref a1)] [(.int 1024), (.ref a1)])) rfl (hb hby d1_18) rfl (by decide) (cap := 1024) (by decide) (by decide) (by decide) (by decide)
  obtain ⟨b12, g12⟩ : ∃ z, z = h10.size := ⟨_, rfl⟩
  rw [← g12] at A12 st12
  have sz_b12 : h10.size ≤ b12 := Nat.le_of_eq g12.symm
  have V12 : Arh Z h12 b12 k12 .long (1024 : Int32) [] [] (.long (0 : Int64)) := Arv.arh (Arv.new A12 (by decide))
  have O13 := O11.ext E12
  have Z13 : n0 ≤ h12.size := Nat.le_trans Z11 E12.1
  refine Go.by (B := (T12.setTop (mkF m 20 #[.val (.ref a1)] [(.ref b12), (.ref a1)]))) st12 ?_
  have f14 := (((pr3.keep K8 nin0).other W10 (Or.inr (slot_ne (Or.inl (wd hw 22 rfl)) (Or.inl (wd hw 20 rfl)) (by decide) (t := (.array .long)) (t' := (.array .long)) (by decide) (by decide)))).ext E12)
  have f15 := (((pr1.keep K8).wr W10).ext E12)
  obtain ⟨T16, h16, X16, e16, W16, st16⟩ := putF X12 hx hZ hown (host := "") (Or.inl (wd hw 21 rfl)) Via.refl e12 f14 f15 (Or.inl (wd hw 22 rfl)) (wd hw 2 rfl) (ty := (.array .long)) (by decide) rfl rfl (g := (mkF m 20 #[.val (.ref a1)] [(.ref b12), (.ref a1)])) rfl rfl (hb hby d1_20)
  have N16 := Fr.snoc X16 N10 pr6
  have O17 := O13.wr W16 pr6
  have Z17 : n0 ≤ h16.size := Nat.le_trans Z13 (Keep.of_wr W16).1
  have F16 := f14.same W16
  refine Go.by (B := (T16.setTop (mkF m 23 #[.val (.ref a1)] []))) st16 ?_
  refine Go.by (B := (T16.setTop (mkF m 27 #[.val (.ref a1)] [(.int 1024), (.ref a1)]))) (fun _ k => XS.aloadN X16.here hx rfl (hb hby d1_23) rfl rfl (XS.sipush X16.here hx rfl (hb hby d1_24) k)) ?_
  obtain ⟨T18, h18, k18, X18, e18, E18, A18, st18⟩ := newP X16 hx hZ (wd hw 23 rfl) e16 (g := (mkF m 27 #[.val (.ref a1)] [(.int 1024), (.ref a1)])) rfl (hb hby d1_27) rfl (by decide) (cap := 1024) (by decide) (by decide) (by decide) (by decide)
  obtain ⟨b18, g18⟩ : ∃ z, z = h16.size := ⟨_, rfl⟩
  rw [← g18] at A18 st18
  have sz_b18 : h16.size ≤ b18 := Nat.le_of_eq g18.symm
  have V18 : Arh Z h18 b18 k18 .byte (1024 : Int32) [] [] (.int 0) := Arv.arh (Arv.new A18 (by decide))
  have O19 := O17.ext E18
  have Z19 : n0 ≤ h18.size := Nat.le_trans Z17 E18.1
  refine Go.by (B := (T18.setTop (mkF m 29 #[.val (.ref a1)] [(.ref b18), (.ref a1)]))) st18 ?_
  have f20 := (((((pr4.keep K8 nin0).other W10 (Or.inr (slot_ne (Or.inl (wd hw 25 rfl)) (Or.inl (wd hw 20 rfl)) (by decide) (t := (.array .byte)) (t' := (.array .long)) (by decide) (by decide)))).ext E12).other W16 (Or.inr (slot_ne (Or.inl (wd hw 25 rfl)) (Or.inl (wd hw 22 rfl)) (by decide) (t := (.array .byte)) (t' := (.array .long)) (by decide) (by decide)))).ext E18)
  obtain ⟨T21, h21, X21, e21, W21, st21⟩ := putF X18 hx hZ hown (host := "") (Or.inl (wd hw 24 rfl)) Via.refl e18 f20 ((f15.wr W16).ext E18) (Or.inl (wd hw 25 rfl)) (wd hw 2 rfl) (ty := (.array .byte)) (by decide) rfl rfl (g := (mkF m 29 #[.val (.ref a1)] [(.ref b18), (.ref a1)])) rfl rfl (hb hby d1_29)
  have N21 := Fr.snoc X21 N16 pr6
  have O22 := O19.wr W21 pr6
  have Z22 : n0 ≤ h21.size := Nat.le_trans Z19 (Keep.of_wr W21).1
  have F21 := f20.same W21
  refine Go.by (B := (T21.setTop (mkF m 32 #[.val (.ref a1)] []))) st21 ?_
  refine Go.retV X21 hx hlk hret (hb hby d1_32) (by decide) (by decide) ?_
  rw [e21]
  exact ⟨b8, b12, k8, k12, rfl, N21, (((((((Keep.refl h0 [a1]).trans K8 all0).wr W10 (Or.inl (List.mem_of_getElem? (i := 0) rfl))).ext E12).wr W16 (Or.inl (List.mem_of_getElem? (i := 0) rfl))).ext E18).wr W21 (Or.inl (List.mem_of_getElem? (i := 0) rfl))), (((f15.wr W16).ext E18).wr W21), ((((F10.ext E12).other W16 (Or.inr (slot_ne (Or.inl (wd hw 20 rfl)) (Or.inl (wd hw 22 rfl)) (by decide) (t := (.array .long)) (t' := (.array .long)) (by decide) (by decide)))).ext E18).other W21 (Or.inr (slot_ne (Or.inl (wd hw 20 rfl)) (Or.inl (wd hw 25 rfl)) (by decide) (t := (.array .long)) (t' := (.array .byte)) (by decide) (by decide)))), ((F16.ext E18).other W21 (Or.inr (slot_ne (Or.inl (wd hw 22 rfl)) (Or.inl (wd hw 25 rfl)) (by decide) (t := (.array .long)) (t' := (.array .byte)) (by decide) (by decide)))), ((((((pr5.keep K8 nin0).other W10 (Or.inr (slot_ne (Or.inl (wd hw 41 rfl)) (Or.inl (wd hw 20 rfl)) (by decide) (t := .int) (t' := (.array .long)) (by decide) (by decide)))).ext E12).other W16 (Or.inr (slot_ne (Or.inl (wd hw 41 rfl)) (Or.inl (wd hw 22 rfl)) (by decide) (t := .int) (t' := (.array .long)) (by decide) (by decide)))).ext E18).other W21 (Or.inr (slot_ne (Or.inl (wd hw 41 rfl)) (Or.inl (wd hw 25 rfl)) (by decide) (t := .int) (t' := (.array .byte)) (by decide) (by decide)))), (((((p8_0.other W10 (Ne.symm (Nat.ne_of_lt (Nat.lt_of_lt_of_le pr1.lt sz_b8)))).ext E12).other W16 (Ne.symm (Nat.ne_of_lt (Nat.lt_of_lt_of_le pr1.lt sz_b8)))).ext E18).other W21 (Ne.symm (Nat.ne_of_lt (Nat.lt_of_lt_of_le pr1.lt sz_b8)))), (((V12.other W16 (Ne.symm (Nat.ne_of_lt (Nat.lt_of_lt_of_le ((pr1.keep K8).wr W10).lt sz_b12)))).ext E18).other W21 (Ne.symm (Nat.ne_of_lt (Nat.lt_of_lt_of_le ((pr1.keep K8).wr W10).lt sz_b12)))), (Nat.le_trans (Nat.le_refl _) sz_b8), (Nat.le_trans (Nat.le_trans (Nat.le_trans (Nat.le_refl _) K8.1) (Keep.of_wr W10).1) sz_b12), (Nat.ne_of_lt (Nat.lt_of_lt_of_le (p8_0.other W10 (Ne.symm (Nat.ne_of_lt (Nat.lt_of_lt_of_le pr1.lt sz_b8)))).lt sz_b12))⟩
theorem ef_rm_find0 (m : MethodId) (x0 : Addr) (x1 : Int64) : entryFrame m #[(.ref x0), (.long x1)] 5 = mkF m 0 #[.val (.ref x0), .val (.long x1), .second, .unset, .unset] [] := by first | (simp [entryFrame, mkF, argsToLocals, Value.category]; done) | rfl
theorem d6_0 : decode prog_10_method_11_code 0 = .ok (.aload_n 0, 1) := by decide +kernel
theorem d6_1 : decode prog_10_method_11_code 1 = .ok (.arraylength, 1) := by decide +kernel
theorem d6_2 : decode prog_10_method_11_code 2 = .ok (.iconst 1, 1) := by decide +kernel
theorem d6_3 : decode prog_10_method_11_code 3 = .ok (.isub, 1) := by decide +kernel
theorem d6_4 : decode prog_10_method_11_code 4 = .ok (.istore_n 3, 1) := by decide +kernel
theorem d6_5 : decode prog_10_method_11_code 5 = .ok (.lload_n 1, 1) := by decide +kernel
theorem d6_6 : decode prog_10_method_11_code 6 = .ok (.ldc2_w 60, 3) := by decide +kernel
theorem d6_9 : decode prog_10_method_11_code 9 = .ok (.lmul, 1) := by decide +kernel
theorem d6_10 : decode prog_10_method_11_code 10 = .ok (.bipush 32, 2) := by decide +kernel
theorem d6_12 : decode prog_10_method_11_code 12 = .ok (.lushr, 1) := by decide +kernel
theorem d6_13 : decode prog_10_method_11_code 13 = .ok (.l2i, 1) := by decide +kernel
theorem d6_14 : decode prog_10_method_11_code 14 = .ok (.iload_n 3, 1) := by decide +kernel
theorem d6_15 : decode prog_10_method_11_code 15 = .ok (.iand, 1) := by decide +kernel
theorem d6_16 : decode prog_10_method_11_code 16 = .ok (.istore 4, 2) := by decide +kernel
theorem d6_18 : decode prog_10_method_11_code 18 = .ok (.aload_n 0, 1) := by decide +kernel
theorem d6_19 : decode prog_10_method_11_code 19 = .ok (.iload 4, 2) := by decide +kernel
theorem d6_21 : decode prog_10_method_11_code 21 = .ok (.laload, 1) := by decide +kernel
theorem d6_22 : decode prog_10_method_11_code 22 = .ok (.ldc2_w 46, 3) := by decide +kernel
theorem d6_25 : decode prog_10_method_11_code 25 = .ok (.lcmp, 1) := by decide +kernel
theorem d6_26 : decode prog_10_method_11_code 26 = .ok (.ifCond .eq 23, 3) := by decide +kernel
theorem d6_49 : decode prog_10_method_11_code 49 = .ok (.iload 4, 2) := by decide +kernel
theorem d6_51 : decode prog_10_method_11_code 51 = .ok (.ireturn, 1) := by decide +kernel
def Q_rm_find0 (Z : State) (s1 : Addr) (k1 : ClassId) (q1 : Int64) (h0 : Heap) (n0 : Nat) (vv : Option Value) (h : Heap) (L : List Loc) : Prop := ∃ r : Int32, vv = some (.int r) ∧ Fr n0 L ∧ h = h0 ∧ own_rg r ∧ r = own_h q1
set_option maxRecDepth 65536 in
set_option maxHeartbeats 40000000 in
theorem rm_find0 (l : Launch) (Z : State) (a0 : Array Value) (hw : ∀ d ∈ tables_1, d.before a0 Z = true) (ws : List Jvm.Cond) (s1 : Addr) (k1 : ClassId) (q1 : Int64) (h0 : Heap) (n0 : Nat) (Z0 : n0 ≤ h0.size) (pr0 : Arh Z h0 s1 k1 .long (1024 : Int32) [] [] (.long (-1 : Int64))) :
    Met l Z (⟨"com/example/floodgauge/floodgauge/latency/SeqTable", "find", "([JJ)I"⟩ : MethodName) prog_10_method_11_code 5 (some .int) ws ({ frames := 0, cells := 0, slots := 0, locals := 0 } : Room) #[(.ref s1), (.long q1)] h0 (Q_rm_find0 Z s1 k1 q1 h0 n0) := by
  refine Met.enter (f0 := fun m => mkF m 0 #[.val (.ref s1), .val (.long q1), .second, .unset, .unset] []) (plainFor_of_name pn_com_example_floodgauge_floodgauge_latency_SeqTable) (fun m => ef_rm_find0 m s1 q1) ?_
  intro p e s m below meth c s₁ hx hby hml hown hnm hret hlk hZ X0 e0
  have hown : s.vm.findClass "com/example/floodgauge/floodgauge/latency/SeqTable" = some m.cls := hown
  have hnm : meth.name = "find" := hnm
  have hml : c.maxLocals = 5 := hml
  have hby : c.code = prog_10_method_11_code := hby
  have N0 := Fr.nil n0
  refine Go.by (B := (s₁.setTop (mkF m 1 #[.val (.ref s1), .val (.long q1), .second, .unset, .unset] [(.ref s1)]))) (fun _ k => XS.aloadN X0.here hx rfl (hb hby d6_0) rfl rfl k) ?_
  obtain ⟨cl23, Ar23, q23, S23, N_23, Hs23, G23⟩ := id pr0
  refine Go.by (B := (s₁.setTop (mkF m 2 #[.val (.ref s1), .val (.long q1), .second, .unset, .unset] [(.int 1024)]))) (fun _ k => X0.arraylength hx (by rw [e0]; exact Ar23.1) (State.isArrayOf_alike hZ.alike Ar23.2.1) (g := (mkF m 1 #[.val (.ref s1), .val (.long q1), .second, .unset, .unset] [(.ref s1)])) rfl rfl (hb hby d6_1) _ (by rw [len_of S23 N_23]; exact k)) ?_
  refine Go.by (B := (s₁.setTop (mkF m 13 #[.val (.ref s1), .val (.long q1), .second, .val (.int 1023), .unset] [(.long (((q1 * (-7046029254386353131 : Int64)).toUInt64 >>> ((32 : Int32) &&& 0x3f).toInt64.toUInt64).toInt64))]))) (fun _ k => XS.iconst X0.here hx rfl (hb hby d6_2) (XS.isub X0.here hx rfl (hb hby d6_3) rfl (XS.istoreN X0.here hx rfl (hb hby d6_4) rfl (l' := #[.val (.ref s1), .val (.long q1), .second, .val (.int 1023), .unset]) rfl (XS.lloadN X0.here hx rfl (hb hby d6_5) rfl (X0.ldc2Long hx hown (mvT hZ (wd hw 34 rfl)) (g := (mkF m 6 #[.val (.ref s1), .val (.long q1), .second, .val (.int 1023), .unset] [(.long q1)])) rfl (hb hby d6_6) _ (XS.lmul X0.here hx rfl (hb hby d6_9) rfl (XS.bipush X0.here hx rfl (hb hby d6_10) (XS.lushr X0.here hx rfl (hb hby d6_12) rfl k)))))))) ?_
  refine Go.by (B := (s₁.setTop (mkF m 16 #[.val (.ref s1), .val (.long q1), .second, .val (.int 1023), .unset] [(.int (((((q1 * (-7046029254386353131 : Int64)).toUInt64 >>> ((32 : Int32) &&& 0x3f).toInt64.toUInt64).toInt64).toInt32) &&& (1023 : Int32)))]))) (fun _ k => XS.l2i X0.here hx rfl (hb hby d6_13) rfl (XS.iloadN X0.here hx rfl (hb hby d6_14) rfl (XS.iand X0.here hx rfl (hb hby d6_15) rfl k))) ?_
  obtain ⟨v24, hv24⟩ : ∃ v, v = (((((q1 * (-7046029254386353131 : Int64)).toUInt64 >>> ((32 : Int32) &&& 0x3f).toInt64.toUInt64).toInt64).toInt32) &&& (1023 : Int32)) := ⟨_, rfl⟩
  refine Go.by (B := (s₁.setTop (mkF m 18 #[.val (.ref s1), .val (.long q1), .second, .val (.int 1023), .val (.int v24)] []))) (fun _ k => XS.istore (x := v24) (rest := []) X0.here hx rfl (hb hby d6_16) (by rw [hv24]) (l' := #[.val (.ref s1), .val (.long q1), .second, .val (.int 1023), .val (.int v24)]) rfl k) ?_
  have hg25 : own_rg v24 := own_idx hv24
  refine Go.by (B := (s₁.setTop (mkF m 21 #[.val (.ref s1), .val (.long q1), .second, .val (.int 1023), .val (.int v24)] [(.int v24), (.ref s1)]))) (fun _ k => XS.aloadN X0.here hx rfl (hb hby d6_18) rfl rfl (XS.iload X0.here hx rfl (hb hby d6_19) rfl k)) ?_
  obtain ⟨cl26, Ar26, q26, S26, N_26, Hs26, G26⟩ := id pr0
  have hin27 : ¬ (v24 < 0 ∨ cl26.slots.size ≤ (v24).toNatClampNeg) := inb_of S26 ⟨hg25.1, hg25.2⟩
  have hat27 : cl26.slots[(v24).toNatClampNeg]? = some (.long (-1 : Int64)) := atH Hs26 hin27 (getH_all rfl _)
  refine Go.by (B := (s₁.setTop (mkF m 22 #[.val (.ref s1), .val (.long q1), .second, .val (.int 1023), .val (.int v24)] [(.long (-1 : Int64))]))) (fun _ k => X0.laload hx (j := v24) (v := (.long (-1 : Int64))) (by rw [e0]; exact Ar26.1) (State.isArrayOf_alike hZ.alike Ar26.2.1) Ar26.2.2 hin27 hat27 (g := (mkF m 21 #[.val (.ref s1), .val (.long q1), .second, .val (.int 1023), .val (.int v24)] [(.int v24), (.ref s1)])) rfl rfl (hb hby d6_21) _ k) ?_
  refine Go.by (B := (s₁.setTop (mkF m 51 #[.val (.ref s1), .val (.long q1), .second, .val (.int 1023), .val (.int v24)] [(.int v24)]))) (fun _ k => X0.ldc2Long hx hown (mvT hZ (wd hw 14 rfl)) (g := (mkF m 22 #[.val (.ref s1), .val (.long q1), .second, .val (.int 1023), .val (.int v24)] [(.long (-1 : Int64))])) rfl (hb hby d6_22) _ (XS.lcmp X0.here hx rfl (hb hby d6_25) rfl (XS.ifYes X0.here hx rfl (pc0 := 26) (pc' := 49) rfl (hb hby d6_26) rfl ((if0 _ _).trans (teq ((lw_eq _ _).mpr (by decide : (-1 : Int64) = (-1 : Int64)))).1) (by decide) (by decide) (XS.iload X0.here hx rfl (hb hby d6_49) rfl k)))) ?_
  refine Go.ret X0 hx hlk (t := .int) hret rfl (Or.inl ⟨rfl, by simp, _, rfl⟩) (hb hby d6_51) (by decide) (by decide) ?_
  rw [e0]
  exact ⟨v24, rfl, N0, rfl, ⟨hg25.1, hg25.2⟩, (show v24 = own_h q1 from hv24)⟩
theorem ef_rm_find1 (m : MethodId) (x0 : Addr) (x1 : Int64) : entryFrame m #[(.ref x0), (.long x1)] 5 = mkF m 0 #[.val (.ref x0), .val (.long x1), .second, .unset, .unset] [] := by first | (simp [entryFrame, mkF, argsToLocals, Value.category]; done) | rfl
theorem d6_29 : decode prog_10_method_11_code 29 = .ok (.aload_n 0, 1) := by decide +kernel
theorem d6_30 : decode prog_10_method_11_code 30 = .ok (.iload 4, 2) := by decide +kernel
theorem d6_32 : decode prog_10_method_11_code 32 = .ok (.laload, 1) := by decide +kernel
theorem d6_33 : decode prog_10_method_11_code 33 = .ok (.lload_n 1, 1) := by decide +kernel
theorem d6_34 : decode prog_10_method_11_code 34 = .ok (.lcmp, 1) := by decide +kernel
theorem d6_35 : decode prog_10_method_11_code 35 = .ok (.ifCond .eq 14, 3) := by decide +kernel
theorem d6_38 : decode prog_10_method_11_code 38 = .ok (.iload 4, 2) := by decide +kernel
theorem d6_40 : decode prog_10_method_11_code 40 = .ok (.iconst 1, 1) := by decide +kernel
theorem d6_41 : decode prog_10_method_11_code 41 = .ok (.iadd, 1) := by decide +kernel
theorem d6_42 : decode prog_10_method_11_code 42 = .ok (.iload_n 3, 1) := by decide +kernel
theorem d6_43 : decode prog_10_method_11_code 43 = .ok (.iand, 1) := by decide +kernel
theorem d6_44 : decode prog_10_method_11_code 44 = .ok (.istore 4, 2) := by decide +kernel
theorem d6_46 : decode prog_10_method_11_code 46 = .ok (.goto (-28), 3) := by decide +kernel
def Q_rm_find1 (Z : State) (s1 : Addr) (k1 : ClassId) (q1 : Int64) (i : Int32) (a : Int64) (h0 : Heap) (n0 : Nat) (vv : Option Value) (h : Heap) (L : List Loc) : Prop := ∃ r : Int32, vv = some (.int r) ∧ Fr n0 L ∧ h = h0 ∧ own_rg r ∧ ((r = i ∧ a = q1) ∨ (¬ r = i ∧ ¬ a = q1 ∧ r = own_ins q1 i))
set_option maxRecDepth 65536 in
set_option maxHeartbeats 40000000 in
theorem rm_find1 (l : Launch) (Z : State) (a0 : Array Value) (hw : ∀ d ∈ tables_1, d.before a0 Z = true) (ws : List Jvm.Cond) (s1 : Addr) (k1 : ClassId) (q1 : Int64) (i : Int32) (a : Int64) (h0 : Heap) (n0 : Nat) (Z0 : n0 ≤ h0.size) (pr0 : Arh Z h0 s1 k1 .long (1024 : Int32) [(i, (.long a))] [] (.long (-1 : Int64))) (ha : ¬ (a < (0 : Int64))) (hi : i = own_h a) (hgi : own_rg i) :
    Met l Z (⟨"com/example/floodgauge/floodgauge/latency/SeqTable", "find", "([JJ)I"⟩ : MethodName) prog_10_method_11_code 5 (some .int) ws ({ frames := 0, cells := 0, slots := 0, locals := 0 } : Room) #[(.ref s1), (.long q1)] h0 (Q_rm_find1 Z s1 k1 q1 i a h0 n0) := by
  refine Met.enter (f0 := fun m => mkF m 0 #[.val (.ref s1), .val (.long q1), .second, .unset, .unset] []) (plainFor_of_name pn_com_example_floodgauge_floodgauge_latency_SeqTable) (fun m => ef_rm_find1 m s1 q1) ?_
  intro p e s m below meth c s₁ hx hby hml hown hnm hret hlk hZ X0 e0
  have hown : s.vm.findClass "com/example/floodgauge/floodgauge/latency/SeqTable" = some m.cls := hown
  have hnm : meth.name = "find" := hnm
  have hml : c.maxLocals = 5 := hml
  have hby : c.code = prog_10_method_11_code := hby
  have N0 := Fr.nil n0
  refine Go.by (B := (s₁.setTop (mkF m 1 #[.val (.ref s1), .val (.long q1), .second, .unset, .unset] [(.ref s1)]))) (fun _ k => XS.aloadN X0.here hx rfl (hb hby d6_0) rfl rfl k) ?_
  obtain ⟨cl28, Ar28, q28, S28, N_28, Hs28, G28⟩ := id pr0
  refine Go.by (B := (s₁.setTop (mkF m 2 #[.val (.ref s1), .val (.long q1), .second, .unset, .unset] [(.int 1024)]))) (fun _ k => X0.arraylength hx (by rw [e0]; exact Ar28.1) (State.isArrayOf_alike hZ.alike Ar28.2.1) (g := (mkF m 1 #[.val (.ref s1), .val (.long q1), .second, .unset, .unset] [(.ref s1)])) rfl rfl (hb hby d6_1) _ (by rw [len_of S28 N_28]; exact k)) ?_
  refine Go.by (B := (s₁.setTop (mkF m 13 #[.val (.ref s1), .val (.long q1), .second, .val (.int 1023), .unset] [(.long (((q1 * (-7046029254386353131 : Int64)).toUInt64 >>> ((32 : Int32) &&& 0x3f).toInt64.toUInt64).toInt64))]))) (fun _ k => XS.iconst X0.here hx rfl (hb hby d6_2) (XS.isub X0.here hx rfl (hb hby d6_3) rfl (XS.istoreN X0.here hx rfl (hb hby d6_4) rfl (l' := #[.val (.ref s1), .val (.long q1), .second, .val (.int 1023), .unset]) rfl (XS.lloadN X0.here hx rfl (hb hby d6_5) rfl (X0.ldc2Long hx hown (mvT hZ (wd hw 34 rfl)) (g := (mkF m 6 #[.val (.ref s1), .val (.long q1), .second, .val (.int 1023), .unset] [(.long q1)])) rfl (hb hby d6_6) _ (XS.lmul X0.here hx rfl (hb hby d6_9) rfl (XS.bipush X0.here hx rfl (hb hby d6_10) (XS.lushr X0.here hx rfl (hb hby d6_12) rfl k)))))))) ?_
  refine Go.by (B := (s₁.setTop (mkF m 16 #[.val (.ref s1), .val (.long q1), .second, .val (.int 1023), .unset] [(.int (((((q1 * (-7046029254386353131 : Int64)).toUInt64 >>> ((32 : Int32) &&& 0x3f).toInt64.toUInt64).toInt64).toInt32) &&& (1023 : Int32)))]))) (fun _ k => XS.l2i X0.here hx rfl (hb hby d6_13) rfl (XS.iloadN X0.here hx rfl (hb hby d6_14) rfl (XS.iand X0.here hx rfl (hb hby d6_15) rfl k))) ?_
  obtain ⟨v29, hv29⟩ : ∃ v, v = (((((q1 * (-7046029254386353131 : Int64)).toUInt64 >>> ((32 : Int32) &&& 0x3f).toInt64.toUInt64).toInt64).toInt32) &&& (1023 : Int32)) := ⟨_, rfl⟩
  refine Go.by (B := (s₁.setTop (mkF m 18 #[.val (.ref s1), .val (.long q1), .second, .val (.int 1023), .val (.int v29)] []))) (fun _ k => XS.istore (x := v29) (rest := []) X0.here hx rfl (hb hby d6_16) (by rw [hv29]) (l' := #[.val (.ref s1), .val (.long q1), .second, .val (.int 1023), .val (.int v29)]) rfl k) ?_
  have hg30 : own_rg v29 := own_idx hv29
  refine Go.by (B := (s₁.setTop (mkF m 21 #[.val (.ref s1), .val (.long q1), .second, .val (.int 1023), .val (.int v29)] [(.int v29), (.ref s1)]))) (fun _ k => XS.aloadN X0.here hx rfl (hb hby d6_18) rfl rfl (XS.iload X0.here hx rfl (hb hby d6_19) rfl k)) ?_
  rcases Classical.em (v29 = i) with c31 | c31
  · skip
    obtain ⟨cl32, Ar32, q32, S32, N_32, Hs32, G32⟩ := id pr0
    have hin33 : ¬ (v29 < 0 ∨ cl32.slots.size ≤ (v29).toNatClampNeg) := inb_of S32 ⟨hg30.1, hg30.2⟩
    have hat33 : cl32.slots[(v29).toNatClampNeg]? = some (.long a) := atH Hs32 hin33 (getH_hit hg30.1 c31)
    refine Go.by (B := (s₁.setTop (mkF m 22 #[.val (.ref s1), .val (.long q1), .second, .val (.int 1023), .val (.int v29)] [(.long a)]))) (fun _ k => X0.laload hx (j := v29) (v := (.long a)) (by rw [e0]; exact Ar32.1) (State.isArrayOf_alike hZ.alike Ar32.2.1) Ar32.2.2 hin33 hat33 (g := (mkF m 21 #[.val (.ref s1), .val (.long q1), .second, .val (.int 1023), .val (.int v29)] [(.int v29), (.ref s1)])) rfl rfl (hb hby d6_21) _ k) ?_
    refine Go.by (B := (s₁.setTop (mkF m 32 #[.val (.ref s1), .val (.long q1), .second, .val (.int 1023), .val (.int v29)] [(.int v29), (.ref s1)]))) (fun _ k => X0.ldc2Long hx hown (mvT hZ (wd hw 14 rfl)) (g := (mkF m 22 #[.val (.ref s1), .val (.long q1), .second, .val (.int 1023), .val (.int v29)] [(.long a)])) rfl (hb hby d6_22) _ (XS.lcmp X0.here hx rfl (hb hby d6_25) rfl (XS.ifNo X0.here hx rfl (hb hby d6_26) rfl ((if0 _ _).trans (feq (fun q => (fun q => ha (by rw [q]; decide) : ¬ (a = (-1 : Int64))) ((lw_eq _ _).mp q))).1) (XS.aloadN X0.here hx rfl (hb hby d6_29) rfl rfl (XS.iload X0.here hx rfl (hb hby d6_30) rfl k))))) ?_
    obtain ⟨cl34, Ar34, q34, S34, N_34, Hs34, G34⟩ := id pr0
    have hin35 : ¬ (v29 < 0 ∨ cl34.slots.size ≤ (v29).toNatClampNeg) := inb_of S34 ⟨hg30.1, hg30.2⟩
    have hat35 : cl34.slots[(v29).toNatClampNeg]? = some (.long a) := atH Hs34 hin35 (getH_hit hg30.1 c31)
    refine Go.by (B := (s₁.setTop (mkF m 33 #[.val (.ref s1), .val (.long q1), .second, .val (.int 1023), .val (.int v29)] [(.long a)]))) (fun _ k => X0.laload hx (j := v29) (v := (.long a)) (by rw [e0]; exact Ar34.1) (State.isArrayOf_alike hZ.alike Ar34.2.1) Ar34.2.2 hin35 hat35 (g := (mkF m 32 #[.val (.ref s1), .val (.long q1), .second, .val (.int 1023), .val (.int v29)] [(.int v29), (.ref s1)])) rfl rfl (hb hby d6_32) _ k) ?_
    refine Go.by (B := (s₁.setTop (mkF m 35 #[.val (.ref s1), .val (.long q1), .second, .val (.int 1023), .val (.int v29)] [(.int (lcmpW a q1))]))) (fun _ k => XS.lloadN X0.here hx rfl (hb hby d6_33) rfl (XS.lcmp X0.here hx rfl (hb hby d6_34) rfl k)) ?_
    by_cases c36 : a = q1
    · skip
      refine Go.by (B := (s₁.setTop (mkF m 51 #[.val (.ref s1), .val (.long q1), .second, .val (.int 1023), .val (.int v29)] [(.int v29)]))) (fun _ k => XS.ifYes X0.here hx rfl (pc0 := 35) (pc' := 49) rfl (hb hby d6_35) rfl ((if0 _ _).trans (teq ((lw_eq _ _).mpr c36)).1) (by decide) (by decide) (XS.iload X0.here hx rfl (hb hby d6_49) rfl k)) ?_
      refine Go.ret X0 hx hlk (t := .int) hret rfl (Or.inl ⟨rfl, by simp, _, rfl⟩) (hb hby d6_51) (by decide) (by decide) ?_
      rw [e0]
      exact ⟨v29, rfl, N0, rfl, ⟨hg30.1, hg30.2⟩, (Or.inl ⟨c31, c36⟩)⟩
    · skip
      refine Go.by (B := (s₁.setTop (mkF m 44 #[.val (.ref s1), .val (.long q1), .second, .val (.int 1023), .val (.int v29)] [(.int ((v29 + (1 : Int32)) &&& (1023 : Int32)))]))) (fun _ k => XS.ifNo X0.here hx rfl (hb hby d6_35) rfl ((if0 _ _).trans (feq (fun q => c36 ((lw_eq _ _).mp q))).1) (XS.iload X0.here hx rfl (hb hby d6_38) rfl (XS.iconst X0.here hx rfl (hb hby d6_40) (XS.iadd X0.here hx rfl (hb hby d6_41) rfl (XS.iloadN X0.here hx rfl (hb hby d6_42) rfl (XS.iand X0.here hx rfl (hb hby d6_43) rfl k)))))) ?_
      obtain ⟨v37, hv37⟩ : ∃ v, v = ((v29 + (1 : Int32)) &&& (1023 : Int32)) := ⟨_, rfl⟩
      refine Go.by (B := (s₁.setTop (mkF m 18 #[.val (.ref s1), .val (.long q1), .second, .val (.int 1023), .val (.int v37)] []))) (fun _ k => XS.istore (x := v37) (rest := []) X0.here hx rfl (hb hby d6_44) (by rw [hv37]) (l' := #[.val (.ref s1), .val (.long q1), .second, .val (.int 1023), .val (.int v37)]) rfl (XS.goto X0.here hx rfl (pc0 := 46) (pc' := 18) rfl (hb hby d6_46) (by decide) (by decide) k)) ?_
      have hg38 : own_rg v37 := own_idx hv37
      refine Go.by (B := (s₁.setTop (mkF m 21 #[.val (.ref s1), .val (.long q1), .second, .val (.int 1023), .val (.int v37)] [(.int v37), (.ref s1)]))) (fun _ k => XS.aloadN X0.here hx rfl (hb hby d6_18) rfl rfl (XS.iload X0.here hx rfl (hb hby d6_19) rfl k)) ?_
      obtain ⟨cl39, Ar39, q39, S39, N_39, Hs39, G39⟩ := id pr0
      have hin40 : ¬ (v37 < 0 ∨ cl39.slots.size ≤ (v37).toNatClampNeg) := inb_of S39 ⟨hg38.1, hg38.2⟩
      have hat40 : cl39.slots[(v37).toNatClampNeg]? = some (.long (-1 : Int64)) := atH Hs39 hin40 (getH_miss hg38.1 (fun q => own_nx1 hv37 (q.trans (c31).symm)) (getH_all rfl _))
      refine Go.by (B := (s₁.setTop (mkF m 22 #[.val (.ref s1), .val (.long q1), .second, .val (.int 1023), .val (.int v37)] [(.long (-1 : Int64))]))) (fun _ k => X0.laload hx (j := v37) (v := (.long (-1 : Int64))) (by rw [e0]; exact Ar39.1) (State.isArrayOf_alike hZ.alike Ar39.2.1) Ar39.2.2 hin40 hat40 (g := (mkF m 21 #[.val (.ref s1), .val (.long q1), .second, .val (.int 1023), .val (.int v37)] [(.int v37), (.ref s1)])) rfl rfl (hb hby d6_21) _ k) ?_
      refine Go.by (B := (s₁.setTop (mkF m 51 #[.val (.ref s1), .val (.long q1), .second, .val (.int 1023), .val (.int v37)] [(.int v37)]))) (fun _ k => X0.ldc2Long hx hown (mvT hZ (wd hw 14 rfl)) (g := (mkF m 22 #[.val (.ref s1), .val (.long q1), .second, .val (.int 1023), .val (.int v37)] [(.long (-1 : Int64))])) rfl (hb hby d6_22) _ (XS.lcmp X0.here hx rfl (hb hby d6_25) rfl (XS.ifYes X0.here hx rfl (pc0 := 26) (pc' := 49) rfl (hb hby d6_26) rfl ((if0 _ _).trans (teq ((lw_eq _ _).mpr (by decide : (-1 : Int64) = (-1 : Int64)))).1) (by decide) (by decide) (XS.iload X0.here hx rfl (hb hby d6_49) rfl k)))) ?_
      refine Go.ret X0 hx hlk (t := .int) hret rfl (Or.inl ⟨rfl, by simp, _, rfl⟩) (hb hby d6_51) (by decide) (by decide) ?_
      rw [e0]
      exact ⟨v37, rfl, N0, rfl, ⟨hg38.1, hg38.2⟩, (Or.inr ⟨(fun q => own_nx1 hv37 (q.trans (c31).symm)), c36, own_insY (show v29 = own_h q1 from hv29) c31 (show v37 = own_nx v29 from hv37)⟩)⟩
  · skip
    obtain ⟨cl41, Ar41, q41, S41, N_41, Hs41, G41⟩ := id pr0
    have hin42 : ¬ (v29 < 0 ∨ cl41.slots.size ≤ (v29).toNatClampNeg) := inb_of S41 ⟨hg30.1, hg30.2⟩
    have hat42 : cl41.slots[(v29).toNatClampNeg]? = some (.long (-1 : Int64)) := atH Hs41 hin42 (getH_miss hg30.1 c31 (getH_all rfl _))
    refine Go.by (B := (s₁.setTop (mkF m 22 #[.val (.ref s1), .val (.long q1), .second, .val (.int 1023), .val (.int v29)] [(.long (-1 : Int64))]))) (fun _ k => X0.laload hx (j := v29) (v := (.long (-1 : Int64))) (by rw [e0]; exact Ar41.1) (State.isArrayOf_alike hZ.alike Ar41.2.1) Ar41.2.2 hin42 hat42 (g := (mkF m 21 #[.val (.ref s1), .val (.long q1), .second, .val (.int 1023), .val (.int v29)] [(.int v29), (.ref s1)])) rfl rfl (hb hby d6_21) _ k) ?_
    refine Go.by (B := (s₁.setTop (mkF m 51 #[.val (.ref s1), .val (.long q1), .second, .val (.int 1023), .val (.int v29)] [(.int v29)]))) (fun _ k => X0.ldc2Long hx hown (mvT hZ (wd hw 14 rfl)) (g := (mkF m 22 #[.val (.ref s1), .val (.long q1), .second, .val (.int 1023), .val (.int v29)] [(.long (-1 : Int64))])) rfl (hb hby d6_22) _ (XS.lcmp X0.here hx rfl (hb hby d6_25) rfl (XS.ifYes X0.here hx rfl (pc0 := 26) (pc' := 49) rfl (hb hby d6_26) rfl ((if0 _ _).trans (teq ((lw_eq _ _).mpr (by decide : (-1 : Int64) = (-1 : Int64)))).1) (by decide) (by decide) (XS.iload X0.here hx rfl (hb hby d6_49) rfl k)))) ?_
    refine Go.ret X0 hx hlk (t := .int) hret rfl (Or.inl ⟨rfl, by simp, _, rfl⟩) (hb hby d6_51) (by decide) (by decide) ?_
    rw [e0]
    exact ⟨v29, rfl, N0, rfl, ⟨hg30.1, hg30.2⟩, (Or.inr ⟨c31, own_L1 (show v29 = own_h q1 from hv29) hi c31, own_insN (show v29 = own_h q1 from hv29) c31⟩)⟩
theorem ef_rm_find2 (m : MethodId) (x0 : Addr) (x1 : Int64) : entryFrame m #[(.ref x0), (.long x1)] 5 = mkF m 0 #[.val (.ref x0), .val (.long x1), .second, .unset, .unset] [] := by first | (simp [entryFrame, mkF, argsToLocals, Value.category]; done) | rfl
def Q_rm_find2 (Z : State) (s1 : Addr) (k1 : ClassId) (q1 : Int64) (i : Int32) (a : Int64) (j : Int32) (b : Int64) (h0 : Heap) (n0 : Nat) (vv : Option Value) (h : Heap) (L : List Loc) : Prop := ∃ r : Int32, vv = some (.int r) ∧ Fr n0 L ∧ h = h0 ∧ own_rg r ∧ ((r = i ∧ a = q1) ∨ (r = j ∧ b = q1) ∨ (¬ r = i ∧ ¬ r = j ∧ ¬ a = q1 ∧ ¬ b = q1))
set_option maxRecDepth 65536 in
set_option maxHeartbeats 40000000 in
theorem rm_find2 (l : Launch) (Z : State) (a0 : Array Value) (hw : ∀ d ∈ tables_1, d.before a0 Z = true) (ws : List Jvm.Cond) (s1 : Addr) (k1 : ClassId) (q1 : Int64) (i : Int32) (a : Int64) (j : Int32) (b : Int64) (h0 : Heap) (n0 : Nat) (Z0 : n0 ≤ h0.size) (pr0 : Arh Z h0 s1 k1 .long (1024 : Int32) [(j, (.long b)), (i, (.long a))] [] (.long (-1 : Int64))) (ha : ¬ (a < (0 : Int64))) (hi : i = own_h a) (hgi : own_rg i) (hb2 : ¬ (b < (0 : Int64))) (hj : j = own_ins b i) (hji : ¬ (j = i)) (hab : ¬ (a = b)) (hgj : own_rg j) :
    Met l Z (⟨"com/example/floodgauge/floodgauge/latency/SeqTable", "find", "([JJ)I"⟩ : MethodName) prog_10_method_11_code 5 (some .int) ws ({ frames := 0, cells := 0, slots := 0, locals := 0 } : Room) #[(.ref s1), (.long q1)] h0 (Q_rm_find2 Z s1 k1 q1 i a j b h0 n0) := by
  refine Met.enter (f0 := fun m => mkF m 0 #[.val (.ref s1), .val (.long q1), .second, .unset, .unset] []) (plainFor_of_name pn_com_example_floodgauge_floodgauge_latency_SeqTable) (fun m => ef_rm_find2 m s1 q1) ?_
  intro p e s m below meth c s₁ hx hby hml hown hnm hret hlk hZ X0 e0
  have hown : s.vm.findClass "com/example/floodgauge/floodgauge/latency/SeqTable" = some m.cls := hown
  have hnm : meth.name = "find" := hnm
  have hml : c.maxLocals = 5 := hml
  have hby : c.code = prog_10_method_11_code := hby
  have N0 := Fr.nil n0
  refine Go.by (B := (s₁.setTop (mkF m 1 #[.val (.ref s1), .val (.long q1), .second, .unset, .unset] [(.ref s1)]))) (fun _ k => XS.aloadN X0.here hx rfl (hb hby d6_0) rfl rfl k) ?_
  obtain ⟨cl43, Ar43, q43, S43, N_43, Hs43, G43⟩ := id pr0
  refine Go.by (B := (s₁.setTop (mkF m 2 #[.val (.ref s1), .val (.long q1), .second, .unset, .unset] [(.int 1024)]))) (fun _ k => X0.arraylength hx (by rw [e0]; exact Ar43.1) (State.isArrayOf_alike hZ.alike Ar43.2.1) (g := (mkF m 1 #[.val (.ref s1), .val (.long q1), .second, .unset, .unset] [(.ref s1)])) rfl rfl (hb hby d6_1) _ (by rw [len_of S43 N_43]; exact k)) ?_
  refine Go.by (B := (s₁.setTop (mkF m 13 #[.val (.ref s1), .val (.long q1), .second, .val (.int 1023), .unset] [(.long (((q1 * (-7046029254386353131 : Int64)).toUInt64 >>> ((32 : Int32) &&& 0x3f).toInt64.toUInt64).toInt64))]))) (fun _ k => XS.iconst X0.here hx rfl (hb hby d6_2) (XS.isub X0.here hx rfl (hb hby d6_3) rfl (XS.istoreN X0.here hx rfl (hb hby d6_4) rfl (l' := #[.val (.ref s1), .val (.long q1), .second, .val (.int 1023), .unset]) rfl (XS.lloadN X0.here hx rfl (hb hby d6_5) rfl (X0.ldc2Long hx hown (mvT hZ (wd hw 34 rfl)) (g := (mkF m 6 #[.val (.ref s1), .val (.long q1), .second, .val (.int 1023), .unset] [(.long q1)])) rfl (hb hby d6_6) _ (XS.lmul X0.here hx rfl (hb hby d6_9) rfl (XS.bipush X0.here hx rfl (hb hby d6_10) (XS.lushr X0.here hx rfl (hb hby d6_12) rfl k)))))))) ?_
  refine Go.by (B := (s₁.setTop (mkF m 16 #[.val (.ref s1), .val (.long q1), .second, .val (.int 1023), .unset] [(.int (((((q1 * (-7046029254386353131 : Int64)).toUInt64 >>> ((32 : Int32) &&& 0x3f).toInt64.toUInt64).toInt64).toInt32) &&& (1023 : Int32)))]))) (fun _ k => XS.l2i X0.here hx rfl (hb hby d6_13) rfl (XS.iloadN X0.here hx rfl (hb hby d6_14) rfl (XS.iand X0.here hx rfl (hb hby d6_15) rfl k))) ?_
  obtain ⟨v44, hv44⟩ : ∃ v, v = (((((q1 * (-7046029254386353131 : Int64)).toUInt64 >>> ((32 : Int32) &&& 0x3f).toInt64.toUInt64).toInt64).toInt32) &&& (1023 : Int32)) := ⟨_, rfl⟩
  refine Go.by (B := (s₁.setTop (mkF m 18 #[.val (.ref s1), .val (.long q1), .second, .val (.int 1023), .val (.int v44)] []))) (fun _ k => XS.istore (x := v44) (rest := []) X0.here hx rfl (hb hby d6_16) (by rw [hv44]) (l' := #[.val (.ref s1), .val (.long q1), .second, .val (.int 1023), .val (.int v44)]) rfl k) ?_
  have hg45 : own_rg v44 := own_idx hv44
  refine Go.by (B := (s₁.setTop (mkF m 21 #[.val (.ref s1), .val (.long q1), .second, .val (.int 1023), .val (.int v44)] [(.int v44), (.ref s1)]))) (fun _ k => XS.aloadN X0.here hx rfl (hb hby d6_18) rfl rfl (XS.iload X0.here hx rfl (hb hby d6_19) rfl k)) ?_
  rcases Classical.em (v44 = j) with c46 | c46
  · skip
    obtain ⟨cl47, Ar47, q47, S47, N_47, Hs47, G47⟩ := id pr0
    have hin48 : ¬ (v44 < 0 ∨ cl47.slots.size ≤ (v44).toNatClampNeg) := inb_of S47 ⟨hg45.1, hg45.2⟩
    have hat48 : cl47.slots[(v44).toNatClampNeg]? = some (.long b) := atH Hs47 hin48 (getH_hit hg45.1 c46)
    refine Go.by (B := (s₁.setTop (mkF m 22 #[.val (.ref s1), .val (.long q1), .second, .val (.int 1023), .val (.int v44)] [(.long b)]))) (fun _ k => X0.laload hx (j := v44) (v := (.long b)) (by rw [e0]; exact Ar47.1) (State.isArrayOf_alike hZ.alike Ar47.2.1) Ar47.2.2 hin48 hat48 (g := (mkF m 21 #[.val (.ref s1), .val (.long q1), .second, .val (.int 1023), .val (.int v44)] [(.int v44), (.ref s1)])) rfl rfl (hb hby d6_21) _ k) ?_
    refine Go.by (B := (s₁.setTop (mkF m 32 #[.val (.ref s1), .val (.long q1), .second, .val (.int 1023), .val (.int v44)] [(.int v44), (.ref s1)]))) (fun _ k => X0.ldc2Long hx hown (mvT hZ (wd hw 14 rfl)) (g := (mkF m 22 #[.val (.ref s1), .val (.long q1), .second, .val (.int 1023), .val (.int v44)] [(.long b)])) rfl (hb hby d6_22) _ (XS.lcmp X0.here hx rfl (hb hby d6_25) rfl (XS.ifNo X0.here hx rfl (hb hby d6_26) rfl ((if0 _ _).trans (feq (fun q => (fun q => hb2 (by rw [q]; decide) : ¬ (b = (-1 : Int64))) ((lw_eq _ _).mp q))).1) (XS.aloadN X0.here hx rfl (hb hby d6_29) rfl rfl (XS.iload X0.here hx rfl (hb hby d6_30) rfl k))))) ?_
    obtain ⟨cl49, Ar49, q49, S49, N_49, Hs49, G49⟩ := id pr0
    have hin50 : ¬ (v44 < 0 ∨ cl49.slots.size ≤ (v44).toNatClampNeg) := inb_of S49 ⟨hg45.1, hg45.2⟩
    have hat50 : cl49.slots[(v44).toNatClampNeg]? = some (.long b) := atH Hs49 hin50 (getH_hit hg45.1 c46)
    refine Go.by (B := (s₁.setTop (mkF m 33 #[.val (.ref s1), .val (.long q1), .second, .val (.int 1023), .val (.int v44)] [(.long b)]))) (fun _ k => X0.laload hx (j := v44) (v := (.long b)) (by rw [e0]; exact Ar49.1) (State.isArrayOf_alike hZ.alike Ar49.2.1) Ar49.2.2 hin50 hat50 (g := (mkF m 32 #[.val (.ref s1), .val (.long q1), .second, .val (.int 1023), .val (.int v44)] [(.int v44), (.ref s1)])) rfl rfl (hb hby d6_32) _ k) ?_
    refine Go.by (B := (s₁.setTop (mkF m 35 #[.val (.ref s1), .val (.long q1), .second, .val (.int 1023), .val (.int v44)] [(.int (lcmpW b q1))]))) (fun _ k => XS.lloadN X0.here hx rfl (hb hby d6_33) rfl (XS.lcmp X0.here hx rfl (hb hby d6_34) rfl k)) ?_
    by_cases c51 : b = q1
    · skip
      refine Go.by (B := (s₁.setTop (mkF m 51 #[.val (.ref s1), .val (.long q1), .second, .val (.int 1023), .val (.int v44)] [(.int v44)]))) (fun _ k => XS.ifYes X0.here hx rfl (pc0 := 35) (pc' := 49) rfl (hb hby d6_35) rfl ((if0 _ _).trans (teq ((lw_eq _ _).mpr c51)).1) (by decide) (by decide) (XS.iload X0.here hx rfl (hb hby d6_49) rfl k)) ?_
      refine Go.ret X0 hx hlk (t := .int) hret rfl (Or.inl ⟨rfl, by simp, _, rfl⟩) (hb hby d6_51) (by decide) (by decide) ?_
      rw [e0]
      exact ⟨v44, rfl, N0, rfl, ⟨hg45.1, hg45.2⟩, (Or.inr (Or.inl ⟨c46, c51⟩))⟩
    · skip
      refine Go.by (B := (s₁.setTop (mkF m 44 #[.val (.ref s1), .val (.long q1), .second, .val (.int 1023), .val (.int v44)] [(.int ((v44 + (1 : Int32)) &&& (1023 : Int32)))]))) (fun _ k => XS.ifNo X0.here hx rfl (hb hby d6_35) rfl ((if0 _ _).trans (feq (fun q => c51 ((lw_eq _ _).mp q))).1) (XS.iload X0.here hx rfl (hb hby d6_38) rfl (XS.iconst X0.here hx rfl (hb hby d6_40) (XS.iadd X0.here hx rfl (hb hby d6_41) rfl (XS.iloadN X0.here hx rfl (hb hby d6_42) rfl (XS.iand X0.here hx rfl (hb hby d6_43) rfl k)))))) ?_
      obtain ⟨v52, hv52⟩ : ∃ v, v = ((v44 + (1 : Int32)) &&& (1023 : Int32)) := ⟨_, rfl⟩
      refine Go.by (B := (s₁.setTop (mkF m 18 #[.val (.ref s1), .val (.long q1), .second, .val (.int 1023), .val (.int v52)] []))) (fun _ k => XS.istore (x := v52) (rest := []) X0.here hx rfl (hb hby d6_44) (by rw [hv52]) (l' := #[.val (.ref s1), .val (.long q1), .second, .val (.int 1023), .val (.int v52)]) rfl (XS.goto X0.here hx rfl (pc0 := 46) (pc' := 18) rfl (hb hby d6_46) (by decide) (by decide) k)) ?_
      have hg53 : own_rg v52 := own_idx hv52
      refine Go.by (B := (s₁.setTop (mkF m 21 #[.val (.ref s1), .val (.long q1), .second, .val (.int 1023), .val (.int v52)] [(.int v52), (.ref s1)]))) (fun _ k => XS.aloadN X0.here hx rfl (hb hby d6_18) rfl rfl (XS.iload X0.here hx rfl (hb hby d6_19) rfl k)) ?_
      rcases Classical.em (v52 = i) with c54 | c54
      · skip
        obtain ⟨cl55, Ar55, q55, S55, N_55, Hs55, G55⟩ := id pr0
        have hin56 : ¬ (v52 < 0 ∨ cl55.slots.size ≤ (v52).toNatClampNeg) := inb_of S55 ⟨hg53.1, hg53.2⟩
        have hat56 : cl55.slots[(v52).toNatClampNeg]? = some (.long a) := atH Hs55 hin56 (getH_miss hg53.1 (fun q => own_nx1 hv52 (q.trans (c46).symm)) (getH_hit hg53.1 c54))
        refine Go.by (B := (s₁.setTop (mkF m 22 #[.val (.ref s1), .val (.long q1), .second, .val (.int 1023), .val (.int v52)] [(.long a)]))) (fun _ k => X0.laload hx (j := v52) (v := (.long a)) (by rw [e0]; exact Ar55.1) (State.isArrayOf_alike hZ.alike Ar55.2.1) Ar55.2.2 hin56 hat56 (g := (mkF m 21 #[.val (.ref s1), .val (.long q1), .second, .val (.int 1023), .val (.int v52)] [(.int v52), (.ref s1)])) rfl rfl (hb hby d6_21) _ k) ?_
        refine Go.by (B := (s₁.setTop (mkF m 32 #[.val (.ref s1), .val (.long q1), .second, .val (.int 1023), .val (.int v52)] [(.int v52), (.ref s1)]))) (fun _ k => X0.ldc2Long hx hown (mvT hZ (wd hw 14 rfl)) (g := (mkF m 22 #[.val (.ref s1), .val (.long q1), .second, .val (.int 1023), .val (.int v52)] [(.long a)])) rfl (hb hby d6_22) _ (XS.lcmp X0.here hx rfl (hb hby d6_25) rfl (XS.ifNo X0.here hx rfl (hb hby d6_26) rfl ((if0 _ _).trans (feq (fun q => (fun q => ha (by rw [q]; decide) : ¬ (a = (-1 : Int64))) ((lw_eq _ _).mp q))).1) (XS.aloadN X0.here hx rfl (hb hby d6_29) rfl rfl (XS.iload X0.here hx rfl (hb hby d6_30) rfl k))))) ?_
        obtain ⟨cl57, Ar57, q57, S57, N_57, Hs57, G57⟩ := id pr0
        have hin58 : ¬ (v52 < 0 ∨ cl57.slots.size ≤ (v52).toNatClampNeg) := inb_of S57 ⟨hg53.1, hg53.2⟩
        have hat58 : cl57.slots[(v52).toNatClampNeg]? = some (.long a) := atH Hs57 hin58 (getH_miss hg53.1 (fun q => own_nx1 hv52 (q.trans (c46).symm)) (getH_hit hg53.1 c54))
        refine Go.by (B := (s₁.setTop (mkF m 33 #[.val (.ref s1), .val (.long q1), .second, .val (.int 1023), .val (.int v52)] [(.long a)]))) (fun _ k => X0.laload hx (j := v52) (v := (.long a)) (by rw [e0]; exact Ar57.1) (State.isArrayOf_alike hZ.alike Ar57.2.1) Ar57.2.2 hin58 hat58 (g := (mkF m 32 #[.val (.ref s1), .val (.long q1), .second, .val (.int 1023), .val (.int v52)] [(.int v52), (.ref s1)])) rfl rfl (hb hby d6_32) _ k) ?_
        refine Go.by (B := (s₁.setTop (mkF m 35 #[.val (.ref s1), .val (.long q1), .second, .val (.int 1023), .val (.int v52)] [(.int (lcmpW a q1))]))) (fun _ k => XS.lloadN X0.here hx rfl (hb hby d6_33) rfl (XS.lcmp X0.here hx rfl (hb hby d6_34) rfl k)) ?_
        by_cases c59 : a = q1
        · skip
          refine Go.by (B := (s₁.setTop (mkF m 51 #[.val (.ref s1), .val (.long q1), .second, .val (.int 1023), .val (.int v52)] [(.int v52)]))) (fun _ k => XS.ifYes X0.here hx rfl (pc0 := 35) (pc' := 49) rfl (hb hby d6_35) rfl ((if0 _ _).trans (teq ((lw_eq _ _).mpr c59)).1) (by decide) (by decide) (XS.iload X0.here hx rfl (hb hby d6_49) rfl k)) ?_
          refine Go.ret X0 hx hlk (t := .int) hret rfl (Or.inl ⟨rfl, by simp, _, rfl⟩) (hb hby d6_51) (by decide) (by decide) ?_
          rw [e0]
          exact ⟨v52, rfl, N0, rfl, ⟨hg53.1, hg53.2⟩, (Or.inl ⟨c54, c59⟩)⟩
        · skip
          refine Go.by (B := (s₁.setTop (mkF m 44 #[.val (.ref s1), .val (.long q1), .second, .val (.int 1023), .val (.int v52)] [(.int ((v52 + (1 : Int32)) &&& (1023 : Int32)))]))) (fun _ k => XS.ifNo X0.here hx rfl (hb hby d6_35) rfl ((if0 _ _).trans (feq (fun q => c59 ((lw_eq _ _).mp q))).1) (XS.iload X0.here hx rfl (hb hby d6_38) rfl (XS.iconst X0.here hx rfl (hb hby d6_40) (XS.iadd X0.here hx rfl (hb hby d6_41) rfl (XS.iloadN X0.here hx rfl (hb hby d6_42) rfl (XS.iand X0.here hx rfl (hb hby d6_43) rfl k)))))) ?_
          obtain ⟨v60, hv60⟩ : ∃ v, v = ((v52 + (1 : Int32)) &&& (1023 : Int32)) := ⟨_, rfl⟩
          refine Go.by (B := (s₁.setTop (mkF m 18 #[.val (.ref s1), .val (.long q1), .second, .val (.int 1023), .val (.int v60)] []))) (fun _ k => XS.istore (x := v60) (rest := []) X0.here hx rfl (hb hby d6_44) (by rw [hv60]) (l' := #[.val (.ref s1), .val (.long q1), .second, .val (.int 1023), .val (.int v60)]) rfl (XS.goto X0.here hx rfl (pc0 := 46) (pc' := 18) rfl (hb hby d6_46) (by decide) (by decide) k)) ?_
          have hg61 : own_rg v60 := own_idx hv60
          refine Go.by (B := (s₁.setTop (mkF m 21 #[.val (.ref s1), .val (.long q1), .second, .val (.int 1023), .val (.int v60)] [(.int v60), (.ref s1)]))) (fun _ k => XS.aloadN X0.here hx rfl (hb hby d6_18) rfl rfl (XS.iload X0.here hx rfl (hb hby d6_19) rfl k)) ?_
          obtain ⟨cl62, Ar62, q62, S62, N_62, Hs62, G62⟩ := id pr0
          have hin63 : ¬ (v60 < 0 ∨ cl62.slots.size ≤ (v60).toNatClampNeg) := inb_of S62 ⟨hg61.1, hg61.2⟩
          have hat63 : cl62.slots[(v60).toNatClampNeg]? = some (.long (-1 : Int64)) := atH Hs62 hin63 (getH_miss hg61.1 (fun q => own_nx2 hv52 hv60 (q.trans (c46).symm)) (getH_miss hg61.1 (fun q => own_nx1 hv60 (q.trans (c54).symm)) (getH_all rfl _)))
          refine Go.by (B := (s₁.setTop (mkF m 22 #[.val (.ref s1), .val (.long q1), .second, .val (.int 1023), .val (.int v60)] [(.long (-1 : Int64))]))) (fun _ k => X0.laload hx (j := v60) (v := (.long (-1 : Int64))) (by rw [e0]; exact Ar62.1) (State.isArrayOf_alike hZ.alike Ar62.2.1) Ar62.2.2 hin63 hat63 (g := (mkF m 21 #[.val (.ref s1), .val (.long q1), .second, .val (.int 1023), .val (.int v60)] [(.int v60), (.ref s1)])) rfl rfl (hb hby d6_21) _ k) ?_
          refine Go.by (B := (s₁.setTop (mkF m 51 #[.val (.ref s1), .val (.long q1), .second, .val (.int 1023), .val (.int v60)] [(.int v60)]))) (fun _ k => X0.ldc2Long hx hown (mvT hZ (wd hw 14 rfl)) (g := (mkF m 22 #[.val (.ref s1), .val (.long q1), .second, .val (.int 1023), .val (.int v60)] [(.long (-1 : Int64))])) rfl (hb hby d6_22) _ (XS.lcmp X0.here hx rfl (hb hby d6_25) rfl (XS.ifYes X0.here hx rfl (pc0 := 26) (pc' := 49) rfl (hb hby d6_26) rfl ((if0 _ _).trans (teq ((lw_eq _ _).mpr (by decide : (-1 : Int64) = (-1 : Int64)))).1) (by decide) (by decide) (XS.iload X0.here hx rfl (hb hby d6_49) rfl k)))) ?_
          refine Go.ret X0 hx hlk (t := .int) hret rfl (Or.inl ⟨rfl, by simp, _, rfl⟩) (hb hby d6_51) (by decide) (by decide) ?_
          rw [e0]
          exact ⟨v60, rfl, N0, rfl, ⟨hg61.1, hg61.2⟩, (Or.inr (Or.inr ⟨(fun q => own_nx1 hv60 (q.trans (c54).symm)), (fun q => own_nx2 hv52 hv60 (q.trans (c46).symm)), c59, c51⟩))⟩
      · skip
        obtain ⟨cl64, Ar64, q64, S64, N_64, Hs64, G64⟩ := id pr0
        have hin65 : ¬ (v52 < 0 ∨ cl64.slots.size ≤ (v52).toNatClampNeg) := inb_of S64 ⟨hg53.1, hg53.2⟩
        have hat65 : cl64.slots[(v52).toNatClampNeg]? = some (.long (-1 : Int64)) := atH Hs64 hin65 (getH_miss hg53.1 (fun q => own_nx1 hv52 (q.trans (c46).symm)) (getH_miss hg53.1 c54 (getH_all rfl _)))
        refine Go.by (B := (s₁.setTop (mkF m 22 #[.val (.ref s1), .val (.long q1), .second, .val (.int 1023), .val (.int v52)] [(.long (-1 : Int64))]))) (fun _ k => X0.laload hx (j := v52) (v := (.long (-1 : Int64))) (by rw [e0]; exact Ar64.1) (State.isArrayOf_alike hZ.alike Ar64.2.1) Ar64.2.2 hin65 hat65 (g := (mkF m 21 #[.val (.ref s1), .val (.long q1), .second, .val (.int 1023), .val (.int v52)] [(.int v52), (.ref s1)])) rfl rfl (hb hby d6_21) _ k) ?_
        refine Go.by (B := (s₁.setTop (mkF m 51 #[.val (.ref s1), .val (.long q1), .second, .val (.int 1023), .val (.int v52)] [(.int v52)]))) (fun _ k => X0.ldc2Long hx hown (mvT hZ (wd hw 14 rfl)) (g := (mkF m 22 #[.val (.ref s1), .val (.long q1), .second, .val (.int 1023), .val (.int v52)] [(.long (-1 : Int64))])) rfl (hb hby d6_22) _ (XS.lcmp X0.here hx rfl (hb hby d6_25) rfl (XS.ifYes X0.here hx rfl (pc0 := 26) (pc' := 49) rfl (hb hby d6_26) rfl ((if0 _ _).trans (teq ((lw_eq _ _).mpr (by decide : (-1 : Int64) = (-1 : Int64)))).1) (by decide) (by decide) (XS.iload X0.here hx rfl (hb hby d6_49) rfl k)))) ?_
        refine Go.ret X0 hx hlk (t := .int) hret rfl (Or.inl ⟨rfl, by simp, _, rfl⟩) (hb hby d6_51) (by decide) (by decide) ?_
        rw [e0]
        exact ⟨v52, rfl, N0, rfl, ⟨hg53.1, hg53.2⟩, (Or.inr (Or.inr ⟨c54, (fun q => own_nx1 hv52 (q.trans (c46).symm)), (own_L1 (show v44 = own_h q1 from hv44) hi (fun q => hji ((c46).symm.trans q))), c51⟩))⟩
  · skip
    rcases Classical.em (v44 = i) with c66 | c66
    · skip
      obtain ⟨cl67, Ar67, q67, S67, N_67, Hs67, G67⟩ := id pr0
      have hin68 : ¬ (v44 < 0 ∨ cl67.slots.size ≤ (v44).toNatClampNeg) := inb_of S67 ⟨hg45.1, hg45.2⟩
      have hat68 : cl67.slots[(v44).toNatClampNeg]? = some (.long a) := atH Hs67 hin68 (getH_miss hg45.1 c46 (getH_hit hg45.1 c66))
      refine Go.by (B := (s₁.setTop (mkF m 22 #[.val (.ref s1), .val (.long q1), .second, .val (.int 1023), .val (.int v44)] [(.long a)]))) (fun _ k => X0.laload hx (j := v44) (v := (.long a)) (by rw [e0]; exact Ar67.1) (State.isArrayOf_alike hZ.alike Ar67.2.1) Ar67.2.2 hin68 hat68 (g := (mkF m 21 #[.val (.ref s1), .val (.long q1), .second, .val (.int 1023), .val (.int v44)] [(.int v44), (.ref s1)])) rfl rfl (hb hby d6_21) _ k) ?_
      refine Go.by (B := (s₁.setTop (mkF m 32 #[.val (.ref s1), .val (.long q1), .second, .val (.int 1023), .val (.int v44)] [(.int v44), (.ref s1)]))) (fun _ k => X0.ldc2Long hx hown (mvT hZ (wd hw 14 rfl)) (g := (mkF m 22 #[.val (.ref s1), .val (.long q1), .second, .val (.int 1023), .val (.int v44)] [(.long a)])) rfl (hb hby d6_22) _ (XS.lcmp X0.here hx rfl (hb hby d6_25) rfl (XS.ifNo X0.here hx rfl (hb hby d6_26) rfl ((if0 _ _).trans (feq (fun q => (fun q => ha (by rw [q]; decide) : ¬ (a = (-1 : Int64))) ((lw_eq _ _).mp q))).1) (XS.aloadN X0.here hx rfl (hb hby d6_29) rfl rfl (XS.iload X0.here hx rfl (hb hby d6_30) rfl k))))) ?_
      obtain ⟨cl69, Ar69, q69, S69, N_69, Hs69, G69⟩ := id pr0
      have hin70 : ¬ (v44 < 0 ∨ cl69.slots.size ≤ (v44).toNatClampNeg) := inb_of S69 ⟨hg45.1, hg45.2⟩
      have hat70 : cl69.slots[(v44).toNatClampNeg]? = some (.long a) := atH Hs69 hin70 (getH_miss hg45.1 c46 (getH_hit hg45.1 c66))
      refine Go.by (B := (s₁.setTop (mkF m 33 #[.val (.ref s1), .val (.long q1), .second, .val (.int 1023), .val (.int v44)] [(.long a)]))) (fun _ k => X0.laload hx (j := v44) (v := (.long a)) (by rw [e0]; exact Ar69.1) (State.isArrayOf_alike hZ.alike Ar69.2.1) Ar69.2.2 hin70 hat70 (g := (mkF m 32 #[.val (.ref s1), .val (.long q1), .second, .val (.int 1023), .val (.int v44)] [(.int v44), (.ref s1)])) rfl rfl (hb hby d6_32) _ k) ?_
      refine Go.by (B := (s₁.setTop (mkF m 35 #[.val (.ref s1), .val (.long q1), .second, .val (.int 1023), .val (.int v44)] [(.int (lcmpW a q1))]))) (fun _ k => XS.lloadN X0.here hx rfl (hb hby d6_33) rfl (XS.lcmp X0.here hx rfl (hb hby d6_34) rfl k)) ?_
      by_cases c71 : a = q1
      · skip
        refine Go.by (B := (s₁.setTop (mkF m 51 #[.val (.ref s1), .val (.long q1), .second, .val (.int 1023), .val (.int v44)] [(.int v44)]))) (fun _ k => XS.ifYes X0.here hx rfl (pc0 := 35) (pc' := 49) rfl (hb hby d6_35) rfl ((if0 _ _).trans (teq ((lw_eq _ _).mpr c71)).1) (by decide) (by decide) (XS.iload X0.here hx rfl (hb hby d6_49) rfl k)) ?_
        refine Go.ret X0 hx hlk (t := .int) hret rfl (Or.inl ⟨rfl, by simp, _, rfl⟩) (hb hby d6_51) (by decide) (by decide) ?_
        rw [e0]
        exact ⟨v44, rfl, N0, rfl, ⟨hg45.1, hg45.2⟩, (Or.inl ⟨c66, c71⟩)⟩
      · skip
        refine Go.by (B := (s₁.setTop (mkF m 44 #[.val (.ref s1), .val (.long q1), .second, .val (.int 1023), .val (.int v44)] [(.int ((v44 + (1 : Int32)) &&& (1023 : Int32)))]))) (fun _ k => XS.ifNo X0.here hx rfl (hb hby d6_35) rfl ((if0 _ _).trans (feq (fun q => c71 ((lw_eq _ _).mp q))).1) (XS.iload X0.here hx rfl (hb hby d6_38) rfl (XS.iconst X0.here hx rfl (hb hby d6_40) (XS.iadd X0.here hx rfl (hb hby d6_41) rfl (XS.iloadN X0.here hx rfl (hb hby d6_42) rfl (XS.iand X0.here hx rfl (hb hby d6_43) rfl k)))))) ?_
        obtain ⟨v72, hv72⟩ : ∃ v, v = ((v44 + (1 : Int32)) &&& (1023 : Int32)) := ⟨_, rfl⟩
        refine Go.by (B := (s₁.setTop (mkF m 18 #[.val (.ref s1), .val (.long q1), .second, .val (.int 1023), .val (.int v72)] []))) (fun _ k => XS.istore (x := v72) (rest := []) X0.here hx rfl (hb hby d6_44) (by rw [hv72]) (l' := #[.val (.ref s1), .val (.long q1), .second, .val (.int 1023), .val (.int v72)]) rfl (XS.goto X0.here hx rfl (pc0 := 46) (pc' := 18) rfl (hb hby d6_46) (by decide) (by decide) k)) ?_
        have hg73 : own_rg v72 := own_idx hv72
        refine Go.by (B := (s₁.setTop (mkF m 21 #[.val (.ref s1), .val (.long q1), .second, .val (.int 1023), .val (.int v72)] [(.int v72), (.ref s1)]))) (fun _ k => XS.aloadN X0.here hx rfl (hb hby d6_18) rfl rfl (XS.iload X0.here hx rfl (hb hby d6_19) rfl k)) ?_
        rcases Classical.em (v72 = j) with c74 | c74
        · skip
          obtain ⟨cl75, Ar75, q75, S75, N_75, Hs75, G75⟩ := id pr0
          have hin76 : ¬ (v72 < 0 ∨ cl75.slots.size ≤ (v72).toNatClampNeg) := inb_of S75 ⟨hg73.1, hg73.2⟩
          have hat76 : cl75.slots[(v72).toNatClampNeg]? = some (.long b) := atH Hs75 hin76 (getH_hit hg73.1 c74)
          refine Go.by (B := (s₁.setTop (mkF m 22 #[.val (.ref s1), .val (.long q1), .second, .val (.int 1023), .val (.int v72)] [(.long b)]))) (fun _ k => X0.laload hx (j := v72) (v := (.long b)) (by rw [e0]; exact Ar75.1) (State.isArrayOf_alike hZ.alike Ar75.2.1) Ar75.2.2 hin76 hat76 (g := (mkF m 21 #[.val (.ref s1), .val (.long q1), .second, .val (.int 1023), .val (.int v72)] [(.int v72), (.ref s1)])) rfl rfl (hb hby d6_21) _ k) ?_
          refine Go.by (B := (s₁.setTop (mkF m 32 #[.val (.ref s1), .val (.long q1), .second, .val (.int 1023), .val (.int v72)] [(.int v72), (.ref s1)]))) (fun _ k => X0.ldc2Long hx hown (mvT hZ (wd hw 14 rfl)) (g := (mkF m 22 #[.val (.ref s1), .val (.long q1), .second, .val (.int 1023), .val (.int v72)] [(.long b)])) rfl (hb hby d6_22) _ (XS.lcmp X0.here hx rfl (hb hby d6_25) rfl (XS.ifNo X0.here hx rfl (hb hby d6_26) rfl ((if0 _ _).trans (feq (fun q => (fun q => hb2 (by rw [q]; decide) : ¬ (b = (-1 : Int64))) ((lw_eq _ _).mp q))).1) (XS.aloadN X0.here hx rfl (hb hby d6_29) rfl rfl (XS.iload X0.here hx rfl (hb hby d6_30) rfl k))))) ?_
          obtain ⟨cl77, Ar77, q77, S77, N_77, Hs77, G77⟩ := id pr0
          have hin78 : ¬ (v72 < 0 ∨ cl77.slots.size ≤ (v72).toNatClampNeg) := inb_of S77 ⟨hg73.1, hg73.2⟩
          have hat78 : cl77.slots[(v72).toNatClampNeg]? = some (.long b) := atH Hs77 hin78 (getH_hit hg73.1 c74)
          refine Go.by (B := (s₁.setTop (mkF m 33 #[.val (.ref s1), .val (.long q1), .second, .val (.int 1023), .val (.int v72)] [(.long b)]))) (fun _ k => X0.laload hx (j := v72) (v := (.long b)) (by rw [e0]; exact Ar77.1) (State.isArrayOf_alike hZ.alike Ar77.2.1) Ar77.2.2 hin78 hat78 (g := (mkF m 32 #[.val (.ref s1), .val (.long q1), .second, .val (.int 1023), .val (.int v72)] [(.int v72), (.ref s1)])) rfl rfl (hb hby d6_32) _ k) ?_
          refine Go.by (B := (s₁.setTop (mkF m 35 #[.val (.ref s1), .val (.long q1), .second, .val (.int 1023), .val (.int v72)] [(.int (lcmpW b q1))]))) (fun _ k => XS.lloadN X0.here hx rfl (hb hby d6_33) rfl (XS.lcmp X0.here hx rfl (hb hby d6_34) rfl k)) ?_
          by_cases c79 : b = q1
          · skip
            refine Go.by (B := (s₁.setTop (mkF m 51 #[.val (.ref s1), .val (.long q1), .second, .val (.int 1023), .val (.int v72)] [(.int v72)]))) (fun _ k => XS.ifYes X0.here hx rfl (pc0 := 35) (pc' := 49) rfl (hb hby d6_35) rfl ((if0 _ _).trans (teq ((lw_eq _ _).mpr c79)).1) (by decide) (by decide) (XS.iload X0.here hx rfl (hb hby d6_49) rfl k)) ?_
            refine Go.ret X0 hx hlk (t := .int) hret rfl (Or.inl ⟨rfl, by simp, _, rfl⟩) (hb hby d6_51) (by decide) (by decide) ?_
            rw [e0]
            exact ⟨v72, rfl, N0, rfl, ⟨hg73.1, hg73.2⟩, (Or.inr (Or.inl ⟨c74, c79⟩))⟩
          · skip
            refine Go.by (B := (s₁.setTop (mkF m 44 #[.val (.ref s1), .val (.long q1), .second, .val (.int 1023), .val (.int v72)] [(.int ((v72 + (1 : Int32)) &&& (1023 : Int32)))]))) (fun _ k => XS.ifNo X0.here hx rfl (hb hby d6_35) rfl ((if0 _ _).trans (feq (fun q => c79 ((lw_eq _ _).mp q))).1) (XS.iload X0.here hx rfl (hb hby d6_38) rfl (XS.iconst X0.here hx rfl (hb hby d6_40) (XS.iadd X0.here hx rfl (hb hby d6_41) rfl (XS.iloadN X0.here hx rfl (hb hby d6_42) rfl (XS.iand X0.here hx rfl (hb hby d6_43) rfl k)))))) ?_
            obtain ⟨v80, hv80⟩ : ∃ v, v = ((v72 + (1 : Int32)) &&& (1023 : Int32)) := ⟨_, rfl⟩
            refine Go.by (B := (s₁.setTop (mkF m 18 #[.val (.ref s1), .val (.long q1), .second, .val (.int 1023), .val (.int v80)] []))) (fun _ k => XS.istore (x := v80) (rest := []) X0.here hx rfl (hb hby d6_44) (by rw [hv80]) (l' := #[.val (.ref s1), .val (.long q1), .second, .val (.int 1023), .val (.int v80)]) rfl (XS.goto X0.here hx rfl (pc0 := 46) (pc' := 18) rfl (hb hby d6_46) (by decide) (by decide) k)) ?_
            have hg81 : own_rg v80 := own_idx hv80
            refine Go.by (B := (s₁.setTop (mkF m 21 #[.val (.ref s1), .val (.long q1), .second, .val (.int 1023), .val (.int v80)] [(.int v80), (.ref s1)]))) (fun _ k => XS.aloadN X0.here hx rfl (hb hby d6_18) rfl rfl (XS.iload X0.here hx rfl (hb hby d6_19) rfl k)) ?_
            obtain ⟨cl82, Ar82, q82, S82, N_82, Hs82, G82⟩ := id pr0
            have hin83 : ¬ (v80 < 0 ∨ cl82.slots.size ≤ (v80).toNatClampNeg) := inb_of S82 ⟨hg81.1, hg81.2⟩
            have hat83 : cl82.slots[(v80).toNatClampNeg]? = some (.long (-1 : Int64)) := atH Hs82 hin83 (getH_miss hg81.1 (fun q => own_nx1 hv80 (q.trans (c74).symm)) (getH_miss hg81.1 (fun q => own_nx2 hv72 hv80 (q.trans (c66).symm)) (getH_all rfl _)))
            refine Go.by (B := (s₁.setTop (mkF m 22 #[.val (.ref s1), .val (.long q1), .second, .val (.int 1023), .val (.int v80)] [(.long (-1 : Int64))]))) (fun _ k => X0.laload hx (j := v80) (v := (.long (-1 : Int64))) (by rw [e0]; exact Ar82.1) (State.isArrayOf_alike hZ.alike Ar82.2.1) Ar82.2.2 hin83 hat83 (g := (mkF m 21 #[.val (.ref s1), .val (.long q1), .second, .val (.int 1023), .val (.int v80)] [(.int v80), (.ref s1)])) rfl rfl (hb hby d6_21) _ k) ?_
            refine Go.by (B := (s₁.setTop (mkF m 51 #[.val (.ref s1), .val (.long q1), .second, .val (.int 1023), .val (.int v80)] [(.int v80)]))) (fun _ k => X0.ldc2Long hx hown (mvT hZ (wd hw 14 rfl)) (g := (mkF m 22 #[.val (.ref s1), .val (.long q1), .second, .val (.int 1023), .val (.int v80)] [(.long (-1 : Int64))])) rfl (hb hby d6_22) _ (XS.lcmp X0.here hx rfl (hb hby d6_25) rfl (XS.ifYes X0.here hx rfl (pc0 := 26) (pc' := 49) rfl (hb hby d6_26) rfl ((if0 _ _).trans (teq ((lw_eq _ _).mpr (by decide : (-1 : Int64) = (-1 : Int64)))).1) (by decide) (by decide) (XS.iload X0.here hx rfl (hb hby d6_49) rfl k)))) ?_
            refine Go.ret X0 hx hlk (t := .int) hret rfl (Or.inl ⟨rfl, by simp, _, rfl⟩) (hb hby d6_51) (by decide) (by decide) ?_
            rw [e0]
            exact ⟨v80, rfl, N0, rfl, ⟨hg81.1, hg81.2⟩, (Or.inr (Or.inr ⟨(fun q => own_nx2 hv72 hv80 (q.trans (c66).symm)), (fun q => own_nx1 hv80 (q.trans (c74).symm)), c71, c79⟩))⟩
        · skip
          obtain ⟨cl84, Ar84, q84, S84, N_84, Hs84, G84⟩ := id pr0
          have hin85 : ¬ (v72 < 0 ∨ cl84.slots.size ≤ (v72).toNatClampNeg) := inb_of S84 ⟨hg73.1, hg73.2⟩
          have hat85 : cl84.slots[(v72).toNatClampNeg]? = some (.long (-1 : Int64)) := atH Hs84 hin85 (getH_miss hg73.1 c74 (getH_miss hg73.1 (fun q => own_nx1 hv72 (q.trans (c66).symm)) (getH_all rfl _)))
          refine Go.by (B := (s₁.setTop (mkF m 22 #[.val (.ref s1), .val (.long q1), .second, .val (.int 1023), .val (.int v72)] [(.long (-1 : Int64))]))) (fun _ k => X0.laload hx (j := v72) (v := (.long (-1 : Int64))) (by rw [e0]; exact Ar84.1) (State.isArrayOf_alike hZ.alike Ar84.2.1) Ar84.2.2 hin85 hat85 (g := (mkF m 21 #[.val (.ref s1), .val (.long q1), .second, .val (.int 1023), .val (.int v72)] [(.int v72), (.ref s1)])) rfl rfl (hb hby d6_21) _ k) ?_
          refine Go.by (B := (s₁.setTop (mkF m 51 #[.val (.ref s1), .val (.long q1), .second, .val (.int 1023), .val (.int v72)] [(.int v72)]))) (fun _ k => X0.ldc2Long hx hown (mvT hZ (wd hw 14 rfl)) (g := (mkF m 22 #[.val (.ref s1), .val (.long q1), .second, .val (.int 1023), .val (.int v72)] [(.long (-1 : Int64))])) rfl (hb hby d6_22) _ (XS.lcmp X0.here hx rfl (hb hby d6_25) rfl (XS.ifYes X0.here hx rfl (pc0 := 26) (pc' := 49) rfl (hb hby d6_26) rfl ((if0 _ _).trans (teq ((lw_eq _ _).mpr (by decide : (-1 : Int64) = (-1 : Int64)))).1) (by decide) (by decide) (XS.iload X0.here hx rfl (hb hby d6_49) rfl k)))) ?_
          refine Go.ret X0 hx hlk (t := .int) hret rfl (Or.inl ⟨rfl, by simp, _, rfl⟩) (hb hby d6_51) (by decide) (by decide) ?_
          rw [e0]
          exact ⟨v72, rfl, N0, rfl, ⟨hg73.1, hg73.2⟩, (Or.inr (Or.inr ⟨(fun q => own_nx1 hv72 (q.trans (c66).symm)), c74, c71, (own_L3 (show v44 = own_h q1 from hv44) hj c66 (show v72 = own_nx v44 from hv72) c74)⟩))⟩
    · skip
      obtain ⟨cl86, Ar86, q86, S86, N_86, Hs86, G86⟩ := id pr0
      have hin87 : ¬ (v44 < 0 ∨ cl86.slots.size ≤ (v44).toNatClampNeg) := inb_of S86 ⟨hg45.1, hg45.2⟩
      have hat87 : cl86.slots[(v44).toNatClampNeg]? = some (.long (-1 : Int64)) := atH Hs86 hin87 (getH_miss hg45.1 c46 (getH_miss hg45.1 c66 (getH_all rfl _)))
      refine Go.by (B := (s₁.setTop (mkF m 22 #[.val (.ref s1), .val (.long q1), .second, .val (.int 1023), .val (.int v44)] [(.long (-1 : Int64))]))) (fun _ k => X0.laload hx (j := v44) (v := (.long (-1 : Int64))) (by rw [e0]; exact Ar86.1) (State.isArrayOf_alike hZ.alike Ar86.2.1) Ar86.2.2 hin87 hat87 (g := (mkF m 21 #[.val (.ref s1), .val (.long q1), .second, .val (.int 1023), .val (.int v44)] [(.int v44), (.ref s1)])) rfl rfl (hb hby d6_21) _ k) ?_
      refine Go.by (B := (s₁.setTop (mkF m 51 #[.val (.ref s1), .val (.long q1), .second, .val (.int 1023), .val (.int v44)] [(.int v44)]))) (fun _ k => X0.ldc2Long hx hown (mvT hZ (wd hw 14 rfl)) (g := (mkF m 22 #[.val (.ref s1), .val (.long q1), .second, .val (.int 1023), .val (.int v44)] [(.long (-1 : Int64))])) rfl (hb hby d6_22) _ (XS.lcmp X0.here hx rfl (hb hby d6_25) rfl (XS.ifYes X0.here hx rfl (pc0 := 26) (pc' := 49) rfl (hb hby d6_26) rfl ((if0 _ _).trans (teq ((lw_eq _ _).mpr (by decide : (-1 : Int64) = (-1 : Int64)))).1) (by decide) (by decide) (XS.iload X0.here hx rfl (hb hby d6_49) rfl k)))) ?_
      refine Go.ret X0 hx hlk (t := .int) hret rfl (Or.inl ⟨rfl, by simp, _, rfl⟩) (hb hby d6_51) (by decide) (by decide) ?_
      rw [e0]
      exact ⟨v44, rfl, N0, rfl, ⟨hg45.1, hg45.2⟩, (Or.inr (Or.inr ⟨c66, c46, (own_L1 (show v44 = own_h q1 from hv44) hi c66), (own_L2 (show v44 = own_h q1 from hv44) hj c66 c46)⟩))⟩
theorem ef_rm_slot0 (m : MethodId) (x0 : Addr) (x1 : Int64) : entryFrame m #[(.ref x0), (.long x1)] 4 = mkF m 0 #[.val (.ref x0), .val (.long x1), .second, .unset] [] := by first | (simp [entryFrame, mkF, argsToLocals, Value.category]; done) | rfl
theorem d5_0 : decode prog_10_method_5_code 0 = .ok (.lload_n 1, 1) := by decide +kernel
theorem d5_1 : decode prog_10_method_5_code 1 = .ok (.lconst 0, 1) := by decide +kernel
theorem d5_2 : decode prog_10_method_5_code 2 = .ok (.lcmp, 1) := by decide +kernel
theorem d5_3 : decode prog_10_method_5_code 3 = .ok (.ifCond .ge 5, 3) := by decide +kernel
theorem d5_6 : decode prog_10_method_5_code 6 = .ok (.iconst (-1), 1) := by decide +kernel
theorem d5_7 : decode prog_10_method_5_code 7 = .ok (.ireturn, 1) := by decide +kernel
theorem d5_8 : decode prog_10_method_5_code 8 = .ok (.aload_n 0, 1) := by decide +kernel
theorem d5_9 : decode prog_10_method_5_code 9 = .ok (.getfield 13, 3) := by decide +kernel
theorem d5_12 : decode prog_10_method_5_code 12 = .ok (.lload_n 1, 1) := by decide +kernel
theorem d5_13 : decode prog_10_method_5_code 13 = .ok (.invokestatic 33, 3) := by decide +kernel
theorem pd_2 : parseMethodDescriptor "([JJ)I" = some ⟨[(.array .long), .long], some .int⟩ := by decide +kernel
theorem d5_16 : decode prog_10_method_5_code 16 = .ok (.istore_n 3, 1) := by decide +kernel
theorem d5_17 : decode prog_10_method_5_code 17 = .ok (.aload_n 0, 1) := by decide +kernel
theorem d5_18 : decode prog_10_method_5_code 18 = .ok (.getfield 13, 3) := by decide +kernel
theorem d5_21 : decode prog_10_method_5_code 21 = .ok (.iload_n 3, 1) := by decide +kernel
theorem d5_22 : decode prog_10_method_5_code 22 = .ok (.laload, 1) := by decide +kernel
theorem d5_23 : decode prog_10_method_5_code 23 = .ok (.lload_n 1, 1) := by decide +kernel
theorem d5_24 : decode prog_10_method_5_code 24 = .ok (.lcmp, 1) := by decide +kernel
theorem d5_25 : decode prog_10_method_5_code 25 = .ok (.ifCond .ne 7, 3) := by decide +kernel
theorem d5_32 : decode prog_10_method_5_code 32 = .ok (.iconst (-1), 1) := by decide +kernel
theorem d5_33 : decode prog_10_method_5_code 33 = .ok (.ireturn, 1) := by decide +kernel
def Q_rm_slot0 (Z : State) (a1 : Addr) (s1 : Addr) (k1 : ClassId) (q1 : Int64) (h0 : Heap) (n0 : Nat) (vv : Option Value) (h : Heap) (L : List Loc) : Prop := vv = some (.int (-1 : Int32)) ∧ Fr n0 L ∧ h = h0
set_option maxRecDepth 65536 in
set_option maxHeartbeats 40000000 in
theorem rm_slot0 (l : Launch) (Z : State) (a0 : Array Value) (hw : ∀ d ∈ tables_1, d.before a0 Z = true) (ws : List Jvm.Cond) (a1 : Addr) (s1 : Addr) (k1 : ClassId) (q1 : Int64) (h0 : Heap) (n0 : Nat) (Z0 : n0 ≤ h0.size) (pr0 : Fld Z h0 a1 "com/example/floodgauge/floodgauge/latency/SeqTable" "seqs" "[J" (.ref s1)) (pr1 : Arh Z h0 s1 k1 .long (1024 : Int32) [] [] (.long (-1 : Int64))) :
    Met l Z (⟨"com/example/floodgauge/floodgauge/latency/SeqTable", "slot", "(J)I"⟩ : MethodName) prog_10_method_5_code 4 (some .int) ws ({ frames := 1, cells := 0, slots := 0, locals := 16 } : Room) #[(.ref a1), (.long q1)] h0 (Q_rm_slot0 Z a1 s1 k1 q1 h0 n0) := by
  refine Met.enter (f0 := fun m => mkF m 0 #[.val (.ref a1), .val (.long q1), .second, .unset] []) (plainFor_of_name pn_com_example_floodgauge_floodgauge_latency_SeqTable) (fun m => ef_rm_slot0 m a1 q1) ?_
  intro p e s m below meth c s₁ hx hby hml hown hnm hret hlk hZ X0 e0
  have hown : s.vm.findClass "com/example/floodgauge/floodgauge/latency/SeqTable" = some m.cls := hown
  have hnm : meth.name = "slot" := hnm
  have hml : c.maxLocals = 4 := hml
  have hby : c.code = prog_10_method_5_code := hby
  have N0 := Fr.nil n0
  refine Go.by (B := (s₁.setTop (mkF m 3 #[.val (.ref a1), .val (.long q1), .second, .unset] [(.int (lcmpW q1 (0 : Int64)))]))) (fun _ k => XS.lloadN X0.here hx rfl (hb hby d5_0) rfl (XS.lconst X0.here hx rfl (hb hby d5_1) (XS.lcmp X0.here hx rfl (hb hby d5_2) rfl k))) ?_
  by_cases c88 : q1 < (0 : Int64)
  · skip
    refine Go.by (B := (s₁.setTop (mkF m 7 #[.val (.ref a1), .val (.long q1), .second, .unset] [(.int (-1 : Int32))]))) (fun _ k => XS.ifNo X0.here hx rfl (hb hby d5_3) rfl ((if0 _ _).trans (tlt ((lw_lt _ _).mpr c88)).2.1) (XS.iconst X0.here hx rfl (hb hby d5_6) k)) ?_
    refine Go.ret X0 hx hlk (t := .int) hret rfl (Or.inl ⟨rfl, by simp, _, rfl⟩) (hb hby d5_7) (by decide) (by decide) ?_
    rw [e0]
    exact ⟨rfl, N0, rfl⟩
  · skip
    refine Go.by (B := (s₁.setTop (mkF m 9 #[.val (.ref a1), .val (.long q1), .second, .unset] [(.ref a1)]))) (fun _ k => XS.ifYes X0.here hx rfl (pc0 := 3) (pc' := 8) rfl (hb hby d5_3) rfl ((if0 _ _).trans (flt (fun q => c88 ((lw_lt _ _).mp q))).2.1) (by decide) (by decide) (XS.aloadN X0.here hx rfl (hb hby d5_8) rfl rfl k)) ?_
    obtain ⟨T89, X89, e89, st89⟩ := getF X0 hx hZ hown (host := "") (Or.inl (wd hw 19 rfl)) Via.refl e0 pr0 (g := (mkF m 9 #[.val (.ref a1), .val (.long q1), .second, .unset] [(.ref a1)])) rfl rfl (hb hby d5_9)
    refine Go.by (B := (T89.setTop (mkF m 12 #[.val (.ref a1), .val (.long q1), .second, .unset] [(.ref s1)]))) st89 ?_
    refine Go.by (B := (T89.setTop (mkF m 13 #[.val (.ref a1), .val (.long q1), .second, .unset] [(.long q1), (.ref s1)]))) (fun _ k => XS.lloadN X89.here hx rfl (hb hby d5_12) rfl k) ?_
    obtain ⟨_, _, ⟨T90, L90, k90, n90⟩, -, X90, ⟨Lc90, hQ90, l90, y90, z90⟩, st90⟩ := Jvm.LawKit.callS X89 hx (y := (⟨"com/example/floodgauge/floodgauge/latency/SeqTable", "find", "([JJ)I"⟩ : MethodName)) hown (mvT hZ (wd hw 31 rfl)) (mvT hZ (wd hw 32 rfl)) (mvT hZ (wd hw 3 rfl)) (mvT hZ (wd hw 33 rfl)) (by decide) (backOf (W := 0) (rm_find0 l Z a0 hw [] s1 k1 q1 h0 n0 Z0 pr1) hZ (wd hw 33 rfl) (wd hw 3 rfl) (by decide) (by decide)) (g := (mkF m 13 #[.val (.ref a1), .val (.long q1), .second, .unset] [(.long q1), (.ref s1)])) rfl (by rw [hml]; rfl) (argsL := [(.ref s1), (.long q1)]) (rest := []) (lenOf pd_2 rfl) rfl (by show 2 * 0 + _ ≤ _; exact Nat.le_of_eq rfl) (hb hby d5_13) (fun _ _ => ⟨rfl, e89, Nat.le_of_ble_eq_true rfl, Nat.le_of_ble_eq_true rfl⟩)
    dsimp only [Pt.U, Pt.locs, Pt.cells, Pt.slots] at X90 l90 y90 z90 st90 hQ90
    subst l90 y90 z90
    obtain ⟨r90, rfl, Nq90, hh90, p90_0, p90_1⟩ := hQ90
    have N90 := Fr.app N0 Nq90
    refine Go.by (B := (T90.setTop (mkF m 16 #[.val (.ref a1), .val (.long q1), .second, .unset] [(.int r90)]))) (fun _ k => st90 _ k) ?_
    refine Go.by (B := (T90.setTop (mkF m 18 #[.val (.ref a1), .val (.long q1), .second, .val (.int r90)] [(.ref a1)]))) (fun _ k => XS.istoreN X90.here hx rfl (hb hby d5_16) rfl (l' := #[.val (.ref a1), .val (.long q1), .second, .val (.int r90)]) rfl (XS.aloadN X90.here hx rfl (hb hby d5_17) rfl rfl k)) ?_
    obtain ⟨T95, X95, e95, st95⟩ := getF X90 hx hZ hown (host := "") (Or.inl (wd hw 19 rfl)) Via.refl hh90 pr0 (g := (mkF m 18 #[.val (.ref a1), .val (.long q1), .second, .val (.int r90)] [(.ref a1)])) rfl rfl (hb hby d5_18)
    refine Go.by (B := (T95.setTop (mkF m 21 #[.val (.ref a1), .val (.long q1), .second, .val (.int r90)] [(.ref s1)]))) st95 ?_
    refine Go.by (B := (T95.setTop (mkF m 22 #[.val (.ref a1), .val (.long q1), .second, .val (.int r90)] [(.int r90), (.ref s1)]))) (fun _ k => XS.iloadN X95.here hx rfl (hb hby d5_21) rfl k) ?_
    obtain ⟨cl96, Ar96, q96, S96, N_96, Hs96, G96⟩ := id pr1
    have hin97 : ¬ (r90 < 0 ∨ cl96.slots.size ≤ (r90).toNatClampNeg) := inb_of S96 ⟨p90_0.1, p90_0.2⟩
    have hat97 : cl96.slots[(r90).toNatClampNeg]? = some (.long (-1 : Int64)) := atH Hs96 hin97 (getH_all rfl _)
    refine Go.by (B := (T95.setTop (mkF m 23 #[.val (.ref a1), .val (.long q1), .second, .val (.int r90)] [(.long (-1 : Int64))]))) (fun _ k => X95.laload hx (j := r90) (v := (.long (-1 : Int64))) (by rw [e95]; exact Ar96.1) (State.isArrayOf_alike hZ.alike Ar96.2.1) Ar96.2.2 hin97 hat97 (g := (mkF m 22 #[.val (.ref a1), .val (.long q1), .second, .val (.int r90)] [(.int r90), (.ref s1)])) rfl rfl (hb hby d5_22) _ k) ?_
    refine Go.by (B := (T95.setTop (mkF m 33 #[.val (.ref a1), .val (.long q1), .second, .val (.int r90)] [(.int (-1 : Int32))]))) (fun _ k => XS.lloadN X95.here hx rfl (hb hby d5_23) rfl (XS.lcmp X95.here hx rfl (hb hby d5_24) rfl (XS.ifYes X95.here hx rfl (pc0 := 25) (pc' := 32) rfl (hb hby d5_25) rfl ((if0 _ _).trans (feq (fun q => (fun q => c88 (by rw [← q]; decide) : ¬ ((-1 : Int64) = q1)) ((lw_eq _ _).mp q))).2) (by decide) (by decide) (XS.iconst X95.here hx rfl (hb hby d5_32) k)))) ?_
    refine Go.ret X95 hx hlk (t := .int) hret rfl (Or.inl ⟨rfl, by simp, _, rfl⟩) (hb hby d5_33) (by decide) (by decide) ?_
    rw [e95]
    exact ⟨rfl, N90, rfl⟩
theorem ef_rm_slot1 (m : MethodId) (x0 : Addr) (x1 : Int64) : entryFrame m #[(.ref x0), (.long x1)] 4 = mkF m 0 #[.val (.ref x0), .val (.long x1), .second, .unset] [] := by first | (simp [entryFrame, mkF, argsToLocals, Value.category]; done) | rfl
theorem d5_28 : decode prog_10_method_5_code 28 = .ok (.iload_n 3, 1) := by decide +kernel
theorem d5_29 : decode prog_10_method_5_code 29 = .ok (.goto 4, 3) := by decide +kernel
def Q_rm_slot1 (Z : State) (a1 : Addr) (s1 : Addr) (k1 : ClassId) (q1 : Int64) (i : Int32) (a : Int64) (h0 : Heap) (n0 : Nat) (vv : Option Value) (h : Heap) (L : List Loc) : Prop := vv = some (.int (if a = q1 then i else (-1 : Int32))) ∧ Fr n0 L ∧ h = h0
set_option maxRecDepth 65536 in
set_option maxHeartbeats 40000000 in
theorem rm_slot1 (l : Launch) (Z : State) (a0 : Array Value) (hw : ∀ d ∈ tables_1, d.before a0 Z = true) (ws : List Jvm.Cond) (a1 : Addr) (s1 : Addr) (k1 : ClassId) (q1 : Int64) (i : Int32) (a : Int64) (h0 : Heap) (n0 : Nat) (Z0 : n0 ≤ h0.size) (pr0 : Fld Z h0 a1 "com/example/floodgauge/floodgauge/latency/SeqTable" "seqs" "[J" (.ref s1)) (pr1 : Arh Z h0 s1 k1 .long (1024 : Int32) [(i, (.long a))] [] (.long (-1 : Int64))) (ha : ¬ (a < (0 : Int64))) (hi : i = own_h a) (hgi : own_rg i) :
    Met l Z (⟨"com/example/floodgauge/floodgauge/latency/SeqTable", "slot", "(J)I"⟩ : MethodName) prog_10_method_5_code 4 (some .int) ws ({ frames := 1, cells := 0, slots := 0, locals := 16 } : Room) #[(.ref a1), (.long q1)] h0 (Q_rm_slot1 Z a1 s1 k1 q1 i a h0 n0) := by
  refine Met.enter (f0 := fun m => mkF m 0 #[.val (.ref a1), .val (.long q1), .second, .unset] []) (plainFor_of_name pn_com_example_floodgauge_floodgauge_latency_SeqTable) (fun m => ef_rm_slot1 m a1 q1) ?_
  intro p e s m below meth c s₁ hx hby hml hown hnm hret hlk hZ X0 e0
  have hown : s.vm.findClass "com/example/floodgauge/floodgauge/latency/SeqTable" = some m.cls := hown
  have hnm : meth.name = "slot" := hnm
  have hml : c.maxLocals = 4 := hml
  have hby : c.code = prog_10_method_5_code := hby
  have N0 := Fr.nil n0
  refine Go.by (B := (s₁.setTop (mkF m 3 #[.val (.ref a1), .val (.long q1), .second, .unset] [(.int (lcmpW q1 (0 : Int64)))]))) (fun _ k => XS.lloadN X0.here hx rfl (hb hby d5_0) rfl (XS.lconst X0.here hx rfl (hb hby d5_1) (XS.lcmp X0.here hx rfl (hb hby d5_2) rfl k))) ?_
  by_cases c98 : q1 < (0 : Int64)
  · skip
    refine Go.by (B := (s₁.setTop (mkF m 7 #[.val (.ref a1), .val (.long q1), .second, .unset] [(.int (-1 : Int32))]))) (fun _ k => XS.ifNo X0.here hx rfl (hb hby d5_3) rfl ((if0 _ _).trans (tlt ((lw_lt _ _).mpr c98)).2.1) (XS.iconst X0.here hx rfl (hb hby d5_6) k)) ?_
    refine Go.ret X0 hx hlk (t := .int) hret rfl (Or.inl ⟨rfl, by simp, _, rfl⟩) (hb hby d5_7) (by decide) (by decide) ?_
    rw [e0]
    exact ⟨(congrArg (fun q => some (Value.int q)) (by rw [if_neg (fun q => ha (by rw [q]; exact c98))])), N0, rfl⟩
  · skip
    refine Go.by (B := (s₁.setTop (mkF m 9 #[.val (.ref a1), .val (.long q1), .second, .unset] [(.ref a1)]))) (fun _ k => XS.ifYes X0.here hx rfl (pc0 := 3) (pc' := 8) rfl (hb hby d5_3) rfl ((if0 _ _).trans (flt (fun q => c98 ((lw_lt _ _).mp q))).2.1) (by decide) (by decide) (XS.aloadN X0.here hx rfl (hb hby d5_8) rfl rfl k)) ?_
    obtain ⟨T99, X99, e99, st99⟩ := getF X0 hx hZ hown (host := "") (Or.inl (wd hw 19 rfl)) Via.refl e0 pr0 (g := (mkF m 9 #[.val (.ref a1), .val (.long q1), .second, .unset] [(.ref a1)])) rfl rfl (hb hby d5_9)
    refine Go.by (B := (T99.setTop (mkF m 12 #[.val (.ref a1), .val (.long q1), .second, .unset] [(.ref s1)]))) st99 ?_
    refine Go.by (B := (T99.setTop (mkF m 13 #[.val (.ref a1), .val (.long q1), .second, .unset] [(.long q1), (.ref s1)]))) (fun _ k => XS.lloadN X99.here hx rfl (hb hby d5_12) rfl k) ?_
    obtain ⟨_, _, ⟨T100, L100, k100, n100⟩, -, X100, ⟨Lc100, hQ100, l100, y100, z100⟩, st100⟩ := Jvm.LawKit.callS X99 hx (y := (⟨"com/example/floodgauge/floodgauge/latency/SeqTable", "find", "([JJ)I"⟩ : MethodName)) hown (mvT hZ (wd hw 31 rfl)) (mvT hZ (wd hw 32 rfl)) (mvT hZ (wd hw 3 rfl)) (mvT hZ (wd hw 33 rfl)) (by decide) (backOf (W := 0) (rm_find1 l Z a0 hw [] s1 k1 q1 i a h0 n0 Z0 pr1 ha hi ⟨hgi.1, hgi.2⟩) hZ (wd hw 33 rfl) (wd hw 3 rfl) (by decide) (by decide)) (g := (mkF m 13 #[.val (.ref a1), .val (.long q1), .second, .unset] [(.long q1), (.ref s1)])) rfl (by rw [hml]; rfl) (argsL := [(.ref s1), (.long q1)]) (rest := []) (lenOf pd_2 rfl) rfl (by show 2 * 0 + _ ≤ _; exact Nat.le_of_eq rfl) (hb hby d5_13) (fun _ _ => ⟨rfl, e99, Nat.le_of_ble_eq_true rfl, Nat.le_of_ble_eq_true rfl⟩)
    dsimp only [Pt.U, Pt.locs, Pt.cells, Pt.slots] at X100 l100 y100 z100 st100 hQ100
    subst l100 y100 z100
    obtain ⟨r100, rfl, Nq100, hh100, p100_0, p100_1⟩ := hQ100
    have N100 := Fr.app N0 Nq100
    refine Go.by (B := (T100.setTop (mkF m 16 #[.val (.ref a1), .val (.long q1), .second, .unset] [(.int r100)]))) (fun _ k => st100 _ k) ?_
    rcases p100_1 with ⟨e101, e102⟩ | ⟨e101, e102, e103⟩
    · skip
      refine Go.by (B := (T100.setTop (mkF m 18 #[.val (.ref a1), .val (.long q1), .second, .val (.int r100)] [(.ref a1)]))) (fun _ k => XS.istoreN X100.here hx rfl (hb hby d5_16) rfl (l' := #[.val (.ref a1), .val (.long q1), .second, .val (.int r100)]) rfl (XS.aloadN X100.here hx rfl (hb hby d5_17) rfl rfl k)) ?_
      obtain ⟨T105, X105, e105, st105⟩ := getF X100 hx hZ hown (host := "") (Or.inl (wd hw 19 rfl)) Via.refl hh100 pr0 (g := (mkF m 18 #[.val (.ref a1), .val (.long q1), .second, .val (.int r100)] [(.ref a1)])) rfl rfl (hb hby d5_18)
      refine Go.by (B := (T105.setTop (mkF m 21 #[.val (.ref a1), .val (.long q1), .second, .val (.int r100)] [(.ref s1)]))) st105 ?_
      refine Go.by (B := (T105.setTop (mkF m 22 #[.val (.ref a1), .val (.long q1), .second, .val (.int r100)] [(.int r100), (.ref s1)]))) (fun _ k => XS.iloadN X105.here hx rfl (hb hby d5_21) rfl k) ?_
      obtain ⟨cl106, Ar106, q106, S106, N_106, Hs106, G106⟩ := id pr1
      have hin107 : ¬ (r100 < 0 ∨ cl106.slots.size ≤ (r100).toNatClampNeg) := inb_of S106 ⟨p100_0.1, p100_0.2⟩
      have hat107 : cl106.slots[(r100).toNatClampNeg]? = some (.long a) := atH Hs106 hin107 (getH_hit p100_0.1 e101)
      refine Go.by (B := (T105.setTop (mkF m 23 #[.val (.ref a1), .val (.long q1), .second, .val (.int r100)] [(.long a)]))) (fun _ k => X105.laload hx (j := r100) (v := (.long a)) (by rw [e105]; exact Ar106.1) (State.isArrayOf_alike hZ.alike Ar106.2.1) Ar106.2.2 hin107 hat107 (g := (mkF m 22 #[.val (.ref a1), .val (.long q1), .second, .val (.int r100)] [(.int r100), (.ref s1)])) rfl rfl (hb hby d5_22) _ k) ?_
      refine Go.by (B := (T105.setTop (mkF m 33 #[.val (.ref a1), .val (.long q1), .second, .val (.int r100)] [(.int r100)]))) (fun _ k => XS.lloadN X105.here hx rfl (hb hby d5_23) rfl (XS.lcmp X105.here hx rfl (hb hby d5_24) rfl (XS.ifNo X105.here hx rfl (hb hby d5_25) rfl ((if0 _ _).trans (teq ((lw_eq _ _).mpr e102)).2) (XS.iloadN X105.here hx rfl (hb hby d5_28) rfl (XS.goto X105.here hx rfl (pc0 := 29) (pc' := 33) rfl (hb hby d5_29) (by decide) (by decide) k))))) ?_
      refine Go.ret X105 hx hlk (t := .int) hret rfl (Or.inl ⟨rfl, by simp, _, rfl⟩) (hb hby d5_33) (by decide) (by decide) ?_
      rw [e105]
      exact ⟨(congrArg (fun q => some (Value.int q)) (by rw [if_pos e102]; exact e101)), N100, rfl⟩
    · skip
      refine Go.by (B := (T100.setTop (mkF m 18 #[.val (.ref a1), .val (.long q1), .second, .val (.int r100)] [(.ref a1)]))) (fun _ k => XS.istoreN X100.here hx rfl (hb hby d5_16) rfl (l' := #[.val (.ref a1), .val (.long q1), .second, .val (.int r100)]) rfl (XS.aloadN X100.here hx rfl (hb hby d5_17) rfl rfl k)) ?_
      obtain ⟨T108, X108, e108, st108⟩ := getF X100 hx hZ hown (host := "") (Or.inl (wd hw 19 rfl)) Via.refl hh100 pr0 (g := (mkF m 18 #[.val (.ref a1), .val (.long q1), .second, .val (.int r100)] [(.ref a1)])) rfl rfl (hb hby d5_18)
      refine Go.by (B := (T108.setTop (mkF m 21 #[.val (.ref a1), .val (.long q1), .second, .val (.int r100)] [(.ref s1)]))) st108 ?_
      refine Go.by (B := (T108.setTop (mkF m 22 #[.val (.ref a1), .val (.long q1), .second, .val (.int r100)] [(.int r100), (.ref s1)]))) (fun _ k => XS.iloadN X108.here hx rfl (hb hby d5_21) rfl k) ?_
      obtain ⟨cl109, Ar109, q109, S109, N_109, Hs109, G109⟩ := id pr1
      have hin110 : ¬ (r100 < 0 ∨ cl109.slots.size ≤ (r100).toNatClampNeg) := inb_of S109 ⟨p100_0.1, p100_0.2⟩
      have hat110 : cl109.slots[(r100).toNatClampNeg]? = some (.long (-1 : Int64)) := atH Hs109 hin110 (getH_miss p100_0.1 e101 (getH_all rfl _))
      refine Go.by (B := (T108.setTop (mkF m 23 #[.val (.ref a1), .val (.long q1), .second, .val (.int r100)] [(.long (-1 : Int64))]))) (fun _ k => X108.laload hx (j := r100) (v := (.long (-1 : Int64))) (by rw [e108]; exact Ar109.1) (State.isArrayOf_alike hZ.alike Ar109.2.1) Ar109.2.2 hin110 hat110 (g := (mkF m 22 #[.val (.ref a1), .val (.long q1), .second, .val (.int r100)] [(.int r100), (.ref s1)])) rfl rfl (hb hby d5_22) _ k) ?_
      refine Go.by (B := (T108.setTop (mkF m 33 #[.val (.ref a1), .val (.long q1), .second, .val (.int r100)] [(.int (-1 : Int32))]))) (fun _ k => XS.lloadN X108.here hx rfl (hb hby d5_23) rfl (XS.lcmp X108.here hx rfl (hb hby d5_24) rfl (XS.ifYes X108.here hx rfl (pc0 := 25) (pc' := 32) rfl (hb hby d5_25) rfl ((if0 _ _).trans (feq (fun q => (fun q => c98 (by rw [← q]; decide) : ¬ ((-1 : Int64) = q1)) ((lw_eq _ _).mp q))).2) (by decide) (by decide) (XS.iconst X108.here hx rfl (hb hby d5_32) k)))) ?_
      refine Go.ret X108 hx hlk (t := .int) hret rfl (Or.inl ⟨rfl, by simp, _, rfl⟩) (hb hby d5_33) (by decide) (by decide) ?_
      rw [e108]
      exact ⟨(congrArg (fun q => some (Value.int q)) (by rw [if_neg e102])), N100, rfl⟩
theorem ef_rm_slot2 (m : MethodId) (x0 : Addr) (x1 : Int64) : entryFrame m #[(.ref x0), (.long x1)] 4 = mkF m 0 #[.val (.ref x0), .val (.long x1), .second, .unset] [] := by first | (simp [entryFrame, mkF, argsToLocals, Value.category]; done) | rfl
def Q_rm_slot2 (Z : State) (a1 : Addr) (s1 : Addr) (k1 : ClassId) (q1 : Int64) (i : Int32) (a : Int64) (j : Int32) (b : Int64) (h0 : Heap) (n0 : Nat) (vv : Option Value) (h : Heap) (L : List Loc) : Prop := vv = some (.int (if a = q1 then i else if b = q1 then j else (-1 : Int32))) ∧ Fr n0 L ∧ h = h0
set_option maxRecDepth 65536 in
set_option maxHeartbeats 40000000 in
theorem rm_slot2 (l : Launch) (Z : State) (a0 : Array Value) (hw : ∀ d ∈ tables_1, d.before a0 Z = true) (ws : List Jvm.Cond) (a1 : Addr) (s1 : Addr) (k1 : ClassId) (q1 : Int64) (i : Int32) (a : Int64) (j : Int32) (b : Int64) (h0 : Heap) (n0 : Nat) (Z0 : n0 ≤ h0.size) (pr0 : Fld Z h0 a1 "com/example/floodgauge/floodgauge/latency/SeqTable" "seqs" "[J" (.ref s1)) (pr1 : Arh Z h0 s1 k1 .long (1024 : Int32) [(j, (.long b)), (i, (.long a))] [] (.long (-1 : Int64))) (ha : ¬ (a < (0 : Int64))) (hi : i = own_h a) (hgi : own_rg i) (hb2 : ¬ (b < (0 : Int64))) (hj : j = own_ins b i) (hji : ¬ (j = i)) (hab : ¬ (a = b)) (hgj : own_rg j) :
    Met l Z (⟨"com/example/floodgauge/floodgauge/latency/SeqTable", "slot", "(J)I"⟩ : MethodName) prog_10_method_5_code 4 (some .int) ws ({ frames := 1, cells := 0, slots := 0, locals := 16 } : Room) #[(.ref a1), (.long q1)] h0 (Q_rm_slot2 Z a1 s1 k1 q1 i a j b h0 n0) := by
  refine Met.enter (f0 := fun m => mkF m 0 #[.val (.ref a1), .val (.long q1), .second, .unset] []) (plainFor_of_name pn_com_example_floodgauge_floodgauge_latency_SeqTable) (fun m => ef_rm_slot2 m a1 q1) ?_
  intro p e s m below meth c s₁ hx hby hml hown hnm hret hlk hZ X0 e0
  have hown : s.vm.findClass "com/example/floodgauge/floodgauge/latency/SeqTable" = some m.cls := hown
  have hnm : meth.name = "slot" := hnm
  have hml : c.maxLocals = 4 := hml
  have hby : c.code = prog_10_method_5_code := hby
  have N0 := Fr.nil n0
  refine Go.by (B := (s₁.setTop (mkF m 3 #[.val (.ref a1), .val (.long q1), .second, .unset] [(.int (lcmpW q1 (0 : Int64)))]))) (fun _ k => XS.lloadN X0.here hx rfl (hb hby d5_0) rfl (XS.lconst X0.here hx rfl (hb hby d5_1) (XS.lcmp X0.here hx rfl (hb hby d5_2) rfl k))) ?_
  by_cases c111 : q1 < (0 : Int64)
  · skip
    refine Go.by (B := (s₁.setTop (mkF m 7 #[.val (.ref a1), .val (.long q1), .second, .unset] [(.int (-1 : Int32))]))) (fun _ k => XS.ifNo X0.here hx rfl (hb hby d5_3) rfl ((if0 _ _).trans (tlt ((lw_lt _ _).mpr c111)).2.1) (XS.iconst X0.here hx rfl (hb hby d5_6) k)) ?_
    refine Go.ret X0 hx hlk (t := .int) hret rfl (Or.inl ⟨rfl, by simp, _, rfl⟩) (hb hby d5_7) (by decide) (by decide) ?_
    rw [e0]
    exact ⟨(congrArg (fun q => some (Value.int q)) (by rw [if_neg (fun q => ha (by rw [q]; exact c111)), if_neg (fun q => hb2 (by rw [q]; exact c111))])), N0, rfl⟩
  · skip
    refine Go.by (B := (s₁.setTop (mkF m 9 #[.val (.ref a1), .val (.long q1), .second, .unset] [(.ref a1)]))) (fun _ k => XS.ifYes X0.here hx rfl (pc0 := 3) (pc' := 8) rfl (hb hby d5_3) rfl ((if0 _ _).trans (flt (fun q => c111 ((lw_lt _ _).mp q))).2.1) (by decide) (by decide) (XS.aloadN X0.here hx rfl (hb hby d5_8) rfl rfl k)) ?_
    obtain ⟨T112, X112, e112, st112⟩ := getF X0 hx hZ hown (host := "") (Or.inl (wd hw 19 rfl)) Via.refl e0 pr0 (g := (mkF m 9 #[.val (.ref a1), .val (.long q1), .second, .unset] [(.ref a1)])) rfl rfl (hb hby d5_9)
    refine Go.by (B := (T112.setTop (mkF m 12 #[.val (.ref a1), .val (.long q1), .second, .unset] [(.ref s1)]))) st112 ?_
    refine Go.by (B := (T112.setTop (mkF m 13 #[.val (.ref a1), .val (.long q1), .second, .unset] [(.long q1), (.ref s1)]))) (fun _ k => XS.lloadN X112.here hx rfl (hb hby d5_12) rfl k) ?_
    obtain ⟨_, _, ⟨T113, L113, k113, n113⟩, -, X113, ⟨Lc113, hQ113, l113, y113, z113⟩, st113⟩ := Jvm.LawKit.callS X112 hx (y := (⟨"com/example/floodgauge/floodgauge/latency/SeqTable", "find", "([JJ)I"⟩ : MethodName)) hown (mvT hZ (wd hw 31 rfl)) (mvT hZ (wd hw 32 rfl)) (mvT hZ (wd hw 3 rfl)) (mvT hZ (wd hw 33 rfl)) (by decide) (backOf (W := 0) (rm_find2 l Z a0 hw [] s1 k1 q1 i a j b h0 n0 Z0 pr1 ha hi ⟨hgi.1, hgi.2⟩ hb2 hj hji hab ⟨hgj.1, hgj.2⟩) hZ (wd hw 33 rfl) (wd hw 3 rfl) (by decide) (by decide)) (g := (mkF m 13 #[.val (.ref a1), .val (.long q1), .second, .unset] [(.long q1), (.ref s1)])) rfl (by rw [hml]; rfl) (argsL := [(.ref s1), (.long q1)]) (rest := []) (lenOf pd_2 rfl) rfl (by show 2 * 0 + _ ≤ _; exact Nat.le_of_eq rfl) (hb hby d5_13) (fun _ _ => ⟨rfl, e112, Nat.le_of_ble_eq_true rfl, Nat.le_of_ble_eq_true rfl⟩)
    dsimp only [Pt.U, Pt.locs, Pt.cells, Pt.slots] at X113 l113 y113 z113 st113 hQ113
    subst l113 y113 z113
    obtain ⟨r113, rfl, Nq113, hh113, p113_0, p113_1⟩ := hQ113
    have N113 := Fr.app N0 Nq113
    refine Go.by (B := (T113.setTop (mkF m 16 #[.val (.ref a1), .val (.long q1), .second, .unset] [(.int r113)]))) (fun _ k => st113 _ k) ?_
    rcases p113_1 with ⟨e114, e115⟩ | ⟨e114, e115⟩ | ⟨e114, e115, e116, e117⟩
    · skip
      refine Go.by (B := (T113.setTop (mkF m 18 #[.val (.ref a1), .val (.long q1), .second, .val (.int r113)] [(.ref a1)]))) (fun _ k => XS.istoreN X113.here hx rfl (hb hby d5_16) rfl (l' := #[.val (.ref a1), .val (.long q1), .second, .val (.int r113)]) rfl (XS.aloadN X113.here hx rfl (hb hby d5_17) rfl rfl k)) ?_
      obtain ⟨T118, X118, e118, st118⟩ := getF X113 hx hZ hown (host := "") (Or.inl (wd hw 19 rfl)) Via.refl hh113 pr0 (g := (mkF m 18 #[.val (.ref a1), .val (.long q1), .second, .val (.int r113)] [(.ref a1)])) rfl rfl (hb hby d5_18)
      refine Go.by (B := (T118.setTop (mkF m 21 #[.val (.ref a1), .val (.long q1), .second, .val (.int r113)] [(.ref s1)]))) st118 ?_
      refine Go.by (B := (T118.setTop (mkF m 22 #[.val (.ref a1), .val (.long q1), .second, .val (.int r113)] [(.int r113), (.ref s1)]))) (fun _ k => XS.iloadN X118.here hx rfl (hb hby d5_21) rfl k) ?_
      obtain ⟨cl119, Ar119, q119, S119, N_119, Hs119, G119⟩ := id pr1
      have hin120 : ¬ (r113 < 0 ∨ cl119.slots.size ≤ (r113).toNatClampNeg) := inb_of S119 ⟨p113_0.1, p113_0.2⟩
      have hat120 : cl119.slots[(r113).toNatClampNeg]? = some (.long a) := atH Hs119 hin120 (getH_miss p113_0.1 (fun q => hji (q.symm.trans e114)) (getH_hit p113_0.1 e114))
      refine Go.by (B := (T118.setTop (mkF m 23 #[.val (.ref a1), .val (.long q1), .second, .val (.int r113)] [(.long a)]))) (fun _ k => X118.laload hx (j := r113) (v := (.long a)) (by rw [e118]; exact Ar119.1) (State.isArrayOf_alike hZ.alike Ar119.2.1) Ar119.2.2 hin120 hat120 (g := (mkF m 22 #[.val (.ref a1), .val (.long q1), .second, .val (.int r113)] [(.int r113), (.ref s1)])) rfl rfl (hb hby d5_22) _ k) ?_
      refine Go.by (B := (T118.setTop (mkF m 33 #[.val (.ref a1), .val (.long q1), .second, .val (.int r113)] [(.int r113)]))) (fun _ k => XS.lloadN X118.here hx rfl (hb hby d5_23) rfl (XS.lcmp X118.here hx rfl (hb hby d5_24) rfl (XS.ifNo X118.here hx rfl (hb hby d5_25) rfl ((if0 _ _).trans (teq ((lw_eq _ _).mpr e115)).2) (XS.iloadN X118.here hx rfl (hb hby d5_28) rfl (XS.goto X118.here hx rfl (pc0 := 29) (pc' := 33) rfl (hb hby d5_29) (by decide) (by decide) k))))) ?_
      refine Go.ret X118 hx hlk (t := .int) hret rfl (Or.inl ⟨rfl, by simp, _, rfl⟩) (hb hby d5_33) (by decide) (by decide) ?_
      rw [e118]
      exact ⟨(congrArg (fun q => some (Value.int q)) (by rw [if_pos e115]; exact e114)), N113, rfl⟩
    · skip
      refine Go.by (B := (T113.setTop (mkF m 18 #[.val (.ref a1), .val (.long q1), .second, .val (.int r113)] [(.ref a1)]))) (fun _ k => XS.istoreN X113.here hx rfl (hb hby d5_16) rfl (l' := #[.val (.ref a1), .val (.long q1), .second, .val (.int r113)]) rfl (XS.aloadN X113.here hx rfl (hb hby d5_17) rfl rfl k)) ?_
      obtain ⟨T121, X121, e121, st121⟩ := getF X113 hx hZ hown (host := "") (Or.inl (wd hw 19 rfl)) Via.refl hh113 pr0 (g := (mkF m 18 #[.val (.ref a1), .val (.long q1), .second, .val (.int r113)] [(.ref a1)])) rfl rfl (hb hby d5_18)
      refine Go.by (B := (T121.setTop (mkF m 21 #[.val (.ref a1), .val (.long q1), .second, .val (.int r113)] [(.ref s1)]))) st121 ?_
      refine Go.by (B := (T121.setTop (mkF m 22 #[.val (.ref a1), .val (.long q1), .second, .val (.int r113)] [(.int r113), (.ref s1)]))) (fun _ k => XS.iloadN X121.here hx rfl (hb hby d5_21) rfl k) ?_
      obtain ⟨cl122, Ar122, q122, S122, N_122, Hs122, G122⟩ := id pr1
      have hin123 : ¬ (r113 < 0 ∨ cl122.slots.size ≤ (r113).toNatClampNeg) := inb_of S122 ⟨p113_0.1, p113_0.2⟩
      have hat123 : cl122.slots[(r113).toNatClampNeg]? = some (.long b) := atH Hs122 hin123 (getH_hit p113_0.1 e114)
      refine Go.by (B := (T121.setTop (mkF m 23 #[.val (.ref a1), .val (.long q1), .second, .val (.int r113)] [(.long b)]))) (fun _ k => X121.laload hx (j := r113) (v := (.long b)) (by rw [e121]; exact Ar122.1) (State.isArrayOf_alike hZ.alike Ar122.2.1) Ar122.2.2 hin123 hat123 (g := (mkF m 22 #[.val (.ref a1), .val (.long q1), .second, .val (.int r113)] [(.int r113), (.ref s1)])) rfl rfl (hb hby d5_22) _ k) ?_
      refine Go.by (B := (T121.setTop (mkF m 33 #[.val (.ref a1), .val (.long q1), .second, .val (.int r113)] [(.int r113)]))) (fun _ k => XS.lloadN X121.here hx rfl (hb hby d5_23) rfl (XS.lcmp X121.here hx rfl (hb hby d5_24) rfl (XS.ifNo X121.here hx rfl (hb hby d5_25) rfl ((if0 _ _).trans (teq ((lw_eq _ _).mpr e115)).2) (XS.iloadN X121.here hx rfl (hb hby d5_28) rfl (XS.goto X121.here hx rfl (pc0 := 29) (pc' := 33) rfl (hb hby d5_29) (by decide) (by decide) k))))) ?_
      refine Go.ret X121 hx hlk (t := .int) hret rfl (Or.inl ⟨rfl, by simp, _, rfl⟩) (hb hby d5_33) (by decide) (by decide) ?_
      rw [e121]
      exact ⟨(congrArg (fun q => some (Value.int q)) (by rw [if_neg (fun q => hab (q.trans e115.symm)), if_pos e115]; exact e114)), N113, rfl⟩
    · skip
      refine Go.by (B := (T113.setTop (mkF m 18 #[.val (.ref a1), .val (.long q1), .second, .val (.int r113)] [(.ref a1)]))) (fun _ k => XS.istoreN X113.here hx rfl (hb hby d5_16) rfl (l' := #[.val (.ref a1), .val (.long q1), .second, .val (.int r113)]) rfl (XS.aloadN X113.here hx rfl (hb hby d5_17) rfl rfl k)) ?_
      obtain ⟨T124, X124, e124, st124⟩ := getF X113 hx hZ hown (host := "") (Or.inl (wd hw 19 rfl)) Via.refl hh113 pr0 (g := (mkF m 18 #[.val (.ref a1), .val (.long q1), .second, .val (.int r113)] [(.ref a1)])) rfl rfl (hb hby d5_18)
      refine Go.by (B := (T124.setTop (mkF m 21 #[.val (.ref a1), .val (.long q1), .second, .val (.int r113)] [(.ref s1)]))) st124 ?_
      refine Go.by (B := (T124.setTop (mkF m 22 #[.val (.ref a1), .val (.long q1), .second, .val (.int r113)] [(.int r113), (.ref s1)]))) (fun _ k => XS.iloadN X124.here hx rfl (hb hby d5_21) rfl k) ?_
      obtain ⟨cl125, Ar125, q125, S125, N_125, Hs125, G125⟩ := id pr1
      have hin126 : ¬ (r113 < 0 ∨ cl125.slots.size ≤ (r113).toNatClampNeg) := inb_of S125 ⟨p113_0.1, p113_0.2⟩
      have hat126 : cl125.slots[(r113).toNatClampNeg]? = some (.long (-1 : Int64)) := atH Hs125 hin126 (getH_miss p113_0.1 e115 (getH_miss p113_0.1 e114 (getH_all rfl _)))
      refine Go.by (B := (T124.setTop (mkF m 23 #[.val (.ref a1), .val (.long q1), .second, .val (.int r113)] [(.long (-1 : Int64))]))) (fun _ k => X124.laload hx (j := r113) (v := (.long (-1 : Int64))) (by rw [e124]; exact Ar125.1) (State.isArrayOf_alike hZ.alike Ar125.2.1) Ar125.2.2 hin126 hat126 (g := (mkF m 22 #[.val (.ref a1), .val (.long q1), .second, .val (.int r113)] [(.int r113), (.ref s1)])) rfl rfl (hb hby d5_22) _ k) ?_
      refine Go.by (B := (T124.setTop (mkF m 33 #[.val (.ref a1), .val (.long q1), .second, .val (.int r113)] [(.int (-1 : Int32))]))) (fun _ k => XS.lloadN X124.here hx rfl (hb hby d5_23) rfl (XS.lcmp X124.here hx rfl (hb hby d5_24) rfl (XS.ifYes X124.here hx rfl (pc0 := 25) (pc' := 32) rfl (hb hby d5_25) rfl ((if0 _ _).trans (feq (fun q => (fun q => c111 (by rw [← q]; decide) : ¬ ((-1 : Int64) = q1)) ((lw_eq _ _).mp q))).2) (by decide) (by decide) (XS.iconst X124.here hx rfl (hb hby d5_32) k)))) ?_
      refine Go.ret X124 hx hlk (t := .int) hret rfl (Or.inl ⟨rfl, by simp, _, rfl⟩) (hb hby d5_33) (by decide) (by decide) ?_
      rw [e124]
      exact ⟨(congrArg (fun q => some (Value.int q)) (by rw [if_neg e116, if_neg e117])), N113, rfl⟩
theorem ef_rm_add0 (m : MethodId) (x0 : Addr) (x1 : Int64) (x2 : Int64) : entryFrame m #[(.ref x0), (.long x1), (.long x2)] 6 = mkF m 0 #[.val (.ref x0), .val (.long x1), .second, .val (.long x2), .second, .unset] [] := by first | (simp [entryFrame, mkF, argsToLocals, Value.category]; done) | rfl
theorem d7_0 : decode prog_10_method_2_code 0 = .ok (.lload_n 1, 1) := by decide +kernel
theorem d7_1 : decode prog_10_method_2_code 1 = .ok (.lconst 0, 1) := by decide +kernel
theorem d7_2 : decode prog_10_method_2_code 2 = .ok (.lcmp, 1) := by decide +kernel
theorem d7_3 : decode prog_10_method_2_code 3 = .ok (.ifCond .ge 17, 3) := by decide +kernel
theorem d7_20 : decode prog_10_method_2_code 20 = .ok (.aload_n 0, 1) := by decide +kernel
theorem d7_21 : decode prog_10_method_2_code 21 = .ok (.getfield 13, 3) := by decide +kernel
theorem d7_24 : decode prog_10_method_2_code 24 = .ok (.lload_n 1, 1) := by decide +kernel
theorem d7_25 : decode prog_10_method_2_code 25 = .ok (.invokestatic 33, 3) := by decide +kernel
theorem d7_28 : decode prog_10_method_2_code 28 = .ok (.istore 5, 2) := by decide +kernel
theorem d7_30 : decode prog_10_method_2_code 30 = .ok (.aload_n 0, 1) := by decide +kernel
theorem d7_31 : decode prog_10_method_2_code 31 = .ok (.getfield 13, 3) := by decide +kernel
theorem d7_34 : decode prog_10_method_2_code 34 = .ok (.iload 5, 2) := by decide +kernel
theorem d7_36 : decode prog_10_method_2_code 36 = .ok (.laload, 1) := by decide +kernel
theorem d7_37 : decode prog_10_method_2_code 37 = .ok (.lload_n 1, 1) := by decide +kernel
theorem d7_38 : decode prog_10_method_2_code 38 = .ok (.lcmp, 1) := by decide +kernel
theorem d7_39 : decode prog_10_method_2_code 39 = .ok (.ifCond .ne 6, 3) := by decide +kernel
theorem d7_45 : decode prog_10_method_2_code 45 = .ok (.aload_n 0, 1) := by decide +kernel
theorem d7_46 : decode prog_10_method_2_code 46 = .ok (.getfield 37, 3) := by decide +kernel
theorem d7_49 : decode prog_10_method_2_code 49 = .ok (.iconst 1, 1) := by decide +kernel
theorem d7_50 : decode prog_10_method_2_code 50 = .ok (.iadd, 1) := by decide +kernel
theorem d7_51 : decode prog_10_method_2_code 51 = .ok (.i2d, 1) := by decide +kernel
theorem d7_52 : decode prog_10_method_2_code 52 = .ok (.aload_n 0, 1) := by decide +kernel
theorem d7_53 : decode prog_10_method_2_code 53 = .ok (.getfield 13, 3) := by decide +kernel
theorem d7_56 : decode prog_10_method_2_code 56 = .ok (.arraylength, 1) := by decide +kernel
theorem d7_57 : decode prog_10_method_2_code 57 = .ok (.i2d, 1) := by decide +kernel
theorem d7_58 : decode prog_10_method_2_code 58 = .ok (.ldc2_w 41, 3) := by decide +kernel
theorem d7_61 : decode prog_10_method_2_code 61 = .ok (.dmul, 1) := by decide +kernel
theorem d7_62 : decode prog_10_method_2_code 62 = .ok (.dcmp .l, 1) := by decide +kernel
theorem d7_63 : decode prog_10_method_2_code 63 = .ok (.ifCond .le 17, 3) := by decide +kernel
theorem d7_80 : decode prog_10_method_2_code 80 = .ok (.aload_n 0, 1) := by decide +kernel
theorem d7_81 : decode prog_10_method_2_code 81 = .ok (.getfield 13, 3) := by decide +kernel
theorem d7_84 : decode prog_10_method_2_code 84 = .ok (.iload 5, 2) := by decide +kernel
theorem d7_86 : decode prog_10_method_2_code 86 = .ok (.lload_n 1, 1) := by decide +kernel
theorem d7_87 : decode prog_10_method_2_code 87 = .ok (.lastore, 1) := by decide +kernel
theorem d7_88 : decode prog_10_method_2_code 88 = .ok (.aload_n 0, 1) := by decide +kernel
theorem d7_89 : decode prog_10_method_2_code 89 = .ok (.getfield 17, 3) := by decide +kernel
theorem d7_92 : decode prog_10_method_2_code 92 = .ok (.iload 5, 2) := by decide +kernel
theorem d7_94 : decode prog_10_method_2_code 94 = .ok (.lload_n 3, 1) := by decide +kernel
theorem d7_95 : decode prog_10_method_2_code 95 = .ok (.lastore, 1) := by decide +kernel
theorem d7_96 : decode prog_10_method_2_code 96 = .ok (.aload_n 0, 1) := by decide +kernel
theorem d7_97 : decode prog_10_method_2_code 97 = .ok (.dup, 1) := by decide +kernel
theorem d7_98 : decode prog_10_method_2_code 98 = .ok (.getfield 37, 3) := by decide +kernel
theorem d7_101 : decode prog_10_method_2_code 101 = .ok (.iconst 1, 1) := by decide +kernel
theorem d7_102 : decode prog_10_method_2_code 102 = .ok (.iadd, 1) := by decide +kernel
theorem d7_103 : decode prog_10_method_2_code 103 = .ok (.putfield 37, 3) := by decide +kernel
theorem d7_106 : decode prog_10_method_2_code 106 = .ok (.iload 5, 2) := by decide +kernel
theorem d7_108 : decode prog_10_method_2_code 108 = .ok (.ireturn, 1) := by decide +kernel
def Q_rm_add0 (Z : State) (a1 : Addr) (s1 : Addr) (s2 : Addr) (k1 : ClassId) (k2 : ClassId) (q1 : Int64) (v1 : Int64) (h0 : Heap) (n0 : Nat) (vv : Option Value) (h : Heap) (L : List Loc) : Prop := ∃ r : Int32, vv = some (.int r) ∧ Fr n0 L ∧ Keep h0 h [a1, s1, s2] ∧ Exa Z h a1 "com/example/floodgauge/floodgauge/latency/SeqTable" ∧ Fld Z h a1 "com/example/floodgauge/floodgauge/latency/SeqTable" "seqs" "[J" (.ref s1) ∧ Fld Z h a1 "com/example/floodgauge/floodgauge/latency/SeqTable" "values" "[J" (.ref s2) ∧ Fld Z h a1 "com/example/floodgauge/floodgauge/latency/SeqTable" "size" "I" (.int 1) ∧ Arh Z h s1 k1 .long (1024 : Int32) [(r, (.long q1))] [] (.long (-1 : Int64)) ∧ Arh Z h s2 k2 .long (1024 : Int32) [(r, (.long v1))] [] (.long (0 : Int64)) ∧ r = own_h q1 ∧ own_rg r
set_option maxRecDepth 65536 in
set_option maxHeartbeats 40000000 in
theorem rm_add0 (l : Launch) (Z : State) (a0 : Array Value) (hw : ∀ d ∈ tables_1, d.before a0 Z = true) (ws : List Jvm.Cond) (a1 : Addr) (s1 : Addr) (s2 : Addr) (k1 : ClassId) (k2 : ClassId) (q1 : Int64) (v1 : Int64) (h0 : Heap) (n0 : Nat) (Z0 : n0 ≤ h0.size) (pr0 : Old Z n0 h0) (pr1 : Exa Z h0 a1 "com/example/floodgauge/floodgauge/latency/SeqTable") (pr2 : Fld Z h0 a1 "com/example/floodgauge/floodgauge/latency/SeqTable" "seqs" "[J" (.ref s1)) (pr3 : Fld Z h0 a1 "com/example/floodgauge/floodgauge/latency/SeqTable" "values" "[J" (.ref s2)) (pr4 : Fld Z h0 a1 "com/example/floodgauge/floodgauge/latency/SeqTable" "size" "I" (.int 0)) (pr5 : Arh Z h0 s1 k1 .long (1024 : Int32) [] [] (.long (-1 : Int64))) (pr6 : Arh Z h0 s2 k2 .long (1024 : Int32) [] [] (.long (0 : Int64))) (pr7 : s1 ≠ s2) (pr8 : a1 ≠ s1) (pr9 : a1 ≠ s2) (pr10 : n0 ≤ a1) (pr11 : n0 ≤ s1) (pr12 : n0 ≤ s2) (hq : ¬ (q1 < (0 : Int64))) :
    Met l Z (⟨"com/example/floodgauge/floodgauge/latency/SeqTable", "add", "(JJ)I"⟩ : MethodName) prog_10_method_2_code 6 (some .int) ws ({ frames := 1, cells := 0, slots := 0, locals := 16 } : Room) #[(.ref a1), (.long q1), (.long v1)] h0 (Q_rm_add0 Z a1 s1 s2 k1 k2 q1 v1 h0 n0) := by
  refine Met.enter (f0 := fun m => mkF m 0 #[.val (.ref a1), .val (.long q1), .second, .val (.long v1), .second, .unset] []) (plainFor_of_name pn_com_example_floodgauge_floodgauge_latency_SeqTable) (fun m => ef_rm_add0 m a1 q1 v1) ?_
  intro p e s m below meth c s₁ hx hby hml hown hnm hret hlk hZ X0 e0
  have hown : s.vm.findClass "com/example/floodgauge/floodgauge/latency/SeqTable" = some m.cls := hown
  have hnm : meth.name = "add" := hnm
  have hml : c.maxLocals = 6 := hml
  have hby : c.code = prog_10_method_2_code := hby
  have N0 := Fr.nil n0
  refine Go.by (B := (s₁.setTop (mkF m 21 #[.val (.ref a1), .val (.long q1), .second, .val (.long v1), .second, .unset] [(.ref a1)]))) (fun _ k => XS.lloadN X0.here hx rfl (hb hby d7_0) rfl (XS.lconst X0.here hx rfl (hb hby d7_1) (XS.lcmp X0.here hx rfl (hb hby d7_2) rfl (XS.ifYes X0.here hx rfl (pc0 := 3) (pc' := 20) rfl (hb hby d7_3) rfl ((if0 _ _).trans (flt (fun q => hq ((lw_lt _ _).mp q))).2.1) (by decide) (by decide) (XS.aloadN X0.here hx rfl (hb hby d7_20) rfl rfl k))))) ?_
  obtain ⟨T127, X127, e127, st127⟩ := getF X0 hx hZ hown (host := "") (Or.inl (wd hw 19 rfl)) Via.refl e0 pr2 (g := (mkF m 21 #[.val (.ref a1), .val (.long q1), .second, .val (.long v1), .second, .unset] [(.ref a1)])) rfl rfl (hb hby d7_21)
  refine Go.by (B := (T127.setTop (mkF m 24 #[.val (.ref a1), .val (.long q1), .second, .val (.long v1), .second, .unset] [(.ref s1)]))) st127 ?_
  refine Go.by (B := (T127.setTop (mkF m 25 #[.val (.ref a1), .val (.long q1), .second, .val (.long v1), .second, .unset] [(.long q1), (.ref s1)]))) (fun _ k => XS.lloadN X127.here hx rfl (hb hby d7_24) rfl k) ?_
  obtain ⟨_, _, ⟨T128, L128, k128, n128⟩, -, X128, ⟨Lc128, hQ128, l128, y128, z128⟩, st128⟩ := Jvm.LawKit.callS X127 hx (y := (⟨"com/example/floodgauge/floodgauge/latency/SeqTable", "find", "([JJ)I"⟩ : MethodName)) hown (mvT hZ (wd hw 31 rfl)) (mvT hZ (wd hw 32 rfl)) (mvT hZ (wd hw 3 rfl)) (mvT hZ (wd hw 33 rfl)) (by decide) (backOf (W := 0) (rm_find0 l Z a0 hw [] s1 k1 q1 h0 n0 Z0 pr5) hZ (wd hw 33 rfl) (wd hw 3 rfl) (by decide) (by decide)) (g := (mkF m 25 #[.val (.ref a1), .val (.long q1), .second, .val (.long v1), .second, .unset] [(.long q1), (.ref s1)])) rfl (by rw [hml]; rfl) (argsL := [(.ref s1), (.long q1)]) (rest := []) (lenOf pd_2 rfl) rfl (by show 2 * 0 + _ ≤ _; exact Nat.le_of_eq rfl) (hb hby d7_25) (fun _ _ => ⟨rfl, e127, Nat.le_of_ble_eq_true rfl, Nat.le_of_ble_eq_true rfl⟩)
  dsimp only [Pt.U, Pt.locs, Pt.cells, Pt.slots] at X128 l128 y128 z128 st128 hQ128
  subst l128 y128 z128
  obtain ⟨r128, rfl, Nq128, hh128, p128_0, p128_1⟩ := hQ128
  have N128 := Fr.app N0 Nq128
  refine Go.by (B := (T128.setTop (mkF m 28 #[.val (.ref a1), .val (.long q1), .second, .val (.long v1), .second, .unset] [(.int r128)]))) (fun _ k => st128 _ k) ?_
  refine Go.by (B := (T128.setTop (mkF m 31 #[.val (.ref a1), .val (.long q1), .second, .val (.long v1), .second, .val (.int r128)] [(.ref a1)]))) (fun _ k => XS.istore X128.here hx rfl (hb hby d7_28) rfl (l' := #[.val (.ref a1), .val (.long q1), .second, .val (.long v1), .second, .val (.int r128)]) rfl (XS.aloadN X128.here hx rfl (hb hby d7_30) rfl rfl k)) ?_
  obtain ⟨T129, X129, e129, st129⟩ := getF X128 hx hZ hown (host := "") (Or.inl (wd hw 19 rfl)) Via.refl hh128 pr2 (g := (mkF m 31 #[.val (.ref a1), .val (.long q1), .second, .val (.long v1), .second, .val (.int r128)] [(.ref a1)])) rfl rfl (hb hby d7_31)
  refine Go.by (B := (T129.setTop (mkF m 34 #[.val (.ref a1), .val (.long q1), .second, .val (.long v1), .second, .val (.int r128)] [(.ref s1)]))) st129 ?_
  refine Go.by (B := (T129.setTop (mkF m 36 #[.val (.ref a1), .val (.long q1), .second, .val (.long v1), .second, .val (.int r128)] [(.int r128), (.ref s1)]))) (fun _ k => XS.iload X129.here hx rfl (hb hby d7_34) rfl k) ?_
  obtain ⟨cl130, Ar130, q130, S130, N_130, Hs130, G130⟩ := id pr5
  have hin131 : ¬ (r128 < 0 ∨ cl130.slots.size ≤ (r128).toNatClampNeg) := inb_of S130 ⟨p128_0.1, p128_0.2⟩
  have hat131 : cl130.slots[(r128).toNatClampNeg]? = some (.long (-1 : Int64)) := atH Hs130 hin131 (getH_all rfl _)
  refine Go.by (B := (T129.setTop (mkF m 37 #[.val (.ref a1), .val (.long q1), .second, .val (.long v1), .second, .val (.int r128)] [(.long (-1 : Int64))]))) (fun _ k => X129.laload hx (j := r128) (v := (.long (-1 : Int64))) (by rw [e129]; exact Ar130.1) (State.isArrayOf_alike hZ.alike Ar130.2.1) Ar130.2.2 hin131 hat131 (g := (mkF m 36 #[.val (.ref a1), .val (.long q1), .second, .val (.long v1), .second, .val (.int r128)] [(.int r128), (.ref s1)])) rfl rfl (hb hby d7_36) _ k) ?_
  refine Go.by (B := (T129.setTop (mkF m 46 #[.val (.ref a1), .val (.long q1), .second, .val (.long v1), .second, .val (.int r128)] [(.ref a1)]))) (fun _ k => XS.lloadN X129.here hx rfl (hb hby d7_37) rfl (XS.lcmp X129.here hx rfl (hb hby d7_38) rfl (XS.ifYes X129.here hx rfl (pc0 := 39) (pc' := 45) rfl (hb hby d7_39) rfl ((if0 _ _).trans (feq (fun q => (fun q => hq (by rw [← q]; decide) : ¬ ((-1 : Int64) = q1)) ((lw_eq _ _).mp q))).2) (by decide) (by decide) (XS.aloadN X129.here hx rfl (hb hby d7_45) rfl rfl k)))) ?_
  obtain ⟨T132, X132, e132, st132⟩ := getF X129 hx hZ hown (host := "") (Or.inl (wd hw 40 rfl)) Via.refl e129 pr4 (g := (mkF m 46 #[.val (.ref a1), .val (.long q1), .second, .val (.long v1), .second, .val (.int r128)] [(.ref a1)])) rfl rfl (hb hby d7_46)
  refine Go.by (B := (T132.setTop (mkF m 49 #[.val (.ref a1), .val (.long q1), .second, .val (.long v1), .second, .val (.int r128)] [(.int 0)]))) st132 ?_
  refine Go.by (B := (T132.setTop (mkF m 53 #[.val (.ref a1), .val (.long q1), .second, .val (.long v1), .second, .val (.int r128)] [(.ref a1), (.double (4607182418800017408 : UInt64))]))) (fun _ k => XS.iconst X132.here hx rfl (hb hby d7_49) (XS.iadd X132.here hx rfl (hb hby d7_50) rfl (XS.i2dS X132.here hx rfl (hb hby d7_51) rfl (v := (4607182418800017408 : UInt64)) (by decide +kernel) (XS.aloadN X132.here hx rfl (hb hby d7_52) rfl rfl k)))) ?_
  obtain ⟨T133, X133, e133, st133⟩ := getF X132 hx hZ hown (host := "") (Or.inl (wd hw 19 rfl)) Via.refl e132 pr2 (g := (mkF m 53 #[.val (.ref a1), .val (.long q1), .second, .val (.long v1), .second, .val (.int r128)] [(.ref a1), (.double (4607182418800017408 : UInt64))])) rfl rfl (hb hby d7_53)
  refine Go.by (B := (T133.setTop (mkF m 56 #[.val (.ref a1), .val (.long q1), .second, .val (.long v1), .second, .val (.int r128)] [(.ref s1), (.double (4607182418800017408 : UInt64))]))) st133 ?_
  obtain ⟨cl134, Ar134, q134, S134, N_134, Hs134, G134⟩ := id pr5
  refine Go.by (B := (T133.setTop (mkF m 57 #[.val (.ref a1), .val (.long q1), .second, .val (.long v1), .second, .val (.int r128)] [(.int 1024), (.double (4607182418800017408 : UInt64))]))) (fun _ k => X133.arraylength hx (by rw [e133]; exact Ar134.1) (State.isArrayOf_alike hZ.alike Ar134.2.1) (g := (mkF m 56 #[.val (.ref a1), .val (.long q1), .second, .val (.long v1), .second, .val (.int r128)] [(.ref s1), (.double (4607182418800017408 : UInt64))])) rfl rfl (hb hby d7_56) _ (by rw [len_of S134 N_134]; exact k)) ?_
  refine Go.by (B := (T133.setTop (mkF m 81 #[.val (.ref a1), .val (.long q1), .second, .val (.long v1), .second, .val (.int r128)] [(.ref a1)]))) (fun _ k => XS.i2dS X133.here hx rfl (hb hby d7_57) rfl (v := (4652218415073722368 : UInt64)) (by decide +kernel) (X133.ldc2DoubleC hx hown (mvT hZ (wd hw 42 rfl)) (g := (mkF m 58 #[.val (.ref a1), .val (.long q1), .second, .val (.long v1), .second, .val (.int r128)] [(.double (4652218415073722368 : UInt64)), (.double (4607182418800017408 : UInt64))])) rfl (hb hby d7_58) _ (XS.dmulS X133.here hx rfl (hb hby d7_61) rfl (by decide +kernel) (v := (4647714815446351872 : UInt64)) (by decide +kernel) (XS.dcmpS X133.here hx rfl (hb hby d7_62) rfl (v := (-1 : Int32)) (by decide +kernel) (XS.ifYes X133.here hx rfl (pc0 := 63) (pc' := 80) rfl (hb hby d7_63) rfl ((if0 _ _).trans (flt (by decide : ¬ ((0 : Int32) < (-1 : Int32)))).2.2.2) (by decide) (by decide) (XS.aloadN X133.here hx rfl (hb hby d7_80) rfl rfl k)))))) ?_
  obtain ⟨T135, X135, e135, st135⟩ := getF X133 hx hZ hown (host := "") (Or.inl (wd hw 19 rfl)) Via.refl e133 pr2 (g := (mkF m 81 #[.val (.ref a1), .val (.long q1), .second, .val (.long v1), .second, .val (.int r128)] [(.ref a1)])) rfl rfl (hb hby d7_81)
  refine Go.by (B := (T135.setTop (mkF m 84 #[.val (.ref a1), .val (.long q1), .second, .val (.long v1), .second, .val (.int r128)] [(.ref s1)]))) st135 ?_
  refine Go.by (B := (T135.setTop (mkF m 87 #[.val (.ref a1), .val (.long q1), .second, .val (.long v1), .second, .val (.int r128)] [(.long q1), (.int r128), (.ref s1)]))) (fun _ k => XS.iload X135.here hx rfl (hb hby d7_84) rfl (XS.lloadN X135.here hx rfl (hb hby d7_86) rfl k)) ?_
  obtain ⟨cl136, Ar136, q136, S136, N_136, Hs136, G136⟩ := id pr5
  have hin137 : ¬ (r128 < 0 ∨ cl136.slots.size ≤ (r128).toNatClampNeg) := inb_of S136 ⟨p128_0.1, p128_0.2⟩
  obtain ⟨T137, h137, X137, e137, W137, st137⟩ := stJ X135 hx hZ e135 Ar136 (j := r128) hin137 (g := (mkF m 87 #[.val (.ref a1), .val (.long q1), .second, .val (.long v1), .second, .val (.int r128)] [(.long q1), (.int r128), (.ref s1)])) rfl rfl (hb hby d7_87)
  have O138 := pr0.wr W137 pr11
  have Z138 : n0 ≤ h137.size := Nat.le_trans Z0 (Keep.of_wr W137).1
  have V137 : Arh Z h137 s1 k1 .long (1024 : Int32) [(r128, (.long q1))] [] (.long (-1 : Int64)) := Arh.push Ar136 q136 S136 N_136 Hs136 G136 rfl W137 hin137
  have N137 := Fr.snoc X137 N128 pr11
  refine Go.by (B := (T137.setTop (mkF m 88 #[.val (.ref a1), .val (.long q1), .second, .val (.long v1), .second, .val (.int r128)] []))) st137 ?_
  refine Go.by (B := (T137.setTop (mkF m 89 #[.val (.ref a1), .val (.long q1), .second, .val (.long v1), .second, .val (.int r128)] [(.ref a1)]))) (fun _ k => XS.aloadN X137.here hx rfl (hb hby d7_88) rfl rfl k) ?_
  obtain ⟨T139, X139, e139, st139⟩ := getF X137 hx hZ hown (host := "") (Or.inl (wd hw 21 rfl)) Via.refl e137 (pr3.other W137 (Or.inl pr8)) (g := (mkF m 89 #[.val (.ref a1), .val (.long q1), .second, .val (.long v1), .second, .val (.int r128)] [(.ref a1)])) rfl rfl (hb hby d7_89)
  refine Go.by (B := (T139.setTop (mkF m 92 #[.val (.ref a1), .val (.long q1), .second, .val (.long v1), .second, .val (.int r128)] [(.ref s2)]))) st139 ?_
  refine Go.by (B := (T139.setTop (mkF m 95 #[.val (.ref a1), .val (.long q1), .second, .val (.long v1), .second, .val (.int r128)] [(.long v1), (.int r128), (.ref s2)]))) (fun _ k => XS.iload X139.here hx rfl (hb hby d7_92) rfl (XS.lloadN X139.here hx rfl (hb hby d7_94) rfl k)) ?_
  obtain ⟨cl140, Ar140, q140, S140, N_140, Hs140, G140⟩ := id (pr6.other W137 (Ne.symm pr7))
  have hin141 : ¬ (r128 < 0 ∨ cl140.slots.size ≤ (r128).toNatClampNeg) := inb_of S140 ⟨p128_0.1, p128_0.2⟩
  obtain ⟨T141, h141, X141, e141, W141, st141⟩ := stJ X139 hx hZ e139 Ar140 (j := r128) hin141 (g := (mkF m 95 #[.val (.ref a1), .val (.long q1), .second, .val (.long v1), .second, .val (.int r128)] [(.long v1), (.int r128), (.ref s2)])) rfl rfl (hb hby d7_95)
  have O142 := O138.wr W141 pr12
  have Z142 : n0 ≤ h141.size := Nat.le_trans Z138 (Keep.of_wr W141).1
  have V141 : Arh Z h141 s2 k2 .long (1024 : Int32) [(r128, (.long v1))] [] (.long (0 : Int64)) := Arh.push Ar140 q140 S140 N_140 Hs140 G140 rfl W141 hin141
  have N141 := Fr.snoc X141 N137 pr12
  refine Go.by (B := (T141.setTop (mkF m 96 #[.val (.ref a1), .val (.long q1), .second, .val (.long v1), .second, .val (.int r128)] []))) st141 ?_
  refine Go.by (B := (T141.setTop (mkF m 98 #[.val (.ref a1), .val (.long q1), .second, .val (.long v1), .second, .val (.int r128)] [(.ref a1), (.ref a1)]))) (fun _ k => XS.aloadN X141.here hx rfl (hb hby d7_96) rfl rfl (XS.dup X141.here hx rfl (hb hby d7_97) rfl rfl k)) ?_
  have f143 := ((pr4.other W137 (Or.inl pr8)).other W141 (Or.inl pr9))
  obtain ⟨T144, X144, e144, st144⟩ := getF X141 hx hZ hown (host := "") (Or.inl (wd hw 40 rfl)) Via.refl e141 f143 (g := (mkF m 98 #[.val (.ref a1), .val (.long q1), .second, .val (.long v1), .second, .val (.int r128)] [(.ref a1), (.ref a1)])) rfl rfl (hb hby d7_98)
  refine Go.by (B := (T144.setTop (mkF m 101 #[.val (.ref a1), .val (.long q1), .second, .val (.long v1), .second, .val (.int r128)] [(.int 0), (.ref a1)]))) st144 ?_
  refine Go.by (B := (T144.setTop (mkF m 103 #[.val (.ref a1), .val (.long q1), .second, .val (.long v1), .second, .val (.int r128)] [(.int 1), (.ref a1)]))) (fun _ k => XS.iconst X144.here hx rfl (hb hby d7_101) (XS.iadd X144.here hx rfl (hb hby d7_102) rfl k)) ?_
  obtain ⟨T145, h145, X145, e145, W145, st145⟩ := putF X144 hx hZ hown (host := "") (Or.inl (wd hw 40 rfl)) Via.refl e144 f143 ((pr1.wr W137).wr W141) (Or.inl (wd hw 41 rfl)) (wd hw 2 rfl) (ty := .int) (by decide) rfl rfl (g := (mkF m 103 #[.val (.ref a1), .val (.long q1), .second, .val (.long v1), .second, .val (.int r128)] [(.int 1), (.ref a1)])) rfl rfl (hb hby d7_103)
  have N145 := Fr.snoc X145 N141 pr10
  have O146 := O142.wr W145 pr10
  have Z146 : n0 ≤ h145.size := Nat.le_trans Z142 (Keep.of_wr W145).1
  have F145 := f143.same W145
  refine Go.by (B := (T145.setTop (mkF m 106 #[.val (.ref a1), .val (.long q1), .second, .val (.long v1), .second, .val (.int r128)] []))) st145 ?_
  refine Go.by (B := (T145.setTop (mkF m 108 #[.val (.ref a1), .val (.long q1), .second, .val (.long v1), .second, .val (.int r128)] [(.int r128)]))) (fun _ k => XS.iload X145.here hx rfl (hb hby d7_106) rfl k) ?_
  refine Go.ret X145 hx hlk (t := .int) hret rfl (Or.inl ⟨rfl, by simp, _, rfl⟩) (hb hby d7_108) (by decide) (by decide) ?_
  rw [e145]
  exact ⟨r128, rfl, N145, ((((Keep.refl h0 [a1, s1, s2]).wr W137 (Or.inl (List.mem_of_getElem? (i := 1) rfl))).wr W141 (Or.inl (List.mem_of_getElem? (i := 2) rfl))).wr W145 (Or.inl (List.mem_of_getElem? (i := 0) rfl))), (((pr1.wr W137).wr W141).wr W145), (((pr2.other W137 (Or.inl pr8)).other W141 (Or.inl pr9)).other W145 (Or.inr (slot_ne (Or.inl (wd hw 20 rfl)) (Or.inl (wd hw 41 rfl)) (by decide) (t := (.array .long)) (t' := .int) (by decide) (by decide)))), (((pr3.other W137 (Or.inl pr8)).other W141 (Or.inl pr9)).other W145 (Or.inr (slot_ne (Or.inl (wd hw 22 rfl)) (Or.inl (wd hw 41 rfl)) (by decide) (t := (.array .long)) (t' := .int) (by decide) (by decide)))), F145, ((V137.other W141 pr7).other W145 (Ne.symm pr8)), (V141.other W145 (Ne.symm pr9)), p128_1, ⟨p128_0.1, p128_0.2⟩⟩
theorem ef_rm_add1s (m : MethodId) (x0 : Addr) (x1 : Int64) (x2 : Int64) : entryFrame m #[(.ref x0), (.long x1), (.long x2)] 6 = mkF m 0 #[.val (.ref x0), .val (.long x1), .second, .val (.long x2), .second, .unset] [] := by first | (simp [entryFrame, mkF, argsToLocals, Value.category]; done) | rfl
theorem d7_42 : decode prog_10_method_2_code 42 = .ok (.iload 5, 2) := by decide +kernel
theorem d7_44 : decode prog_10_method_2_code 44 = .ok (.ireturn, 1) := by decide +kernel
def Q_rm_add1s (Z : State) (a1 : Addr) (s1 : Addr) (k1 : ClassId) (q1 : Int64) (v1 : Int64) (i : Int32) (a : Int64) (h0 : Heap) (n0 : Nat) (vv : Option Value) (h : Heap) (L : List Loc) : Prop := ∃ r : Int32, vv = some (.int r) ∧ Fr n0 L ∧ h = h0 ∧ r = i
set_option maxRecDepth 65536 in
set_option maxHeartbeats 40000000 in
theorem rm_add1s (l : Launch) (Z : State) (a0 : Array Value) (hw : ∀ d ∈ tables_1, d.before a0 Z = true) (ws : List Jvm.Cond) (a1 : Addr) (s1 : Addr) (k1 : ClassId) (q1 : Int64) (v1 : Int64) (i : Int32) (a : Int64) (h0 : Heap) (n0 : Nat) (Z0 : n0 ≤ h0.size) (pr0 : Old Z n0 h0) (pr1 : Exa Z h0 a1 "com/example/floodgauge/floodgauge/latency/SeqTable") (pr2 : Fld Z h0 a1 "com/example/floodgauge/floodgauge/latency/SeqTable" "seqs" "[J" (.ref s1)) (pr3 : Arh Z h0 s1 k1 .long (1024 : Int32) [(i, (.long a))] [] (.long (-1 : Int64))) (ha : ¬ (a < (0 : Int64))) (hi : i = own_h a) (hgi : own_rg i) (hq : ¬ (q1 < (0 : Int64))) (haq : a = q1) :
    Met l Z (⟨"com/example/floodgauge/floodgauge/latency/SeqTable", "add", "(JJ)I"⟩ : MethodName) prog_10_method_2_code 6 (some .int) ws ({ frames := 1, cells := 0, slots := 0, locals := 16 } : Room) #[(.ref a1), (.long q1), (.long v1)] h0 (Q_rm_add1s Z a1 s1 k1 q1 v1 i a h0 n0) := by
  refine Met.enter (f0 := fun m => mkF m 0 #[.val (.ref a1), .val (.long q1), .second, .val (.long v1), .second, .unset] []) (plainFor_of_name pn_com_example_floodgauge_floodgauge_latency_SeqTable) (fun m => ef_rm_add1s m a1 q1 v1) ?_
  intro p e s m below meth c s₁ hx hby hml hown hnm hret hlk hZ X0 e0
  have hown : s.vm.findClass "com/example/floodgauge/floodgauge/latency/SeqTable" = some m.cls := hown
  have hnm : meth.name = "add" := hnm
  have hml : c.maxLocals = 6 := hml
  have hby : c.code = prog_10_method_2_code := hby
  have N0 := Fr.nil n0
  refine Go.by (B := (s₁.setTop (mkF m 21 #[.val (.ref a1), .val (.long q1), .second, .val (.long v1), .second, .unset] [(.ref a1)]))) (fun _ k => XS.lloadN X0.here hx rfl (hb hby d7_0) rfl (XS.lconst X0.here hx rfl (hb hby d7_1) (XS.lcmp X0.here hx rfl (hb hby d7_2) rfl (XS.ifYes X0.here hx rfl (pc0 := 3) (pc' := 20) rfl (hb hby d7_3) rfl ((if0 _ _).trans (flt (fun q => hq ((lw_lt _ _).mp q))).2.1) (by decide) (by decide) (XS.aloadN X0.here hx rfl (hb hby d7_20) rfl rfl k))))) ?_
  obtain ⟨T147, X147, e147, st147⟩ := getF X0 hx hZ hown (host := "") (Or.inl (wd hw 19 rfl)) Via.refl e0 pr2 (g := (mkF m 21 #[.val (.ref a1), .val (.long q1), .second, .val (.long v1), .second, .unset] [(.ref a1)])) rfl rfl (hb hby d7_21)
  refine Go.by (B := (T147.setTop (mkF m 24 #[.val (.ref a1), .val (.long q1), .second, .val (.long v1), .second, .unset] [(.ref s1)]))) st147 ?_
  refine Go.by (B := (T147.setTop (mkF m 25 #[.val (.ref a1), .val (.long q1), .second, .val (.long v1), .second, .unset] [(.long q1), (.ref s1)]))) (fun _ k => XS.lloadN X147.here hx rfl (hb hby d7_24) rfl k) ?_
  obtain ⟨_, _, ⟨T148, L148, k148, n148⟩, -, X148, ⟨Lc148, hQ148, l148, y148, z148⟩, st148⟩ := Jvm.LawKit.callS X147 hx (y := (⟨"com/example/floodgauge/floodgauge/latency/SeqTable", "find", "([JJ)I"⟩ : MethodName)) hown (mvT hZ (wd hw 31 rfl)) (mvT hZ (wd hw 32 rfl)) (mvT hZ (wd hw 3 rfl)) (mvT hZ (wd hw 33 rfl)) (by decide) (backOf (W := 0) (rm_find1 l Z a0 hw [] s1 k1 q1 i a h0 n0 Z0 pr3 ha hi ⟨hgi.1, hgi.2⟩) hZ (wd hw 33 rfl) (wd hw 3 rfl) (by decide) (by decide)) (g := (mkF m 25 #[.val (.ref a1), .val (.long q1), .second, .val (.long v1), .second, .unset] [(.long q1), (.ref s1)])) rfl (by rw [hml]; rfl) (argsL := [(.ref s1), (.long q1)]) (rest := []) (lenOf pd_2 rfl) rfl (by show 2 * 0 + _ ≤ _; exact Nat.le_of_eq rfl) (hb hby d7_25) (fun _ _ => ⟨rfl, e147, Nat.le_of_ble_eq_true rfl, Nat.le_of_ble_eq_true rfl⟩)
  dsimp only [Pt.U, Pt.locs, Pt.cells, Pt.slots] at X148 l148 y148 z148 st148 hQ148
  subst l148 y148 z148
  obtain ⟨r148, rfl, Nq148, hh148, p148_0, p148_1⟩ := hQ148
  have N148 := Fr.app N0 Nq148
  refine Go.by (B := (T148.setTop (mkF m 28 #[.val (.ref a1), .val (.long q1), .second, .val (.long v1), .second, .unset] [(.int r148)]))) (fun _ k => st148 _ k) ?_
  rcases p148_1 with ⟨e149, e150⟩ | ⟨e149, e150, e151⟩
  · skip
    refine Go.by (B := (T148.setTop (mkF m 31 #[.val (.ref a1), .val (.long q1), .second, .val (.long v1), .second, .val (.int r148)] [(.ref a1)]))) (fun _ k => XS.istore X148.here hx rfl (hb hby d7_28) rfl (l' := #[.val (.ref a1), .val (.long q1), .second, .val (.long v1), .second, .val (.int r148)]) rfl (XS.aloadN X148.here hx rfl (hb hby d7_30) rfl rfl k)) ?_
    obtain ⟨T152, X152, e152, st152⟩ := getF X148 hx hZ hown (host := "") (Or.inl (wd hw 19 rfl)) Via.refl hh148 pr2 (g := (mkF m 31 #[.val (.ref a1), .val (.long q1), .second, .val (.long v1), .second, .val (.int r148)] [(.ref a1)])) rfl rfl (hb hby d7_31)
    refine Go.by (B := (T152.setTop (mkF m 34 #[.val (.ref a1), .val (.long q1), .second, .val (.long v1), .second, .val (.int r148)] [(.ref s1)]))) st152 ?_
    refine Go.by (B := (T152.setTop (mkF m 36 #[.val (.ref a1), .val (.long q1), .second, .val (.long v1), .second, .val (.int r148)] [(.int r148), (.ref s1)]))) (fun _ k => XS.iload X152.here hx rfl (hb hby d7_34) rfl k) ?_
    obtain ⟨cl153, Ar153, q153, S153, N_153, Hs153, G153⟩ := id pr3
    have hin154 : ¬ (r148 < 0 ∨ cl153.slots.size ≤ (r148).toNatClampNeg) := inb_of S153 ⟨p148_0.1, p148_0.2⟩
    have hat154 : cl153.slots[(r148).toNatClampNeg]? = some (.long a) := atH Hs153 hin154 (getH_hit p148_0.1 e149)
    refine Go.by (B := (T152.setTop (mkF m 37 #[.val (.ref a1), .val (.long q1), .second, .val (.long v1), .second, .val (.int r148)] [(.long a)]))) (fun _ k => X152.laload hx (j := r148) (v := (.long a)) (by rw [e152]; exact Ar153.1) (State.isArrayOf_alike hZ.alike Ar153.2.1) Ar153.2.2 hin154 hat154 (g := (mkF m 36 #[.val (.ref a1), .val (.long q1), .second, .val (.long v1), .second, .val (.int r148)] [(.int r148), (.ref s1)])) rfl rfl (hb hby d7_36) _ k) ?_
    refine Go.by (B := (T152.setTop (mkF m 44 #[.val (.ref a1), .val (.long q1), .second, .val (.long v1), .second, .val (.int r148)] [(.int r148)]))) (fun _ k => XS.lloadN X152.here hx rfl (hb hby d7_37) rfl (XS.lcmp X152.here hx rfl (hb hby d7_38) rfl (XS.ifNo X152.here hx rfl (hb hby d7_39) rfl ((if0 _ _).trans (teq ((lw_eq _ _).mpr haq)).2) (XS.iload X152.here hx rfl (hb hby d7_42) rfl k)))) ?_
    refine Go.ret X152 hx hlk (t := .int) hret rfl (Or.inl ⟨rfl, by simp, _, rfl⟩) (hb hby d7_44) (by decide) (by decide) ?_
    rw [e152]
    exact ⟨r148, rfl, N148, rfl, e149⟩
  · skip
    exact absurd haq e150
theorem ef_rm_add1n (m : MethodId) (x0 : Addr) (x1 : Int64) (x2 : Int64) : entryFrame m #[(.ref x0), (.long x1), (.long x2)] 6 = mkF m 0 #[.val (.ref x0), .val (.long x1), .second, .val (.long x2), .second, .unset] [] := by first | (simp [entryFrame, mkF, argsToLocals, Value.category]; done) | rfl
def Q_rm_add1n (Z : State) (a1 : Addr) (s1 : Addr) (s2 : Addr) (k1 : ClassId) (k2 : ClassId) (q1 : Int64) (v1 : Int64) (i : Int32) (a : Int64) (u : Int64) (h0 : Heap) (n0 : Nat) (vv : Option Value) (h : Heap) (L : List Loc) : Prop := ∃ r : Int32, vv = some (.int r) ∧ Fr n0 L ∧ Keep h0 h [a1, s1, s2] ∧ Exa Z h a1 "com/example/floodgauge/floodgauge/latency/SeqTable" ∧ Fld Z h a1 "com/example/floodgauge/floodgauge/latency/SeqTable" "seqs" "[J" (.ref s1) ∧ Fld Z h a1 "com/example/floodgauge/floodgauge/latency/SeqTable" "values" "[J" (.ref s2) ∧ Fld Z h a1 "com/example/floodgauge/floodgauge/latency/SeqTable" "size" "I" (.int 2) ∧ Arh Z h s1 k1 .long (1024 : Int32) [(r, (.long q1)), (i, (.long a))] [] (.long (-1 : Int64)) ∧ Arh Z h s2 k2 .long (1024 : Int32) [(r, (.long v1)), (i, (.long u))] [] (.long (0 : Int64)) ∧ r = own_ins q1 i ∧ ¬ (r = i) ∧ own_rg r
set_option maxRecDepth 65536 in
set_option maxHeartbeats 40000000 in
theorem rm_add1n (l : Launch) (Z : State) (a0 : Array Value) (hw : ∀ d ∈ tables_1, d.before a0 Z = true) (ws : List Jvm.Cond) (a1 : Addr) (s1 : Addr) (s2 : Addr) (k1 : ClassId) (k2 : ClassId) (q1 : Int64) (v1 : Int64) (i : Int32) (a : Int64) (u : Int64) (h0 : Heap) (n0 : Nat) (Z0 : n0 ≤ h0.size) (pr0 : Old Z n0 h0) (pr1 : Exa Z h0 a1 "com/example/floodgauge/floodgauge/latency/SeqTable") (pr2 : Fld Z h0 a1 "com/example/floodgauge/floodgauge/latency/SeqTable" "seqs" "[J" (.ref s1)) (pr3 : Fld Z h0 a1 "com/example/floodgauge/floodgauge/latency/SeqTable" "values" "[J" (.ref s2)) (pr4 : Fld Z h0 a1 "com/example/floodgauge/floodgauge/latency/SeqTable" "size" "I" (.int 1)) (pr5 : Arh Z h0 s1 k1 .long (1024 : Int32) [(i, (.long a))] [] (.long (-1 : Int64))) (pr6 : Arh Z h0 s2 k2 .long (1024 : Int32) [(i, (.long u))] [] (.long (0 : Int64))) (pr7 : s1 ≠ s2) (pr8 : a1 ≠ s1) (pr9 : a1 ≠ s2) (pr10 : n0 ≤ a1) (pr11 : n0 ≤ s1) (pr12 : n0 ≤ s2) (ha : ¬ (a < (0 : Int64))) (hi : i = own_h a) (hgi : own_rg i) (hq : ¬ (q1 < (0 : Int64))) (haq : ¬ (a = q1)) :
    Met l Z (⟨"com/example/floodgauge/floodgauge/latency/SeqTable", "add", "(JJ)I"⟩ : MethodName) prog_10_method_2_code 6 (some .int) ws ({ frames := 1, cells := 0, slots := 0, locals := 16 } : Room) #[(.ref a1), (.long q1), (.long v1)] h0 (Q_rm_add1n Z a1 s1 s2 k1 k2 q1 v1 i a u h0 n0) := by
  refine Met.enter (f0 := fun m => mkF m 0 #[.val (.ref a1), .val (.long q1), .second, .val (.long v1), .second, .unset] []) (plainFor_of_name pn_com_example_floodgauge_floodgauge_latency_SeqTable) (fun m => ef_rm_add1n m a1 q1 v1) ?_
  intro p e s m below meth c s₁ hx hby hml hown hnm hret hlk hZ X0 e0
  have hown : s.vm.findClass "com/example/floodgauge/floodgauge/latency/SeqTable" = some m.cls := hown
  have hnm : meth.name = "add" := hnm
  have hml : c.maxLocals = 6 := hml
  have hby : c.code = prog_10_method_2_code := hby
  have N0 := Fr.nil n0
  refine Go.by (B := (s₁.setTop (mkF m 21 #[.val (.ref a1), .val (.long q1), .second, .val (.long v1), .second, .unset] [(.ref a1)]))) (fun _ k => XS.lloadN X0.here hx rfl (hb hby d7_0) rfl (XS.lconst X0.here hx rfl (hb hby d7_1) (XS.lcmp X0.here hx rfl (hb hby d7_2) rfl (XS.ifYes X0.here hx rfl (pc0 := 3) (pc' := 20) rfl (hb hby d7_3) rfl ((if0 _ _).trans (flt (fun q => hq ((lw_lt _ _).mp q))).2.1) (by decide) (by decide) (XS.aloadN X0.here hx rfl (hb hby d7_20) rfl rfl k))))) ?_
  obtain ⟨T155, X155, e155, st155⟩ := getF X0 hx hZ hown (host := "") (Or.inl (wd hw 19 rfl)) Via.refl e0 pr2 (g := (mkF m 21 #[.val (.ref a1), .val (.long q1), .second, .val (.long v1), .second, .unset] [(.ref a1)])) rfl rfl (hb hby d7_21)
  refine Go.by (B := (T155.setTop (mkF m 24 #[.val (.ref a1), .val (.long q1), .second, .val (.long v1), .second, .unset] [(.ref s1)]))) st155 ?_
  refine Go.by (B := (T155.setTop (mkF m 25 #[.val (.ref a1), .val (.long q1), .second, .val (.long v1), .second, .unset] [(.long q1), (.ref s1)]))) (fun _ k => XS.lloadN X155.here hx rfl (hb hby d7_24) rfl k) ?_
  obtain ⟨_, _, ⟨T156, L156, k156, n156⟩, -, X156, ⟨Lc156, hQ156, l156, y156, z156⟩, st156⟩ := Jvm.LawKit.callS X155 hx (y := (⟨"com/example/floodgauge/floodgauge/latency/SeqTable", "find", "([JJ)I"⟩ : MethodName)) hown (mvT hZ (wd hw 31 rfl)) (mvT hZ (wd hw 32 rfl)) (mvT hZ (wd hw 3 rfl)) (mvT hZ (wd hw 33 rfl)) (by decide) (backOf (W := 0) (rm_find1 l Z a0 hw [] s1 k1 q1 i a h0 n0 Z0 pr5 ha hi ⟨hgi.1, hgi.2⟩) hZ (wd hw 33 rfl) (wd hw 3 rfl) (by decide) (by decide)) (g := (mkF m 25 #[.val (.ref a1), .val (.long q1), .second, .val (.long v1), .second, .unset] [(.long q1), (.ref s1)])) rfl (by rw [hml]; rfl) (argsL := [(.ref s1), (.long q1)]) (rest := []) (lenOf pd_2 rfl) rfl (by show 2 * 0 + _ ≤ _; exact Nat.le_of_eq rfl) (hb hby d7_25) (fun _ _ => ⟨rfl, e155, Nat.le_of_ble_eq_true rfl, Nat.le_of_ble_eq_true rfl⟩)
  dsimp only [Pt.U, Pt.locs, Pt.cells, Pt.slots] at X156 l156 y156 z156 st156 hQ156
  subst l156 y156 z156
  obtain ⟨r156, rfl, Nq156, hh156, p156_0, p156_1⟩ := hQ156
  have N156 := Fr.app N0 Nq156
  refine Go.by (B := (T156.setTop (mkF m 28 #[.val (.ref a1), .val (.long q1), .second, .val (.long v1), .second, .unset] [(.int r156)]))) (fun _ k => st156 _ k) ?_
  rcases p156_1 with ⟨e157, e158⟩ | ⟨e157, e158, e159⟩
  · skip
    exact absurd e158 haq
  · skip
    refine Go.by (B := (T156.setTop (mkF m 31 #[.val (.ref a1), .val (.long q1), .second, .val (.long v1), .second, .val (.int r156)] [(.ref a1)]))) (fun _ k => XS.istore X156.here hx rfl (hb hby d7_28) rfl (l' := #[.val (.ref a1), .val (.long q1), .second, .val (.long v1), .second, .val (.int r156)]) rfl (XS.aloadN X156.here hx rfl (hb hby d7_30) rfl rfl k)) ?_
    obtain ⟨T160, X160, e160, st160⟩ := getF X156 hx hZ hown (host := "") (Or.inl (wd hw 19 rfl)) Via.refl hh156 pr2 (g := (mkF m 31 #[.val (.ref a1), .val (.long q1), .second, .val (.long v1), .second, .val (.int r156)] [(.ref a1)])) rfl rfl (hb hby d7_31)
    refine Go.by (B := (T160.setTop (mkF m 34 #[.val (.ref a1), .val (.long q1), .second, .val (.long v1), .second, .val (.int r156)] [(.ref s1)]))) st160 ?_
    refine Go.by (B := (T160.setTop (mkF m 36 #[.val (.ref a1), .val (.long q1), .second, .val (.long v1), .second, .val (.int r156)] [(.int r156), (.ref s1)]))) (fun _ k => XS.iload X160.here hx rfl (hb hby d7_34) rfl k) ?_
    obtain ⟨cl161, Ar161, q161, S161, N_161, Hs161, G161⟩ := id pr5
    have hin162 : ¬ (r156 < 0 ∨ cl161.slots.size ≤ (r156).toNatClampNeg) := inb_of S161 ⟨p156_0.1, p156_0.2⟩
    have hat162 : cl161.slots[(r156).toNatClampNeg]? = some (.long (-1 : Int64)) := atH Hs161 hin162 (getH_miss p156_0.1 e157 (getH_all rfl _))
    refine Go.by (B := (T160.setTop (mkF m 37 #[.val (.ref a1), .val (.long q1), .second, .val (.long v1), .second, .val (.int r156)] [(.long (-1 : Int64))]))) (fun _ k => X160.laload hx (j := r156) (v := (.long (-1 : Int64))) (by rw [e160]; exact Ar161.1) (State.isArrayOf_alike hZ.alike Ar161.2.1) Ar161.2.2 hin162 hat162 (g := (mkF m 36 #[.val (.ref a1), .val (.long q1), .second, .val (.long v1), .second, .val (.int r156)] [(.int r156), (.ref s1)])) rfl rfl (hb hby d7_36) _ k) ?_
    refine Go.by (B := (T160.setTop (mkF m 46 #[.val (.ref a1), .val (.long q1), .second, .val (.long v1), .second, .val (.int r156)] [(.ref a1)]))) (fun _ k => XS.lloadN X160.here hx rfl (hb hby d7_37) rfl (XS.lcmp X160.here hx rfl (hb hby d7_38) rfl (XS.ifYes X160.here hx rfl (pc0 := 39) (pc' := 45) rfl (hb hby d7_39) rfl ((if0 _ _).trans (feq (fun q => (fun q => hq (by rw [← q]; decide) : ¬ ((-1 : Int64) = q1)) ((lw_eq _ _).mp q))).2) (by decide) (by decide) (XS.aloadN X160.here hx rfl (hb hby d7_45) rfl rfl k)))) ?_
    obtain ⟨T163, X163, e163, st163⟩ := getF X160 hx hZ hown (host := "") (Or.inl (wd hw 40 rfl)) Via.refl e160 pr4 (g := (mkF m 46 #[.val (.ref a1), .val (.long q1), .second, .val (.long v1), .second, .val (.int r156)] [(.ref a1)])) rfl rfl (hb hby d7_46)
    refine Go.by (B := (T163.setTop (mkF m 49 #[.val (.ref a1), .val (.long q1), .second, .val (.long v1), .second, .val (.int r156)] [(.int 1)]))) st163 ?_
    refine Go.by (B := (T163.setTop (mkF m 53 #[.val (.ref a1), .val (.long q1), .second, .val (.long v1), .second, .val (.int r156)] [(.ref a1), (.double (4611686018427387904 : UInt64))]))) (fun _ k => XS.iconst X163.here hx rfl (hb hby d7_49) (XS.iadd X163.here hx rfl (hb hby d7_50) rfl (XS.i2dS X163.here hx rfl (hb hby d7_51) rfl (v := (4611686018427387904 : UInt64)) (by decide +kernel) (XS.aloadN X163.here hx rfl (hb hby d7_52) rfl rfl k)))) ?_
    obtain ⟨T164, X164, e164, st164⟩ := getF X163 hx hZ hown (host := "") (Or.inl (wd hw 19 rfl)) Via.refl e163 pr2 (g := (mkF m 53 #[.val (.ref a1), .val (.long q1), .second, .val (.long v1), .second, .val (.int r156)] [(.ref a1), (.double (4611686018427387904 : UInt64))])) rfl rfl (hb hby d7_53)
    refine Go.by (B := (T164.setTop (mkF m 56 #[.val (.ref a1), .val (.long q1), .second, .val (.long v1), .second, .val (.int r156)] [(.ref s1), (.double (4611686018427387904 : UInt64))]))) st164 ?_
    obtain ⟨cl165, Ar165, q165, S165, N_165, Hs165, G165⟩ := id pr5
    refine Go.by (B := (T164.setTop (mkF m 57 #[.val (.ref a1), .val (.long q1), .second, .val (.long v1), .second, .val (.int r156)] [(.int 1024), (.double (4611686018427387904 : UInt64))]))) (fun _ k => X164.arraylength hx (by rw [e164]; exact Ar165.1) (State.isArrayOf_alike hZ.alike Ar165.2.1) (g := (mkF m 56 #[.val (.ref a1), .val (.long q1), .second, .val (.long v1), .second, .val (.int r156)] [(.ref s1), (.double (4611686018427387904 : UInt64))])) rfl rfl (hb hby d7_56) _ (by rw [len_of S165 N_165]; exact k)) ?_
    refine Go.by (B := (T164.setTop (mkF m 81 #[.val (.ref a1), .val (.long q1), .second, .val (.long v1), .second, .val (.int r156)] [(.ref a1)]))) (fun _ k => XS.i2dS X164.here hx rfl (hb hby d7_57) rfl (v := (4652218415073722368 : UInt64)) (by decide +kernel) (X164.ldc2DoubleC hx hown (mvT hZ (wd hw 42 rfl)) (g := (mkF m 58 #[.val (.ref a1), .val (.long q1), .second, .val (.long v1), .second, .val (.int r156)] [(.double (4652218415073722368 : UInt64)), (.double (4611686018427387904 : UInt64))])) rfl (hb hby d7_58) _ (XS.dmulS X164.here hx rfl (hb hby d7_61) rfl (by decide +kernel) (v := (4647714815446351872 : UInt64)) (by decide +kernel) (XS.dcmpS X164.here hx rfl (hb hby d7_62) rfl (v := (-1 : Int32)) (by decide +kernel) (XS.ifYes X164.here hx rfl (pc0 := 63) (pc' := 80) rfl (hb hby d7_63) rfl ((if0 _ _).trans (flt (by decide : ¬ ((0 : Int32) < (-1 : Int32)))).2.2.2) (by decide) (by decide) (XS.aloadN X164.here hx rfl (hb hby d7_80) rfl rfl k)))))) ?_
    obtain ⟨T166, X166, e166, st166⟩ := getF X164 hx hZ hown (host := "") (Or.inl (wd hw 19 rfl)) Via.refl e164 pr2 (g := (mkF m 81 #[.val (.ref a1), .val (.long q1), .second, .val (.long v1), .second, .val (.int r156)] [(.ref a1)])) rfl rfl (hb hby d7_81)
    refine Go.by (B := (T166.setTop (mkF m 84 #[.val (.ref a1), .val (.long q1), .second, .val (.long v1), .second, .val (.int r156)] [(.ref s1)]))) st166 ?_
    refine Go.by (B := (T166.setTop (mkF m 87 #[.val (.ref a1), .val (.long q1), .second, .val (.long v1), .second, .val (.int r156)] [(.long q1), (.int r156), (.ref s1)]))) (fun _ k => XS.iload X166.here hx rfl (hb hby d7_84) rfl (XS.lloadN X166.here hx rfl (hb hby d7_86) rfl k)) ?_
    obtain ⟨cl167, Ar167, q167, S167, N_167, Hs167, G167⟩ := id pr5
    have hin168 : ¬ (r156 < 0 ∨ cl167.slots.size ≤ (r156).toNatClampNeg) := inb_of S167 ⟨p156_0.1, p156_0.2⟩
    obtain ⟨T168, h168, X168, e168, W168, st168⟩ := stJ X166 hx hZ e166 Ar167 (j := r156) hin168 (g := (mkF m 87 #[.val (.ref a1), .val (.long q1), .second, .val (.long v1), .second, .val (.int r156)] [(.long q1), (.int r156), (.ref s1)])) rfl rfl (hb hby d7_87)
    have O169 := pr0.wr W168 pr11
    have Z169 : n0 ≤ h168.size := Nat.le_trans Z0 (Keep.of_wr W168).1
    have V168 : Arh Z h168 s1 k1 .long (1024 : Int32) [(r156, (.long q1)), (i, (.long a))] [] (.long (-1 : Int64)) := Arh.push Ar167 q167 S167 N_167 Hs167 G167 rfl W168 hin168
    have N168 := Fr.snoc X168 N156 pr11
    refine Go.by (B := (T168.setTop (mkF m 88 #[.val (.ref a1), .val (.long q1), .second, .val (.long v1), .second, .val (.int r156)] []))) st168 ?_
    refine Go.by (B := (T168.setTop (mkF m 89 #[.val (.ref a1), .val (.long q1), .second, .val (.long v1), .second, .val (.int r156)] [(.ref a1)]))) (fun _ k => XS.aloadN X168.here hx rfl (hb hby d7_88) rfl rfl k) ?_
    obtain ⟨T170, X170, e170, st170⟩ := getF X168 hx hZ hown (host := "") (Or.inl (wd hw 21 rfl)) Via.refl e168 (pr3.other W168 (Or.inl pr8)) (g := (mkF m 89 #[.val (.ref a1), .val (.long q1), .second, .val (.long v1), .second, .val (.int r156)] [(.ref a1)])) rfl rfl (hb hby d7_89)
    refine Go.by (B := (T170.setTop (mkF m 92 #[.val (.ref a1), .val (.long q1), .second, .val (.long v1), .second, .val (.int r156)] [(.ref s2)]))) st170 ?_
    refine Go.by (B := (T170.setTop (mkF m 95 #[.val (.ref a1), .val (.long q1), .second, .val (.long v1), .second, .val (.int r156)] [(.long v1), (.int r156), (.ref s2)]))) (fun _ k => XS.iload X170.here hx rfl (hb hby d7_92) rfl (XS.lloadN X170.here hx rfl (hb hby d7_94) rfl k)) ?_
    obtain ⟨cl171, Ar171, q171, S171, N_171, Hs171, G171⟩ := id (pr6.other W168 (Ne.symm pr7))
    have hin172 : ¬ (r156 < 0 ∨ cl171.slots.size ≤ (r156).toNatClampNeg) := inb_of S171 ⟨p156_0.1, p156_0.2⟩
    obtain ⟨T172, h172, X172, e172, W172, st172⟩ := stJ X170 hx hZ e170 Ar171 (j := r156) hin172 (g := (mkF m 95 #[.val (.ref a1), .val (.long q1), .second, .val (.long v1), .second, .val (.int r156)] [(.long v1), (.int r156), (.ref s2)])) rfl rfl (hb hby d7_95)
    have O173 := O169.wr W172 pr12
    have Z173 : n0 ≤ h172.size := Nat.le_trans Z169 (Keep.of_wr W172).1
    have V172 : Arh Z h172 s2 k2 .long (1024 : Int32) [(r156, (.long v1)), (i, (.long u))] [] (.long (0 : Int64)) := Arh.push Ar171 q171 S171 N_171 Hs171 G171 rfl W172 hin172
    have N172 := Fr.snoc X172 N168 pr12
    refine Go.by (B := (T172.setTop (mkF m 96 #[.val (.ref a1), .val (.long q1), .second, .val (.long v1), .second, .val (.int r156)] []))) st172 ?_
    refine Go.by (B := (T172.setTop (mkF m 98 #[.val (.ref a1), .val (.long q1), .second, .val (.long v1), .second, .val (.int r156)] [(.ref a1), (.ref a1)]))) (fun _ k => XS.aloadN X172.here hx rfl (hb hby d7_96) rfl rfl (XS.dup X172.here hx rfl (hb hby d7_97) rfl rfl k)) ?_
    have f174 := ((pr4.other W168 (Or.inl pr8)).other W172 (Or.inl pr9))
    obtain ⟨T175, X175, e175, st175⟩ := getF X172 hx hZ hown (host := "") (Or.inl (wd hw 40 rfl)) Via.refl e172 f174 (g := (mkF m 98 #[.val (.ref a1), .val (.long q1), .second, .val (.long v1), .second, .val (.int r156)] [(.ref a1), (.ref a1)])) rfl rfl (hb hby d7_98)
    refine Go.by (B := (T175.setTop (mkF m 101 #[.val (.ref a1), .val (.long q1), .second, .val (.long v1), .second, .val (.int r156)] [(.int 1), (.ref a1)]))) st175 ?_
    refine Go.by (B := (T175.setTop (mkF m 103 #[.val (.ref a1), .val (.long q1), .second, .val (.long v1), .second, .val (.int r156)] [(.int 2), (.ref a1)]))) (fun _ k => XS.iconst X175.here hx rfl (hb hby d7_101) (XS.iadd X175.here hx rfl (hb hby d7_102) rfl k)) ?_
    obtain ⟨T176, h176, X176, e176, W176, st176⟩ := putF X175 hx hZ hown (host := "") (Or.inl (wd hw 40 rfl)) Via.refl e175 f174 ((pr1.wr W168).wr W172) (Or.inl (wd hw 41 rfl)) (wd hw 2 rfl) (ty := .int) (by decide) rfl rfl (g := (mkF m 103 #[.val (.ref a1), .val (.long q1), .second, .val (.long v1), .second, .val (.int r156)] [(.int 2), (.ref a1)])) rfl rfl (hb hby d7_103)
    have N176 := Fr.snoc X176 N172 pr10
    have O177 := O173.wr W176 pr10
    have Z177 : n0 ≤ h176.size := Nat.le_trans Z173 (Keep.of_wr W176).1
    have F176 := f174.same W176
    refine Go.by (B := (T176.setTop (mkF m 106 #[.val (.ref a1), .val (.long q1), .second, .val (.long v1), .second, .val (.int r156)] []))) st176 ?_
    refine Go.by (B := (T176.setTop (mkF m 108 #[.val (.ref a1), .val (.long q1), .second, .val (.long v1), .second, .val (.int r156)] [(.int r156)]))) (fun _ k => XS.iload X176.here hx rfl (hb hby d7_106) rfl k) ?_
    refine Go.ret X176 hx hlk (t := .int) hret rfl (Or.inl ⟨rfl, by simp, _, rfl⟩) (hb hby d7_108) (by decide) (by decide) ?_
    rw [e176]
    exact ⟨r156, rfl, N176, ((((Keep.refl h0 [a1, s1, s2]).wr W168 (Or.inl (List.mem_of_getElem? (i := 1) rfl))).wr W172 (Or.inl (List.mem_of_getElem? (i := 2) rfl))).wr W176 (Or.inl (List.mem_of_getElem? (i := 0) rfl))), (((pr1.wr W168).wr W172).wr W176), (((pr2.other W168 (Or.inl pr8)).other W172 (Or.inl pr9)).other W176 (Or.inr (slot_ne (Or.inl (wd hw 20 rfl)) (Or.inl (wd hw 41 rfl)) (by decide) (t := (.array .long)) (t' := .int) (by decide) (by decide)))), (((pr3.other W168 (Or.inl pr8)).other W172 (Or.inl pr9)).other W176 (Or.inr (slot_ne (Or.inl (wd hw 22 rfl)) (Or.inl (wd hw 41 rfl)) (by decide) (t := (.array .long)) (t' := .int) (by decide) (by decide)))), F176, ((V168.other W172 pr7).other W176 (Ne.symm pr8)), (V172.other W176 (Ne.symm pr9)), e159, e157, ⟨p156_0.1, p156_0.2⟩⟩
theorem ef_rm_val1 (m : MethodId) (x0 : Addr) (x1 : Int32) : entryFrame m #[(.ref x0), (.int x1)] 2 = mkF m 0 #[.val (.ref x0), .val (.int x1)] [] := by first | (simp [entryFrame, mkF, argsToLocals, Value.category]; done) | rfl
theorem d8_0 : decode prog_10_method_6_code 0 = .ok (.aload_n 0, 1) := by decide +kernel
theorem d8_1 : decode prog_10_method_6_code 1 = .ok (.getfield 17, 3) := by decide +kernel
theorem d8_4 : decode prog_10_method_6_code 4 = .ok (.iload_n 1, 1) := by decide +kernel
theorem d8_5 : decode prog_10_method_6_code 5 = .ok (.laload, 1) := by decide +kernel
theorem d8_6 : decode prog_10_method_6_code 6 = .ok (.lreturn, 1) := by decide +kernel
def Q_rm_val1 (Z : State) (a1 : Addr) (s2 : Addr) (k2 : ClassId) (i : Int32) (u : Int64) (h0 : Heap) (n0 : Nat) (vv : Option Value) (h : Heap) (L : List Loc) : Prop := vv = some (.long u) ∧ Fr n0 L ∧ h = h0
set_option maxRecDepth 65536 in
set_option maxHeartbeats 40000000 in
theorem rm_val1 (l : Launch) (Z : State) (a0 : Array Value) (hw : ∀ d ∈ tables_1, d.before a0 Z = true) (ws : List Jvm.Cond) (a1 : Addr) (s2 : Addr) (k2 : ClassId) (i : Int32) (u : Int64) (h0 : Heap) (n0 : Nat) (Z0 : n0 ≤ h0.size) (pr0 : Fld Z h0 a1 "com/example/floodgauge/floodgauge/latency/SeqTable" "values" "[J" (.ref s2)) (pr1 : Arh Z h0 s2 k2 .long (1024 : Int32) [(i, (.long u))] [] (.long (0 : Int64))) (hgi : own_rg i) :
    Met l Z (⟨"com/example/floodgauge/floodgauge/latency/SeqTable", "value", "(I)J"⟩ : MethodName) prog_10_method_6_code 2 (some .long) ws ({ frames := 0, cells := 0, slots := 0, locals := 0 } : Room) #[(.ref a1), (.int i)] h0 (Q_rm_val1 Z a1 s2 k2 i u h0 n0) := by
  refine Met.enter (f0 := fun m => mkF m 0 #[.val (.ref a1), .val (.int i)] []) (plainFor_of_name pn_com_example_floodgauge_floodgauge_latency_SeqTable) (fun m => ef_rm_val1 m a1 i) ?_
  intro p e s m below meth c s₁ hx hby hml hown hnm hret hlk hZ X0 e0
  have hown : s.vm.findClass "com/example/floodgauge/floodgauge/latency/SeqTable" = some m.cls := hown
  have hnm : meth.name = "value" := hnm
  have hml : c.maxLocals = 2 := hml
  have hby : c.code = prog_10_method_6_code := hby
  have N0 := Fr.nil n0
  refine Go.by (B := (s₁.setTop (mkF m 1 #[.val (.ref a1), .val (.int i)] [(.ref a1)]))) (fun _ k => XS.aloadN X0.here hx rfl (hb hby d8_0) rfl rfl k) ?_
  obtain ⟨T178, X178, e178, st178⟩ := getF X0 hx hZ hown (host := "") (Or.inl (wd hw 21 rfl)) Via.refl e0 pr0 (g := (mkF m 1 #[.val (.ref a1), .val (.int i)] [(.ref a1)])) rfl rfl (hb hby d8_1)
  refine Go.by (B := (T178.setTop (mkF m 4 #[.val (.ref a1), .val (.int i)] [(.ref s2)]))) st178 ?_
  refine Go.by (B := (T178.setTop (mkF m 5 #[.val (.ref a1), .val (.int i)] [(.int i), (.ref s2)]))) (fun _ k => XS.iloadN X178.here hx rfl (hb hby d8_4) rfl k) ?_
  obtain ⟨cl179, Ar179, q179, S179, N_179, Hs179, G179⟩ := id pr1
  have hin180 : ¬ (i < 0 ∨ cl179.slots.size ≤ (i).toNatClampNeg) := inb_of S179 ⟨hgi.1, hgi.2⟩
  have hat180 : cl179.slots[(i).toNatClampNeg]? = some (.long u) := atH Hs179 hin180 (getH_hit hgi.1 rfl)
  refine Go.by (B := (T178.setTop (mkF m 6 #[.val (.ref a1), .val (.int i)] [(.long u)]))) (fun _ k => X178.laload hx (j := i) (v := (.long u)) (by rw [e178]; exact Ar179.1) (State.isArrayOf_alike hZ.alike Ar179.2.1) Ar179.2.2 hin180 hat180 (g := (mkF m 5 #[.val (.ref a1), .val (.int i)] [(.int i), (.ref s2)])) rfl rfl (hb hby d8_5) _ k) ?_
  refine Go.ret X178 hx hlk (t := .long) hret rfl (Or.inr (Or.inl ⟨rfl, rfl, _, rfl⟩)) (hb hby d8_6) (by decide) (by decide) ?_
  rw [e178]
  exact ⟨rfl, N0, rfl⟩
theorem ef_rm_val2i (m : MethodId) (x0 : Addr) (x1 : Int32) : entryFrame m #[(.ref x0), (.int x1)] 2 = mkF m 0 #[.val (.ref x0), .val (.int x1)] [] := by first | (simp [entryFrame, mkF, argsToLocals, Value.category]; done) | rfl
def Q_rm_val2i (Z : State) (a1 : Addr) (s2 : Addr) (k2 : ClassId) (i : Int32) (u : Int64) (j : Int32) (t : Int64) (h0 : Heap) (n0 : Nat) (vv : Option Value) (h : Heap) (L : List Loc) : Prop := vv = some (.long u) ∧ Fr n0 L ∧ h = h0
set_option maxRecDepth 65536 in
set_option maxHeartbeats 40000000 in
theorem rm_val2i (l : Launch) (Z : State) (a0 : Array Value) (hw : ∀ d ∈ tables_1, d.before a0 Z = true) (ws : List Jvm.Cond) (a1 : Addr) (s2 : Addr) (k2 : ClassId) (i : Int32) (u : Int64) (j : Int32) (t : Int64) (h0 : Heap) (n0 : Nat) (Z0 : n0 ≤ h0.size) (pr0 : Fld Z h0 a1 "com/example/floodgauge/floodgauge/latency/SeqTable" "values" "[J" (.ref s2)) (pr1 : Arh Z h0 s2 k2 .long (1024 : Int32) [(j, (.long t)), (i, (.long u))] [] (.long (0 : Int64))) (hgi : own_rg i) (hij : ¬ (j = i)) :
    Met l Z (⟨"com/example/floodgauge/floodgauge/latency/SeqTable", "value", "(I)J"⟩ : MethodName) prog_10_method_6_code 2 (some .long) ws ({ frames := 0, cells := 0, slots := 0, locals := 0 } : Room) #[(.ref a1), (.int i)] h0 (Q_rm_val2i Z a1 s2 k2 i u j t h0 n0) := by
  refine Met.enter (f0 := fun m => mkF m 0 #[.val (.ref a1), .val (.int i)] []) (plainFor_of_name pn_com_example_floodgauge_floodgauge_latency_SeqTable) (fun m => ef_rm_val2i m a1 i) ?_
  intro p e s m below meth c s₁ hx hby hml hown hnm hret hlk hZ X0 e0
  have hown : s.vm.findClass "com/example/floodgauge/floodgauge/latency/SeqTable" = some m.cls := hown
  have hnm : meth.name = "value" := hnm
  have hml : c.maxLocals = 2 := hml
  have hby : c.code = prog_10_method_6_code := hby
  have N0 := Fr.nil n0
  refine Go.by (B := (s₁.setTop (mkF m 1 #[.val (.ref a1), .val (.int i)] [(.ref a1)]))) (fun _ k => XS.aloadN X0.here hx rfl (hb hby d8_0) rfl rfl k) ?_
  obtain ⟨T181, X181, e181, st181⟩ := getF X0 hx hZ hown (host := "") (Or.inl (wd hw 21 rfl)) Via.refl e0 pr0 (g := (mkF m 1 #[.val (.ref a1), .val (.int i)] [(.ref a1)])) rfl rfl (hb hby d8_1)
  refine Go.by (B := (T181.setTop (mkF m 4 #[.val (.ref a1), .val (.int i)] [(.ref s2)]))) st181 ?_
  refine Go.by (B := (T181.setTop (mkF m 5 #[.val (.ref a1), .val (.int i)] [(.int i), (.ref s2)]))) (fun _ k => XS.iloadN X181.here hx rfl (hb hby d8_4) rfl k) ?_
  obtain ⟨cl182, Ar182, q182, S182, N_182, Hs182, G182⟩ := id pr1
  have hin183 : ¬ (i < 0 ∨ cl182.slots.size ≤ (i).toNatClampNeg) := inb_of S182 ⟨hgi.1, hgi.2⟩
  have hat183 : cl182.slots[(i).toNatClampNeg]? = some (.long u) := atH Hs182 hin183 (getH_miss hgi.1 (fun q => hij q.symm) (getH_hit hgi.1 rfl))
  refine Go.by (B := (T181.setTop (mkF m 6 #[.val (.ref a1), .val (.int i)] [(.long u)]))) (fun _ k => X181.laload hx (j := i) (v := (.long u)) (by rw [e181]; exact Ar182.1) (State.isArrayOf_alike hZ.alike Ar182.2.1) Ar182.2.2 hin183 hat183 (g := (mkF m 5 #[.val (.ref a1), .val (.int i)] [(.int i), (.ref s2)])) rfl rfl (hb hby d8_5) _ k) ?_
  refine Go.ret X181 hx hlk (t := .long) hret rfl (Or.inr (Or.inl ⟨rfl, rfl, _, rfl⟩)) (hb hby d8_6) (by decide) (by decide) ?_
  rw [e181]
  exact ⟨rfl, N0, rfl⟩
theorem ef_rm_val2j (m : MethodId) (x0 : Addr) (x1 : Int32) : entryFrame m #[(.ref x0), (.int x1)] 2 = mkF m 0 #[.val (.ref x0), .val (.int x1)] [] := by first | (simp [entryFrame, mkF, argsToLocals, Value.category]; done) | rfl
def Q_rm_val2j (Z : State) (a1 : Addr) (s2 : Addr) (k2 : ClassId) (i : Int32) (u : Int64) (j : Int32) (t : Int64) (h0 : Heap) (n0 : Nat) (vv : Option Value) (h : Heap) (L : List Loc) : Prop := vv = some (.long t) ∧ Fr n0 L ∧ h = h0
set_option maxRecDepth 65536 in
set_option maxHeartbeats 40000000 in
theorem rm_val2j (l : Launch) (Z : State) (a0 : Array Value) (hw : ∀ d ∈ tables_1, d.before a0 Z = true) (ws : List Jvm.Cond) (a1 : Addr) (s2 : Addr) (k2 : ClassId) (i : Int32) (u : Int64) (j : Int32) (t : Int64) (h0 : Heap) (n0 : Nat) (Z0 : n0 ≤ h0.size) (pr0 : Fld Z h0 a1 "com/example/floodgauge/floodgauge/latency/SeqTable" "values" "[J" (.ref s2)) (pr1 : Arh Z h0 s2 k2 .long (1024 : Int32) [(j, (.long t)), (i, (.long u))] [] (.long (0 : Int64))) (hgj : own_rg j) :
    Met l Z (⟨"com/example/floodgauge/floodgauge/latency/SeqTable", "value", "(I)J"⟩ : MethodName) prog_10_method_6_code 2 (some .long) ws ({ frames := 0, cells := 0, slots := 0, locals := 0 } : Room) #[(.ref a1), (.int j)] h0 (Q_rm_val2j Z a1 s2 k2 i u j t h0 n0) := by
  refine Met.enter (f0 := fun m => mkF m 0 #[.val (.ref a1), .val (.int j)] []) (plainFor_of_name pn_com_example_floodgauge_floodgauge_latency_SeqTable) (fun m => ef_rm_val2j m a1 j) ?_
  intro p e s m below meth c s₁ hx hby hml hown hnm hret hlk hZ X0 e0
  have hown : s.vm.findClass "com/example/floodgauge/floodgauge/latency/SeqTable" = some m.cls := hown
  have hnm : meth.name = "value" := hnm
  have hml : c.maxLocals = 2 := hml
  have hby : c.code = prog_10_method_6_code := hby
  have N0 := Fr.nil n0
  refine Go.by (B := (s₁.setTop (mkF m 1 #[.val (.ref a1), .val (.int j)] [(.ref a1)]))) (fun _ k => XS.aloadN X0.here hx rfl (hb hby d8_0) rfl rfl k) ?_
  obtain ⟨T184, X184, e184, st184⟩ := getF X0 hx hZ hown (host := "") (Or.inl (wd hw 21 rfl)) Via.refl e0 pr0 (g := (mkF m 1 #[.val (.ref a1), .val (.int j)] [(.ref a1)])) rfl rfl (hb hby d8_1)
  refine Go.by (B := (T184.setTop (mkF m 4 #[.val (.ref a1), .val (.int j)] [(.ref s2)]))) st184 ?_
  refine Go.by (B := (T184.setTop (mkF m 5 #[.val (.ref a1), .val (.int j)] [(.int j), (.ref s2)]))) (fun _ k => XS.iloadN X184.here hx rfl (hb hby d8_4) rfl k) ?_
  obtain ⟨cl185, Ar185, q185, S185, N_185, Hs185, G185⟩ := id pr1
  have hin186 : ¬ (j < 0 ∨ cl185.slots.size ≤ (j).toNatClampNeg) := inb_of S185 ⟨hgj.1, hgj.2⟩
  have hat186 : cl185.slots[(j).toNatClampNeg]? = some (.long t) := atH Hs185 hin186 (getH_hit hgj.1 rfl)
  refine Go.by (B := (T184.setTop (mkF m 6 #[.val (.ref a1), .val (.int j)] [(.long t)]))) (fun _ k => X184.laload hx (j := j) (v := (.long t)) (by rw [e184]; exact Ar185.1) (State.isArrayOf_alike hZ.alike Ar185.2.1) Ar185.2.2 hin186 hat186 (g := (mkF m 5 #[.val (.ref a1), .val (.int j)] [(.int j), (.ref s2)])) rfl rfl (hb hby d8_5) _ k) ?_
  refine Go.ret X184 hx hlk (t := .long) hret rfl (Or.inr (Or.inl ⟨rfl, rfl, _, rfl⟩)) (hb hby d8_6) (by decide) (by decide) ?_
  rw [e184]
  exact ⟨rfl, N0, rfl⟩
theorem own_posL {x v : Int64} (h : v = (x &&& (9223372036854775807 : Int64))) : ¬ v < (0 : Int64) := by
  have q := c_maskL x 9223372036854775807 63 (by decide) (by decide)
  have z : (0 : Int64).toInt = 0 := by decide
  rw [← h] at q
  rw [Int64.lt_iff_toInt_lt, z]
  omega

theorem ef_rm0 (m : MethodId) (x0 : Int64) (x1 : Int64) (x2 : Int64) (x3 : Int64) (x4 : Int32) : entryFrame m #[(.long x0), (.long x1), (.long x2), (.long x3), (.int x4)] maxLocals = mkF m 0 #[.val (.long x0), .second, .val (.long x1), .second, .val (.long x2), .second, .val (.long x3), .second, .val (.int x4), .unset, .unset, .unset, .unset, .unset, .unset, .unset, .unset, .unset, .unset, .unset, .unset, .unset, .unset] [] := by first | (simp [entryFrame, mkF, argsToLocals, Value.category, maxLocals]; done) | rfl
theorem pd_3 : parseMethodDescriptor "()V" = some ⟨[], none⟩ := by decide +kernel
theorem pd_4 : parseMethodDescriptor "(J)I" = some ⟨[.long], some .int⟩ := by decide +kernel
theorem pd_5 : parseMethodDescriptor "(JJ)I" = some ⟨[.long, .long], some .int⟩ := by decide +kernel
theorem pd_6 : parseMethodDescriptor "(I)J" = some ⟨[.int], some .long⟩ := by decide +kernel
theorem pn_com_example_floodgauge_floodgauge_latency_SeqTableSlotPinLaw : plainName "com/example/floodgauge/floodgauge/latency/SeqTableSlotPinLaw" = true := by first | (simp [plainName, overriddenIn]; done) | decide +kernel
def Q_rm0 (Z : State) (q1 : Int64) (q2 : Int64) (q3 : Int64) (q4 : Int64) (p5 : Int32) (h0 : Heap) (n0 : Nat) (vv : Option Value) (h : Heap) (L : List Loc) : Prop := vv = some (.int 1) ∧ Fr n0 L
set_option maxRecDepth 65536 in
set_option maxHeartbeats 40000000 in
theorem rm0 (l : Launch) (Z : State) (a0 : Array Value) (hw : ∀ d ∈ tables_1, d.before a0 Z = true) (ws : List Jvm.Cond) (q1 : Int64) (q2 : Int64) (q3 : Int64) (q4 : Int64) (p5 : Int32) (h0 : Heap) (n0 : Nat) (Z0 : n0 ≤ h0.size) (pr0 : Old Z n0 h0) :
    Met l Z x code maxLocals ret ws room_1 #[(.long q1), (.long q2), (.long q3), (.long q4), (.int p5)] h0 (Q_rm0 Z q1 q2 q3 q4 p5 h0 n0) := by
  refine Met.enter (f0 := fun m => mkF m 0 #[.val (.long q1), .second, .val (.long q2), .second, .val (.long q3), .second, .val (.long q4), .second, .val (.int p5), .unset, .unset, .unset, .unset, .unset, .unset, .unset, .unset, .unset, .unset, .unset, .unset, .unset, .unset] []) (plainFor_of_name pn_com_example_floodgauge_floodgauge_latency_SeqTableSlotPinLaw) (fun m => ef_rm0 m q1 q2 q3 q4 p5) ?_
  intro p e s m below meth c s₁ hx hby hml hown hnm hret hlk hZ X0 e0
  have hown : s.vm.findClass "com/example/floodgauge/floodgauge/latency/SeqTableSlotPinLaw" = some m.cls := hown
  have hnm : meth.name = "law" := hnm
  have hml : c.maxLocals = 23 := hml
  have hby : c.code = code := hby
  have N0 := Fr.nil n0
  refine Go.by (B := (s₁.setTop (mkF m 5 #[.val (.long q1), .second, .val (.long q2), .second, .val (.long q3), .second, .val (.long q4), .second, .val (.int p5), .unset, .unset, .unset, .unset, .unset, .unset, .unset, .unset, .unset, .unset, .unset, .unset, .unset, .unset] [(.long (q1 &&& (9223372036854775807 : Int64)))]))) (fun _ k => XS.lloadN X0.here hx rfl (hb hby at_0) rfl (X0.ldc2Long hx hown (mvT hZ (wd hw 0 rfl)) (g := (mkF m 1 #[.val (.long q1), .second, .val (.long q2), .second, .val (.long q3), .second, .val (.long q4), .second, .val (.int p5), .unset, .unset, .unset, .unset, .unset, .unset, .unset, .unset, .unset, .unset, .unset, .unset, .unset, .unset] [(.long q1)])) rfl (hb hby at_1) _ (XS.land X0.here hx rfl (hb hby at_4) rfl k))) ?_
  obtain ⟨v187, hv187⟩ : ∃ v, v = (q1 &&& (9223372036854775807 : Int64)) := ⟨_, rfl⟩
  refine Go.by (B := (s₁.setTop (mkF m 12 #[.val (.long q1), .second, .val (.long q2), .second, .val (.long q3), .second, .val (.long q4), .second, .val (.int p5), .val (.long v187), .second, .unset, .unset, .unset, .unset, .unset, .unset, .unset, .unset, .unset, .unset, .unset, .unset] [(.long (q2 &&& (9223372036854775807 : Int64)))]))) (fun _ k => XS.lstore (x := v187) (rest := []) X0.here hx rfl (hb hby at_5) (by rw [hv187]) (l' := #[.val (.long q1), .second, .val (.long q2), .second, .val (.long q3), .second, .val (.long q4), .second, .val (.int p5), .val (.long v187), .second, .unset, .unset, .unset, .unset, .unset, .unset, .unset, .unset, .unset, .unset, .unset, .unset]) rfl (XS.lloadN X0.here hx rfl (hb hby at_7) rfl (X0.ldc2Long hx hown (mvT hZ (wd hw 0 rfl)) (g := (mkF m 8 #[.val (.long q1), .second, .val (.long q2), .second, .val (.long q3), .second, .val (.long q4), .second, .val (.int p5), .val (.long v187), .second, .unset, .unset, .unset, .unset, .unset, .unset, .unset, .unset, .unset, .unset, .unset, .unset] [(.long q2)])) rfl (hb hby at_8) _ (XS.land X0.here hx rfl (hb hby at_11) rfl k)))) ?_
  obtain ⟨v188, hv188⟩ : ∃ v, v = (q2 &&& (9223372036854775807 : Int64)) := ⟨_, rfl⟩
  refine Go.by (B := (s₁.setTop (mkF m 14 #[.val (.long q1), .second, .val (.long q2), .second, .val (.long q3), .second, .val (.long q4), .second, .val (.int p5), .val (.long v187), .second, .val (.long v188), .second, .unset, .unset, .unset, .unset, .unset, .unset, .unset, .unset, .unset, .unset] []))) (fun _ k => XS.lstore (x := v188) (rest := []) X0.here hx rfl (hb hby at_12) (by rw [hv188]) (l' := #[.val (.long q1), .second, .val (.long q2), .second, .val (.long q3), .second, .val (.long q4), .second, .val (.int p5), .val (.long v187), .second, .val (.long v188), .second, .unset, .unset, .unset, .unset, .unset, .unset, .unset, .unset, .unset, .unset]) rfl k) ?_
  have hpv187 : ¬ v187 < (0 : Int64) := own_posL hv187
  have hpv188 : ¬ v188 < (0 : Int64) := own_posL hv188
  obtain ⟨lc189, X189, N189⟩ : ∃ lc, Stand p l e room_1 s m #[(.long q1), (.long q2), (.long q3), (.long q4), (.int p5)] below meth c s₁ lc 0 0 ∧ Fr n0 lc := ⟨_, X0, N0⟩
  have e189 : s₁.heap = h0 := e0
  have J189 : ∀ (T190 : State) (X190 : Stand p l e room_1 s m #[(.long q1), (.long q2), (.long q3), (.long q4), (.int p5)] below meth c T190 lc189 0 0) (e190 : T190.heap = h0) (ad190 : Int32), Go p e below (PostW s room_1.cells room_1.slots (Q_rm0 Z q1 q2 q3 q4 p5 h0 n0)) (T190.setTop (mkF m 26 #[.val (.long q1), .second, .val (.long q2), .second, .val (.long q3), .second, .val (.long q4), .second, .val (.int p5), .val (.long v187), .second, .val (.long v188), .second, .unset, .unset, .unset, .unset, .unset, .unset, .unset, .unset, .unset, .unset] [(.int ad190)])) := by
    intro T190 X190 e190 ad190
    refine Go.by (B := (T190.setTop (mkF m 28 #[.val (.long q1), .second, .val (.long q2), .second, .val (.long q3), .second, .val (.long q4), .second, .val (.int p5), .val (.long v187), .second, .val (.long v188), .second, .val (.int ad190), .unset, .unset, .unset, .unset, .unset, .unset, .unset, .unset, .unset] []))) (fun _ k => XS.istore X190.here hx rfl (hb hby at_26) rfl (l' := #[.val (.long q1), .second, .val (.long q2), .second, .val (.long q3), .second, .val (.long q4), .second, .val (.int p5), .val (.long v187), .second, .val (.long v188), .second, .val (.int ad190), .unset, .unset, .unset, .unset, .unset, .unset, .unset, .unset, .unset]) rfl k) ?_
    obtain ⟨lc191, X191, N191⟩ : ∃ lc, Stand p l e room_1 s m #[(.long q1), (.long q2), (.long q3), (.long q4), (.int p5)] below meth c T190 lc 0 0 ∧ Fr n0 lc := ⟨_, X190, N189⟩
    have e191 : T190.heap = h0 := e190
    have J191 : ∀ (T192 : State) (X192 : Stand p l e room_1 s m #[(.long q1), (.long q2), (.long q3), (.long q4), (.int p5)] below meth c T192 lc191 0 0) (e192 : T192.heap = h0) (qq192 : Int64) (sel192 : Int32), Go p e below (PostW s room_1.cells room_1.slots (Q_rm0 Z q1 q2 q3 q4 p5 h0 n0)) (T192.setTop (mkF m 82 #[.val (.long q1), .second, .val (.long q2), .second, .val (.long q3), .second, .val (.long q4), .second, .val (.int p5), .val (.long v187), .second, .val (.long v188), .second, .val (.int ad190), .val (.int sel192), .val (.long qq192), .second, .unset, .unset, .unset, .unset, .unset, .unset] [])) := by
      intro T192 X192 e192 qq192 sel192
      rcases Classical.em (v187 = v188) with c193 | c193
      · skip
        obtain ⟨T194, h194, X194, e194, E194, A194, D194, -, st194⟩ := newO X192 hx hZ hown (wd hw 1 rfl) (wd hw 2 rfl) (wd hw 3 rfl) e192 (g := (mkF m 82 #[.val (.long q1), .second, .val (.long q2), .second, .val (.long q3), .second, .val (.long q4), .second, .val (.int p5), .val (.long v187), .second, .val (.long v188), .second, .val (.int ad190), .val (.int sel192), .val (.long qq192), .second, .unset, .unset, .unset, .unset, .unset, .unset] [])) rfl (hb hby at_82) (by decide) (by decide)
        obtain ⟨b194, g194⟩ : ∃ z, z = h0.size := ⟨_, rfl⟩
        rw [← g194] at A194 D194 st194
        have sz_b194 : h0.size ≤ b194 := Nat.le_of_eq g194.symm
        have O195 := pr0.ext E194
        have Z195 : n0 ≤ h194.size := Nat.le_trans Z0 E194.1
        have F196 : Fld Z h194 b194 "com/example/floodgauge/floodgauge/latency/SeqTable" "seqs" "[J" .null := D194 (Or.inl (wd hw 20 rfl)) (ty := (.array .long)) (by decide)
        have F197 : Fld Z h194 b194 "com/example/floodgauge/floodgauge/latency/SeqTable" "values" "[J" .null := D194 (Or.inl (wd hw 22 rfl)) (ty := (.array .long)) (by decide)
        have F198 : Fld Z h194 b194 "com/example/floodgauge/floodgauge/latency/SeqTable" "states" "[B" .null := D194 (Or.inl (wd hw 25 rfl)) (ty := (.array .byte)) (by decide)
        have F199 : Fld Z h194 b194 "com/example/floodgauge/floodgauge/latency/SeqTable" "size" "I" (.int 0) := D194 (Or.inl (wd hw 41 rfl)) (ty := .int) (by decide)
        refine Go.by (B := (T194.setTop (mkF m 85 #[.val (.long q1), .second, .val (.long q2), .second, .val (.long q3), .second, .val (.long q4), .second, .val (.int p5), .val (.long v187), .second, .val (.long v188), .second, .val (.int ad190), .val (.int sel192), .val (.long qq192), .second, .unset, .unset, .unset, .unset, .unset, .unset] [(.ref b194)]))) st194 ?_
        refine Go.by (B := (T194.setTop (mkF m 86 #[.val (.long q1), .second, .val (.long q2), .second, .val (.long q3), .second, .val (.long q4), .second, .val (.int p5), .val (.long v187), .second, .val (.long v188), .second, .val (.int ad190), .val (.int sel192), .val (.long qq192), .second, .unset, .unset, .unset, .unset, .unset, .unset] [(.ref b194), (.ref b194)]))) (fun _ k => XS.dup X194.here hx rfl (hb hby at_85) rfl rfl k) ?_
        obtain ⟨_, _, ⟨T200, L200, k200, n200⟩, -, X200, ⟨Lc200, hQ200, l200, y200, z200⟩, st200⟩ := X194.specialBack hx (y := (⟨"com/example/floodgauge/floodgauge/latency/SeqTable", "<init>", "()V"⟩ : MethodName)) rfl hown (mvT hZ (wd hw 4 rfl)) (mvT hZ (wd hw 5 rfl)) (mvT hZ (wd hw 6 rfl)) (by decide) (backOf (W := 1) (rm_tinit l Z a0 hw [] b194 h194 n0 Z195 O195 A194 F196 F197 F198 F199 (Nat.le_trans Z0 sz_b194)) hZ (wd hw 6 rfl) (wd hw 3 rfl) (by decide) (by decide)) (g := (mkF m 86 #[.val (.long q1), .second, .val (.long q2), .second, .val (.long q3), .second, .val (.long q4), .second, .val (.int p5), .val (.long v187), .second, .val (.long v188), .second, .val (.int ad190), .val (.int sel192), .val (.long qq192), .second, .unset, .unset, .unset, .unset, .unset, .unset] [(.ref b194), (.ref b194)])) rfl (by rw [hml]; rfl) (Steps.refl _) (a := b194) (argsL := []) (rest := [(.ref b194)]) (lenOf pd_3 rfl) rfl (by show 2 * 0 + _ ≤ _; exact Nat.le_of_eq rfl) (hb hby at_86) (fun _ _ => ⟨rfl, e194, Nat.le_of_ble_eq_true rfl, Nat.le_of_ble_eq_true rfl⟩)
        dsimp only [Pt.U, Pt.locs, Pt.cells, Pt.slots] at X200 l200 y200 z200 st200 hQ200
        subst l200 y200 z200
        obtain ⟨s1200, s2200, k1200, k2200, rfl, Nq200, K200, p200_0, p200_1, p200_2, p200_3, p200_4, p200_5, p200_6, p200_7, p200_8⟩ := hQ200
        have N200 := Fr.app N191 Nq200
        have O201 := O195.keep K200 (allS (Nat.le_trans Z0 sz_b194) all0)
        have Z201 : n0 ≤ T200.heap.size := Nat.le_trans Z195 K200.1
        have sz_s1200 : h194.size ≤ s1200 := p200_6
        have sz_s2200 : h194.size ≤ s2200 := p200_7
        refine Go.by (B := (T200.setTop (mkF m 89 #[.val (.long q1), .second, .val (.long q2), .second, .val (.long q3), .second, .val (.long q4), .second, .val (.int p5), .val (.long v187), .second, .val (.long v188), .second, .val (.int ad190), .val (.int sel192), .val (.long qq192), .second, .unset, .unset, .unset, .unset, .unset, .unset] [(.ref b194)]))) (fun _ k => st200.trans k) ?_
        refine Go.by (B := (T200.setTop (mkF m 95 #[.val (.long q1), .second, .val (.long q2), .second, .val (.long q3), .second, .val (.long q4), .second, .val (.int p5), .val (.long v187), .second, .val (.long v188), .second, .val (.int ad190), .val (.int sel192), .val (.long qq192), .second, .val (.ref b194), .unset, .unset, .unset, .unset, .unset] [(.long qq192), (.ref b194)]))) (fun _ k => XS.astore X200.here hx rfl (hb hby at_89) rfl rfl (l' := #[.val (.long q1), .second, .val (.long q2), .second, .val (.long q3), .second, .val (.long q4), .second, .val (.int p5), .val (.long v187), .second, .val (.long v188), .second, .val (.int ad190), .val (.int sel192), .val (.long qq192), .second, .val (.ref b194), .unset, .unset, .unset, .unset, .unset]) rfl (XS.aload X200.here hx rfl (hb hby at_91) rfl rfl (XS.lload X200.here hx rfl (hb hby at_93) rfl k))) ?_
        obtain ⟨cq202, kq202, q202a, q202b, q202c⟩ := isOf hZ rfl p200_0
        obtain ⟨_, _, ⟨T202, L202, k202, n202⟩, -, X202, ⟨Lc202, hQ202, l202, y202, z202⟩, st202⟩ := X200.virtualBack hx (y := (⟨"com/example/floodgauge/floodgauge/latency/SeqTable", "slot", "(J)I"⟩ : MethodName)) (z := (⟨"com/example/floodgauge/floodgauge/latency/SeqTable", "slot", "(J)I"⟩ : MethodName)) hown (mvT hZ (wd hw 26 rfl)) (mvT hZ (wd hw 27 rfl)) (notFace_of_selects (args := #[]) (mvT hZ (wd hw 29 rfl))) (mvT hZ (wd hw 29 rfl)) (mvT hZ (wd hw 28 rfl)) (by decide) (backOf (W := 0) (rm_slot0 l Z a0 hw [] b194 s1200 k1200 qq192 T200.heap n0 Z201 p200_1 p200_4) hZ (wd hw 30 rfl) (wd hw 3 rfl) (by decide) (by decide)) q202a q202c (g := (mkF m 95 #[.val (.long q1), .second, .val (.long q2), .second, .val (.long q3), .second, .val (.long q4), .second, .val (.int p5), .val (.long v187), .second, .val (.long v188), .second, .val (.int ad190), .val (.int sel192), .val (.long qq192), .second, .val (.ref b194), .unset, .unset, .unset, .unset, .unset] [(.long qq192), (.ref b194)])) rfl (by rw [hml]; rfl) (Steps.refl _) (argsL := [(.long qq192)]) (rest := []) (lenOf pd_4 rfl) rfl (by show 2 * 0 + _ ≤ _; exact Nat.le_of_eq rfl) (hb hby at_95) (fun _ _ => ⟨rfl, rfl, Nat.le_of_ble_eq_true rfl, Nat.le_of_ble_eq_true rfl⟩)
        dsimp only [Pt.U, Pt.locs, Pt.cells, Pt.slots] at X202 l202 y202 z202 st202 hQ202
        subst l202 y202 z202
        obtain ⟨rfl, Nq202, hh202⟩ := hQ202
        have N202 := Fr.app N200 Nq202
        refine Go.by (B := (T202.setTop (mkF m 98 #[.val (.long q1), .second, .val (.long q2), .second, .val (.long q3), .second, .val (.long q4), .second, .val (.int p5), .val (.long v187), .second, .val (.long v188), .second, .val (.int ad190), .val (.int sel192), .val (.long qq192), .second, .val (.ref b194), .unset, .unset, .unset, .unset, .unset] [(.int (-1 : Int32))]))) (fun _ k => st202.trans k) ?_
        refine Go.by (B := (T202.setTop (mkF m 110 #[.val (.long q1), .second, .val (.long q2), .second, .val (.long q3), .second, .val (.long q4), .second, .val (.int p5), .val (.long v187), .second, .val (.long v188), .second, .val (.int ad190), .val (.int sel192), .val (.long qq192), .second, .val (.ref b194), .unset, .unset, .unset, .unset, .unset] [(.long q4), (.long v187), (.ref b194)]))) (fun _ k => XS.iconst X202.here hx rfl (hb hby at_98) (XS.icmpYes X202.here hx rfl (pc0 := 99) (pc' := 104) rfl (hb hby at_99) rfl (teq (by decide : (-1 : Int32) = (-1 : Int32))).1 (by decide) (by decide) (XS.aload X202.here hx rfl (hb hby at_104) rfl rfl (XS.lload X202.here hx rfl (hb hby at_106) rfl (XS.lload X202.here hx rfl (hb hby at_108) rfl k))))) ?_
        obtain ⟨cq203, kq203, q203a, q203b, q203c⟩ := isOf hZ hh202 p200_0
        obtain ⟨_, _, ⟨T203, L203, k203, n203⟩, -, X203, ⟨Lc203, hQ203, l203, y203, z203⟩, st203⟩ := X202.virtualBack hx (y := (⟨"com/example/floodgauge/floodgauge/latency/SeqTable", "add", "(JJ)I"⟩ : MethodName)) (z := (⟨"com/example/floodgauge/floodgauge/latency/SeqTable", "add", "(JJ)I"⟩ : MethodName)) hown (mvT hZ (wd hw 35 rfl)) (mvT hZ (wd hw 36 rfl)) (notFace_of_selects (args := #[]) (mvT hZ (wd hw 38 rfl))) (mvT hZ (wd hw 38 rfl)) (mvT hZ (wd hw 37 rfl)) (by decide) (backOf (W := 0) (rm_add0 l Z a0 hw [] b194 s1200 s2200 k1200 k2200 v187 q4 T200.heap n0 Z201 O201 p200_0 p200_1 p200_2 p200_3 p200_4 p200_5 p200_8 (Nat.ne_of_lt (Nat.lt_of_lt_of_le A194.lt sz_s1200)) (Nat.ne_of_lt (Nat.lt_of_lt_of_le A194.lt sz_s2200)) (Nat.le_trans Z0 sz_b194) (Nat.le_trans Z195 sz_s1200) (Nat.le_trans Z195 sz_s2200) hpv187) hZ (wd hw 39 rfl) (wd hw 3 rfl) (by decide) (by decide)) q203a q203c (g := (mkF m 110 #[.val (.long q1), .second, .val (.long q2), .second, .val (.long q3), .second, .val (.long q4), .second, .val (.int p5), .val (.long v187), .second, .val (.long v188), .second, .val (.int ad190), .val (.int sel192), .val (.long qq192), .second, .val (.ref b194), .unset, .unset, .unset, .unset, .unset] [(.long q4), (.long v187), (.ref b194)])) rfl (by rw [hml]; rfl) (Steps.refl _) (argsL := [(.long v187), (.long q4)]) (rest := []) (lenOf pd_5 rfl) rfl (by show 2 * 0 + _ ≤ _; exact Nat.le_of_eq rfl) (hb hby at_110) (fun _ _ => ⟨rfl, hh202, Nat.le_of_ble_eq_true rfl, Nat.le_of_ble_eq_true rfl⟩)
        dsimp only [Pt.U, Pt.locs, Pt.cells, Pt.slots] at X203 l203 y203 z203 st203 hQ203
        subst l203 y203 z203
        obtain ⟨r203, rfl, Nq203, K203, p203_0, p203_1, p203_2, p203_3, p203_4, p203_5, p203_6, p203_7⟩ := hQ203
        have N203 := Fr.app N202 Nq203
        have O204 := O201.keep K203 (allS (Nat.le_trans Z0 sz_b194) (allS (Nat.le_trans Z195 sz_s1200) (allS (Nat.le_trans Z195 sz_s2200) all0)))
        have Z204 : n0 ≤ T203.heap.size := Nat.le_trans Z201 K203.1
        refine Go.by (B := (T203.setTop (mkF m 113 #[.val (.long q1), .second, .val (.long q2), .second, .val (.long q3), .second, .val (.long q4), .second, .val (.int p5), .val (.long v187), .second, .val (.long v188), .second, .val (.int ad190), .val (.int sel192), .val (.long qq192), .second, .val (.ref b194), .unset, .unset, .unset, .unset, .unset] [(.int r203)]))) (fun _ k => st203.trans k) ?_
        refine Go.by (B := (T203.setTop (mkF m 117 #[.val (.long q1), .second, .val (.long q2), .second, .val (.long q3), .second, .val (.long q4), .second, .val (.int p5), .val (.long v187), .second, .val (.long v188), .second, .val (.int ad190), .val (.int sel192), .val (.long qq192), .second, .val (.ref b194), .val (.int r203), .unset, .unset, .unset, .unset] [(.int ad190)]))) (fun _ k => XS.istore X203.here hx rfl (hb hby at_113) rfl (l' := #[.val (.long q1), .second, .val (.long q2), .second, .val (.long q3), .second, .val (.long q4), .second, .val (.int p5), .val (.long v187), .second, .val (.long v188), .second, .val (.int ad190), .val (.int sel192), .val (.long qq192), .second, .val (.ref b194), .val (.int r203), .unset, .unset, .unset, .unset]) rfl (XS.iload X203.here hx rfl (hb hby at_115) rfl k)) ?_
        by_cases c205 : ad190 = (0 : Int32)
        · skip
          refine Go.by (B := (T203.setTop (mkF m 138 #[.val (.long q1), .second, .val (.long q2), .second, .val (.long q3), .second, .val (.long q4), .second, .val (.int p5), .val (.long v187), .second, .val (.long v188), .second, .val (.int ad190), .val (.int sel192), .val (.long qq192), .second, .val (.ref b194), .val (.int r203), .unset, .unset, .unset, .unset] [(.long v187), (.ref b194)]))) (fun _ k => XS.ifYes X203.here hx rfl (pc0 := 117) (pc' := 134) rfl (hb hby at_117) rfl ((if0 _ _).trans (teq c205).1) (by decide) (by decide) (XS.aload X203.here hx rfl (hb hby at_134) rfl rfl (XS.lload X203.here hx rfl (hb hby at_136) rfl k))) ?_
          obtain ⟨cq206, kq206, q206a, q206b, q206c⟩ := isOf hZ rfl p203_0
          obtain ⟨_, _, ⟨T206, L206, k206, n206⟩, -, X206, ⟨Lc206, hQ206, l206, y206, z206⟩, st206⟩ := X203.virtualBack hx (y := (⟨"com/example/floodgauge/floodgauge/latency/SeqTable", "slot", "(J)I"⟩ : MethodName)) (z := (⟨"com/example/floodgauge/floodgauge/latency/SeqTable", "slot", "(J)I"⟩ : MethodName)) hown (mvT hZ (wd hw 26 rfl)) (mvT hZ (wd hw 27 rfl)) (notFace_of_selects (args := #[]) (mvT hZ (wd hw 29 rfl))) (mvT hZ (wd hw 29 rfl)) (mvT hZ (wd hw 28 rfl)) (by decide) (backOf (W := 0) (rm_slot1 l Z a0 hw [] b194 s1200 k1200 v187 r203 v187 T203.heap n0 Z204 p203_1 p203_4 hpv187 p203_6 ⟨p203_7.1, p203_7.2⟩) hZ (wd hw 30 rfl) (wd hw 3 rfl) (by decide) (by decide)) q206a q206c (g := (mkF m 138 #[.val (.long q1), .second, .val (.long q2), .second, .val (.long q3), .second, .val (.long q4), .second, .val (.int p5), .val (.long v187), .second, .val (.long v188), .second, .val (.int ad190), .val (.int sel192), .val (.long qq192), .second, .val (.ref b194), .val (.int r203), .unset, .unset, .unset, .unset] [(.long v187), (.ref b194)])) rfl (by rw [hml]; rfl) (Steps.refl _) (argsL := [(.long v187)]) (rest := []) (lenOf pd_4 rfl) rfl (by show 2 * 0 + _ ≤ _; exact Nat.le_of_eq rfl) (hb hby at_138) (fun _ _ => ⟨rfl, rfl, Nat.le_of_ble_eq_true rfl, Nat.le_of_ble_eq_true rfl⟩)
          dsimp only [Pt.U, Pt.locs, Pt.cells, Pt.slots] at X206 l206 y206 z206 st206 hQ206
          subst l206 y206 z206
          obtain ⟨rfl, Nq206, hh206⟩ := hQ206
          have N206 := Fr.app N203 Nq206
          refine Go.by (B := (T206.setTop (mkF m 141 #[.val (.long q1), .second, .val (.long q2), .second, .val (.long q3), .second, .val (.long q4), .second, .val (.int p5), .val (.long v187), .second, .val (.long v188), .second, .val (.int ad190), .val (.int sel192), .val (.long qq192), .second, .val (.ref b194), .val (.int r203), .unset, .unset, .unset, .unset] [(.int (if v187 = v187 then r203 else (-1 : Int32)))]))) (fun _ k => st206.trans k) ?_
          have hs207 : (if v187 = v187 then r203 else (-1 : Int32)) = r203 := if_pos rfl
          rw [hs207]
          refine Go.by (B := (T206.setTop (mkF m 147 #[.val (.long q1), .second, .val (.long q2), .second, .val (.long q3), .second, .val (.long q4), .second, .val (.int p5), .val (.long v187), .second, .val (.long v188), .second, .val (.int ad190), .val (.int sel192), .val (.long qq192), .second, .val (.ref b194), .val (.int r203), .val (.int r203), .unset, .unset, .unset] [(.long v188), (.ref b194)]))) (fun _ k => XS.istore X206.here hx rfl (hb hby at_141) rfl (l' := #[.val (.long q1), .second, .val (.long q2), .second, .val (.long q3), .second, .val (.long q4), .second, .val (.int p5), .val (.long v187), .second, .val (.long v188), .second, .val (.int ad190), .val (.int sel192), .val (.long qq192), .second, .val (.ref b194), .val (.int r203), .val (.int r203), .unset, .unset, .unset]) rfl (XS.aload X206.here hx rfl (hb hby at_143) rfl rfl (XS.lload X206.here hx rfl (hb hby at_145) rfl k))) ?_
          obtain ⟨cq208, kq208, q208a, q208b, q208c⟩ := isOf hZ hh206 p203_0
          obtain ⟨_, _, ⟨T208, L208, k208, n208⟩, -, X208, ⟨Lc208, hQ208, l208, y208, z208⟩, st208⟩ := X206.virtualBack hx (y := (⟨"com/example/floodgauge/floodgauge/latency/SeqTable", "slot", "(J)I"⟩ : MethodName)) (z := (⟨"com/example/floodgauge/floodgauge/latency/SeqTable", "slot", "(J)I"⟩ : MethodName)) hown (mvT hZ (wd hw 26 rfl)) (mvT hZ (wd hw 27 rfl)) (notFace_of_selects (args := #[]) (mvT hZ (wd hw 29 rfl))) (mvT hZ (wd hw 29 rfl)) (mvT hZ (wd hw 28 rfl)) (by decide) (backOf (W := 0) (rm_slot1 l Z a0 hw [] b194 s1200 k1200 v188 r203 v187 T203.heap n0 Z204 p203_1 p203_4 hpv187 p203_6 ⟨p203_7.1, p203_7.2⟩) hZ (wd hw 30 rfl) (wd hw 3 rfl) (by decide) (by decide)) q208a q208c (g := (mkF m 147 #[.val (.long q1), .second, .val (.long q2), .second, .val (.long q3), .second, .val (.long q4), .second, .val (.int p5), .val (.long v187), .second, .val (.long v188), .second, .val (.int ad190), .val (.int sel192), .val (.long qq192), .second, .val (.ref b194), .val (.int r203), .val (.int r203), .unset, .unset, .unset] [(.long v188), (.ref b194)])) rfl (by rw [hml]; rfl) (Steps.refl _) (argsL := [(.long v188)]) (rest := []) (lenOf pd_4 rfl) rfl (by show 2 * 0 + _ ≤ _; exact Nat.le_of_eq rfl) (hb hby at_147) (fun _ _ => ⟨rfl, hh206, Nat.le_of_ble_eq_true rfl, Nat.le_of_ble_eq_true rfl⟩)
          dsimp only [Pt.U, Pt.locs, Pt.cells, Pt.slots] at X208 l208 y208 z208 st208 hQ208
          subst l208 y208 z208
          obtain ⟨rfl, Nq208, hh208⟩ := hQ208
          have N208 := Fr.app N206 Nq208
          refine Go.by (B := (T208.setTop (mkF m 150 #[.val (.long q1), .second, .val (.long q2), .second, .val (.long q3), .second, .val (.long q4), .second, .val (.int p5), .val (.long v187), .second, .val (.long v188), .second, .val (.int ad190), .val (.int sel192), .val (.long qq192), .second, .val (.ref b194), .val (.int r203), .val (.int r203), .unset, .unset, .unset] [(.int (if v187 = v188 then r203 else (-1 : Int32)))]))) (fun _ k => st208.trans k) ?_
          have hs209 : (if v187 = v188 then r203 else (-1 : Int32)) = r203 := if_pos c193
          rw [hs209]
          refine Go.by (B := (T208.setTop (mkF m 156 #[.val (.long q1), .second, .val (.long q2), .second, .val (.long q3), .second, .val (.long q4), .second, .val (.int p5), .val (.long v187), .second, .val (.long v188), .second, .val (.int ad190), .val (.int sel192), .val (.long qq192), .second, .val (.ref b194), .val (.int r203), .val (.int r203), .val (.int r203), .unset, .unset] [(.long qq192), (.ref b194)]))) (fun _ k => XS.istore X208.here hx rfl (hb hby at_150) rfl (l' := #[.val (.long q1), .second, .val (.long q2), .second, .val (.long q3), .second, .val (.long q4), .second, .val (.int p5), .val (.long v187), .second, .val (.long v188), .second, .val (.int ad190), .val (.int sel192), .val (.long qq192), .second, .val (.ref b194), .val (.int r203), .val (.int r203), .val (.int r203), .unset, .unset]) rfl (XS.aload X208.here hx rfl (hb hby at_152) rfl rfl (XS.lload X208.here hx rfl (hb hby at_154) rfl k))) ?_
          obtain ⟨cq210, kq210, q210a, q210b, q210c⟩ := isOf hZ hh208 p203_0
          obtain ⟨_, _, ⟨T210, L210, k210, n210⟩, -, X210, ⟨Lc210, hQ210, l210, y210, z210⟩, st210⟩ := X208.virtualBack hx (y := (⟨"com/example/floodgauge/floodgauge/latency/SeqTable", "slot", "(J)I"⟩ : MethodName)) (z := (⟨"com/example/floodgauge/floodgauge/latency/SeqTable", "slot", "(J)I"⟩ : MethodName)) hown (mvT hZ (wd hw 26 rfl)) (mvT hZ (wd hw 27 rfl)) (notFace_of_selects (args := #[]) (mvT hZ (wd hw 29 rfl))) (mvT hZ (wd hw 29 rfl)) (mvT hZ (wd hw 28 rfl)) (by decide) (backOf (W := 0) (rm_slot1 l Z a0 hw [] b194 s1200 k1200 qq192 r203 v187 T203.heap n0 Z204 p203_1 p203_4 hpv187 p203_6 ⟨p203_7.1, p203_7.2⟩) hZ (wd hw 30 rfl) (wd hw 3 rfl) (by decide) (by decide)) q210a q210c (g := (mkF m 156 #[.val (.long q1), .second, .val (.long q2), .second, .val (.long q3), .second, .val (.long q4), .second, .val (.int p5), .val (.long v187), .second, .val (.long v188), .second, .val (.int ad190), .val (.int sel192), .val (.long qq192), .second, .val (.ref b194), .val (.int r203), .val (.int r203), .val (.int r203), .unset, .unset] [(.long qq192), (.ref b194)])) rfl (by rw [hml]; rfl) (Steps.refl _) (argsL := [(.long qq192)]) (rest := []) (lenOf pd_4 rfl) rfl (by show 2 * 0 + _ ≤ _; exact Nat.le_of_eq rfl) (hb hby at_156) (fun _ _ => ⟨rfl, hh208, Nat.le_of_ble_eq_true rfl, Nat.le_of_ble_eq_true rfl⟩)
          dsimp only [Pt.U, Pt.locs, Pt.cells, Pt.slots] at X210 l210 y210 z210 st210 hQ210
          subst l210 y210 z210
          obtain ⟨rfl, Nq210, hh210⟩ := hQ210
          have N210 := Fr.app N208 Nq210
          refine Go.by (B := (T210.setTop (mkF m 159 #[.val (.long q1), .second, .val (.long q2), .second, .val (.long q3), .second, .val (.long q4), .second, .val (.int p5), .val (.long v187), .second, .val (.long v188), .second, .val (.int ad190), .val (.int sel192), .val (.long qq192), .second, .val (.ref b194), .val (.int r203), .val (.int r203), .val (.int r203), .unset, .unset] [(.int (if v187 = qq192 then r203 else (-1 : Int32)))]))) (fun _ k => st210.trans k) ?_
          rcases Classical.em (v187 = qq192) with c211 | c211
          · skip
            have hs212 : (if v187 = qq192 then r203 else (-1 : Int32)) = r203 := if_pos c211
            rw [hs212]
            refine Go.by (B := (T210.setTop (mkF m 170 #[.val (.long q1), .second, .val (.long q2), .second, .val (.long q3), .second, .val (.long q4), .second, .val (.int p5), .val (.long v187), .second, .val (.long v188), .second, .val (.int ad190), .val (.int sel192), .val (.long qq192), .second, .val (.ref b194), .val (.int r203), .val (.int r203), .val (.int r203), .val (.int r203), .unset] [(.int r203), (.ref b194)]))) (fun _ k => XS.istore X210.here hx rfl (hb hby at_159) rfl (l' := #[.val (.long q1), .second, .val (.long q2), .second, .val (.long q3), .second, .val (.long q4), .second, .val (.int p5), .val (.long v187), .second, .val (.long v188), .second, .val (.int ad190), .val (.int sel192), .val (.long qq192), .second, .val (.ref b194), .val (.int r203), .val (.int r203), .val (.int r203), .val (.int r203), .unset]) rfl (XS.iload X210.here hx rfl (hb hby at_161) rfl (XS.ifNo X210.here hx rfl (hb hby at_163) rfl ((if0 _ _).trans (flt p203_7.1).1) (XS.aload X210.here hx rfl (hb hby at_166) rfl rfl (XS.iload X210.here hx rfl (hb hby at_168) rfl k))))) ?_
            obtain ⟨cq213, kq213, q213a, q213b, q213c⟩ := isOf hZ hh210 p203_0
            obtain ⟨_, _, ⟨T213, L213, k213, n213⟩, -, X213, ⟨Lc213, hQ213, l213, y213, z213⟩, st213⟩ := X210.virtualBack hx (y := (⟨"com/example/floodgauge/floodgauge/latency/SeqTable", "value", "(I)J"⟩ : MethodName)) (z := (⟨"com/example/floodgauge/floodgauge/latency/SeqTable", "value", "(I)J"⟩ : MethodName)) hown (mvT hZ (wd hw 44 rfl)) (mvT hZ (wd hw 45 rfl)) (notFace_of_selects (args := #[]) (mvT hZ (wd hw 47 rfl))) (mvT hZ (wd hw 47 rfl)) (mvT hZ (wd hw 46 rfl)) (by decide) (backOf (W := 0) (rm_val1 l Z a0 hw [] b194 s2200 k2200 r203 q4 T203.heap n0 Z204 p203_2 p203_5 ⟨p203_7.1, p203_7.2⟩) hZ (wd hw 48 rfl) (wd hw 3 rfl) (by decide) (by decide)) q213a q213c (g := (mkF m 170 #[.val (.long q1), .second, .val (.long q2), .second, .val (.long q3), .second, .val (.long q4), .second, .val (.int p5), .val (.long v187), .second, .val (.long v188), .second, .val (.int ad190), .val (.int sel192), .val (.long qq192), .second, .val (.ref b194), .val (.int r203), .val (.int r203), .val (.int r203), .val (.int r203), .unset] [(.int r203), (.ref b194)])) rfl (by rw [hml]; rfl) (Steps.refl _) (argsL := [(.int r203)]) (rest := []) (lenOf pd_6 rfl) rfl (by show 2 * 0 + _ ≤ _; exact Nat.le_of_eq rfl) (hb hby at_170) (fun _ _ => ⟨rfl, hh210, Nat.le_of_ble_eq_true rfl, Nat.le_of_ble_eq_true rfl⟩)
            dsimp only [Pt.U, Pt.locs, Pt.cells, Pt.slots] at X213 l213 y213 z213 st213 hQ213
            subst l213 y213 z213
            obtain ⟨rfl, Nq213, hh213⟩ := hQ213
            have N213 := Fr.app N210 Nq213
            refine Go.by (B := (T213.setTop (mkF m 173 #[.val (.long q1), .second, .val (.long q2), .second, .val (.long q3), .second, .val (.long q4), .second, .val (.int p5), .val (.long v187), .second, .val (.long v188), .second, .val (.int ad190), .val (.int sel192), .val (.long qq192), .second, .val (.ref b194), .val (.int r203), .val (.int r203), .val (.int r203), .val (.int r203), .unset] [(.long q4)]))) (fun _ k => st213.trans k) ?_
            refine Go.by (B := (T213.setTop (mkF m 203 #[.val (.long q1), .second, .val (.long q2), .second, .val (.long q3), .second, .val (.long q4), .second, .val (.int p5), .val (.long v187), .second, .val (.long v188), .second, .val (.int ad190), .val (.int sel192), .val (.long qq192), .second, .val (.ref b194), .val (.int r203), .val (.int r203), .val (.int r203), .val (.int r203), .unset] []))) (fun _ k => XS.lload X213.here hx rfl (hb hby at_173) rfl (XS.lcmp X213.here hx rfl (hb hby at_175) rfl (XS.ifYes X213.here hx rfl (pc0 := 176) (pc' := 181) rfl (hb hby at_176) rfl ((if0 _ _).trans (teq ((lw_eq _ _).mpr (rfl : q4 = q4))).1) (by decide) (by decide) (XS.iload X213.here hx rfl (hb hby at_181) rfl (XS.ifYes X213.here hx rfl (pc0 := 183) (pc' := 194) rfl (hb hby at_183) rfl ((if0 _ _).trans (teq c205).1) (by decide) (by decide) (XS.iload X213.here hx rfl (hb hby at_194) rfl (XS.iload X213.here hx rfl (hb hby at_196) rfl (XS.icmpYes X213.here hx rfl (pc0 := 198) (pc' := 203) rfl (hb hby at_198) rfl (teq (rfl : r203 = r203)).1 (by decide) (by decide) k)))))))) ?_
            refine Go.by (B := (T213.setTop (mkF m 266 #[.val (.long q1), .second, .val (.long q2), .second, .val (.long q3), .second, .val (.long q4), .second, .val (.int p5), .val (.long v187), .second, .val (.long v188), .second, .val (.int ad190), .val (.int sel192), .val (.long qq192), .second, .val (.ref b194), .val (.int r203), .val (.int r203), .val (.int r203), .val (.int r203), .unset] [(.long qq192)]))) (fun _ k => XS.lload X213.here hx rfl (hb hby at_203) rfl (XS.lload X213.here hx rfl (hb hby at_205) rfl (XS.lcmp X213.here hx rfl (hb hby at_207) rfl (XS.ifNo X213.here hx rfl (hb hby at_208) rfl ((if0 _ _).trans (teq ((lw_eq _ _).mpr (c193).symm)).2) (XS.iload X213.here hx rfl (hb hby at_211) rfl (XS.iload X213.here hx rfl (hb hby at_213) rfl (XS.icmpYes X213.here hx rfl (pc0 := 215) (pc' := 264) rfl (hb hby at_215) rfl (teq (rfl : r203 = r203)).1 (by decide) (by decide) (XS.lload X213.here hx rfl (hb hby at_264) rfl k)))))))) ?_
            refine Go.by (B := (T213.setTop (mkF m 287 #[.val (.long q1), .second, .val (.long q2), .second, .val (.long q3), .second, .val (.long q4), .second, .val (.int p5), .val (.long v187), .second, .val (.long v188), .second, .val (.int ad190), .val (.int sel192), .val (.long qq192), .second, .val (.ref b194), .val (.int r203), .val (.int r203), .val (.int r203), .val (.int r203), .unset] [(.int r203)]))) (fun _ k => XS.lconst X213.here hx rfl (hb hby at_266) (XS.lcmp X213.here hx rfl (hb hby at_267) rfl (XS.ifYes X213.here hx rfl (pc0 := 268) (pc' := 277) rfl (hb hby at_268) rfl ((if0 _ _).trans (flt (fun q => (fun h => hpv187 (by rw [c211]; exact h) : ¬ (qq192 < (0 : Int64))) ((lw_lt _ _).mp q))).2.1) (by decide) (by decide) (XS.lload X213.here hx rfl (hb hby at_277) rfl (XS.lload X213.here hx rfl (hb hby at_279) rfl (XS.lcmp X213.here hx rfl (hb hby at_281) rfl (XS.ifNo X213.here hx rfl (hb hby at_282) rfl ((if0 _ _).trans (teq ((lw_eq _ _).mpr (c211).symm)).2) (XS.iload X213.here hx rfl (hb hby at_285) rfl k)))))))) ?_
            refine Go.by (B := (T213.setTop (mkF m 327 #[.val (.long q1), .second, .val (.long q2), .second, .val (.long q3), .second, .val (.long q4), .second, .val (.int p5), .val (.long v187), .second, .val (.long v188), .second, .val (.int ad190), .val (.int sel192), .val (.long qq192), .second, .val (.ref b194), .val (.int r203), .val (.int r203), .val (.int r203), .val (.int r203), .val (.int r203)] [(.int 1)]))) (fun _ k => XS.istore X213.here hx rfl (hb hby at_287) rfl (l' := #[.val (.long q1), .second, .val (.long q2), .second, .val (.long q3), .second, .val (.long q4), .second, .val (.int p5), .val (.long v187), .second, .val (.long v188), .second, .val (.int ad190), .val (.int sel192), .val (.long qq192), .second, .val (.ref b194), .val (.int r203), .val (.int r203), .val (.int r203), .val (.int r203), .val (.int r203)]) rfl (XS.goto X213.here hx rfl (pc0 := 289) (pc' := 315) rfl (hb hby at_289) (by decide) (by decide) (XS.iload X213.here hx rfl (hb hby at_315) rfl (XS.iload X213.here hx rfl (hb hby at_317) rfl (XS.icmpNo X213.here hx rfl (hb hby at_319) rfl (teq (rfl : r203 = r203)).2 (XS.iconst X213.here hx rfl (hb hby at_322) (XS.goto X213.here hx rfl (pc0 := 323) (pc' := 327) rfl (hb hby at_323) (by decide) (by decide) k))))))) ?_
            refine Go.ret X213 hx hlk (t := .boolean) hret rfl (Or.inl ⟨rfl, by simp, _, rfl⟩) (hb hby at_327) (by decide) (by decide) ?_
            exact ⟨rfl, N213⟩
          · skip
            have hs214 : (if v187 = qq192 then r203 else (-1 : Int32)) = (-1 : Int32) := if_neg c211
            rw [hs214]
            refine Go.by (B := (T210.setTop (mkF m 170 #[.val (.long q1), .second, .val (.long q2), .second, .val (.long q3), .second, .val (.long q4), .second, .val (.int p5), .val (.long v187), .second, .val (.long v188), .second, .val (.int ad190), .val (.int sel192), .val (.long qq192), .second, .val (.ref b194), .val (.int r203), .val (.int r203), .val (.int r203), .val (.int (-1 : Int32)), .unset] [(.int r203), (.ref b194)]))) (fun _ k => XS.istore X210.here hx rfl (hb hby at_159) rfl (l' := #[.val (.long q1), .second, .val (.long q2), .second, .val (.long q3), .second, .val (.long q4), .second, .val (.int p5), .val (.long v187), .second, .val (.long v188), .second, .val (.int ad190), .val (.int sel192), .val (.long qq192), .second, .val (.ref b194), .val (.int r203), .val (.int r203), .val (.int r203), .val (.int (-1 : Int32)), .unset]) rfl (XS.iload X210.here hx rfl (hb hby at_161) rfl (XS.ifNo X210.here hx rfl (hb hby at_163) rfl ((if0 _ _).trans (flt p203_7.1).1) (XS.aload X210.here hx rfl (hb hby at_166) rfl rfl (XS.iload X210.here hx rfl (hb hby at_168) rfl k))))) ?_
            obtain ⟨cq215, kq215, q215a, q215b, q215c⟩ := isOf hZ hh210 p203_0
            obtain ⟨_, _, ⟨T215, L215, k215, n215⟩, -, X215, ⟨Lc215, hQ215, l215, y215, z215⟩, st215⟩ := X210.virtualBack hx (y := (⟨"com/example/floodgauge/floodgauge/latency/SeqTable", "value", "(I)J"⟩ : MethodName)) (z := (⟨"com/example/floodgauge/floodgauge/latency/SeqTable", "value", "(I)J"⟩ : MethodName)) hown (mvT hZ (wd hw 44 rfl)) (mvT hZ (wd hw 45 rfl)) (notFace_of_selects (args := #[]) (mvT hZ (wd hw 47 rfl))) (mvT hZ (wd hw 47 rfl)) (mvT hZ (wd hw 46 rfl)) (by decide) (backOf (W := 0) (rm_val1 l Z a0 hw [] b194 s2200 k2200 r203 q4 T203.heap n0 Z204 p203_2 p203_5 ⟨p203_7.1, p203_7.2⟩) hZ (wd hw 48 rfl) (wd hw 3 rfl) (by decide) (by decide)) q215a q215c (g := (mkF m 170 #[.val (.long q1), .second, .val (.long q2), .second, .val (.long q3), .second, .val (.long q4), .second, .val (.int p5), .val (.long v187), .second, .val (.long v188), .second, .val (.int ad190), .val (.int sel192), .val (.long qq192), .second, .val (.ref b194), .val (.int r203), .val (.int r203), .val (.int r203), .val (.int (-1 : Int32)), .unset] [(.int r203), (.ref b194)])) rfl (by rw [hml]; rfl) (Steps.refl _) (argsL := [(.int r203)]) (rest := []) (lenOf pd_6 rfl) rfl (by show 2 * 0 + _ ≤ _; exact Nat.le_of_eq rfl) (hb hby at_170) (fun _ _ => ⟨rfl, hh210, Nat.le_of_ble_eq_true rfl, Nat.le_of_ble_eq_true rfl⟩)
            dsimp only [Pt.U, Pt.locs, Pt.cells, Pt.slots] at X215 l215 y215 z215 st215 hQ215
            subst l215 y215 z215
            obtain ⟨rfl, Nq215, hh215⟩ := hQ215
            have N215 := Fr.app N210 Nq215
            refine Go.by (B := (T215.setTop (mkF m 173 #[.val (.long q1), .second, .val (.long q2), .second, .val (.long q3), .second, .val (.long q4), .second, .val (.int p5), .val (.long v187), .second, .val (.long v188), .second, .val (.int ad190), .val (.int sel192), .val (.long qq192), .second, .val (.ref b194), .val (.int r203), .val (.int r203), .val (.int r203), .val (.int (-1 : Int32)), .unset] [(.long q4)]))) (fun _ k => st215.trans k) ?_
            refine Go.by (B := (T215.setTop (mkF m 203 #[.val (.long q1), .second, .val (.long q2), .second, .val (.long q3), .second, .val (.long q4), .second, .val (.int p5), .val (.long v187), .second, .val (.long v188), .second, .val (.int ad190), .val (.int sel192), .val (.long qq192), .second, .val (.ref b194), .val (.int r203), .val (.int r203), .val (.int r203), .val (.int (-1 : Int32)), .unset] []))) (fun _ k => XS.lload X215.here hx rfl (hb hby at_173) rfl (XS.lcmp X215.here hx rfl (hb hby at_175) rfl (XS.ifYes X215.here hx rfl (pc0 := 176) (pc' := 181) rfl (hb hby at_176) rfl ((if0 _ _).trans (teq ((lw_eq _ _).mpr (rfl : q4 = q4))).1) (by decide) (by decide) (XS.iload X215.here hx rfl (hb hby at_181) rfl (XS.ifYes X215.here hx rfl (pc0 := 183) (pc' := 194) rfl (hb hby at_183) rfl ((if0 _ _).trans (teq c205).1) (by decide) (by decide) (XS.iload X215.here hx rfl (hb hby at_194) rfl (XS.iload X215.here hx rfl (hb hby at_196) rfl (XS.icmpYes X215.here hx rfl (pc0 := 198) (pc' := 203) rfl (hb hby at_198) rfl (teq (rfl : r203 = r203)).1 (by decide) (by decide) k)))))))) ?_
            refine Go.by (B := (T215.setTop (mkF m 266 #[.val (.long q1), .second, .val (.long q2), .second, .val (.long q3), .second, .val (.long q4), .second, .val (.int p5), .val (.long v187), .second, .val (.long v188), .second, .val (.int ad190), .val (.int sel192), .val (.long qq192), .second, .val (.ref b194), .val (.int r203), .val (.int r203), .val (.int r203), .val (.int (-1 : Int32)), .unset] [(.long qq192)]))) (fun _ k => XS.lload X215.here hx rfl (hb hby at_203) rfl (XS.lload X215.here hx rfl (hb hby at_205) rfl (XS.lcmp X215.here hx rfl (hb hby at_207) rfl (XS.ifNo X215.here hx rfl (hb hby at_208) rfl ((if0 _ _).trans (teq ((lw_eq _ _).mpr (c193).symm)).2) (XS.iload X215.here hx rfl (hb hby at_211) rfl (XS.iload X215.here hx rfl (hb hby at_213) rfl (XS.icmpYes X215.here hx rfl (pc0 := 215) (pc' := 264) rfl (hb hby at_215) rfl (teq (rfl : r203 = r203)).1 (by decide) (by decide) (XS.lload X215.here hx rfl (hb hby at_264) rfl k)))))))) ?_
            refine Go.by (B := (T215.setTop (mkF m 268 #[.val (.long q1), .second, .val (.long q2), .second, .val (.long q3), .second, .val (.long q4), .second, .val (.int p5), .val (.long v187), .second, .val (.long v188), .second, .val (.int ad190), .val (.int sel192), .val (.long qq192), .second, .val (.ref b194), .val (.int r203), .val (.int r203), .val (.int r203), .val (.int (-1 : Int32)), .unset] [(.int (lcmpW qq192 (0 : Int64)))]))) (fun _ k => XS.lconst X215.here hx rfl (hb hby at_266) (XS.lcmp X215.here hx rfl (hb hby at_267) rfl k)) ?_
            by_cases c216 : qq192 < (0 : Int64)
            · skip
              refine Go.by (B := (T215.setTop (mkF m 323 #[.val (.long q1), .second, .val (.long q2), .second, .val (.long q3), .second, .val (.long q4), .second, .val (.int p5), .val (.long v187), .second, .val (.long v188), .second, .val (.int ad190), .val (.int sel192), .val (.long qq192), .second, .val (.ref b194), .val (.int r203), .val (.int r203), .val (.int r203), .val (.int (-1 : Int32)), .val (.int (-1 : Int32))] [(.int 1)]))) (fun _ k => XS.ifNo X215.here hx rfl (hb hby at_268) rfl ((if0 _ _).trans (tlt ((lw_lt _ _).mpr c216)).2.1) (XS.iconst X215.here hx rfl (hb hby at_271) (XS.istore X215.here hx rfl (hb hby at_272) rfl (l' := #[.val (.long q1), .second, .val (.long q2), .second, .val (.long q3), .second, .val (.long q4), .second, .val (.int p5), .val (.long v187), .second, .val (.long v188), .second, .val (.int ad190), .val (.int sel192), .val (.long qq192), .second, .val (.ref b194), .val (.int r203), .val (.int r203), .val (.int r203), .val (.int (-1 : Int32)), .val (.int (-1 : Int32))]) rfl (XS.goto X215.here hx rfl (pc0 := 274) (pc' := 315) rfl (hb hby at_274) (by decide) (by decide) (XS.iload X215.here hx rfl (hb hby at_315) rfl (XS.iload X215.here hx rfl (hb hby at_317) rfl (XS.icmpNo X215.here hx rfl (hb hby at_319) rfl (teq (by decide : (-1 : Int32) = (-1 : Int32))).2 (XS.iconst X215.here hx rfl (hb hby at_322) k)))))))) ?_
              refine Go.by (B := (T215.setTop (mkF m 327 #[.val (.long q1), .second, .val (.long q2), .second, .val (.long q3), .second, .val (.long q4), .second, .val (.int p5), .val (.long v187), .second, .val (.long v188), .second, .val (.int ad190), .val (.int sel192), .val (.long qq192), .second, .val (.ref b194), .val (.int r203), .val (.int r203), .val (.int r203), .val (.int (-1 : Int32)), .val (.int (-1 : Int32))] [(.int 1)]))) (fun _ k => XS.goto X215.here hx rfl (pc0 := 323) (pc' := 327) rfl (hb hby at_323) (by decide) (by decide) k) ?_
              refine Go.ret X215 hx hlk (t := .boolean) hret rfl (Or.inl ⟨rfl, by simp, _, rfl⟩) (hb hby at_327) (by decide) (by decide) ?_
              exact ⟨rfl, N215⟩
            · skip
              refine Go.by (B := (T215.setTop (mkF m 313 #[.val (.long q1), .second, .val (.long q2), .second, .val (.long q3), .second, .val (.long q4), .second, .val (.int p5), .val (.long v187), .second, .val (.long v188), .second, .val (.int ad190), .val (.int sel192), .val (.long qq192), .second, .val (.ref b194), .val (.int r203), .val (.int r203), .val (.int r203), .val (.int (-1 : Int32)), .unset] [(.int (-1 : Int32))]))) (fun _ k => XS.ifYes X215.here hx rfl (pc0 := 268) (pc' := 277) rfl (hb hby at_268) rfl ((if0 _ _).trans (flt (fun q => c216 ((lw_lt _ _).mp q))).2.1) (by decide) (by decide) (XS.lload X215.here hx rfl (hb hby at_277) rfl (XS.lload X215.here hx rfl (hb hby at_279) rfl (XS.lcmp X215.here hx rfl (hb hby at_281) rfl (XS.ifYes X215.here hx rfl (pc0 := 282) (pc' := 292) rfl (hb hby at_282) rfl ((if0 _ _).trans (feq (fun q => (fun q => c211 q.symm) ((lw_eq _ _).mp q))).2) (by decide) (by decide) (XS.iload X215.here hx rfl (hb hby at_292) rfl (XS.ifYes X215.here hx rfl (pc0 := 294) (pc' := 312) rfl (hb hby at_294) rfl ((if0 _ _).trans (teq c205).1) (by decide) (by decide) (XS.iconst X215.here hx rfl (hb hby at_312) k)))))))) ?_
              refine Go.by (B := (T215.setTop (mkF m 327 #[.val (.long q1), .second, .val (.long q2), .second, .val (.long q3), .second, .val (.long q4), .second, .val (.int p5), .val (.long v187), .second, .val (.long v188), .second, .val (.int ad190), .val (.int sel192), .val (.long qq192), .second, .val (.ref b194), .val (.int r203), .val (.int r203), .val (.int r203), .val (.int (-1 : Int32)), .val (.int (-1 : Int32))] [(.int 1)]))) (fun _ k => XS.istore X215.here hx rfl (hb hby at_313) rfl (l' := #[.val (.long q1), .second, .val (.long q2), .second, .val (.long q3), .second, .val (.long q4), .second, .val (.int p5), .val (.long v187), .second, .val (.long v188), .second, .val (.int ad190), .val (.int sel192), .val (.long qq192), .second, .val (.ref b194), .val (.int r203), .val (.int r203), .val (.int r203), .val (.int (-1 : Int32)), .val (.int (-1 : Int32))]) rfl (XS.iload X215.here hx rfl (hb hby at_315) rfl (XS.iload X215.here hx rfl (hb hby at_317) rfl (XS.icmpNo X215.here hx rfl (hb hby at_319) rfl (teq (by decide : (-1 : Int32) = (-1 : Int32))).2 (XS.iconst X215.here hx rfl (hb hby at_322) (XS.goto X215.here hx rfl (pc0 := 323) (pc' := 327) rfl (hb hby at_323) (by decide) (by decide) k)))))) ?_
              refine Go.ret X215 hx hlk (t := .boolean) hret rfl (Or.inl ⟨rfl, by simp, _, rfl⟩) (hb hby at_327) (by decide) (by decide) ?_
              exact ⟨rfl, N215⟩
        · skip
          refine Go.by (B := (T203.setTop (mkF m 130 #[.val (.long q1), .second, .val (.long q2), .second, .val (.long q3), .second, .val (.long q4), .second, .val (.int p5), .val (.long v187), .second, .val (.long v188), .second, .val (.int ad190), .val (.int sel192), .val (.long qq192), .second, .val (.ref b194), .val (.int r203), .unset, .unset, .unset, .unset] [(.long (q4 ^^^ (-1 : Int64))), (.long v188), (.ref b194)]))) (fun _ k => XS.ifNo X203.here hx rfl (hb hby at_117) rfl ((if0 _ _).trans (feq c205).1) (XS.aload X203.here hx rfl (hb hby at_120) rfl rfl (XS.lload X203.here hx rfl (hb hby at_122) rfl (XS.lload X203.here hx rfl (hb hby at_124) rfl (X203.ldc2Long hx hown (mvT hZ (wd hw 43 rfl)) (g := (mkF m 126 #[.val (.long q1), .second, .val (.long q2), .second, .val (.long q3), .second, .val (.long q4), .second, .val (.int p5), .val (.long v187), .second, .val (.long v188), .second, .val (.int ad190), .val (.int sel192), .val (.long qq192), .second, .val (.ref b194), .val (.int r203), .unset, .unset, .unset, .unset] [(.long q4), (.long v188), (.ref b194)])) rfl (hb hby at_126) _ (XS.lxor X203.here hx rfl (hb hby at_129) rfl k)))))) ?_
          obtain ⟨cq217, kq217, q217a, q217b, q217c⟩ := isOf hZ rfl p203_0
          obtain ⟨_, _, ⟨T217, L217, k217, n217⟩, -, X217, ⟨Lc217, hQ217, l217, y217, z217⟩, st217⟩ := X203.virtualBack hx (y := (⟨"com/example/floodgauge/floodgauge/latency/SeqTable", "add", "(JJ)I"⟩ : MethodName)) (z := (⟨"com/example/floodgauge/floodgauge/latency/SeqTable", "add", "(JJ)I"⟩ : MethodName)) hown (mvT hZ (wd hw 35 rfl)) (mvT hZ (wd hw 36 rfl)) (notFace_of_selects (args := #[]) (mvT hZ (wd hw 38 rfl))) (mvT hZ (wd hw 38 rfl)) (mvT hZ (wd hw 37 rfl)) (by decide) (backOf (W := 0) (rm_add1s l Z a0 hw [] b194 s1200 k1200 v188 (q4 ^^^ (-1 : Int64)) r203 v187 T203.heap n0 Z204 O204 p203_0 p203_1 p203_4 hpv187 p203_6 ⟨p203_7.1, p203_7.2⟩ hpv188 c193) hZ (wd hw 39 rfl) (wd hw 3 rfl) (by decide) (by decide)) q217a q217c (g := (mkF m 130 #[.val (.long q1), .second, .val (.long q2), .second, .val (.long q3), .second, .val (.long q4), .second, .val (.int p5), .val (.long v187), .second, .val (.long v188), .second, .val (.int ad190), .val (.int sel192), .val (.long qq192), .second, .val (.ref b194), .val (.int r203), .unset, .unset, .unset, .unset] [(.long (q4 ^^^ (-1 : Int64))), (.long v188), (.ref b194)])) rfl (by rw [hml]; rfl) (Steps.refl _) (argsL := [(.long v188), (.long (q4 ^^^ (-1 : Int64)))]) (rest := []) (lenOf pd_5 rfl) rfl (by show 2 * 0 + _ ≤ _; exact Nat.le_of_eq rfl) (hb hby at_130) (fun _ _ => ⟨rfl, rfl, Nat.le_of_ble_eq_true rfl, Nat.le_of_ble_eq_true rfl⟩)
          dsimp only [Pt.U, Pt.locs, Pt.cells, Pt.slots] at X217 l217 y217 z217 st217 hQ217
          subst l217 y217 z217
          obtain ⟨r217, rfl, Nq217, hh217, p217_0⟩ := hQ217
          have N217 := Fr.app N203 Nq217
          refine Go.by (B := (T217.setTop (mkF m 133 #[.val (.long q1), .second, .val (.long q2), .second, .val (.long q3), .second, .val (.long q4), .second, .val (.int p5), .val (.long v187), .second, .val (.long v188), .second, .val (.int ad190), .val (.int sel192), .val (.long qq192), .second, .val (.ref b194), .val (.int r203), .unset, .unset, .unset, .unset] [(.int r217)]))) (fun _ k => st217.trans k) ?_
          refine Go.by (B := (T217.setTop (mkF m 138 #[.val (.long q1), .second, .val (.long q2), .second, .val (.long q3), .second, .val (.long q4), .second, .val (.int p5), .val (.long v187), .second, .val (.long v188), .second, .val (.int ad190), .val (.int sel192), .val (.long qq192), .second, .val (.ref b194), .val (.int r203), .unset, .unset, .unset, .unset] [(.long v187), (.ref b194)]))) (fun _ k => XS.pop X217.here hx rfl (hb hby at_133) rfl rfl (XS.aload X217.here hx rfl (hb hby at_134) rfl rfl (XS.lload X217.here hx rfl (hb hby at_136) rfl k))) ?_
          obtain ⟨cq218, kq218, q218a, q218b, q218c⟩ := isOf hZ hh217 p203_0
          obtain ⟨_, _, ⟨T218, L218, k218, n218⟩, -, X218, ⟨Lc218, hQ218, l218, y218, z218⟩, st218⟩ := X217.virtualBack hx (y := (⟨"com/example/floodgauge/floodgauge/latency/SeqTable", "slot", "(J)I"⟩ : MethodName)) (z := (⟨"com/example/floodgauge/floodgauge/latency/SeqTable", "slot", "(J)I"⟩ : MethodName)) hown (mvT hZ (wd hw 26 rfl)) (mvT hZ (wd hw 27 rfl)) (notFace_of_selects (args := #[]) (mvT hZ (wd hw 29 rfl))) (mvT hZ (wd hw 29 rfl)) (mvT hZ (wd hw 28 rfl)) (by decide) (backOf (W := 0) (rm_slot1 l Z a0 hw [] b194 s1200 k1200 v187 r203 v187 T203.heap n0 Z204 p203_1 p203_4 hpv187 p203_6 ⟨p203_7.1, p203_7.2⟩) hZ (wd hw 30 rfl) (wd hw 3 rfl) (by decide) (by decide)) q218a q218c (g := (mkF m 138 #[.val (.long q1), .second, .val (.long q2), .second, .val (.long q3), .second, .val (.long q4), .second, .val (.int p5), .val (.long v187), .second, .val (.long v188), .second, .val (.int ad190), .val (.int sel192), .val (.long qq192), .second, .val (.ref b194), .val (.int r203), .unset, .unset, .unset, .unset] [(.long v187), (.ref b194)])) rfl (by rw [hml]; rfl) (Steps.refl _) (argsL := [(.long v187)]) (rest := []) (lenOf pd_4 rfl) rfl (by show 2 * 0 + _ ≤ _; exact Nat.le_of_eq rfl) (hb hby at_138) (fun _ _ => ⟨rfl, hh217, Nat.le_of_ble_eq_true rfl, Nat.le_of_ble_eq_true rfl⟩)
          dsimp only [Pt.U, Pt.locs, Pt.cells, Pt.slots] at X218 l218 y218 z218 st218 hQ218
          subst l218 y218 z218
          obtain ⟨rfl, Nq218, hh218⟩ := hQ218
          have N218 := Fr.app N217 Nq218
          refine Go.by (B := (T218.setTop (mkF m 141 #[.val (.long q1), .second, .val (.long q2), .second, .val (.long q3), .second, .val (.long q4), .second, .val (.int p5), .val (.long v187), .second, .val (.long v188), .second, .val (.int ad190), .val (.int sel192), .val (.long qq192), .second, .val (.ref b194), .val (.int r203), .unset, .unset, .unset, .unset] [(.int (if v187 = v187 then r203 else (-1 : Int32)))]))) (fun _ k => st218.trans k) ?_
          have hs219 : (if v187 = v187 then r203 else (-1 : Int32)) = r203 := if_pos rfl
          rw [hs219]
          refine Go.by (B := (T218.setTop (mkF m 147 #[.val (.long q1), .second, .val (.long q2), .second, .val (.long q3), .second, .val (.long q4), .second, .val (.int p5), .val (.long v187), .second, .val (.long v188), .second, .val (.int ad190), .val (.int sel192), .val (.long qq192), .second, .val (.ref b194), .val (.int r203), .val (.int r203), .unset, .unset, .unset] [(.long v188), (.ref b194)]))) (fun _ k => XS.istore X218.here hx rfl (hb hby at_141) rfl (l' := #[.val (.long q1), .second, .val (.long q2), .second, .val (.long q3), .second, .val (.long q4), .second, .val (.int p5), .val (.long v187), .second, .val (.long v188), .second, .val (.int ad190), .val (.int sel192), .val (.long qq192), .second, .val (.ref b194), .val (.int r203), .val (.int r203), .unset, .unset, .unset]) rfl (XS.aload X218.here hx rfl (hb hby at_143) rfl rfl (XS.lload X218.here hx rfl (hb hby at_145) rfl k))) ?_
          obtain ⟨cq220, kq220, q220a, q220b, q220c⟩ := isOf hZ hh218 p203_0
          obtain ⟨_, _, ⟨T220, L220, k220, n220⟩, -, X220, ⟨Lc220, hQ220, l220, y220, z220⟩, st220⟩ := X218.virtualBack hx (y := (⟨"com/example/floodgauge/floodgauge/latency/SeqTable", "slot", "(J)I"⟩ : MethodName)) (z := (⟨"com/example/floodgauge/floodgauge/latency/SeqTable", "slot", "(J)I"⟩ : MethodName)) hown (mvT hZ (wd hw 26 rfl)) (mvT hZ (wd hw 27 rfl)) (notFace_of_selects (args := #[]) (mvT hZ (wd hw 29 rfl))) (mvT hZ (wd hw 29 rfl)) (mvT hZ (wd hw 28 rfl)) (by decide) (backOf (W := 0) (rm_slot1 l Z a0 hw [] b194 s1200 k1200 v188 r203 v187 T203.heap n0 Z204 p203_1 p203_4 hpv187 p203_6 ⟨p203_7.1, p203_7.2⟩) hZ (wd hw 30 rfl) (wd hw 3 rfl) (by decide) (by decide)) q220a q220c (g := (mkF m 147 #[.val (.long q1), .second, .val (.long q2), .second, .val (.long q3), .second, .val (.long q4), .second, .val (.int p5), .val (.long v187), .second, .val (.long v188), .second, .val (.int ad190), .val (.int sel192), .val (.long qq192), .second, .val (.ref b194), .val (.int r203), .val (.int r203), .unset, .unset, .unset] [(.long v188), (.ref b194)])) rfl (by rw [hml]; rfl) (Steps.refl _) (argsL := [(.long v188)]) (rest := []) (lenOf pd_4 rfl) rfl (by show 2 * 0 + _ ≤ _; exact Nat.le_of_eq rfl) (hb hby at_147) (fun _ _ => ⟨rfl, hh218, Nat.le_of_ble_eq_true rfl, Nat.le_of_ble_eq_true rfl⟩)
          dsimp only [Pt.U, Pt.locs, Pt.cells, Pt.slots] at X220 l220 y220 z220 st220 hQ220
          subst l220 y220 z220
          obtain ⟨rfl, Nq220, hh220⟩ := hQ220
          have N220 := Fr.app N218 Nq220
          refine Go.by (B := (T220.setTop (mkF m 150 #[.val (.long q1), .second, .val (.long q2), .second, .val (.long q3), .second, .val (.long q4), .second, .val (.int p5), .val (.long v187), .second, .val (.long v188), .second, .val (.int ad190), .val (.int sel192), .val (.long qq192), .second, .val (.ref b194), .val (.int r203), .val (.int r203), .unset, .unset, .unset] [(.int (if v187 = v188 then r203 else (-1 : Int32)))]))) (fun _ k => st220.trans k) ?_
          have hs221 : (if v187 = v188 then r203 else (-1 : Int32)) = r203 := if_pos c193
          rw [hs221]
          refine Go.by (B := (T220.setTop (mkF m 156 #[.val (.long q1), .second, .val (.long q2), .second, .val (.long q3), .second, .val (.long q4), .second, .val (.int p5), .val (.long v187), .second, .val (.long v188), .second, .val (.int ad190), .val (.int sel192), .val (.long qq192), .second, .val (.ref b194), .val (.int r203), .val (.int r203), .val (.int r203), .unset, .unset] [(.long qq192), (.ref b194)]))) (fun _ k => XS.istore X220.here hx rfl (hb hby at_150) rfl (l' := #[.val (.long q1), .second, .val (.long q2), .second, .val (.long q3), .second, .val (.long q4), .second, .val (.int p5), .val (.long v187), .second, .val (.long v188), .second, .val (.int ad190), .val (.int sel192), .val (.long qq192), .second, .val (.ref b194), .val (.int r203), .val (.int r203), .val (.int r203), .unset, .unset]) rfl (XS.aload X220.here hx rfl (hb hby at_152) rfl rfl (XS.lload X220.here hx rfl (hb hby at_154) rfl k))) ?_
          obtain ⟨cq222, kq222, q222a, q222b, q222c⟩ := isOf hZ hh220 p203_0
          obtain ⟨_, _, ⟨T222, L222, k222, n222⟩, -, X222, ⟨Lc222, hQ222, l222, y222, z222⟩, st222⟩ := X220.virtualBack hx (y := (⟨"com/example/floodgauge/floodgauge/latency/SeqTable", "slot", "(J)I"⟩ : MethodName)) (z := (⟨"com/example/floodgauge/floodgauge/latency/SeqTable", "slot", "(J)I"⟩ : MethodName)) hown (mvT hZ (wd hw 26 rfl)) (mvT hZ (wd hw 27 rfl)) (notFace_of_selects (args := #[]) (mvT hZ (wd hw 29 rfl))) (mvT hZ (wd hw 29 rfl)) (mvT hZ (wd hw 28 rfl)) (by decide) (backOf (W := 0) (rm_slot1 l Z a0 hw [] b194 s1200 k1200 qq192 r203 v187 T203.heap n0 Z204 p203_1 p203_4 hpv187 p203_6 ⟨p203_7.1, p203_7.2⟩) hZ (wd hw 30 rfl) (wd hw 3 rfl) (by decide) (by decide)) q222a q222c (g := (mkF m 156 #[.val (.long q1), .second, .val (.long q2), .second, .val (.long q3), .second, .val (.long q4), .second, .val (.int p5), .val (.long v187), .second, .val (.long v188), .second, .val (.int ad190), .val (.int sel192), .val (.long qq192), .second, .val (.ref b194), .val (.int r203), .val (.int r203), .val (.int r203), .unset, .unset] [(.long qq192), (.ref b194)])) rfl (by rw [hml]; rfl) (Steps.refl _) (argsL := [(.long qq192)]) (rest := []) (lenOf pd_4 rfl) rfl (by show 2 * 0 + _ ≤ _; exact Nat.le_of_eq rfl) (hb hby at_156) (fun _ _ => ⟨rfl, hh220, Nat.le_of_ble_eq_true rfl, Nat.le_of_ble_eq_true rfl⟩)
          dsimp only [Pt.U, Pt.locs, Pt.cells, Pt.slots] at X222 l222 y222 z222 st222 hQ222
          subst l222 y222 z222
          obtain ⟨rfl, Nq222, hh222⟩ := hQ222
          have N222 := Fr.app N220 Nq222
          refine Go.by (B := (T222.setTop (mkF m 159 #[.val (.long q1), .second, .val (.long q2), .second, .val (.long q3), .second, .val (.long q4), .second, .val (.int p5), .val (.long v187), .second, .val (.long v188), .second, .val (.int ad190), .val (.int sel192), .val (.long qq192), .second, .val (.ref b194), .val (.int r203), .val (.int r203), .val (.int r203), .unset, .unset] [(.int (if v187 = qq192 then r203 else (-1 : Int32)))]))) (fun _ k => st222.trans k) ?_
          rcases Classical.em (v187 = qq192) with c223 | c223
          · skip
            have hs224 : (if v187 = qq192 then r203 else (-1 : Int32)) = r203 := if_pos c223
            rw [hs224]
            refine Go.by (B := (T222.setTop (mkF m 170 #[.val (.long q1), .second, .val (.long q2), .second, .val (.long q3), .second, .val (.long q4), .second, .val (.int p5), .val (.long v187), .second, .val (.long v188), .second, .val (.int ad190), .val (.int sel192), .val (.long qq192), .second, .val (.ref b194), .val (.int r203), .val (.int r203), .val (.int r203), .val (.int r203), .unset] [(.int r203), (.ref b194)]))) (fun _ k => XS.istore X222.here hx rfl (hb hby at_159) rfl (l' := #[.val (.long q1), .second, .val (.long q2), .second, .val (.long q3), .second, .val (.long q4), .second, .val (.int p5), .val (.long v187), .second, .val (.long v188), .second, .val (.int ad190), .val (.int sel192), .val (.long qq192), .second, .val (.ref b194), .val (.int r203), .val (.int r203), .val (.int r203), .val (.int r203), .unset]) rfl (XS.iload X222.here hx rfl (hb hby at_161) rfl (XS.ifNo X222.here hx rfl (hb hby at_163) rfl ((if0 _ _).trans (flt p203_7.1).1) (XS.aload X222.here hx rfl (hb hby at_166) rfl rfl (XS.iload X222.here hx rfl (hb hby at_168) rfl k))))) ?_
            obtain ⟨cq225, kq225, q225a, q225b, q225c⟩ := isOf hZ hh222 p203_0
            obtain ⟨_, _, ⟨T225, L225, k225, n225⟩, -, X225, ⟨Lc225, hQ225, l225, y225, z225⟩, st225⟩ := X222.virtualBack hx (y := (⟨"com/example/floodgauge/floodgauge/latency/SeqTable", "value", "(I)J"⟩ : MethodName)) (z := (⟨"com/example/floodgauge/floodgauge/latency/SeqTable", "value", "(I)J"⟩ : MethodName)) hown (mvT hZ (wd hw 44 rfl)) (mvT hZ (wd hw 45 rfl)) (notFace_of_selects (args := #[]) (mvT hZ (wd hw 47 rfl))) (mvT hZ (wd hw 47 rfl)) (mvT hZ (wd hw 46 rfl)) (by decide) (backOf (W := 0) (rm_val1 l Z a0 hw [] b194 s2200 k2200 r203 q4 T203.heap n0 Z204 p203_2 p203_5 ⟨p203_7.1, p203_7.2⟩) hZ (wd hw 48 rfl) (wd hw 3 rfl) (by decide) (by decide)) q225a q225c (g := (mkF m 170 #[.val (.long q1), .second, .val (.long q2), .second, .val (.long q3), .second, .val (.long q4), .second, .val (.int p5), .val (.long v187), .second, .val (.long v188), .second, .val (.int ad190), .val (.int sel192), .val (.long qq192), .second, .val (.ref b194), .val (.int r203), .val (.int r203), .val (.int r203), .val (.int r203), .unset] [(.int r203), (.ref b194)])) rfl (by rw [hml]; rfl) (Steps.refl _) (argsL := [(.int r203)]) (rest := []) (lenOf pd_6 rfl) rfl (by show 2 * 0 + _ ≤ _; exact Nat.le_of_eq rfl) (hb hby at_170) (fun _ _ => ⟨rfl, hh222, Nat.le_of_ble_eq_true rfl, Nat.le_of_ble_eq_true rfl⟩)
            dsimp only [Pt.U, Pt.locs, Pt.cells, Pt.slots] at X225 l225 y225 z225 st225 hQ225
            subst l225 y225 z225
            obtain ⟨rfl, Nq225, hh225⟩ := hQ225
            have N225 := Fr.app N222 Nq225
            refine Go.by (B := (T225.setTop (mkF m 173 #[.val (.long q1), .second, .val (.long q2), .second, .val (.long q3), .second, .val (.long q4), .second, .val (.int p5), .val (.long v187), .second, .val (.long v188), .second, .val (.int ad190), .val (.int sel192), .val (.long qq192), .second, .val (.ref b194), .val (.int r203), .val (.int r203), .val (.int r203), .val (.int r203), .unset] [(.long q4)]))) (fun _ k => st225.trans k) ?_
            refine Go.by (B := (T225.setTop (mkF m 191 #[.val (.long q1), .second, .val (.long q2), .second, .val (.long q3), .second, .val (.long q4), .second, .val (.int p5), .val (.long v187), .second, .val (.long v188), .second, .val (.int ad190), .val (.int sel192), .val (.long qq192), .second, .val (.ref b194), .val (.int r203), .val (.int r203), .val (.int r203), .val (.int r203), .unset] [(.int (lcmpW v188 v187))]))) (fun _ k => XS.lload X225.here hx rfl (hb hby at_173) rfl (XS.lcmp X225.here hx rfl (hb hby at_175) rfl (XS.ifYes X225.here hx rfl (pc0 := 176) (pc' := 181) rfl (hb hby at_176) rfl ((if0 _ _).trans (teq ((lw_eq _ _).mpr (rfl : q4 = q4))).1) (by decide) (by decide) (XS.iload X225.here hx rfl (hb hby at_181) rfl (XS.ifNo X225.here hx rfl (hb hby at_183) rfl ((if0 _ _).trans (feq c205).1) (XS.lload X225.here hx rfl (hb hby at_186) rfl (XS.lload X225.here hx rfl (hb hby at_188) rfl (XS.lcmp X225.here hx rfl (hb hby at_190) rfl k)))))))) ?_
            refine Go.by (B := (T225.setTop (mkF m 211 #[.val (.long q1), .second, .val (.long q2), .second, .val (.long q3), .second, .val (.long q4), .second, .val (.int p5), .val (.long v187), .second, .val (.long v188), .second, .val (.int ad190), .val (.int sel192), .val (.long qq192), .second, .val (.ref b194), .val (.int r203), .val (.int r203), .val (.int r203), .val (.int r203), .unset] []))) (fun _ k => XS.ifNo X225.here hx rfl (hb hby at_191) rfl ((if0 _ _).trans (teq ((lw_eq _ _).mpr (c193).symm)).2) (XS.iload X225.here hx rfl (hb hby at_194) rfl (XS.iload X225.here hx rfl (hb hby at_196) rfl (XS.icmpYes X225.here hx rfl (pc0 := 198) (pc' := 203) rfl (hb hby at_198) rfl (teq (rfl : r203 = r203)).1 (by decide) (by decide) (XS.lload X225.here hx rfl (hb hby at_203) rfl (XS.lload X225.here hx rfl (hb hby at_205) rfl (XS.lcmp X225.here hx rfl (hb hby at_207) rfl (XS.ifNo X225.here hx rfl (hb hby at_208) rfl ((if0 _ _).trans (teq ((lw_eq _ _).mpr (c193).symm)).2) k)))))))) ?_
            refine Go.by (B := (T225.setTop (mkF m 279 #[.val (.long q1), .second, .val (.long q2), .second, .val (.long q3), .second, .val (.long q4), .second, .val (.int p5), .val (.long v187), .second, .val (.long v188), .second, .val (.int ad190), .val (.int sel192), .val (.long qq192), .second, .val (.ref b194), .val (.int r203), .val (.int r203), .val (.int r203), .val (.int r203), .unset] [(.long qq192)]))) (fun _ k => XS.iload X225.here hx rfl (hb hby at_211) rfl (XS.iload X225.here hx rfl (hb hby at_213) rfl (XS.icmpYes X225.here hx rfl (pc0 := 215) (pc' := 264) rfl (hb hby at_215) rfl (teq (rfl : r203 = r203)).1 (by decide) (by decide) (XS.lload X225.here hx rfl (hb hby at_264) rfl (XS.lconst X225.here hx rfl (hb hby at_266) (XS.lcmp X225.here hx rfl (hb hby at_267) rfl (XS.ifYes X225.here hx rfl (pc0 := 268) (pc' := 277) rfl (hb hby at_268) rfl ((if0 _ _).trans (flt (fun q => (fun h => hpv187 (by rw [c223]; exact h) : ¬ (qq192 < (0 : Int64))) ((lw_lt _ _).mp q))).2.1) (by decide) (by decide) (XS.lload X225.here hx rfl (hb hby at_277) rfl k)))))))) ?_
            refine Go.by (B := (T225.setTop (mkF m 319 #[.val (.long q1), .second, .val (.long q2), .second, .val (.long q3), .second, .val (.long q4), .second, .val (.int p5), .val (.long v187), .second, .val (.long v188), .second, .val (.int ad190), .val (.int sel192), .val (.long qq192), .second, .val (.ref b194), .val (.int r203), .val (.int r203), .val (.int r203), .val (.int r203), .val (.int r203)] [(.int r203), (.int r203)]))) (fun _ k => XS.lload X225.here hx rfl (hb hby at_279) rfl (XS.lcmp X225.here hx rfl (hb hby at_281) rfl (XS.ifNo X225.here hx rfl (hb hby at_282) rfl ((if0 _ _).trans (teq ((lw_eq _ _).mpr (c223).symm)).2) (XS.iload X225.here hx rfl (hb hby at_285) rfl (XS.istore X225.here hx rfl (hb hby at_287) rfl (l' := #[.val (.long q1), .second, .val (.long q2), .second, .val (.long q3), .second, .val (.long q4), .second, .val (.int p5), .val (.long v187), .second, .val (.long v188), .second, .val (.int ad190), .val (.int sel192), .val (.long qq192), .second, .val (.ref b194), .val (.int r203), .val (.int r203), .val (.int r203), .val (.int r203), .val (.int r203)]) rfl (XS.goto X225.here hx rfl (pc0 := 289) (pc' := 315) rfl (hb hby at_289) (by decide) (by decide) (XS.iload X225.here hx rfl (hb hby at_315) rfl (XS.iload X225.here hx rfl (hb hby at_317) rfl k)))))))) ?_
            refine Go.by (B := (T225.setTop (mkF m 327 #[.val (.long q1), .second, .val (.long q2), .second, .val (.long q3), .second, .val (.long q4), .second, .val (.int p5), .val (.long v187), .second, .val (.long v188), .second, .val (.int ad190), .val (.int sel192), .val (.long qq192), .second, .val (.ref b194), .val (.int r203), .val (.int r203), .val (.int r203), .val (.int r203), .val (.int r203)] [(.int 1)]))) (fun _ k => XS.icmpNo X225.here hx rfl (hb hby at_319) rfl (teq (rfl : r203 = r203)).2 (XS.iconst X225.here hx rfl (hb hby at_322) (XS.goto X225.here hx rfl (pc0 := 323) (pc' := 327) rfl (hb hby at_323) (by decide) (by decide) k))) ?_
            refine Go.ret X225 hx hlk (t := .boolean) hret rfl (Or.inl ⟨rfl, by simp, _, rfl⟩) (hb hby at_327) (by decide) (by decide) ?_
            exact ⟨rfl, N225⟩
          · skip
            have hs226 : (if v187 = qq192 then r203 else (-1 : Int32)) = (-1 : Int32) := if_neg c223
            rw [hs226]
            refine Go.by (B := (T222.setTop (mkF m 170 #[.val (.long q1), .second, .val (.long q2), .second, .val (.long q3), .second, .val (.long q4), .second, .val (.int p5), .val (.long v187), .second, .val (.long v188), .second, .val (.int ad190), .val (.int sel192), .val (.long qq192), .second, .val (.ref b194), .val (.int r203), .val (.int r203), .val (.int r203), .val (.int (-1 : Int32)), .unset] [(.int r203), (.ref b194)]))) (fun _ k => XS.istore X222.here hx rfl (hb hby at_159) rfl (l' := #[.val (.long q1), .second, .val (.long q2), .second, .val (.long q3), .second, .val (.long q4), .second, .val (.int p5), .val (.long v187), .second, .val (.long v188), .second, .val (.int ad190), .val (.int sel192), .val (.long qq192), .second, .val (.ref b194), .val (.int r203), .val (.int r203), .val (.int r203), .val (.int (-1 : Int32)), .unset]) rfl (XS.iload X222.here hx rfl (hb hby at_161) rfl (XS.ifNo X222.here hx rfl (hb hby at_163) rfl ((if0 _ _).trans (flt p203_7.1).1) (XS.aload X222.here hx rfl (hb hby at_166) rfl rfl (XS.iload X222.here hx rfl (hb hby at_168) rfl k))))) ?_
            obtain ⟨cq227, kq227, q227a, q227b, q227c⟩ := isOf hZ hh222 p203_0
            obtain ⟨_, _, ⟨T227, L227, k227, n227⟩, -, X227, ⟨Lc227, hQ227, l227, y227, z227⟩, st227⟩ := X222.virtualBack hx (y := (⟨"com/example/floodgauge/floodgauge/latency/SeqTable", "value", "(I)J"⟩ : MethodName)) (z := (⟨"com/example/floodgauge/floodgauge/latency/SeqTable", "value", "(I)J"⟩ : MethodName)) hown (mvT hZ (wd hw 44 rfl)) (mvT hZ (wd hw 45 rfl)) (notFace_of_selects (args := #[]) (mvT hZ (wd hw 47 rfl))) (mvT hZ (wd hw 47 rfl)) (mvT hZ (wd hw 46 rfl)) (by decide) (backOf (W := 0) (rm_val1 l Z a0 hw [] b194 s2200 k2200 r203 q4 T203.heap n0 Z204 p203_2 p203_5 ⟨p203_7.1, p203_7.2⟩) hZ (wd hw 48 rfl) (wd hw 3 rfl) (by decide) (by decide)) q227a q227c (g := (mkF m 170 #[.val (.long q1), .second, .val (.long q2), .second, .val (.long q3), .second, .val (.long q4), .second, .val (.int p5), .val (.long v187), .second, .val (.long v188), .second, .val (.int ad190), .val (.int sel192), .val (.long qq192), .second, .val (.ref b194), .val (.int r203), .val (.int r203), .val (.int r203), .val (.int (-1 : Int32)), .unset] [(.int r203), (.ref b194)])) rfl (by rw [hml]; rfl) (Steps.refl _) (argsL := [(.int r203)]) (rest := []) (lenOf pd_6 rfl) rfl (by show 2 * 0 + _ ≤ _; exact Nat.le_of_eq rfl) (hb hby at_170) (fun _ _ => ⟨rfl, hh222, Nat.le_of_ble_eq_true rfl, Nat.le_of_ble_eq_true rfl⟩)
            dsimp only [Pt.U, Pt.locs, Pt.cells, Pt.slots] at X227 l227 y227 z227 st227 hQ227
            subst l227 y227 z227
            obtain ⟨rfl, Nq227, hh227⟩ := hQ227
            have N227 := Fr.app N222 Nq227
            refine Go.by (B := (T227.setTop (mkF m 173 #[.val (.long q1), .second, .val (.long q2), .second, .val (.long q3), .second, .val (.long q4), .second, .val (.int p5), .val (.long v187), .second, .val (.long v188), .second, .val (.int ad190), .val (.int sel192), .val (.long qq192), .second, .val (.ref b194), .val (.int r203), .val (.int r203), .val (.int r203), .val (.int (-1 : Int32)), .unset] [(.long q4)]))) (fun _ k => st227.trans k) ?_
            refine Go.by (B := (T227.setTop (mkF m 191 #[.val (.long q1), .second, .val (.long q2), .second, .val (.long q3), .second, .val (.long q4), .second, .val (.int p5), .val (.long v187), .second, .val (.long v188), .second, .val (.int ad190), .val (.int sel192), .val (.long qq192), .second, .val (.ref b194), .val (.int r203), .val (.int r203), .val (.int r203), .val (.int (-1 : Int32)), .unset] [(.int (lcmpW v188 v187))]))) (fun _ k => XS.lload X227.here hx rfl (hb hby at_173) rfl (XS.lcmp X227.here hx rfl (hb hby at_175) rfl (XS.ifYes X227.here hx rfl (pc0 := 176) (pc' := 181) rfl (hb hby at_176) rfl ((if0 _ _).trans (teq ((lw_eq _ _).mpr (rfl : q4 = q4))).1) (by decide) (by decide) (XS.iload X227.here hx rfl (hb hby at_181) rfl (XS.ifNo X227.here hx rfl (hb hby at_183) rfl ((if0 _ _).trans (feq c205).1) (XS.lload X227.here hx rfl (hb hby at_186) rfl (XS.lload X227.here hx rfl (hb hby at_188) rfl (XS.lcmp X227.here hx rfl (hb hby at_190) rfl k)))))))) ?_
            refine Go.by (B := (T227.setTop (mkF m 211 #[.val (.long q1), .second, .val (.long q2), .second, .val (.long q3), .second, .val (.long q4), .second, .val (.int p5), .val (.long v187), .second, .val (.long v188), .second, .val (.int ad190), .val (.int sel192), .val (.long qq192), .second, .val (.ref b194), .val (.int r203), .val (.int r203), .val (.int r203), .val (.int (-1 : Int32)), .unset] []))) (fun _ k => XS.ifNo X227.here hx rfl (hb hby at_191) rfl ((if0 _ _).trans (teq ((lw_eq _ _).mpr (c193).symm)).2) (XS.iload X227.here hx rfl (hb hby at_194) rfl (XS.iload X227.here hx rfl (hb hby at_196) rfl (XS.icmpYes X227.here hx rfl (pc0 := 198) (pc' := 203) rfl (hb hby at_198) rfl (teq (rfl : r203 = r203)).1 (by decide) (by decide) (XS.lload X227.here hx rfl (hb hby at_203) rfl (XS.lload X227.here hx rfl (hb hby at_205) rfl (XS.lcmp X227.here hx rfl (hb hby at_207) rfl (XS.ifNo X227.here hx rfl (hb hby at_208) rfl ((if0 _ _).trans (teq ((lw_eq _ _).mpr (c193).symm)).2) k)))))))) ?_
            refine Go.by (B := (T227.setTop (mkF m 268 #[.val (.long q1), .second, .val (.long q2), .second, .val (.long q3), .second, .val (.long q4), .second, .val (.int p5), .val (.long v187), .second, .val (.long v188), .second, .val (.int ad190), .val (.int sel192), .val (.long qq192), .second, .val (.ref b194), .val (.int r203), .val (.int r203), .val (.int r203), .val (.int (-1 : Int32)), .unset] [(.int (lcmpW qq192 (0 : Int64)))]))) (fun _ k => XS.iload X227.here hx rfl (hb hby at_211) rfl (XS.iload X227.here hx rfl (hb hby at_213) rfl (XS.icmpYes X227.here hx rfl (pc0 := 215) (pc' := 264) rfl (hb hby at_215) rfl (teq (rfl : r203 = r203)).1 (by decide) (by decide) (XS.lload X227.here hx rfl (hb hby at_264) rfl (XS.lconst X227.here hx rfl (hb hby at_266) (XS.lcmp X227.here hx rfl (hb hby at_267) rfl k)))))) ?_
            by_cases c228 : qq192 < (0 : Int64)
            · skip
              refine Go.by (B := (T227.setTop (mkF m 323 #[.val (.long q1), .second, .val (.long q2), .second, .val (.long q3), .second, .val (.long q4), .second, .val (.int p5), .val (.long v187), .second, .val (.long v188), .second, .val (.int ad190), .val (.int sel192), .val (.long qq192), .second, .val (.ref b194), .val (.int r203), .val (.int r203), .val (.int r203), .val (.int (-1 : Int32)), .val (.int (-1 : Int32))] [(.int 1)]))) (fun _ k => XS.ifNo X227.here hx rfl (hb hby at_268) rfl ((if0 _ _).trans (tlt ((lw_lt _ _).mpr c228)).2.1) (XS.iconst X227.here hx rfl (hb hby at_271) (XS.istore X227.here hx rfl (hb hby at_272) rfl (l' := #[.val (.long q1), .second, .val (.long q2), .second, .val (.long q3), .second, .val (.long q4), .second, .val (.int p5), .val (.long v187), .second, .val (.long v188), .second, .val (.int ad190), .val (.int sel192), .val (.long qq192), .second, .val (.ref b194), .val (.int r203), .val (.int r203), .val (.int r203), .val (.int (-1 : Int32)), .val (.int (-1 : Int32))]) rfl (XS.goto X227.here hx rfl (pc0 := 274) (pc' := 315) rfl (hb hby at_274) (by decide) (by decide) (XS.iload X227.here hx rfl (hb hby at_315) rfl (XS.iload X227.here hx rfl (hb hby at_317) rfl (XS.icmpNo X227.here hx rfl (hb hby at_319) rfl (teq (by decide : (-1 : Int32) = (-1 : Int32))).2 (XS.iconst X227.here hx rfl (hb hby at_322) k)))))))) ?_
              refine Go.by (B := (T227.setTop (mkF m 327 #[.val (.long q1), .second, .val (.long q2), .second, .val (.long q3), .second, .val (.long q4), .second, .val (.int p5), .val (.long v187), .second, .val (.long v188), .second, .val (.int ad190), .val (.int sel192), .val (.long qq192), .second, .val (.ref b194), .val (.int r203), .val (.int r203), .val (.int r203), .val (.int (-1 : Int32)), .val (.int (-1 : Int32))] [(.int 1)]))) (fun _ k => XS.goto X227.here hx rfl (pc0 := 323) (pc' := 327) rfl (hb hby at_323) (by decide) (by decide) k) ?_
              refine Go.ret X227 hx hlk (t := .boolean) hret rfl (Or.inl ⟨rfl, by simp, _, rfl⟩) (hb hby at_327) (by decide) (by decide) ?_
              exact ⟨rfl, N227⟩
            · skip
              refine Go.by (B := (T227.setTop (mkF m 299 #[.val (.long q1), .second, .val (.long q2), .second, .val (.long q3), .second, .val (.long q4), .second, .val (.int p5), .val (.long v187), .second, .val (.long v188), .second, .val (.int ad190), .val (.int sel192), .val (.long qq192), .second, .val (.ref b194), .val (.int r203), .val (.int r203), .val (.int r203), .val (.int (-1 : Int32)), .unset] [(.long qq192)]))) (fun _ k => XS.ifYes X227.here hx rfl (pc0 := 268) (pc' := 277) rfl (hb hby at_268) rfl ((if0 _ _).trans (flt (fun q => c228 ((lw_lt _ _).mp q))).2.1) (by decide) (by decide) (XS.lload X227.here hx rfl (hb hby at_277) rfl (XS.lload X227.here hx rfl (hb hby at_279) rfl (XS.lcmp X227.here hx rfl (hb hby at_281) rfl (XS.ifYes X227.here hx rfl (pc0 := 282) (pc' := 292) rfl (hb hby at_282) rfl ((if0 _ _).trans (feq (fun q => (fun q => c223 q.symm) ((lw_eq _ _).mp q))).2) (by decide) (by decide) (XS.iload X227.here hx rfl (hb hby at_292) rfl (XS.ifNo X227.here hx rfl (hb hby at_294) rfl ((if0 _ _).trans (feq c205).1) (XS.lload X227.here hx rfl (hb hby at_297) rfl k)))))))) ?_
              refine Go.by (B := (T227.setTop (mkF m 322 #[.val (.long q1), .second, .val (.long q2), .second, .val (.long q3), .second, .val (.long q4), .second, .val (.int p5), .val (.long v187), .second, .val (.long v188), .second, .val (.int ad190), .val (.int sel192), .val (.long qq192), .second, .val (.ref b194), .val (.int r203), .val (.int r203), .val (.int r203), .val (.int (-1 : Int32)), .val (.int (-1 : Int32))] []))) (fun _ k => XS.lload X227.here hx rfl (hb hby at_299) rfl (XS.lcmp X227.here hx rfl (hb hby at_301) rfl (XS.ifYes X227.here hx rfl (pc0 := 302) (pc' := 312) rfl (hb hby at_302) rfl ((if0 _ _).trans (feq (fun q => (fun h => c223 ((c193).trans h.symm) : ¬ (qq192 = v188)) ((lw_eq _ _).mp q))).2) (by decide) (by decide) (XS.iconst X227.here hx rfl (hb hby at_312) (XS.istore X227.here hx rfl (hb hby at_313) rfl (l' := #[.val (.long q1), .second, .val (.long q2), .second, .val (.long q3), .second, .val (.long q4), .second, .val (.int p5), .val (.long v187), .second, .val (.long v188), .second, .val (.int ad190), .val (.int sel192), .val (.long qq192), .second, .val (.ref b194), .val (.int r203), .val (.int r203), .val (.int r203), .val (.int (-1 : Int32)), .val (.int (-1 : Int32))]) rfl (XS.iload X227.here hx rfl (hb hby at_315) rfl (XS.iload X227.here hx rfl (hb hby at_317) rfl (XS.icmpNo X227.here hx rfl (hb hby at_319) rfl (teq (by decide : (-1 : Int32) = (-1 : Int32))).2 k)))))))) ?_
              refine Go.by (B := (T227.setTop (mkF m 327 #[.val (.long q1), .second, .val (.long q2), .second, .val (.long q3), .second, .val (.long q4), .second, .val (.int p5), .val (.long v187), .second, .val (.long v188), .second, .val (.int ad190), .val (.int sel192), .val (.long qq192), .second, .val (.ref b194), .val (.int r203), .val (.int r203), .val (.int r203), .val (.int (-1 : Int32)), .val (.int (-1 : Int32))] [(.int 1)]))) (fun _ k => XS.iconst X227.here hx rfl (hb hby at_322) (XS.goto X227.here hx rfl (pc0 := 323) (pc' := 327) rfl (hb hby at_323) (by decide) (by decide) k)) ?_
              refine Go.ret X227 hx hlk (t := .boolean) hret rfl (Or.inl ⟨rfl, by simp, _, rfl⟩) (hb hby at_327) (by decide) (by decide) ?_
              exact ⟨rfl, N227⟩
      · skip
        obtain ⟨T229, h229, X229, e229, E229, A229, D229, -, st229⟩ := newO X192 hx hZ hown (wd hw 1 rfl) (wd hw 2 rfl) (wd hw 3 rfl) e192 (g := (mkF m 82 #[.val (.long q1), .second, .val (.long q2), .second, .val (.long q3), .second, .val (.long q4), .second, .val (.int p5), .val (.long v187), .second, .val (.long v188), .second, .val (.int ad190), .val (.int sel192), .val (.long qq192), .second, .unset, .unset, .unset, .unset, .unset, .unset] [])) rfl (hb hby at_82) (by decide) (by decide)
        obtain ⟨b229, g229⟩ : ∃ z, z = h0.size := ⟨_, rfl⟩
        rw [← g229] at A229 D229 st229
        have sz_b229 : h0.size ≤ b229 := Nat.le_of_eq g229.symm
        have O230 := pr0.ext E229
        have Z230 : n0 ≤ h229.size := Nat.le_trans Z0 E229.1
        have F231 : Fld Z h229 b229 "com/example/floodgauge/floodgauge/latency/SeqTable" "seqs" "[J" .null := D229 (Or.inl (wd hw 20 rfl)) (ty := (.array .long)) (by decide)
        have F232 : Fld Z h229 b229 "com/example/floodgauge/floodgauge/latency/SeqTable" "values" "[J" .null := D229 (Or.inl (wd hw 22 rfl)) (ty := (.array .long)) (by decide)
        have F233 : Fld Z h229 b229 "com/example/floodgauge/floodgauge/latency/SeqTable" "states" "[B" .null := D229 (Or.inl (wd hw 25 rfl)) (ty := (.array .byte)) (by decide)
        have F234 : Fld Z h229 b229 "com/example/floodgauge/floodgauge/latency/SeqTable" "size" "I" (.int 0) := D229 (Or.inl (wd hw 41 rfl)) (ty := .int) (by decide)
        refine Go.by (B := (T229.setTop (mkF m 85 #[.val (.long q1), .second, .val (.long q2), .second, .val (.long q3), .second, .val (.long q4), .second, .val (.int p5), .val (.long v187), .second, .val (.long v188), .second, .val (.int ad190), .val (.int sel192), .val (.long qq192), .second, .unset, .unset, .unset, .unset, .unset, .unset] [(.ref b229)]))) st229 ?_
        refine Go.by (B := (T229.setTop (mkF m 86 #[.val (.long q1), .second, .val (.long q2), .second, .val (.long q3), .second, .val (.long q4), .second, .val (.int p5), .val (.long v187), .second, .val (.long v188), .second, .val (.int ad190), .val (.int sel192), .val (.long qq192), .second, .unset, .unset, .unset, .unset, .unset, .unset] [(.ref b229), (.ref b229)]))) (fun _ k => XS.dup X229.here hx rfl (hb hby at_85) rfl rfl k) ?_
        obtain ⟨_, _, ⟨T235, L235, k235, n235⟩, -, X235, ⟨Lc235, hQ235, l235, y235, z235⟩, st235⟩ := X229.specialBack hx (y := (⟨"com/example/floodgauge/floodgauge/latency/SeqTable", "<init>", "()V"⟩ : MethodName)) rfl hown (mvT hZ (wd hw 4 rfl)) (mvT hZ (wd hw 5 rfl)) (mvT hZ (wd hw 6 rfl)) (by decide) (backOf (W := 1) (rm_tinit l Z a0 hw [] b229 h229 n0 Z230 O230 A229 F231 F232 F233 F234 (Nat.le_trans Z0 sz_b229)) hZ (wd hw 6 rfl) (wd hw 3 rfl) (by decide) (by decide)) (g := (mkF m 86 #[.val (.long q1), .second, .val (.long q2), .second, .val (.long q3), .second, .val (.long q4), .second, .val (.int p5), .val (.long v187), .second, .val (.long v188), .second, .val (.int ad190), .val (.int sel192), .val (.long qq192), .second, .unset, .unset, .unset, .unset, .unset, .unset] [(.ref b229), (.ref b229)])) rfl (by rw [hml]; rfl) (Steps.refl _) (a := b229) (argsL := []) (rest := [(.ref b229)]) (lenOf pd_3 rfl) rfl (by show 2 * 0 + _ ≤ _; exact Nat.le_of_eq rfl) (hb hby at_86) (fun _ _ => ⟨rfl, e229, Nat.le_of_ble_eq_true rfl, Nat.le_of_ble_eq_true rfl⟩)
        dsimp only [Pt.U, Pt.locs, Pt.cells, Pt.slots] at X235 l235 y235 z235 st235 hQ235
        subst l235 y235 z235
        obtain ⟨s1235, s2235, k1235, k2235, rfl, Nq235, K235, p235_0, p235_1, p235_2, p235_3, p235_4, p235_5, p235_6, p235_7, p235_8⟩ := hQ235
        have N235 := Fr.app N191 Nq235
        have O236 := O230.keep K235 (allS (Nat.le_trans Z0 sz_b229) all0)
        have Z236 : n0 ≤ T235.heap.size := Nat.le_trans Z230 K235.1
        have sz_s1235 : h229.size ≤ s1235 := p235_6
        have sz_s2235 : h229.size ≤ s2235 := p235_7
        refine Go.by (B := (T235.setTop (mkF m 89 #[.val (.long q1), .second, .val (.long q2), .second, .val (.long q3), .second, .val (.long q4), .second, .val (.int p5), .val (.long v187), .second, .val (.long v188), .second, .val (.int ad190), .val (.int sel192), .val (.long qq192), .second, .unset, .unset, .unset, .unset, .unset, .unset] [(.ref b229)]))) (fun _ k => st235.trans k) ?_
        refine Go.by (B := (T235.setTop (mkF m 95 #[.val (.long q1), .second, .val (.long q2), .second, .val (.long q3), .second, .val (.long q4), .second, .val (.int p5), .val (.long v187), .second, .val (.long v188), .second, .val (.int ad190), .val (.int sel192), .val (.long qq192), .second, .val (.ref b229), .unset, .unset, .unset, .unset, .unset] [(.long qq192), (.ref b229)]))) (fun _ k => XS.astore X235.here hx rfl (hb hby at_89) rfl rfl (l' := #[.val (.long q1), .second, .val (.long q2), .second, .val (.long q3), .second, .val (.long q4), .second, .val (.int p5), .val (.long v187), .second, .val (.long v188), .second, .val (.int ad190), .val (.int sel192), .val (.long qq192), .second, .val (.ref b229), .unset, .unset, .unset, .unset, .unset]) rfl (XS.aload X235.here hx rfl (hb hby at_91) rfl rfl (XS.lload X235.here hx rfl (hb hby at_93) rfl k))) ?_
        obtain ⟨cq237, kq237, q237a, q237b, q237c⟩ := isOf hZ rfl p235_0
        obtain ⟨_, _, ⟨T237, L237, k237, n237⟩, -, X237, ⟨Lc237, hQ237, l237, y237, z237⟩, st237⟩ := X235.virtualBack hx (y := (⟨"com/example/floodgauge/floodgauge/latency/SeqTable", "slot", "(J)I"⟩ : MethodName)) (z := (⟨"com/example/floodgauge/floodgauge/latency/SeqTable", "slot", "(J)I"⟩ : MethodName)) hown (mvT hZ (wd hw 26 rfl)) (mvT hZ (wd hw 27 rfl)) (notFace_of_selects (args := #[]) (mvT hZ (wd hw 29 rfl))) (mvT hZ (wd hw 29 rfl)) (mvT hZ (wd hw 28 rfl)) (by decide) (backOf (W := 0) (rm_slot0 l Z a0 hw [] b229 s1235 k1235 qq192 T235.heap n0 Z236 p235_1 p235_4) hZ (wd hw 30 rfl) (wd hw 3 rfl) (by decide) (by decide)) q237a q237c (g := (mkF m 95 #[.val (.long q1), .second, .val (.long q2), .second, .val (.long q3), .second, .val (.long q4), .second, .val (.int p5), .val (.long v187), .second, .val (.long v188), .second, .val (.int ad190), .val (.int sel192), .val (.long qq192), .second, .val (.ref b229), .unset, .unset, .unset, .unset, .unset] [(.long qq192), (.ref b229)])) rfl (by rw [hml]; rfl) (Steps.refl _) (argsL := [(.long qq192)]) (rest := []) (lenOf pd_4 rfl) rfl (by show 2 * 0 + _ ≤ _; exact Nat.le_of_eq rfl) (hb hby at_95) (fun _ _ => ⟨rfl, rfl, Nat.le_of_ble_eq_true rfl, Nat.le_of_ble_eq_true rfl⟩)
        dsimp only [Pt.U, Pt.locs, Pt.cells, Pt.slots] at X237 l237 y237 z237 st237 hQ237
        subst l237 y237 z237
        obtain ⟨rfl, Nq237, hh237⟩ := hQ237
        have N237 := Fr.app N235 Nq237
        refine Go.by (B := (T237.setTop (mkF m 98 #[.val (.long q1), .second, .val (.long q2), .second, .val (.long q3), .second, .val (.long q4), .second, .val (.int p5), .val (.long v187), .second, .val (.long v188), .second, .val (.int ad190), .val (.int sel192), .val (.long qq192), .second, .val (.ref b229), .unset, .unset, .unset, .unset, .unset] [(.int (-1 : Int32))]))) (fun _ k => st237.trans k) ?_
        refine Go.by (B := (T237.setTop (mkF m 110 #[.val (.long q1), .second, .val (.long q2), .second, .val (.long q3), .second, .val (.long q4), .second, .val (.int p5), .val (.long v187), .second, .val (.long v188), .second, .val (.int ad190), .val (.int sel192), .val (.long qq192), .second, .val (.ref b229), .unset, .unset, .unset, .unset, .unset] [(.long q4), (.long v187), (.ref b229)]))) (fun _ k => XS.iconst X237.here hx rfl (hb hby at_98) (XS.icmpYes X237.here hx rfl (pc0 := 99) (pc' := 104) rfl (hb hby at_99) rfl (teq (by decide : (-1 : Int32) = (-1 : Int32))).1 (by decide) (by decide) (XS.aload X237.here hx rfl (hb hby at_104) rfl rfl (XS.lload X237.here hx rfl (hb hby at_106) rfl (XS.lload X237.here hx rfl (hb hby at_108) rfl k))))) ?_
        obtain ⟨cq238, kq238, q238a, q238b, q238c⟩ := isOf hZ hh237 p235_0
        obtain ⟨_, _, ⟨T238, L238, k238, n238⟩, -, X238, ⟨Lc238, hQ238, l238, y238, z238⟩, st238⟩ := X237.virtualBack hx (y := (⟨"com/example/floodgauge/floodgauge/latency/SeqTable", "add", "(JJ)I"⟩ : MethodName)) (z := (⟨"com/example/floodgauge/floodgauge/latency/SeqTable", "add", "(JJ)I"⟩ : MethodName)) hown (mvT hZ (wd hw 35 rfl)) (mvT hZ (wd hw 36 rfl)) (notFace_of_selects (args := #[]) (mvT hZ (wd hw 38 rfl))) (mvT hZ (wd hw 38 rfl)) (mvT hZ (wd hw 37 rfl)) (by decide) (backOf (W := 0) (rm_add0 l Z a0 hw [] b229 s1235 s2235 k1235 k2235 v187 q4 T235.heap n0 Z236 O236 p235_0 p235_1 p235_2 p235_3 p235_4 p235_5 p235_8 (Nat.ne_of_lt (Nat.lt_of_lt_of_le A229.lt sz_s1235)) (Nat.ne_of_lt (Nat.lt_of_lt_of_le A229.lt sz_s2235)) (Nat.le_trans Z0 sz_b229) (Nat.le_trans Z230 sz_s1235) (Nat.le_trans Z230 sz_s2235) hpv187) hZ (wd hw 39 rfl) (wd hw 3 rfl) (by decide) (by decide)) q238a q238c (g := (mkF m 110 #[.val (.long q1), .second, .val (.long q2), .second, .val (.long q3), .second, .val (.long q4), .second, .val (.int p5), .val (.long v187), .second, .val (.long v188), .second, .val (.int ad190), .val (.int sel192), .val (.long qq192), .second, .val (.ref b229), .unset, .unset, .unset, .unset, .unset] [(.long q4), (.long v187), (.ref b229)])) rfl (by rw [hml]; rfl) (Steps.refl _) (argsL := [(.long v187), (.long q4)]) (rest := []) (lenOf pd_5 rfl) rfl (by show 2 * 0 + _ ≤ _; exact Nat.le_of_eq rfl) (hb hby at_110) (fun _ _ => ⟨rfl, hh237, Nat.le_of_ble_eq_true rfl, Nat.le_of_ble_eq_true rfl⟩)
        dsimp only [Pt.U, Pt.locs, Pt.cells, Pt.slots] at X238 l238 y238 z238 st238 hQ238
        subst l238 y238 z238
        obtain ⟨r238, rfl, Nq238, K238, p238_0, p238_1, p238_2, p238_3, p238_4, p238_5, p238_6, p238_7⟩ := hQ238
        have N238 := Fr.app N237 Nq238
        have O239 := O236.keep K238 (allS (Nat.le_trans Z0 sz_b229) (allS (Nat.le_trans Z230 sz_s1235) (allS (Nat.le_trans Z230 sz_s2235) all0)))
        have Z239 : n0 ≤ T238.heap.size := Nat.le_trans Z236 K238.1
        refine Go.by (B := (T238.setTop (mkF m 113 #[.val (.long q1), .second, .val (.long q2), .second, .val (.long q3), .second, .val (.long q4), .second, .val (.int p5), .val (.long v187), .second, .val (.long v188), .second, .val (.int ad190), .val (.int sel192), .val (.long qq192), .second, .val (.ref b229), .unset, .unset, .unset, .unset, .unset] [(.int r238)]))) (fun _ k => st238.trans k) ?_
        refine Go.by (B := (T238.setTop (mkF m 117 #[.val (.long q1), .second, .val (.long q2), .second, .val (.long q3), .second, .val (.long q4), .second, .val (.int p5), .val (.long v187), .second, .val (.long v188), .second, .val (.int ad190), .val (.int sel192), .val (.long qq192), .second, .val (.ref b229), .val (.int r238), .unset, .unset, .unset, .unset] [(.int ad190)]))) (fun _ k => XS.istore X238.here hx rfl (hb hby at_113) rfl (l' := #[.val (.long q1), .second, .val (.long q2), .second, .val (.long q3), .second, .val (.long q4), .second, .val (.int p5), .val (.long v187), .second, .val (.long v188), .second, .val (.int ad190), .val (.int sel192), .val (.long qq192), .second, .val (.ref b229), .val (.int r238), .unset, .unset, .unset, .unset]) rfl (XS.iload X238.here hx rfl (hb hby at_115) rfl k)) ?_
        by_cases c240 : ad190 = (0 : Int32)
        · skip
          refine Go.by (B := (T238.setTop (mkF m 138 #[.val (.long q1), .second, .val (.long q2), .second, .val (.long q3), .second, .val (.long q4), .second, .val (.int p5), .val (.long v187), .second, .val (.long v188), .second, .val (.int ad190), .val (.int sel192), .val (.long qq192), .second, .val (.ref b229), .val (.int r238), .unset, .unset, .unset, .unset] [(.long v187), (.ref b229)]))) (fun _ k => XS.ifYes X238.here hx rfl (pc0 := 117) (pc' := 134) rfl (hb hby at_117) rfl ((if0 _ _).trans (teq c240).1) (by decide) (by decide) (XS.aload X238.here hx rfl (hb hby at_134) rfl rfl (XS.lload X238.here hx rfl (hb hby at_136) rfl k))) ?_
          obtain ⟨cq241, kq241, q241a, q241b, q241c⟩ := isOf hZ rfl p238_0
          obtain ⟨_, _, ⟨T241, L241, k241, n241⟩, -, X241, ⟨Lc241, hQ241, l241, y241, z241⟩, st241⟩ := X238.virtualBack hx (y := (⟨"com/example/floodgauge/floodgauge/latency/SeqTable", "slot", "(J)I"⟩ : MethodName)) (z := (⟨"com/example/floodgauge/floodgauge/latency/SeqTable", "slot", "(J)I"⟩ : MethodName)) hown (mvT hZ (wd hw 26 rfl)) (mvT hZ (wd hw 27 rfl)) (notFace_of_selects (args := #[]) (mvT hZ (wd hw 29 rfl))) (mvT hZ (wd hw 29 rfl)) (mvT hZ (wd hw 28 rfl)) (by decide) (backOf (W := 0) (rm_slot1 l Z a0 hw [] b229 s1235 k1235 v187 r238 v187 T238.heap n0 Z239 p238_1 p238_4 hpv187 p238_6 ⟨p238_7.1, p238_7.2⟩) hZ (wd hw 30 rfl) (wd hw 3 rfl) (by decide) (by decide)) q241a q241c (g := (mkF m 138 #[.val (.long q1), .second, .val (.long q2), .second, .val (.long q3), .second, .val (.long q4), .second, .val (.int p5), .val (.long v187), .second, .val (.long v188), .second, .val (.int ad190), .val (.int sel192), .val (.long qq192), .second, .val (.ref b229), .val (.int r238), .unset, .unset, .unset, .unset] [(.long v187), (.ref b229)])) rfl (by rw [hml]; rfl) (Steps.refl _) (argsL := [(.long v187)]) (rest := []) (lenOf pd_4 rfl) rfl (by show 2 * 0 + _ ≤ _; exact Nat.le_of_eq rfl) (hb hby at_138) (fun _ _ => ⟨rfl, rfl, Nat.le_of_ble_eq_true rfl, Nat.le_of_ble_eq_true rfl⟩)
          dsimp only [Pt.U, Pt.locs, Pt.cells, Pt.slots] at X241 l241 y241 z241 st241 hQ241
          subst l241 y241 z241
          obtain ⟨rfl, Nq241, hh241⟩ := hQ241
          have N241 := Fr.app N238 Nq241
          refine Go.by (B := (T241.setTop (mkF m 141 #[.val (.long q1), .second, .val (.long q2), .second, .val (.long q3), .second, .val (.long q4), .second, .val (.int p5), .val (.long v187), .second, .val (.long v188), .second, .val (.int ad190), .val (.int sel192), .val (.long qq192), .second, .val (.ref b229), .val (.int r238), .unset, .unset, .unset, .unset] [(.int (if v187 = v187 then r238 else (-1 : Int32)))]))) (fun _ k => st241.trans k) ?_
          have hs242 : (if v187 = v187 then r238 else (-1 : Int32)) = r238 := if_pos rfl
          rw [hs242]
          refine Go.by (B := (T241.setTop (mkF m 147 #[.val (.long q1), .second, .val (.long q2), .second, .val (.long q3), .second, .val (.long q4), .second, .val (.int p5), .val (.long v187), .second, .val (.long v188), .second, .val (.int ad190), .val (.int sel192), .val (.long qq192), .second, .val (.ref b229), .val (.int r238), .val (.int r238), .unset, .unset, .unset] [(.long v188), (.ref b229)]))) (fun _ k => XS.istore X241.here hx rfl (hb hby at_141) rfl (l' := #[.val (.long q1), .second, .val (.long q2), .second, .val (.long q3), .second, .val (.long q4), .second, .val (.int p5), .val (.long v187), .second, .val (.long v188), .second, .val (.int ad190), .val (.int sel192), .val (.long qq192), .second, .val (.ref b229), .val (.int r238), .val (.int r238), .unset, .unset, .unset]) rfl (XS.aload X241.here hx rfl (hb hby at_143) rfl rfl (XS.lload X241.here hx rfl (hb hby at_145) rfl k))) ?_
          obtain ⟨cq243, kq243, q243a, q243b, q243c⟩ := isOf hZ hh241 p238_0
          obtain ⟨_, _, ⟨T243, L243, k243, n243⟩, -, X243, ⟨Lc243, hQ243, l243, y243, z243⟩, st243⟩ := X241.virtualBack hx (y := (⟨"com/example/floodgauge/floodgauge/latency/SeqTable", "slot", "(J)I"⟩ : MethodName)) (z := (⟨"com/example/floodgauge/floodgauge/latency/SeqTable", "slot", "(J)I"⟩ : MethodName)) hown (mvT hZ (wd hw 26 rfl)) (mvT hZ (wd hw 27 rfl)) (notFace_of_selects (args := #[]) (mvT hZ (wd hw 29 rfl))) (mvT hZ (wd hw 29 rfl)) (mvT hZ (wd hw 28 rfl)) (by decide) (backOf (W := 0) (rm_slot1 l Z a0 hw [] b229 s1235 k1235 v188 r238 v187 T238.heap n0 Z239 p238_1 p238_4 hpv187 p238_6 ⟨p238_7.1, p238_7.2⟩) hZ (wd hw 30 rfl) (wd hw 3 rfl) (by decide) (by decide)) q243a q243c (g := (mkF m 147 #[.val (.long q1), .second, .val (.long q2), .second, .val (.long q3), .second, .val (.long q4), .second, .val (.int p5), .val (.long v187), .second, .val (.long v188), .second, .val (.int ad190), .val (.int sel192), .val (.long qq192), .second, .val (.ref b229), .val (.int r238), .val (.int r238), .unset, .unset, .unset] [(.long v188), (.ref b229)])) rfl (by rw [hml]; rfl) (Steps.refl _) (argsL := [(.long v188)]) (rest := []) (lenOf pd_4 rfl) rfl (by show 2 * 0 + _ ≤ _; exact Nat.le_of_eq rfl) (hb hby at_147) (fun _ _ => ⟨rfl, hh241, Nat.le_of_ble_eq_true rfl, Nat.le_of_ble_eq_true rfl⟩)
          dsimp only [Pt.U, Pt.locs, Pt.cells, Pt.slots] at X243 l243 y243 z243 st243 hQ243
          subst l243 y243 z243
          obtain ⟨rfl, Nq243, hh243⟩ := hQ243
          have N243 := Fr.app N241 Nq243
          refine Go.by (B := (T243.setTop (mkF m 150 #[.val (.long q1), .second, .val (.long q2), .second, .val (.long q3), .second, .val (.long q4), .second, .val (.int p5), .val (.long v187), .second, .val (.long v188), .second, .val (.int ad190), .val (.int sel192), .val (.long qq192), .second, .val (.ref b229), .val (.int r238), .val (.int r238), .unset, .unset, .unset] [(.int (if v187 = v188 then r238 else (-1 : Int32)))]))) (fun _ k => st243.trans k) ?_
          have hs244 : (if v187 = v188 then r238 else (-1 : Int32)) = (-1 : Int32) := if_neg c193
          rw [hs244]
          refine Go.by (B := (T243.setTop (mkF m 156 #[.val (.long q1), .second, .val (.long q2), .second, .val (.long q3), .second, .val (.long q4), .second, .val (.int p5), .val (.long v187), .second, .val (.long v188), .second, .val (.int ad190), .val (.int sel192), .val (.long qq192), .second, .val (.ref b229), .val (.int r238), .val (.int r238), .val (.int (-1 : Int32)), .unset, .unset] [(.long qq192), (.ref b229)]))) (fun _ k => XS.istore X243.here hx rfl (hb hby at_150) rfl (l' := #[.val (.long q1), .second, .val (.long q2), .second, .val (.long q3), .second, .val (.long q4), .second, .val (.int p5), .val (.long v187), .second, .val (.long v188), .second, .val (.int ad190), .val (.int sel192), .val (.long qq192), .second, .val (.ref b229), .val (.int r238), .val (.int r238), .val (.int (-1 : Int32)), .unset, .unset]) rfl (XS.aload X243.here hx rfl (hb hby at_152) rfl rfl (XS.lload X243.here hx rfl (hb hby at_154) rfl k))) ?_
          obtain ⟨cq245, kq245, q245a, q245b, q245c⟩ := isOf hZ hh243 p238_0
          obtain ⟨_, _, ⟨T245, L245, k245, n245⟩, -, X245, ⟨Lc245, hQ245, l245, y245, z245⟩, st245⟩ := X243.virtualBack hx (y := (⟨"com/example/floodgauge/floodgauge/latency/SeqTable", "slot", "(J)I"⟩ : MethodName)) (z := (⟨"com/example/floodgauge/floodgauge/latency/SeqTable", "slot", "(J)I"⟩ : MethodName)) hown (mvT hZ (wd hw 26 rfl)) (mvT hZ (wd hw 27 rfl)) (notFace_of_selects (args := #[]) (mvT hZ (wd hw 29 rfl))) (mvT hZ (wd hw 29 rfl)) (mvT hZ (wd hw 28 rfl)) (by decide) (backOf (W := 0) (rm_slot1 l Z a0 hw [] b229 s1235 k1235 qq192 r238 v187 T238.heap n0 Z239 p238_1 p238_4 hpv187 p238_6 ⟨p238_7.1, p238_7.2⟩) hZ (wd hw 30 rfl) (wd hw 3 rfl) (by decide) (by decide)) q245a q245c (g := (mkF m 156 #[.val (.long q1), .second, .val (.long q2), .second, .val (.long q3), .second, .val (.long q4), .second, .val (.int p5), .val (.long v187), .second, .val (.long v188), .second, .val (.int ad190), .val (.int sel192), .val (.long qq192), .second, .val (.ref b229), .val (.int r238), .val (.int r238), .val (.int (-1 : Int32)), .unset, .unset] [(.long qq192), (.ref b229)])) rfl (by rw [hml]; rfl) (Steps.refl _) (argsL := [(.long qq192)]) (rest := []) (lenOf pd_4 rfl) rfl (by show 2 * 0 + _ ≤ _; exact Nat.le_of_eq rfl) (hb hby at_156) (fun _ _ => ⟨rfl, hh243, Nat.le_of_ble_eq_true rfl, Nat.le_of_ble_eq_true rfl⟩)
          dsimp only [Pt.U, Pt.locs, Pt.cells, Pt.slots] at X245 l245 y245 z245 st245 hQ245
          subst l245 y245 z245
          obtain ⟨rfl, Nq245, hh245⟩ := hQ245
          have N245 := Fr.app N243 Nq245
          refine Go.by (B := (T245.setTop (mkF m 159 #[.val (.long q1), .second, .val (.long q2), .second, .val (.long q3), .second, .val (.long q4), .second, .val (.int p5), .val (.long v187), .second, .val (.long v188), .second, .val (.int ad190), .val (.int sel192), .val (.long qq192), .second, .val (.ref b229), .val (.int r238), .val (.int r238), .val (.int (-1 : Int32)), .unset, .unset] [(.int (if v187 = qq192 then r238 else (-1 : Int32)))]))) (fun _ k => st245.trans k) ?_
          rcases Classical.em (v187 = qq192) with c246 | c246
          · skip
            have hs247 : (if v187 = qq192 then r238 else (-1 : Int32)) = r238 := if_pos c246
            rw [hs247]
            refine Go.by (B := (T245.setTop (mkF m 170 #[.val (.long q1), .second, .val (.long q2), .second, .val (.long q3), .second, .val (.long q4), .second, .val (.int p5), .val (.long v187), .second, .val (.long v188), .second, .val (.int ad190), .val (.int sel192), .val (.long qq192), .second, .val (.ref b229), .val (.int r238), .val (.int r238), .val (.int (-1 : Int32)), .val (.int r238), .unset] [(.int r238), (.ref b229)]))) (fun _ k => XS.istore X245.here hx rfl (hb hby at_159) rfl (l' := #[.val (.long q1), .second, .val (.long q2), .second, .val (.long q3), .second, .val (.long q4), .second, .val (.int p5), .val (.long v187), .second, .val (.long v188), .second, .val (.int ad190), .val (.int sel192), .val (.long qq192), .second, .val (.ref b229), .val (.int r238), .val (.int r238), .val (.int (-1 : Int32)), .val (.int r238), .unset]) rfl (XS.iload X245.here hx rfl (hb hby at_161) rfl (XS.ifNo X245.here hx rfl (hb hby at_163) rfl ((if0 _ _).trans (flt p238_7.1).1) (XS.aload X245.here hx rfl (hb hby at_166) rfl rfl (XS.iload X245.here hx rfl (hb hby at_168) rfl k))))) ?_
            obtain ⟨cq248, kq248, q248a, q248b, q248c⟩ := isOf hZ hh245 p238_0
            obtain ⟨_, _, ⟨T248, L248, k248, n248⟩, -, X248, ⟨Lc248, hQ248, l248, y248, z248⟩, st248⟩ := X245.virtualBack hx (y := (⟨"com/example/floodgauge/floodgauge/latency/SeqTable", "value", "(I)J"⟩ : MethodName)) (z := (⟨"com/example/floodgauge/floodgauge/latency/SeqTable", "value", "(I)J"⟩ : MethodName)) hown (mvT hZ (wd hw 44 rfl)) (mvT hZ (wd hw 45 rfl)) (notFace_of_selects (args := #[]) (mvT hZ (wd hw 47 rfl))) (mvT hZ (wd hw 47 rfl)) (mvT hZ (wd hw 46 rfl)) (by decide) (backOf (W := 0) (rm_val1 l Z a0 hw [] b229 s2235 k2235 r238 q4 T238.heap n0 Z239 p238_2 p238_5 ⟨p238_7.1, p238_7.2⟩) hZ (wd hw 48 rfl) (wd hw 3 rfl) (by decide) (by decide)) q248a q248c (g := (mkF m 170 #[.val (.long q1), .second, .val (.long q2), .second, .val (.long q3), .second, .val (.long q4), .second, .val (.int p5), .val (.long v187), .second, .val (.long v188), .second, .val (.int ad190), .val (.int sel192), .val (.long qq192), .second, .val (.ref b229), .val (.int r238), .val (.int r238), .val (.int (-1 : Int32)), .val (.int r238), .unset] [(.int r238), (.ref b229)])) rfl (by rw [hml]; rfl) (Steps.refl _) (argsL := [(.int r238)]) (rest := []) (lenOf pd_6 rfl) rfl (by show 2 * 0 + _ ≤ _; exact Nat.le_of_eq rfl) (hb hby at_170) (fun _ _ => ⟨rfl, hh245, Nat.le_of_ble_eq_true rfl, Nat.le_of_ble_eq_true rfl⟩)
            dsimp only [Pt.U, Pt.locs, Pt.cells, Pt.slots] at X248 l248 y248 z248 st248 hQ248
            subst l248 y248 z248
            obtain ⟨rfl, Nq248, hh248⟩ := hQ248
            have N248 := Fr.app N245 Nq248
            refine Go.by (B := (T248.setTop (mkF m 173 #[.val (.long q1), .second, .val (.long q2), .second, .val (.long q3), .second, .val (.long q4), .second, .val (.int p5), .val (.long v187), .second, .val (.long v188), .second, .val (.int ad190), .val (.int sel192), .val (.long qq192), .second, .val (.ref b229), .val (.int r238), .val (.int r238), .val (.int (-1 : Int32)), .val (.int r238), .unset] [(.long q4)]))) (fun _ k => st248.trans k) ?_
            refine Go.by (B := (T248.setTop (mkF m 203 #[.val (.long q1), .second, .val (.long q2), .second, .val (.long q3), .second, .val (.long q4), .second, .val (.int p5), .val (.long v187), .second, .val (.long v188), .second, .val (.int ad190), .val (.int sel192), .val (.long qq192), .second, .val (.ref b229), .val (.int r238), .val (.int r238), .val (.int (-1 : Int32)), .val (.int r238), .unset] []))) (fun _ k => XS.lload X248.here hx rfl (hb hby at_173) rfl (XS.lcmp X248.here hx rfl (hb hby at_175) rfl (XS.ifYes X248.here hx rfl (pc0 := 176) (pc' := 181) rfl (hb hby at_176) rfl ((if0 _ _).trans (teq ((lw_eq _ _).mpr (rfl : q4 = q4))).1) (by decide) (by decide) (XS.iload X248.here hx rfl (hb hby at_181) rfl (XS.ifYes X248.here hx rfl (pc0 := 183) (pc' := 194) rfl (hb hby at_183) rfl ((if0 _ _).trans (teq c240).1) (by decide) (by decide) (XS.iload X248.here hx rfl (hb hby at_194) rfl (XS.iload X248.here hx rfl (hb hby at_196) rfl (XS.icmpYes X248.here hx rfl (pc0 := 198) (pc' := 203) rfl (hb hby at_198) rfl (teq (rfl : r238 = r238)).1 (by decide) (by decide) k)))))))) ?_
            refine Go.by (B := (T248.setTop (mkF m 259 #[.val (.long q1), .second, .val (.long q2), .second, .val (.long q3), .second, .val (.long q4), .second, .val (.int p5), .val (.long v187), .second, .val (.long v188), .second, .val (.int ad190), .val (.int sel192), .val (.long qq192), .second, .val (.ref b229), .val (.int r238), .val (.int r238), .val (.int (-1 : Int32)), .val (.int r238), .unset] [(.int (-1 : Int32)), (.int (-1 : Int32))]))) (fun _ k => XS.lload X248.here hx rfl (hb hby at_203) rfl (XS.lload X248.here hx rfl (hb hby at_205) rfl (XS.lcmp X248.here hx rfl (hb hby at_207) rfl (XS.ifYes X248.here hx rfl (pc0 := 208) (pc' := 220) rfl (hb hby at_208) rfl ((if0 _ _).trans (feq (fun q => (fun q => c193 q.symm) ((lw_eq _ _).mp q))).2) (by decide) (by decide) (XS.iload X248.here hx rfl (hb hby at_220) rfl (XS.ifYes X248.here hx rfl (pc0 := 222) (pc' := 256) rfl (hb hby at_222) rfl ((if0 _ _).trans (teq c240).1) (by decide) (by decide) (XS.iload X248.here hx rfl (hb hby at_256) rfl (XS.iconst X248.here hx rfl (hb hby at_258) k)))))))) ?_
            refine Go.by (B := (T248.setTop (mkF m 282 #[.val (.long q1), .second, .val (.long q2), .second, .val (.long q3), .second, .val (.long q4), .second, .val (.int p5), .val (.long v187), .second, .val (.long v188), .second, .val (.int ad190), .val (.int sel192), .val (.long qq192), .second, .val (.ref b229), .val (.int r238), .val (.int r238), .val (.int (-1 : Int32)), .val (.int r238), .unset] [(.int (lcmpW qq192 v187))]))) (fun _ k => XS.icmpYes X248.here hx rfl (pc0 := 259) (pc' := 264) rfl (hb hby at_259) rfl (teq (by decide : (-1 : Int32) = (-1 : Int32))).1 (by decide) (by decide) (XS.lload X248.here hx rfl (hb hby at_264) rfl (XS.lconst X248.here hx rfl (hb hby at_266) (XS.lcmp X248.here hx rfl (hb hby at_267) rfl (XS.ifYes X248.here hx rfl (pc0 := 268) (pc' := 277) rfl (hb hby at_268) rfl ((if0 _ _).trans (flt (fun q => (fun h => hpv187 (by rw [c246]; exact h) : ¬ (qq192 < (0 : Int64))) ((lw_lt _ _).mp q))).2.1) (by decide) (by decide) (XS.lload X248.here hx rfl (hb hby at_277) rfl (XS.lload X248.here hx rfl (hb hby at_279) rfl (XS.lcmp X248.here hx rfl (hb hby at_281) rfl k)))))))) ?_
            refine Go.by (B := (T248.setTop (mkF m 323 #[.val (.long q1), .second, .val (.long q2), .second, .val (.long q3), .second, .val (.long q4), .second, .val (.int p5), .val (.long v187), .second, .val (.long v188), .second, .val (.int ad190), .val (.int sel192), .val (.long qq192), .second, .val (.ref b229), .val (.int r238), .val (.int r238), .val (.int (-1 : Int32)), .val (.int r238), .val (.int r238)] [(.int 1)]))) (fun _ k => XS.ifNo X248.here hx rfl (hb hby at_282) rfl ((if0 _ _).trans (teq ((lw_eq _ _).mpr (c246).symm)).2) (XS.iload X248.here hx rfl (hb hby at_285) rfl (XS.istore X248.here hx rfl (hb hby at_287) rfl (l' := #[.val (.long q1), .second, .val (.long q2), .second, .val (.long q3), .second, .val (.long q4), .second, .val (.int p5), .val (.long v187), .second, .val (.long v188), .second, .val (.int ad190), .val (.int sel192), .val (.long qq192), .second, .val (.ref b229), .val (.int r238), .val (.int r238), .val (.int (-1 : Int32)), .val (.int r238), .val (.int r238)]) rfl (XS.goto X248.here hx rfl (pc0 := 289) (pc' := 315) rfl (hb hby at_289) (by decide) (by decide) (XS.iload X248.here hx rfl (hb hby at_315) rfl (XS.iload X248.here hx rfl (hb hby at_317) rfl (XS.icmpNo X248.here hx rfl (hb hby at_319) rfl (teq (rfl : r238 = r238)).2 (XS.iconst X248.here hx rfl (hb hby at_322) k)))))))) ?_
            refine Go.by (B := (T248.setTop (mkF m 327 #[.val (.long q1), .second, .val (.long q2), .second, .val (.long q3), .second, .val (.long q4), .second, .val (.int p5), .val (.long v187), .second, .val (.long v188), .second, .val (.int ad190), .val (.int sel192), .val (.long qq192), .second, .val (.ref b229), .val (.int r238), .val (.int r238), .val (.int (-1 : Int32)), .val (.int r238), .val (.int r238)] [(.int 1)]))) (fun _ k => XS.goto X248.here hx rfl (pc0 := 323) (pc' := 327) rfl (hb hby at_323) (by decide) (by decide) k) ?_
            refine Go.ret X248 hx hlk (t := .boolean) hret rfl (Or.inl ⟨rfl, by simp, _, rfl⟩) (hb hby at_327) (by decide) (by decide) ?_
            exact ⟨rfl, N248⟩
          · skip
            have hs249 : (if v187 = qq192 then r238 else (-1 : Int32)) = (-1 : Int32) := if_neg c246
            rw [hs249]
            refine Go.by (B := (T245.setTop (mkF m 170 #[.val (.long q1), .second, .val (.long q2), .second, .val (.long q3), .second, .val (.long q4), .second, .val (.int p5), .val (.long v187), .second, .val (.long v188), .second, .val (.int ad190), .val (.int sel192), .val (.long qq192), .second, .val (.ref b229), .val (.int r238), .val (.int r238), .val (.int (-1 : Int32)), .val (.int (-1 : Int32)), .unset] [(.int r238), (.ref b229)]))) (fun _ k => XS.istore X245.here hx rfl (hb hby at_159) rfl (l' := #[.val (.long q1), .second, .val (.long q2), .second, .val (.long q3), .second, .val (.long q4), .second, .val (.int p5), .val (.long v187), .second, .val (.long v188), .second, .val (.int ad190), .val (.int sel192), .val (.long qq192), .second, .val (.ref b229), .val (.int r238), .val (.int r238), .val (.int (-1 : Int32)), .val (.int (-1 : Int32)), .unset]) rfl (XS.iload X245.here hx rfl (hb hby at_161) rfl (XS.ifNo X245.here hx rfl (hb hby at_163) rfl ((if0 _ _).trans (flt p238_7.1).1) (XS.aload X245.here hx rfl (hb hby at_166) rfl rfl (XS.iload X245.here hx rfl (hb hby at_168) rfl k))))) ?_
            obtain ⟨cq250, kq250, q250a, q250b, q250c⟩ := isOf hZ hh245 p238_0
            obtain ⟨_, _, ⟨T250, L250, k250, n250⟩, -, X250, ⟨Lc250, hQ250, l250, y250, z250⟩, st250⟩ := X245.virtualBack hx (y := (⟨"com/example/floodgauge/floodgauge/latency/SeqTable", "value", "(I)J"⟩ : MethodName)) (z := (⟨"com/example/floodgauge/floodgauge/latency/SeqTable", "value", "(I)J"⟩ : MethodName)) hown (mvT hZ (wd hw 44 rfl)) (mvT hZ (wd hw 45 rfl)) (notFace_of_selects (args := #[]) (mvT hZ (wd hw 47 rfl))) (mvT hZ (wd hw 47 rfl)) (mvT hZ (wd hw 46 rfl)) (by decide) (backOf (W := 0) (rm_val1 l Z a0 hw [] b229 s2235 k2235 r238 q4 T238.heap n0 Z239 p238_2 p238_5 ⟨p238_7.1, p238_7.2⟩) hZ (wd hw 48 rfl) (wd hw 3 rfl) (by decide) (by decide)) q250a q250c (g := (mkF m 170 #[.val (.long q1), .second, .val (.long q2), .second, .val (.long q3), .second, .val (.long q4), .second, .val (.int p5), .val (.long v187), .second, .val (.long v188), .second, .val (.int ad190), .val (.int sel192), .val (.long qq192), .second, .val (.ref b229), .val (.int r238), .val (.int r238), .val (.int (-1 : Int32)), .val (.int (-1 : Int32)), .unset] [(.int r238), (.ref b229)])) rfl (by rw [hml]; rfl) (Steps.refl _) (argsL := [(.int r238)]) (rest := []) (lenOf pd_6 rfl) rfl (by show 2 * 0 + _ ≤ _; exact Nat.le_of_eq rfl) (hb hby at_170) (fun _ _ => ⟨rfl, hh245, Nat.le_of_ble_eq_true rfl, Nat.le_of_ble_eq_true rfl⟩)
            dsimp only [Pt.U, Pt.locs, Pt.cells, Pt.slots] at X250 l250 y250 z250 st250 hQ250
            subst l250 y250 z250
            obtain ⟨rfl, Nq250, hh250⟩ := hQ250
            have N250 := Fr.app N245 Nq250
            refine Go.by (B := (T250.setTop (mkF m 173 #[.val (.long q1), .second, .val (.long q2), .second, .val (.long q3), .second, .val (.long q4), .second, .val (.int p5), .val (.long v187), .second, .val (.long v188), .second, .val (.int ad190), .val (.int sel192), .val (.long qq192), .second, .val (.ref b229), .val (.int r238), .val (.int r238), .val (.int (-1 : Int32)), .val (.int (-1 : Int32)), .unset] [(.long q4)]))) (fun _ k => st250.trans k) ?_
            refine Go.by (B := (T250.setTop (mkF m 203 #[.val (.long q1), .second, .val (.long q2), .second, .val (.long q3), .second, .val (.long q4), .second, .val (.int p5), .val (.long v187), .second, .val (.long v188), .second, .val (.int ad190), .val (.int sel192), .val (.long qq192), .second, .val (.ref b229), .val (.int r238), .val (.int r238), .val (.int (-1 : Int32)), .val (.int (-1 : Int32)), .unset] []))) (fun _ k => XS.lload X250.here hx rfl (hb hby at_173) rfl (XS.lcmp X250.here hx rfl (hb hby at_175) rfl (XS.ifYes X250.here hx rfl (pc0 := 176) (pc' := 181) rfl (hb hby at_176) rfl ((if0 _ _).trans (teq ((lw_eq _ _).mpr (rfl : q4 = q4))).1) (by decide) (by decide) (XS.iload X250.here hx rfl (hb hby at_181) rfl (XS.ifYes X250.here hx rfl (pc0 := 183) (pc' := 194) rfl (hb hby at_183) rfl ((if0 _ _).trans (teq c240).1) (by decide) (by decide) (XS.iload X250.here hx rfl (hb hby at_194) rfl (XS.iload X250.here hx rfl (hb hby at_196) rfl (XS.icmpYes X250.here hx rfl (pc0 := 198) (pc' := 203) rfl (hb hby at_198) rfl (teq (rfl : r238 = r238)).1 (by decide) (by decide) k)))))))) ?_
            refine Go.by (B := (T250.setTop (mkF m 259 #[.val (.long q1), .second, .val (.long q2), .second, .val (.long q3), .second, .val (.long q4), .second, .val (.int p5), .val (.long v187), .second, .val (.long v188), .second, .val (.int ad190), .val (.int sel192), .val (.long qq192), .second, .val (.ref b229), .val (.int r238), .val (.int r238), .val (.int (-1 : Int32)), .val (.int (-1 : Int32)), .unset] [(.int (-1 : Int32)), (.int (-1 : Int32))]))) (fun _ k => XS.lload X250.here hx rfl (hb hby at_203) rfl (XS.lload X250.here hx rfl (hb hby at_205) rfl (XS.lcmp X250.here hx rfl (hb hby at_207) rfl (XS.ifYes X250.here hx rfl (pc0 := 208) (pc' := 220) rfl (hb hby at_208) rfl ((if0 _ _).trans (feq (fun q => (fun q => c193 q.symm) ((lw_eq _ _).mp q))).2) (by decide) (by decide) (XS.iload X250.here hx rfl (hb hby at_220) rfl (XS.ifYes X250.here hx rfl (pc0 := 222) (pc' := 256) rfl (hb hby at_222) rfl ((if0 _ _).trans (teq c240).1) (by decide) (by decide) (XS.iload X250.here hx rfl (hb hby at_256) rfl (XS.iconst X250.here hx rfl (hb hby at_258) k)))))))) ?_
            refine Go.by (B := (T250.setTop (mkF m 268 #[.val (.long q1), .second, .val (.long q2), .second, .val (.long q3), .second, .val (.long q4), .second, .val (.int p5), .val (.long v187), .second, .val (.long v188), .second, .val (.int ad190), .val (.int sel192), .val (.long qq192), .second, .val (.ref b229), .val (.int r238), .val (.int r238), .val (.int (-1 : Int32)), .val (.int (-1 : Int32)), .unset] [(.int (lcmpW qq192 (0 : Int64)))]))) (fun _ k => XS.icmpYes X250.here hx rfl (pc0 := 259) (pc' := 264) rfl (hb hby at_259) rfl (teq (by decide : (-1 : Int32) = (-1 : Int32))).1 (by decide) (by decide) (XS.lload X250.here hx rfl (hb hby at_264) rfl (XS.lconst X250.here hx rfl (hb hby at_266) (XS.lcmp X250.here hx rfl (hb hby at_267) rfl k)))) ?_
            by_cases c251 : qq192 < (0 : Int64)
            · skip
              refine Go.by (B := (T250.setTop (mkF m 323 #[.val (.long q1), .second, .val (.long q2), .second, .val (.long q3), .second, .val (.long q4), .second, .val (.int p5), .val (.long v187), .second, .val (.long v188), .second, .val (.int ad190), .val (.int sel192), .val (.long qq192), .second, .val (.ref b229), .val (.int r238), .val (.int r238), .val (.int (-1 : Int32)), .val (.int (-1 : Int32)), .val (.int (-1 : Int32))] [(.int 1)]))) (fun _ k => XS.ifNo X250.here hx rfl (hb hby at_268) rfl ((if0 _ _).trans (tlt ((lw_lt _ _).mpr c251)).2.1) (XS.iconst X250.here hx rfl (hb hby at_271) (XS.istore X250.here hx rfl (hb hby at_272) rfl (l' := #[.val (.long q1), .second, .val (.long q2), .second, .val (.long q3), .second, .val (.long q4), .second, .val (.int p5), .val (.long v187), .second, .val (.long v188), .second, .val (.int ad190), .val (.int sel192), .val (.long qq192), .second, .val (.ref b229), .val (.int r238), .val (.int r238), .val (.int (-1 : Int32)), .val (.int (-1 : Int32)), .val (.int (-1 : Int32))]) rfl (XS.goto X250.here hx rfl (pc0 := 274) (pc' := 315) rfl (hb hby at_274) (by decide) (by decide) (XS.iload X250.here hx rfl (hb hby at_315) rfl (XS.iload X250.here hx rfl (hb hby at_317) rfl (XS.icmpNo X250.here hx rfl (hb hby at_319) rfl (teq (by decide : (-1 : Int32) = (-1 : Int32))).2 (XS.iconst X250.here hx rfl (hb hby at_322) k)))))))) ?_
              refine Go.by (B := (T250.setTop (mkF m 327 #[.val (.long q1), .second, .val (.long q2), .second, .val (.long q3), .second, .val (.long q4), .second, .val (.int p5), .val (.long v187), .second, .val (.long v188), .second, .val (.int ad190), .val (.int sel192), .val (.long qq192), .second, .val (.ref b229), .val (.int r238), .val (.int r238), .val (.int (-1 : Int32)), .val (.int (-1 : Int32)), .val (.int (-1 : Int32))] [(.int 1)]))) (fun _ k => XS.goto X250.here hx rfl (pc0 := 323) (pc' := 327) rfl (hb hby at_323) (by decide) (by decide) k) ?_
              refine Go.ret X250 hx hlk (t := .boolean) hret rfl (Or.inl ⟨rfl, by simp, _, rfl⟩) (hb hby at_327) (by decide) (by decide) ?_
              exact ⟨rfl, N250⟩
            · skip
              refine Go.by (B := (T250.setTop (mkF m 313 #[.val (.long q1), .second, .val (.long q2), .second, .val (.long q3), .second, .val (.long q4), .second, .val (.int p5), .val (.long v187), .second, .val (.long v188), .second, .val (.int ad190), .val (.int sel192), .val (.long qq192), .second, .val (.ref b229), .val (.int r238), .val (.int r238), .val (.int (-1 : Int32)), .val (.int (-1 : Int32)), .unset] [(.int (-1 : Int32))]))) (fun _ k => XS.ifYes X250.here hx rfl (pc0 := 268) (pc' := 277) rfl (hb hby at_268) rfl ((if0 _ _).trans (flt (fun q => c251 ((lw_lt _ _).mp q))).2.1) (by decide) (by decide) (XS.lload X250.here hx rfl (hb hby at_277) rfl (XS.lload X250.here hx rfl (hb hby at_279) rfl (XS.lcmp X250.here hx rfl (hb hby at_281) rfl (XS.ifYes X250.here hx rfl (pc0 := 282) (pc' := 292) rfl (hb hby at_282) rfl ((if0 _ _).trans (feq (fun q => (fun q => c246 q.symm) ((lw_eq _ _).mp q))).2) (by decide) (by decide) (XS.iload X250.here hx rfl (hb hby at_292) rfl (XS.ifYes X250.here hx rfl (pc0 := 294) (pc' := 312) rfl (hb hby at_294) rfl ((if0 _ _).trans (teq c240).1) (by decide) (by decide) (XS.iconst X250.here hx rfl (hb hby at_312) k)))))))) ?_
              refine Go.by (B := (T250.setTop (mkF m 327 #[.val (.long q1), .second, .val (.long q2), .second, .val (.long q3), .second, .val (.long q4), .second, .val (.int p5), .val (.long v187), .second, .val (.long v188), .second, .val (.int ad190), .val (.int sel192), .val (.long qq192), .second, .val (.ref b229), .val (.int r238), .val (.int r238), .val (.int (-1 : Int32)), .val (.int (-1 : Int32)), .val (.int (-1 : Int32))] [(.int 1)]))) (fun _ k => XS.istore X250.here hx rfl (hb hby at_313) rfl (l' := #[.val (.long q1), .second, .val (.long q2), .second, .val (.long q3), .second, .val (.long q4), .second, .val (.int p5), .val (.long v187), .second, .val (.long v188), .second, .val (.int ad190), .val (.int sel192), .val (.long qq192), .second, .val (.ref b229), .val (.int r238), .val (.int r238), .val (.int (-1 : Int32)), .val (.int (-1 : Int32)), .val (.int (-1 : Int32))]) rfl (XS.iload X250.here hx rfl (hb hby at_315) rfl (XS.iload X250.here hx rfl (hb hby at_317) rfl (XS.icmpNo X250.here hx rfl (hb hby at_319) rfl (teq (by decide : (-1 : Int32) = (-1 : Int32))).2 (XS.iconst X250.here hx rfl (hb hby at_322) (XS.goto X250.here hx rfl (pc0 := 323) (pc' := 327) rfl (hb hby at_323) (by decide) (by decide) k)))))) ?_
              refine Go.ret X250 hx hlk (t := .boolean) hret rfl (Or.inl ⟨rfl, by simp, _, rfl⟩) (hb hby at_327) (by decide) (by decide) ?_
              exact ⟨rfl, N250⟩
        · skip
          refine Go.by (B := (T238.setTop (mkF m 130 #[.val (.long q1), .second, .val (.long q2), .second, .val (.long q3), .second, .val (.long q4), .second, .val (.int p5), .val (.long v187), .second, .val (.long v188), .second, .val (.int ad190), .val (.int sel192), .val (.long qq192), .second, .val (.ref b229), .val (.int r238), .unset, .unset, .unset, .unset] [(.long (q4 ^^^ (-1 : Int64))), (.long v188), (.ref b229)]))) (fun _ k => XS.ifNo X238.here hx rfl (hb hby at_117) rfl ((if0 _ _).trans (feq c240).1) (XS.aload X238.here hx rfl (hb hby at_120) rfl rfl (XS.lload X238.here hx rfl (hb hby at_122) rfl (XS.lload X238.here hx rfl (hb hby at_124) rfl (X238.ldc2Long hx hown (mvT hZ (wd hw 43 rfl)) (g := (mkF m 126 #[.val (.long q1), .second, .val (.long q2), .second, .val (.long q3), .second, .val (.long q4), .second, .val (.int p5), .val (.long v187), .second, .val (.long v188), .second, .val (.int ad190), .val (.int sel192), .val (.long qq192), .second, .val (.ref b229), .val (.int r238), .unset, .unset, .unset, .unset] [(.long q4), (.long v188), (.ref b229)])) rfl (hb hby at_126) _ (XS.lxor X238.here hx rfl (hb hby at_129) rfl k)))))) ?_
          obtain ⟨cq252, kq252, q252a, q252b, q252c⟩ := isOf hZ rfl p238_0
          obtain ⟨_, _, ⟨T252, L252, k252, n252⟩, -, X252, ⟨Lc252, hQ252, l252, y252, z252⟩, st252⟩ := X238.virtualBack hx (y := (⟨"com/example/floodgauge/floodgauge/latency/SeqTable", "add", "(JJ)I"⟩ : MethodName)) (z := (⟨"com/example/floodgauge/floodgauge/latency/SeqTable", "add", "(JJ)I"⟩ : MethodName)) hown (mvT hZ (wd hw 35 rfl)) (mvT hZ (wd hw 36 rfl)) (notFace_of_selects (args := #[]) (mvT hZ (wd hw 38 rfl))) (mvT hZ (wd hw 38 rfl)) (mvT hZ (wd hw 37 rfl)) (by decide) (backOf (W := 0) (rm_add1n l Z a0 hw [] b229 s1235 s2235 k1235 k2235 v188 (q4 ^^^ (-1 : Int64)) r238 v187 q4 T238.heap n0 Z239 O239 p238_0 p238_1 p238_2 p238_3 p238_4 p238_5 p235_8 (Nat.ne_of_lt (Nat.lt_of_lt_of_le A229.lt sz_s1235)) (Nat.ne_of_lt (Nat.lt_of_lt_of_le A229.lt sz_s2235)) (Nat.le_trans Z0 sz_b229) (Nat.le_trans Z230 sz_s1235) (Nat.le_trans Z230 sz_s2235) hpv187 p238_6 ⟨p238_7.1, p238_7.2⟩ hpv188 c193) hZ (wd hw 39 rfl) (wd hw 3 rfl) (by decide) (by decide)) q252a q252c (g := (mkF m 130 #[.val (.long q1), .second, .val (.long q2), .second, .val (.long q3), .second, .val (.long q4), .second, .val (.int p5), .val (.long v187), .second, .val (.long v188), .second, .val (.int ad190), .val (.int sel192), .val (.long qq192), .second, .val (.ref b229), .val (.int r238), .unset, .unset, .unset, .unset] [(.long (q4 ^^^ (-1 : Int64))), (.long v188), (.ref b229)])) rfl (by rw [hml]; rfl) (Steps.refl _) (argsL := [(.long v188), (.long (q4 ^^^ (-1 : Int64)))]) (rest := []) (lenOf pd_5 rfl) rfl (by show 2 * 0 + _ ≤ _; exact Nat.le_of_eq rfl) (hb hby at_130) (fun _ _ => ⟨rfl, rfl, Nat.le_of_ble_eq_true rfl, Nat.le_of_ble_eq_true rfl⟩)
          dsimp only [Pt.U, Pt.locs, Pt.cells, Pt.slots] at X252 l252 y252 z252 st252 hQ252
          subst l252 y252 z252
          obtain ⟨r252, rfl, Nq252, K252, p252_0, p252_1, p252_2, p252_3, p252_4, p252_5, p252_6, p252_7, p252_8⟩ := hQ252
          have N252 := Fr.app N238 Nq252
          have O253 := O239.keep K252 (allS (Nat.le_trans Z0 sz_b229) (allS (Nat.le_trans Z230 sz_s1235) (allS (Nat.le_trans Z230 sz_s2235) all0)))
          have Z253 : n0 ≤ T252.heap.size := Nat.le_trans Z239 K252.1
          refine Go.by (B := (T252.setTop (mkF m 133 #[.val (.long q1), .second, .val (.long q2), .second, .val (.long q3), .second, .val (.long q4), .second, .val (.int p5), .val (.long v187), .second, .val (.long v188), .second, .val (.int ad190), .val (.int sel192), .val (.long qq192), .second, .val (.ref b229), .val (.int r238), .unset, .unset, .unset, .unset] [(.int r252)]))) (fun _ k => st252.trans k) ?_
          refine Go.by (B := (T252.setTop (mkF m 138 #[.val (.long q1), .second, .val (.long q2), .second, .val (.long q3), .second, .val (.long q4), .second, .val (.int p5), .val (.long v187), .second, .val (.long v188), .second, .val (.int ad190), .val (.int sel192), .val (.long qq192), .second, .val (.ref b229), .val (.int r238), .unset, .unset, .unset, .unset] [(.long v187), (.ref b229)]))) (fun _ k => XS.pop X252.here hx rfl (hb hby at_133) rfl rfl (XS.aload X252.here hx rfl (hb hby at_134) rfl rfl (XS.lload X252.here hx rfl (hb hby at_136) rfl k))) ?_
          obtain ⟨cq254, kq254, q254a, q254b, q254c⟩ := isOf hZ rfl p252_0
          obtain ⟨_, _, ⟨T254, L254, k254, n254⟩, -, X254, ⟨Lc254, hQ254, l254, y254, z254⟩, st254⟩ := X252.virtualBack hx (y := (⟨"com/example/floodgauge/floodgauge/latency/SeqTable", "slot", "(J)I"⟩ : MethodName)) (z := (⟨"com/example/floodgauge/floodgauge/latency/SeqTable", "slot", "(J)I"⟩ : MethodName)) hown (mvT hZ (wd hw 26 rfl)) (mvT hZ (wd hw 27 rfl)) (notFace_of_selects (args := #[]) (mvT hZ (wd hw 29 rfl))) (mvT hZ (wd hw 29 rfl)) (mvT hZ (wd hw 28 rfl)) (by decide) (backOf (W := 0) (rm_slot2 l Z a0 hw [] b229 s1235 k1235 v187 r238 v187 r252 v188 T252.heap n0 Z253 p252_1 p252_4 hpv187 p238_6 ⟨p238_7.1, p238_7.2⟩ hpv188 p252_6 p252_7 c193 ⟨p252_8.1, p252_8.2⟩) hZ (wd hw 30 rfl) (wd hw 3 rfl) (by decide) (by decide)) q254a q254c (g := (mkF m 138 #[.val (.long q1), .second, .val (.long q2), .second, .val (.long q3), .second, .val (.long q4), .second, .val (.int p5), .val (.long v187), .second, .val (.long v188), .second, .val (.int ad190), .val (.int sel192), .val (.long qq192), .second, .val (.ref b229), .val (.int r238), .unset, .unset, .unset, .unset] [(.long v187), (.ref b229)])) rfl (by rw [hml]; rfl) (Steps.refl _) (argsL := [(.long v187)]) (rest := []) (lenOf pd_4 rfl) rfl (by show 2 * 0 + _ ≤ _; exact Nat.le_of_eq rfl) (hb hby at_138) (fun _ _ => ⟨rfl, rfl, Nat.le_of_ble_eq_true rfl, Nat.le_of_ble_eq_true rfl⟩)
          dsimp only [Pt.U, Pt.locs, Pt.cells, Pt.slots] at X254 l254 y254 z254 st254 hQ254
          subst l254 y254 z254
          obtain ⟨rfl, Nq254, hh254⟩ := hQ254
          have N254 := Fr.app N252 Nq254
          refine Go.by (B := (T254.setTop (mkF m 141 #[.val (.long q1), .second, .val (.long q2), .second, .val (.long q3), .second, .val (.long q4), .second, .val (.int p5), .val (.long v187), .second, .val (.long v188), .second, .val (.int ad190), .val (.int sel192), .val (.long qq192), .second, .val (.ref b229), .val (.int r238), .unset, .unset, .unset, .unset] [(.int (if v187 = v187 then r238 else if v188 = v187 then r252 else (-1 : Int32)))]))) (fun _ k => st254.trans k) ?_
          have hs255 : (if v187 = v187 then r238 else if v188 = v187 then r252 else (-1 : Int32)) = r238 := if_pos rfl
          rw [hs255]
          refine Go.by (B := (T254.setTop (mkF m 147 #[.val (.long q1), .second, .val (.long q2), .second, .val (.long q3), .second, .val (.long q4), .second, .val (.int p5), .val (.long v187), .second, .val (.long v188), .second, .val (.int ad190), .val (.int sel192), .val (.long qq192), .second, .val (.ref b229), .val (.int r238), .val (.int r238), .unset, .unset, .unset] [(.long v188), (.ref b229)]))) (fun _ k => XS.istore X254.here hx rfl (hb hby at_141) rfl (l' := #[.val (.long q1), .second, .val (.long q2), .second, .val (.long q3), .second, .val (.long q4), .second, .val (.int p5), .val (.long v187), .second, .val (.long v188), .second, .val (.int ad190), .val (.int sel192), .val (.long qq192), .second, .val (.ref b229), .val (.int r238), .val (.int r238), .unset, .unset, .unset]) rfl (XS.aload X254.here hx rfl (hb hby at_143) rfl rfl (XS.lload X254.here hx rfl (hb hby at_145) rfl k))) ?_
          obtain ⟨cq256, kq256, q256a, q256b, q256c⟩ := isOf hZ hh254 p252_0
          obtain ⟨_, _, ⟨T256, L256, k256, n256⟩, -, X256, ⟨Lc256, hQ256, l256, y256, z256⟩, st256⟩ := X254.virtualBack hx (y := (⟨"com/example/floodgauge/floodgauge/latency/SeqTable", "slot", "(J)I"⟩ : MethodName)) (z := (⟨"com/example/floodgauge/floodgauge/latency/SeqTable", "slot", "(J)I"⟩ : MethodName)) hown (mvT hZ (wd hw 26 rfl)) (mvT hZ (wd hw 27 rfl)) (notFace_of_selects (args := #[]) (mvT hZ (wd hw 29 rfl))) (mvT hZ (wd hw 29 rfl)) (mvT hZ (wd hw 28 rfl)) (by decide) (backOf (W := 0) (rm_slot2 l Z a0 hw [] b229 s1235 k1235 v188 r238 v187 r252 v188 T252.heap n0 Z253 p252_1 p252_4 hpv187 p238_6 ⟨p238_7.1, p238_7.2⟩ hpv188 p252_6 p252_7 c193 ⟨p252_8.1, p252_8.2⟩) hZ (wd hw 30 rfl) (wd hw 3 rfl) (by decide) (by decide)) q256a q256c (g := (mkF m 147 #[.val (.long q1), .second, .val (.long q2), .second, .val (.long q3), .second, .val (.long q4), .second, .val (.int p5), .val (.long v187), .second, .val (.long v188), .second, .val (.int ad190), .val (.int sel192), .val (.long qq192), .second, .val (.ref b229), .val (.int r238), .val (.int r238), .unset, .unset, .unset] [(.long v188), (.ref b229)])) rfl (by rw [hml]; rfl) (Steps.refl _) (argsL := [(.long v188)]) (rest := []) (lenOf pd_4 rfl) rfl (by show 2 * 0 + _ ≤ _; exact Nat.le_of_eq rfl) (hb hby at_147) (fun _ _ => ⟨rfl, hh254, Nat.le_of_ble_eq_true rfl, Nat.le_of_ble_eq_true rfl⟩)
          dsimp only [Pt.U, Pt.locs, Pt.cells, Pt.slots] at X256 l256 y256 z256 st256 hQ256
          subst l256 y256 z256
          obtain ⟨rfl, Nq256, hh256⟩ := hQ256
          have N256 := Fr.app N254 Nq256
          refine Go.by (B := (T256.setTop (mkF m 150 #[.val (.long q1), .second, .val (.long q2), .second, .val (.long q3), .second, .val (.long q4), .second, .val (.int p5), .val (.long v187), .second, .val (.long v188), .second, .val (.int ad190), .val (.int sel192), .val (.long qq192), .second, .val (.ref b229), .val (.int r238), .val (.int r238), .unset, .unset, .unset] [(.int (if v187 = v188 then r238 else if v188 = v188 then r252 else (-1 : Int32)))]))) (fun _ k => st256.trans k) ?_
          have hs257 : (if v187 = v188 then r238 else if v188 = v188 then r252 else (-1 : Int32)) = (if v188 = v188 then r252 else (-1 : Int32)) := if_neg c193
          rw [hs257]
          have hs258 : (if v188 = v188 then r252 else (-1 : Int32)) = r252 := if_pos rfl
          rw [hs258]
          refine Go.by (B := (T256.setTop (mkF m 156 #[.val (.long q1), .second, .val (.long q2), .second, .val (.long q3), .second, .val (.long q4), .second, .val (.int p5), .val (.long v187), .second, .val (.long v188), .second, .val (.int ad190), .val (.int sel192), .val (.long qq192), .second, .val (.ref b229), .val (.int r238), .val (.int r238), .val (.int r252), .unset, .unset] [(.long qq192), (.ref b229)]))) (fun _ k => XS.istore X256.here hx rfl (hb hby at_150) rfl (l' := #[.val (.long q1), .second, .val (.long q2), .second, .val (.long q3), .second, .val (.long q4), .second, .val (.int p5), .val (.long v187), .second, .val (.long v188), .second, .val (.int ad190), .val (.int sel192), .val (.long qq192), .second, .val (.ref b229), .val (.int r238), .val (.int r238), .val (.int r252), .unset, .unset]) rfl (XS.aload X256.here hx rfl (hb hby at_152) rfl rfl (XS.lload X256.here hx rfl (hb hby at_154) rfl k))) ?_
          obtain ⟨cq259, kq259, q259a, q259b, q259c⟩ := isOf hZ hh256 p252_0
          obtain ⟨_, _, ⟨T259, L259, k259, n259⟩, -, X259, ⟨Lc259, hQ259, l259, y259, z259⟩, st259⟩ := X256.virtualBack hx (y := (⟨"com/example/floodgauge/floodgauge/latency/SeqTable", "slot", "(J)I"⟩ : MethodName)) (z := (⟨"com/example/floodgauge/floodgauge/latency/SeqTable", "slot", "(J)I"⟩ : MethodName)) hown (mvT hZ (wd hw 26 rfl)) (mvT hZ (wd hw 27 rfl)) (notFace_of_selects (args := #[]) (mvT hZ (wd hw 29 rfl))) (mvT hZ (wd hw 29 rfl)) (mvT hZ (wd hw 28 rfl)) (by decide) (backOf (W := 0) (rm_slot2 l Z a0 hw [] b229 s1235 k1235 qq192 r238 v187 r252 v188 T252.heap n0 Z253 p252_1 p252_4 hpv187 p238_6 ⟨p238_7.1, p238_7.2⟩ hpv188 p252_6 p252_7 c193 ⟨p252_8.1, p252_8.2⟩) hZ (wd hw 30 rfl) (wd hw 3 rfl) (by decide) (by decide)) q259a q259c (g := (mkF m 156 #[.val (.long q1), .second, .val (.long q2), .second, .val (.long q3), .second, .val (.long q4), .second, .val (.int p5), .val (.long v187), .second, .val (.long v188), .second, .val (.int ad190), .val (.int sel192), .val (.long qq192), .second, .val (.ref b229), .val (.int r238), .val (.int r238), .val (.int r252), .unset, .unset] [(.long qq192), (.ref b229)])) rfl (by rw [hml]; rfl) (Steps.refl _) (argsL := [(.long qq192)]) (rest := []) (lenOf pd_4 rfl) rfl (by show 2 * 0 + _ ≤ _; exact Nat.le_of_eq rfl) (hb hby at_156) (fun _ _ => ⟨rfl, hh256, Nat.le_of_ble_eq_true rfl, Nat.le_of_ble_eq_true rfl⟩)
          dsimp only [Pt.U, Pt.locs, Pt.cells, Pt.slots] at X259 l259 y259 z259 st259 hQ259
          subst l259 y259 z259
          obtain ⟨rfl, Nq259, hh259⟩ := hQ259
          have N259 := Fr.app N256 Nq259
          refine Go.by (B := (T259.setTop (mkF m 159 #[.val (.long q1), .second, .val (.long q2), .second, .val (.long q3), .second, .val (.long q4), .second, .val (.int p5), .val (.long v187), .second, .val (.long v188), .second, .val (.int ad190), .val (.int sel192), .val (.long qq192), .second, .val (.ref b229), .val (.int r238), .val (.int r238), .val (.int r252), .unset, .unset] [(.int (if v187 = qq192 then r238 else if v188 = qq192 then r252 else (-1 : Int32)))]))) (fun _ k => st259.trans k) ?_
          rcases Classical.em (v187 = qq192) with c260 | c260
          · skip
            have hs261 : (if v187 = qq192 then r238 else if v188 = qq192 then r252 else (-1 : Int32)) = r238 := if_pos c260
            rw [hs261]
            refine Go.by (B := (T259.setTop (mkF m 170 #[.val (.long q1), .second, .val (.long q2), .second, .val (.long q3), .second, .val (.long q4), .second, .val (.int p5), .val (.long v187), .second, .val (.long v188), .second, .val (.int ad190), .val (.int sel192), .val (.long qq192), .second, .val (.ref b229), .val (.int r238), .val (.int r238), .val (.int r252), .val (.int r238), .unset] [(.int r238), (.ref b229)]))) (fun _ k => XS.istore X259.here hx rfl (hb hby at_159) rfl (l' := #[.val (.long q1), .second, .val (.long q2), .second, .val (.long q3), .second, .val (.long q4), .second, .val (.int p5), .val (.long v187), .second, .val (.long v188), .second, .val (.int ad190), .val (.int sel192), .val (.long qq192), .second, .val (.ref b229), .val (.int r238), .val (.int r238), .val (.int r252), .val (.int r238), .unset]) rfl (XS.iload X259.here hx rfl (hb hby at_161) rfl (XS.ifNo X259.here hx rfl (hb hby at_163) rfl ((if0 _ _).trans (flt p238_7.1).1) (XS.aload X259.here hx rfl (hb hby at_166) rfl rfl (XS.iload X259.here hx rfl (hb hby at_168) rfl k))))) ?_
            obtain ⟨cq262, kq262, q262a, q262b, q262c⟩ := isOf hZ hh259 p252_0
            obtain ⟨_, _, ⟨T262, L262, k262, n262⟩, -, X262, ⟨Lc262, hQ262, l262, y262, z262⟩, st262⟩ := X259.virtualBack hx (y := (⟨"com/example/floodgauge/floodgauge/latency/SeqTable", "value", "(I)J"⟩ : MethodName)) (z := (⟨"com/example/floodgauge/floodgauge/latency/SeqTable", "value", "(I)J"⟩ : MethodName)) hown (mvT hZ (wd hw 44 rfl)) (mvT hZ (wd hw 45 rfl)) (notFace_of_selects (args := #[]) (mvT hZ (wd hw 47 rfl))) (mvT hZ (wd hw 47 rfl)) (mvT hZ (wd hw 46 rfl)) (by decide) (backOf (W := 0) (rm_val2i l Z a0 hw [] b229 s2235 k2235 r238 q4 r252 (q4 ^^^ (-1 : Int64)) T252.heap n0 Z253 p252_2 p252_5 ⟨p238_7.1, p238_7.2⟩ p252_7) hZ (wd hw 48 rfl) (wd hw 3 rfl) (by decide) (by decide)) q262a q262c (g := (mkF m 170 #[.val (.long q1), .second, .val (.long q2), .second, .val (.long q3), .second, .val (.long q4), .second, .val (.int p5), .val (.long v187), .second, .val (.long v188), .second, .val (.int ad190), .val (.int sel192), .val (.long qq192), .second, .val (.ref b229), .val (.int r238), .val (.int r238), .val (.int r252), .val (.int r238), .unset] [(.int r238), (.ref b229)])) rfl (by rw [hml]; rfl) (Steps.refl _) (argsL := [(.int r238)]) (rest := []) (lenOf pd_6 rfl) rfl (by show 2 * 0 + _ ≤ _; exact Nat.le_of_eq rfl) (hb hby at_170) (fun _ _ => ⟨rfl, hh259, Nat.le_of_ble_eq_true rfl, Nat.le_of_ble_eq_true rfl⟩)
            dsimp only [Pt.U, Pt.locs, Pt.cells, Pt.slots] at X262 l262 y262 z262 st262 hQ262
            subst l262 y262 z262
            obtain ⟨rfl, Nq262, hh262⟩ := hQ262
            have N262 := Fr.app N259 Nq262
            refine Go.by (B := (T262.setTop (mkF m 173 #[.val (.long q1), .second, .val (.long q2), .second, .val (.long q3), .second, .val (.long q4), .second, .val (.int p5), .val (.long v187), .second, .val (.long v188), .second, .val (.int ad190), .val (.int sel192), .val (.long qq192), .second, .val (.ref b229), .val (.int r238), .val (.int r238), .val (.int r252), .val (.int r238), .unset] [(.long q4)]))) (fun _ k => st262.trans k) ?_
            refine Go.by (B := (T262.setTop (mkF m 191 #[.val (.long q1), .second, .val (.long q2), .second, .val (.long q3), .second, .val (.long q4), .second, .val (.int p5), .val (.long v187), .second, .val (.long v188), .second, .val (.int ad190), .val (.int sel192), .val (.long qq192), .second, .val (.ref b229), .val (.int r238), .val (.int r238), .val (.int r252), .val (.int r238), .unset] [(.int (lcmpW v188 v187))]))) (fun _ k => XS.lload X262.here hx rfl (hb hby at_173) rfl (XS.lcmp X262.here hx rfl (hb hby at_175) rfl (XS.ifYes X262.here hx rfl (pc0 := 176) (pc' := 181) rfl (hb hby at_176) rfl ((if0 _ _).trans (teq ((lw_eq _ _).mpr (rfl : q4 = q4))).1) (by decide) (by decide) (XS.iload X262.here hx rfl (hb hby at_181) rfl (XS.ifNo X262.here hx rfl (hb hby at_183) rfl ((if0 _ _).trans (feq c240).1) (XS.lload X262.here hx rfl (hb hby at_186) rfl (XS.lload X262.here hx rfl (hb hby at_188) rfl (XS.lcmp X262.here hx rfl (hb hby at_190) rfl k)))))))) ?_
            refine Go.by (B := (T262.setTop (mkF m 227 #[.val (.long q1), .second, .val (.long q2), .second, .val (.long q3), .second, .val (.long q4), .second, .val (.int p5), .val (.long v187), .second, .val (.long v188), .second, .val (.int ad190), .val (.int sel192), .val (.long qq192), .second, .val (.ref b229), .val (.int r238), .val (.int r238), .val (.int r252), .val (.int r238), .unset] [(.int r252)]))) (fun _ k => XS.ifYes X262.here hx rfl (pc0 := 191) (pc' := 203) rfl (hb hby at_191) rfl ((if0 _ _).trans (feq (fun q => (fun q => c193 q.symm) ((lw_eq _ _).mp q))).2) (by decide) (by decide) (XS.lload X262.here hx rfl (hb hby at_203) rfl (XS.lload X262.here hx rfl (hb hby at_205) rfl (XS.lcmp X262.here hx rfl (hb hby at_207) rfl (XS.ifYes X262.here hx rfl (pc0 := 208) (pc' := 220) rfl (hb hby at_208) rfl ((if0 _ _).trans (feq (fun q => (fun q => c193 q.symm) ((lw_eq _ _).mp q))).2) (by decide) (by decide) (XS.iload X262.here hx rfl (hb hby at_220) rfl (XS.ifNo X262.here hx rfl (hb hby at_222) rfl ((if0 _ _).trans (feq c240).1) (XS.iload X262.here hx rfl (hb hby at_225) rfl k)))))))) ?_
            refine Go.by (B := (T262.setTop (mkF m 241 #[.val (.long q1), .second, .val (.long q2), .second, .val (.long q3), .second, .val (.long q4), .second, .val (.int p5), .val (.long v187), .second, .val (.long v188), .second, .val (.int ad190), .val (.int sel192), .val (.long qq192), .second, .val (.ref b229), .val (.int r238), .val (.int r238), .val (.int r252), .val (.int r238), .unset] [(.int r252), (.ref b229)]))) (fun _ k => XS.ifNo X262.here hx rfl (hb hby at_227) rfl ((if0 _ _).trans (flt p252_8.1).1) (XS.iload X262.here hx rfl (hb hby at_230) rfl (XS.iload X262.here hx rfl (hb hby at_232) rfl (XS.icmpNo X262.here hx rfl (hb hby at_234) rfl (feq p252_7).1 (XS.aload X262.here hx rfl (hb hby at_237) rfl rfl (XS.iload X262.here hx rfl (hb hby at_239) rfl k)))))) ?_
            obtain ⟨cq263, kq263, q263a, q263b, q263c⟩ := isOf hZ hh262 p252_0
            obtain ⟨_, _, ⟨T263, L263, k263, n263⟩, -, X263, ⟨Lc263, hQ263, l263, y263, z263⟩, st263⟩ := X262.virtualBack hx (y := (⟨"com/example/floodgauge/floodgauge/latency/SeqTable", "value", "(I)J"⟩ : MethodName)) (z := (⟨"com/example/floodgauge/floodgauge/latency/SeqTable", "value", "(I)J"⟩ : MethodName)) hown (mvT hZ (wd hw 44 rfl)) (mvT hZ (wd hw 45 rfl)) (notFace_of_selects (args := #[]) (mvT hZ (wd hw 47 rfl))) (mvT hZ (wd hw 47 rfl)) (mvT hZ (wd hw 46 rfl)) (by decide) (backOf (W := 0) (rm_val2j l Z a0 hw [] b229 s2235 k2235 r238 q4 r252 (q4 ^^^ (-1 : Int64)) T252.heap n0 Z253 p252_2 p252_5 ⟨p252_8.1, p252_8.2⟩) hZ (wd hw 48 rfl) (wd hw 3 rfl) (by decide) (by decide)) q263a q263c (g := (mkF m 241 #[.val (.long q1), .second, .val (.long q2), .second, .val (.long q3), .second, .val (.long q4), .second, .val (.int p5), .val (.long v187), .second, .val (.long v188), .second, .val (.int ad190), .val (.int sel192), .val (.long qq192), .second, .val (.ref b229), .val (.int r238), .val (.int r238), .val (.int r252), .val (.int r238), .unset] [(.int r252), (.ref b229)])) rfl (by rw [hml]; rfl) (Steps.refl _) (argsL := [(.int r252)]) (rest := []) (lenOf pd_6 rfl) rfl (by show 2 * 0 + _ ≤ _; exact Nat.le_of_eq rfl) (hb hby at_241) (fun _ _ => ⟨rfl, hh262, Nat.le_of_ble_eq_true rfl, Nat.le_of_ble_eq_true rfl⟩)
            dsimp only [Pt.U, Pt.locs, Pt.cells, Pt.slots] at X263 l263 y263 z263 st263 hQ263
            subst l263 y263 z263
            obtain ⟨rfl, Nq263, hh263⟩ := hQ263
            have N263 := Fr.app N262 Nq263
            refine Go.by (B := (T263.setTop (mkF m 244 #[.val (.long q1), .second, .val (.long q2), .second, .val (.long q3), .second, .val (.long q4), .second, .val (.int p5), .val (.long v187), .second, .val (.long v188), .second, .val (.int ad190), .val (.int sel192), .val (.long qq192), .second, .val (.ref b229), .val (.int r238), .val (.int r238), .val (.int r252), .val (.int r238), .unset] [(.long (q4 ^^^ (-1 : Int64)))]))) (fun _ k => st263.trans k) ?_
            refine Go.by (B := (T263.setTop (mkF m 268 #[.val (.long q1), .second, .val (.long q2), .second, .val (.long q3), .second, .val (.long q4), .second, .val (.int p5), .val (.long v187), .second, .val (.long v188), .second, .val (.int ad190), .val (.int sel192), .val (.long qq192), .second, .val (.ref b229), .val (.int r238), .val (.int r238), .val (.int r252), .val (.int r238), .unset] [(.int (lcmpW qq192 (0 : Int64)))]))) (fun _ k => XS.lload X263.here hx rfl (hb hby at_244) rfl (X263.ldc2Long hx hown (mvT hZ (wd hw 43 rfl)) (g := (mkF m 246 #[.val (.long q1), .second, .val (.long q2), .second, .val (.long q3), .second, .val (.long q4), .second, .val (.int p5), .val (.long v187), .second, .val (.long v188), .second, .val (.int ad190), .val (.int sel192), .val (.long qq192), .second, .val (.ref b229), .val (.int r238), .val (.int r238), .val (.int r252), .val (.int r238), .unset] [(.long q4), (.long (q4 ^^^ (-1 : Int64)))])) rfl (hb hby at_246) _ (XS.lxor X263.here hx rfl (hb hby at_249) rfl (XS.lcmp X263.here hx rfl (hb hby at_250) rfl (XS.ifYes X263.here hx rfl (pc0 := 251) (pc' := 264) rfl (hb hby at_251) rfl ((if0 _ _).trans (teq ((lw_eq _ _).mpr (rfl : (q4 ^^^ (-1 : Int64)) = (q4 ^^^ (-1 : Int64))))).1) (by decide) (by decide) (XS.lload X263.here hx rfl (hb hby at_264) rfl (XS.lconst X263.here hx rfl (hb hby at_266) (XS.lcmp X263.here hx rfl (hb hby at_267) rfl k)))))))) ?_
            refine Go.by (B := (T263.setTop (mkF m 315 #[.val (.long q1), .second, .val (.long q2), .second, .val (.long q3), .second, .val (.long q4), .second, .val (.int p5), .val (.long v187), .second, .val (.long v188), .second, .val (.int ad190), .val (.int sel192), .val (.long qq192), .second, .val (.ref b229), .val (.int r238), .val (.int r238), .val (.int r252), .val (.int r238), .val (.int r238)] []))) (fun _ k => XS.ifYes X263.here hx rfl (pc0 := 268) (pc' := 277) rfl (hb hby at_268) rfl ((if0 _ _).trans (flt (fun q => (fun h => hpv187 (by rw [c260]; exact h) : ¬ (qq192 < (0 : Int64))) ((lw_lt _ _).mp q))).2.1) (by decide) (by decide) (XS.lload X263.here hx rfl (hb hby at_277) rfl (XS.lload X263.here hx rfl (hb hby at_279) rfl (XS.lcmp X263.here hx rfl (hb hby at_281) rfl (XS.ifNo X263.here hx rfl (hb hby at_282) rfl ((if0 _ _).trans (teq ((lw_eq _ _).mpr (c260).symm)).2) (XS.iload X263.here hx rfl (hb hby at_285) rfl (XS.istore X263.here hx rfl (hb hby at_287) rfl (l' := #[.val (.long q1), .second, .val (.long q2), .second, .val (.long q3), .second, .val (.long q4), .second, .val (.int p5), .val (.long v187), .second, .val (.long v188), .second, .val (.int ad190), .val (.int sel192), .val (.long qq192), .second, .val (.ref b229), .val (.int r238), .val (.int r238), .val (.int r252), .val (.int r238), .val (.int r238)]) rfl (XS.goto X263.here hx rfl (pc0 := 289) (pc' := 315) rfl (hb hby at_289) (by decide) (by decide) k)))))))) ?_
            refine Go.by (B := (T263.setTop (mkF m 327 #[.val (.long q1), .second, .val (.long q2), .second, .val (.long q3), .second, .val (.long q4), .second, .val (.int p5), .val (.long v187), .second, .val (.long v188), .second, .val (.int ad190), .val (.int sel192), .val (.long qq192), .second, .val (.ref b229), .val (.int r238), .val (.int r238), .val (.int r252), .val (.int r238), .val (.int r238)] [(.int 1)]))) (fun _ k => XS.iload X263.here hx rfl (hb hby at_315) rfl (XS.iload X263.here hx rfl (hb hby at_317) rfl (XS.icmpNo X263.here hx rfl (hb hby at_319) rfl (teq (rfl : r238 = r238)).2 (XS.iconst X263.here hx rfl (hb hby at_322) (XS.goto X263.here hx rfl (pc0 := 323) (pc' := 327) rfl (hb hby at_323) (by decide) (by decide) k))))) ?_
            refine Go.ret X263 hx hlk (t := .boolean) hret rfl (Or.inl ⟨rfl, by simp, _, rfl⟩) (hb hby at_327) (by decide) (by decide) ?_
            exact ⟨rfl, N263⟩
          · skip
            have hs264 : (if v187 = qq192 then r238 else if v188 = qq192 then r252 else (-1 : Int32)) = (if v188 = qq192 then r252 else (-1 : Int32)) := if_neg c260
            rw [hs264]
            rcases Classical.em (v188 = qq192) with c265 | c265
            · skip
              have hs266 : (if v188 = qq192 then r252 else (-1 : Int32)) = r252 := if_pos c265
              rw [hs266]
              refine Go.by (B := (T259.setTop (mkF m 170 #[.val (.long q1), .second, .val (.long q2), .second, .val (.long q3), .second, .val (.long q4), .second, .val (.int p5), .val (.long v187), .second, .val (.long v188), .second, .val (.int ad190), .val (.int sel192), .val (.long qq192), .second, .val (.ref b229), .val (.int r238), .val (.int r238), .val (.int r252), .val (.int r252), .unset] [(.int r238), (.ref b229)]))) (fun _ k => XS.istore X259.here hx rfl (hb hby at_159) rfl (l' := #[.val (.long q1), .second, .val (.long q2), .second, .val (.long q3), .second, .val (.long q4), .second, .val (.int p5), .val (.long v187), .second, .val (.long v188), .second, .val (.int ad190), .val (.int sel192), .val (.long qq192), .second, .val (.ref b229), .val (.int r238), .val (.int r238), .val (.int r252), .val (.int r252), .unset]) rfl (XS.iload X259.here hx rfl (hb hby at_161) rfl (XS.ifNo X259.here hx rfl (hb hby at_163) rfl ((if0 _ _).trans (flt p238_7.1).1) (XS.aload X259.here hx rfl (hb hby at_166) rfl rfl (XS.iload X259.here hx rfl (hb hby at_168) rfl k))))) ?_
              obtain ⟨cq267, kq267, q267a, q267b, q267c⟩ := isOf hZ hh259 p252_0
              obtain ⟨_, _, ⟨T267, L267, k267, n267⟩, -, X267, ⟨Lc267, hQ267, l267, y267, z267⟩, st267⟩ := X259.virtualBack hx (y := (⟨"com/example/floodgauge/floodgauge/latency/SeqTable", "value", "(I)J"⟩ : MethodName)) (z := (⟨"com/example/floodgauge/floodgauge/latency/SeqTable", "value", "(I)J"⟩ : MethodName)) hown (mvT hZ (wd hw 44 rfl)) (mvT hZ (wd hw 45 rfl)) (notFace_of_selects (args := #[]) (mvT hZ (wd hw 47 rfl))) (mvT hZ (wd hw 47 rfl)) (mvT hZ (wd hw 46 rfl)) (by decide) (backOf (W := 0) (rm_val2i l Z a0 hw [] b229 s2235 k2235 r238 q4 r252 (q4 ^^^ (-1 : Int64)) T252.heap n0 Z253 p252_2 p252_5 ⟨p238_7.1, p238_7.2⟩ p252_7) hZ (wd hw 48 rfl) (wd hw 3 rfl) (by decide) (by decide)) q267a q267c (g := (mkF m 170 #[.val (.long q1), .second, .val (.long q2), .second, .val (.long q3), .second, .val (.long q4), .second, .val (.int p5), .val (.long v187), .second, .val (.long v188), .second, .val (.int ad190), .val (.int sel192), .val (.long qq192), .second, .val (.ref b229), .val (.int r238), .val (.int r238), .val (.int r252), .val (.int r252), .unset] [(.int r238), (.ref b229)])) rfl (by rw [hml]; rfl) (Steps.refl _) (argsL := [(.int r238)]) (rest := []) (lenOf pd_6 rfl) rfl (by show 2 * 0 + _ ≤ _; exact Nat.le_of_eq rfl) (hb hby at_170) (fun _ _ => ⟨rfl, hh259, Nat.le_of_ble_eq_true rfl, Nat.le_of_ble_eq_true rfl⟩)
              dsimp only [Pt.U, Pt.locs, Pt.cells, Pt.slots] at X267 l267 y267 z267 st267 hQ267
              subst l267 y267 z267
              obtain ⟨rfl, Nq267, hh267⟩ := hQ267
              have N267 := Fr.app N259 Nq267
              refine Go.by (B := (T267.setTop (mkF m 173 #[.val (.long q1), .second, .val (.long q2), .second, .val (.long q3), .second, .val (.long q4), .second, .val (.int p5), .val (.long v187), .second, .val (.long v188), .second, .val (.int ad190), .val (.int sel192), .val (.long qq192), .second, .val (.ref b229), .val (.int r238), .val (.int r238), .val (.int r252), .val (.int r252), .unset] [(.long q4)]))) (fun _ k => st267.trans k) ?_
              refine Go.by (B := (T267.setTop (mkF m 191 #[.val (.long q1), .second, .val (.long q2), .second, .val (.long q3), .second, .val (.long q4), .second, .val (.int p5), .val (.long v187), .second, .val (.long v188), .second, .val (.int ad190), .val (.int sel192), .val (.long qq192), .second, .val (.ref b229), .val (.int r238), .val (.int r238), .val (.int r252), .val (.int r252), .unset] [(.int (lcmpW v188 v187))]))) (fun _ k => XS.lload X267.here hx rfl (hb hby at_173) rfl (XS.lcmp X267.here hx rfl (hb hby at_175) rfl (XS.ifYes X267.here hx rfl (pc0 := 176) (pc' := 181) rfl (hb hby at_176) rfl ((if0 _ _).trans (teq ((lw_eq _ _).mpr (rfl : q4 = q4))).1) (by decide) (by decide) (XS.iload X267.here hx rfl (hb hby at_181) rfl (XS.ifNo X267.here hx rfl (hb hby at_183) rfl ((if0 _ _).trans (feq c240).1) (XS.lload X267.here hx rfl (hb hby at_186) rfl (XS.lload X267.here hx rfl (hb hby at_188) rfl (XS.lcmp X267.here hx rfl (hb hby at_190) rfl k)))))))) ?_
              refine Go.by (B := (T267.setTop (mkF m 227 #[.val (.long q1), .second, .val (.long q2), .second, .val (.long q3), .second, .val (.long q4), .second, .val (.int p5), .val (.long v187), .second, .val (.long v188), .second, .val (.int ad190), .val (.int sel192), .val (.long qq192), .second, .val (.ref b229), .val (.int r238), .val (.int r238), .val (.int r252), .val (.int r252), .unset] [(.int r252)]))) (fun _ k => XS.ifYes X267.here hx rfl (pc0 := 191) (pc' := 203) rfl (hb hby at_191) rfl ((if0 _ _).trans (feq (fun q => (fun q => c193 q.symm) ((lw_eq _ _).mp q))).2) (by decide) (by decide) (XS.lload X267.here hx rfl (hb hby at_203) rfl (XS.lload X267.here hx rfl (hb hby at_205) rfl (XS.lcmp X267.here hx rfl (hb hby at_207) rfl (XS.ifYes X267.here hx rfl (pc0 := 208) (pc' := 220) rfl (hb hby at_208) rfl ((if0 _ _).trans (feq (fun q => (fun q => c193 q.symm) ((lw_eq _ _).mp q))).2) (by decide) (by decide) (XS.iload X267.here hx rfl (hb hby at_220) rfl (XS.ifNo X267.here hx rfl (hb hby at_222) rfl ((if0 _ _).trans (feq c240).1) (XS.iload X267.here hx rfl (hb hby at_225) rfl k)))))))) ?_
              refine Go.by (B := (T267.setTop (mkF m 241 #[.val (.long q1), .second, .val (.long q2), .second, .val (.long q3), .second, .val (.long q4), .second, .val (.int p5), .val (.long v187), .second, .val (.long v188), .second, .val (.int ad190), .val (.int sel192), .val (.long qq192), .second, .val (.ref b229), .val (.int r238), .val (.int r238), .val (.int r252), .val (.int r252), .unset] [(.int r252), (.ref b229)]))) (fun _ k => XS.ifNo X267.here hx rfl (hb hby at_227) rfl ((if0 _ _).trans (flt p252_8.1).1) (XS.iload X267.here hx rfl (hb hby at_230) rfl (XS.iload X267.here hx rfl (hb hby at_232) rfl (XS.icmpNo X267.here hx rfl (hb hby at_234) rfl (feq p252_7).1 (XS.aload X267.here hx rfl (hb hby at_237) rfl rfl (XS.iload X267.here hx rfl (hb hby at_239) rfl k)))))) ?_
              obtain ⟨cq268, kq268, q268a, q268b, q268c⟩ := isOf hZ hh267 p252_0
              obtain ⟨_, _, ⟨T268, L268, k268, n268⟩, -, X268, ⟨Lc268, hQ268, l268, y268, z268⟩, st268⟩ := X267.virtualBack hx (y := (⟨"com/example/floodgauge/floodgauge/latency/SeqTable", "value", "(I)J"⟩ : MethodName)) (z := (⟨"com/example/floodgauge/floodgauge/latency/SeqTable", "value", "(I)J"⟩ : MethodName)) hown (mvT hZ (wd hw 44 rfl)) (mvT hZ (wd hw 45 rfl)) (notFace_of_selects (args := #[]) (mvT hZ (wd hw 47 rfl))) (mvT hZ (wd hw 47 rfl)) (mvT hZ (wd hw 46 rfl)) (by decide) (backOf (W := 0) (rm_val2j l Z a0 hw [] b229 s2235 k2235 r238 q4 r252 (q4 ^^^ (-1 : Int64)) T252.heap n0 Z253 p252_2 p252_5 ⟨p252_8.1, p252_8.2⟩) hZ (wd hw 48 rfl) (wd hw 3 rfl) (by decide) (by decide)) q268a q268c (g := (mkF m 241 #[.val (.long q1), .second, .val (.long q2), .second, .val (.long q3), .second, .val (.long q4), .second, .val (.int p5), .val (.long v187), .second, .val (.long v188), .second, .val (.int ad190), .val (.int sel192), .val (.long qq192), .second, .val (.ref b229), .val (.int r238), .val (.int r238), .val (.int r252), .val (.int r252), .unset] [(.int r252), (.ref b229)])) rfl (by rw [hml]; rfl) (Steps.refl _) (argsL := [(.int r252)]) (rest := []) (lenOf pd_6 rfl) rfl (by show 2 * 0 + _ ≤ _; exact Nat.le_of_eq rfl) (hb hby at_241) (fun _ _ => ⟨rfl, hh267, Nat.le_of_ble_eq_true rfl, Nat.le_of_ble_eq_true rfl⟩)
              dsimp only [Pt.U, Pt.locs, Pt.cells, Pt.slots] at X268 l268 y268 z268 st268 hQ268
              subst l268 y268 z268
              obtain ⟨rfl, Nq268, hh268⟩ := hQ268
              have N268 := Fr.app N267 Nq268
              refine Go.by (B := (T268.setTop (mkF m 244 #[.val (.long q1), .second, .val (.long q2), .second, .val (.long q3), .second, .val (.long q4), .second, .val (.int p5), .val (.long v187), .second, .val (.long v188), .second, .val (.int ad190), .val (.int sel192), .val (.long qq192), .second, .val (.ref b229), .val (.int r238), .val (.int r238), .val (.int r252), .val (.int r252), .unset] [(.long (q4 ^^^ (-1 : Int64)))]))) (fun _ k => st268.trans k) ?_
              refine Go.by (B := (T268.setTop (mkF m 268 #[.val (.long q1), .second, .val (.long q2), .second, .val (.long q3), .second, .val (.long q4), .second, .val (.int p5), .val (.long v187), .second, .val (.long v188), .second, .val (.int ad190), .val (.int sel192), .val (.long qq192), .second, .val (.ref b229), .val (.int r238), .val (.int r238), .val (.int r252), .val (.int r252), .unset] [(.int (lcmpW qq192 (0 : Int64)))]))) (fun _ k => XS.lload X268.here hx rfl (hb hby at_244) rfl (X268.ldc2Long hx hown (mvT hZ (wd hw 43 rfl)) (g := (mkF m 246 #[.val (.long q1), .second, .val (.long q2), .second, .val (.long q3), .second, .val (.long q4), .second, .val (.int p5), .val (.long v187), .second, .val (.long v188), .second, .val (.int ad190), .val (.int sel192), .val (.long qq192), .second, .val (.ref b229), .val (.int r238), .val (.int r238), .val (.int r252), .val (.int r252), .unset] [(.long q4), (.long (q4 ^^^ (-1 : Int64)))])) rfl (hb hby at_246) _ (XS.lxor X268.here hx rfl (hb hby at_249) rfl (XS.lcmp X268.here hx rfl (hb hby at_250) rfl (XS.ifYes X268.here hx rfl (pc0 := 251) (pc' := 264) rfl (hb hby at_251) rfl ((if0 _ _).trans (teq ((lw_eq _ _).mpr (rfl : (q4 ^^^ (-1 : Int64)) = (q4 ^^^ (-1 : Int64))))).1) (by decide) (by decide) (XS.lload X268.here hx rfl (hb hby at_264) rfl (XS.lconst X268.here hx rfl (hb hby at_266) (XS.lcmp X268.here hx rfl (hb hby at_267) rfl k)))))))) ?_
              refine Go.by (B := (T268.setTop (mkF m 299 #[.val (.long q1), .second, .val (.long q2), .second, .val (.long q3), .second, .val (.long q4), .second, .val (.int p5), .val (.long v187), .second, .val (.long v188), .second, .val (.int ad190), .val (.int sel192), .val (.long qq192), .second, .val (.ref b229), .val (.int r238), .val (.int r238), .val (.int r252), .val (.int r252), .unset] [(.long qq192)]))) (fun _ k => XS.ifYes X268.here hx rfl (pc0 := 268) (pc' := 277) rfl (hb hby at_268) rfl ((if0 _ _).trans (flt (fun q => (fun h => hpv188 (by rw [c265]; exact h) : ¬ (qq192 < (0 : Int64))) ((lw_lt _ _).mp q))).2.1) (by decide) (by decide) (XS.lload X268.here hx rfl (hb hby at_277) rfl (XS.lload X268.here hx rfl (hb hby at_279) rfl (XS.lcmp X268.here hx rfl (hb hby at_281) rfl (XS.ifYes X268.here hx rfl (pc0 := 282) (pc' := 292) rfl (hb hby at_282) rfl ((if0 _ _).trans (feq (fun q => (fun q => c260 q.symm) ((lw_eq _ _).mp q))).2) (by decide) (by decide) (XS.iload X268.here hx rfl (hb hby at_292) rfl (XS.ifNo X268.here hx rfl (hb hby at_294) rfl ((if0 _ _).trans (feq c240).1) (XS.lload X268.here hx rfl (hb hby at_297) rfl k)))))))) ?_
              refine Go.by (B := (T268.setTop (mkF m 319 #[.val (.long q1), .second, .val (.long q2), .second, .val (.long q3), .second, .val (.long q4), .second, .val (.int p5), .val (.long v187), .second, .val (.long v188), .second, .val (.int ad190), .val (.int sel192), .val (.long qq192), .second, .val (.ref b229), .val (.int r238), .val (.int r238), .val (.int r252), .val (.int r252), .val (.int r252)] [(.int r252), (.int r252)]))) (fun _ k => XS.lload X268.here hx rfl (hb hby at_299) rfl (XS.lcmp X268.here hx rfl (hb hby at_301) rfl (XS.ifNo X268.here hx rfl (hb hby at_302) rfl ((if0 _ _).trans (teq ((lw_eq _ _).mpr (c265).symm)).2) (XS.iload X268.here hx rfl (hb hby at_305) rfl (XS.istore X268.here hx rfl (hb hby at_307) rfl (l' := #[.val (.long q1), .second, .val (.long q2), .second, .val (.long q3), .second, .val (.long q4), .second, .val (.int p5), .val (.long v187), .second, .val (.long v188), .second, .val (.int ad190), .val (.int sel192), .val (.long qq192), .second, .val (.ref b229), .val (.int r238), .val (.int r238), .val (.int r252), .val (.int r252), .val (.int r252)]) rfl (XS.goto X268.here hx rfl (pc0 := 309) (pc' := 315) rfl (hb hby at_309) (by decide) (by decide) (XS.iload X268.here hx rfl (hb hby at_315) rfl (XS.iload X268.here hx rfl (hb hby at_317) rfl k)))))))) ?_
              refine Go.by (B := (T268.setTop (mkF m 327 #[.val (.long q1), .second, .val (.long q2), .second, .val (.long q3), .second, .val (.long q4), .second, .val (.int p5), .val (.long v187), .second, .val (.long v188), .second, .val (.int ad190), .val (.int sel192), .val (.long qq192), .second, .val (.ref b229), .val (.int r238), .val (.int r238), .val (.int r252), .val (.int r252), .val (.int r252)] [(.int 1)]))) (fun _ k => XS.icmpNo X268.here hx rfl (hb hby at_319) rfl (teq (rfl : r252 = r252)).2 (XS.iconst X268.here hx rfl (hb hby at_322) (XS.goto X268.here hx rfl (pc0 := 323) (pc' := 327) rfl (hb hby at_323) (by decide) (by decide) k))) ?_
              refine Go.ret X268 hx hlk (t := .boolean) hret rfl (Or.inl ⟨rfl, by simp, _, rfl⟩) (hb hby at_327) (by decide) (by decide) ?_
              exact ⟨rfl, N268⟩
            · skip
              have hs269 : (if v188 = qq192 then r252 else (-1 : Int32)) = (-1 : Int32) := if_neg c265
              rw [hs269]
              refine Go.by (B := (T259.setTop (mkF m 170 #[.val (.long q1), .second, .val (.long q2), .second, .val (.long q3), .second, .val (.long q4), .second, .val (.int p5), .val (.long v187), .second, .val (.long v188), .second, .val (.int ad190), .val (.int sel192), .val (.long qq192), .second, .val (.ref b229), .val (.int r238), .val (.int r238), .val (.int r252), .val (.int (-1 : Int32)), .unset] [(.int r238), (.ref b229)]))) (fun _ k => XS.istore X259.here hx rfl (hb hby at_159) rfl (l' := #[.val (.long q1), .second, .val (.long q2), .second, .val (.long q3), .second, .val (.long q4), .second, .val (.int p5), .val (.long v187), .second, .val (.long v188), .second, .val (.int ad190), .val (.int sel192), .val (.long qq192), .second, .val (.ref b229), .val (.int r238), .val (.int r238), .val (.int r252), .val (.int (-1 : Int32)), .unset]) rfl (XS.iload X259.here hx rfl (hb hby at_161) rfl (XS.ifNo X259.here hx rfl (hb hby at_163) rfl ((if0 _ _).trans (flt p238_7.1).1) (XS.aload X259.here hx rfl (hb hby at_166) rfl rfl (XS.iload X259.here hx rfl (hb hby at_168) rfl k))))) ?_
              obtain ⟨cq270, kq270, q270a, q270b, q270c⟩ := isOf hZ hh259 p252_0
              obtain ⟨_, _, ⟨T270, L270, k270, n270⟩, -, X270, ⟨Lc270, hQ270, l270, y270, z270⟩, st270⟩ := X259.virtualBack hx (y := (⟨"com/example/floodgauge/floodgauge/latency/SeqTable", "value", "(I)J"⟩ : MethodName)) (z := (⟨"com/example/floodgauge/floodgauge/latency/SeqTable", "value", "(I)J"⟩ : MethodName)) hown (mvT hZ (wd hw 44 rfl)) (mvT hZ (wd hw 45 rfl)) (notFace_of_selects (args := #[]) (mvT hZ (wd hw 47 rfl))) (mvT hZ (wd hw 47 rfl)) (mvT hZ (wd hw 46 rfl)) (by decide) (backOf (W := 0) (rm_val2i l Z a0 hw [] b229 s2235 k2235 r238 q4 r252 (q4 ^^^ (-1 : Int64)) T252.heap n0 Z253 p252_2 p252_5 ⟨p238_7.1, p238_7.2⟩ p252_7) hZ (wd hw 48 rfl) (wd hw 3 rfl) (by decide) (by decide)) q270a q270c (g := (mkF m 170 #[.val (.long q1), .second, .val (.long q2), .second, .val (.long q3), .second, .val (.long q4), .second, .val (.int p5), .val (.long v187), .second, .val (.long v188), .second, .val (.int ad190), .val (.int sel192), .val (.long qq192), .second, .val (.ref b229), .val (.int r238), .val (.int r238), .val (.int r252), .val (.int (-1 : Int32)), .unset] [(.int r238), (.ref b229)])) rfl (by rw [hml]; rfl) (Steps.refl _) (argsL := [(.int r238)]) (rest := []) (lenOf pd_6 rfl) rfl (by show 2 * 0 + _ ≤ _; exact Nat.le_of_eq rfl) (hb hby at_170) (fun _ _ => ⟨rfl, hh259, Nat.le_of_ble_eq_true rfl, Nat.le_of_ble_eq_true rfl⟩)
              dsimp only [Pt.U, Pt.locs, Pt.cells, Pt.slots] at X270 l270 y270 z270 st270 hQ270
              subst l270 y270 z270
              obtain ⟨rfl, Nq270, hh270⟩ := hQ270
              have N270 := Fr.app N259 Nq270
              refine Go.by (B := (T270.setTop (mkF m 173 #[.val (.long q1), .second, .val (.long q2), .second, .val (.long q3), .second, .val (.long q4), .second, .val (.int p5), .val (.long v187), .second, .val (.long v188), .second, .val (.int ad190), .val (.int sel192), .val (.long qq192), .second, .val (.ref b229), .val (.int r238), .val (.int r238), .val (.int r252), .val (.int (-1 : Int32)), .unset] [(.long q4)]))) (fun _ k => st270.trans k) ?_
              refine Go.by (B := (T270.setTop (mkF m 191 #[.val (.long q1), .second, .val (.long q2), .second, .val (.long q3), .second, .val (.long q4), .second, .val (.int p5), .val (.long v187), .second, .val (.long v188), .second, .val (.int ad190), .val (.int sel192), .val (.long qq192), .second, .val (.ref b229), .val (.int r238), .val (.int r238), .val (.int r252), .val (.int (-1 : Int32)), .unset] [(.int (lcmpW v188 v187))]))) (fun _ k => XS.lload X270.here hx rfl (hb hby at_173) rfl (XS.lcmp X270.here hx rfl (hb hby at_175) rfl (XS.ifYes X270.here hx rfl (pc0 := 176) (pc' := 181) rfl (hb hby at_176) rfl ((if0 _ _).trans (teq ((lw_eq _ _).mpr (rfl : q4 = q4))).1) (by decide) (by decide) (XS.iload X270.here hx rfl (hb hby at_181) rfl (XS.ifNo X270.here hx rfl (hb hby at_183) rfl ((if0 _ _).trans (feq c240).1) (XS.lload X270.here hx rfl (hb hby at_186) rfl (XS.lload X270.here hx rfl (hb hby at_188) rfl (XS.lcmp X270.here hx rfl (hb hby at_190) rfl k)))))))) ?_
              refine Go.by (B := (T270.setTop (mkF m 227 #[.val (.long q1), .second, .val (.long q2), .second, .val (.long q3), .second, .val (.long q4), .second, .val (.int p5), .val (.long v187), .second, .val (.long v188), .second, .val (.int ad190), .val (.int sel192), .val (.long qq192), .second, .val (.ref b229), .val (.int r238), .val (.int r238), .val (.int r252), .val (.int (-1 : Int32)), .unset] [(.int r252)]))) (fun _ k => XS.ifYes X270.here hx rfl (pc0 := 191) (pc' := 203) rfl (hb hby at_191) rfl ((if0 _ _).trans (feq (fun q => (fun q => c193 q.symm) ((lw_eq _ _).mp q))).2) (by decide) (by decide) (XS.lload X270.here hx rfl (hb hby at_203) rfl (XS.lload X270.here hx rfl (hb hby at_205) rfl (XS.lcmp X270.here hx rfl (hb hby at_207) rfl (XS.ifYes X270.here hx rfl (pc0 := 208) (pc' := 220) rfl (hb hby at_208) rfl ((if0 _ _).trans (feq (fun q => (fun q => c193 q.symm) ((lw_eq _ _).mp q))).2) (by decide) (by decide) (XS.iload X270.here hx rfl (hb hby at_220) rfl (XS.ifNo X270.here hx rfl (hb hby at_222) rfl ((if0 _ _).trans (feq c240).1) (XS.iload X270.here hx rfl (hb hby at_225) rfl k)))))))) ?_
              refine Go.by (B := (T270.setTop (mkF m 241 #[.val (.long q1), .second, .val (.long q2), .second, .val (.long q3), .second, .val (.long q4), .second, .val (.int p5), .val (.long v187), .second, .val (.long v188), .second, .val (.int ad190), .val (.int sel192), .val (.long qq192), .second, .val (.ref b229), .val (.int r238), .val (.int r238), .val (.int r252), .val (.int (-1 : Int32)), .unset] [(.int r252), (.ref b229)]))) (fun _ k => XS.ifNo X270.here hx rfl (hb hby at_227) rfl ((if0 _ _).trans (flt p252_8.1).1) (XS.iload X270.here hx rfl (hb hby at_230) rfl (XS.iload X270.here hx rfl (hb hby at_232) rfl (XS.icmpNo X270.here hx rfl (hb hby at_234) rfl (feq p252_7).1 (XS.aload X270.here hx rfl (hb hby at_237) rfl rfl (XS.iload X270.here hx rfl (hb hby at_239) rfl k)))))) ?_
              obtain ⟨cq271, kq271, q271a, q271b, q271c⟩ := isOf hZ hh270 p252_0
              obtain ⟨_, _, ⟨T271, L271, k271, n271⟩, -, X271, ⟨Lc271, hQ271, l271, y271, z271⟩, st271⟩ := X270.virtualBack hx (y := (⟨"com/example/floodgauge/floodgauge/latency/SeqTable", "value", "(I)J"⟩ : MethodName)) (z := (⟨"com/example/floodgauge/floodgauge/latency/SeqTable", "value", "(I)J"⟩ : MethodName)) hown (mvT hZ (wd hw 44 rfl)) (mvT hZ (wd hw 45 rfl)) (notFace_of_selects (args := #[]) (mvT hZ (wd hw 47 rfl))) (mvT hZ (wd hw 47 rfl)) (mvT hZ (wd hw 46 rfl)) (by decide) (backOf (W := 0) (rm_val2j l Z a0 hw [] b229 s2235 k2235 r238 q4 r252 (q4 ^^^ (-1 : Int64)) T252.heap n0 Z253 p252_2 p252_5 ⟨p252_8.1, p252_8.2⟩) hZ (wd hw 48 rfl) (wd hw 3 rfl) (by decide) (by decide)) q271a q271c (g := (mkF m 241 #[.val (.long q1), .second, .val (.long q2), .second, .val (.long q3), .second, .val (.long q4), .second, .val (.int p5), .val (.long v187), .second, .val (.long v188), .second, .val (.int ad190), .val (.int sel192), .val (.long qq192), .second, .val (.ref b229), .val (.int r238), .val (.int r238), .val (.int r252), .val (.int (-1 : Int32)), .unset] [(.int r252), (.ref b229)])) rfl (by rw [hml]; rfl) (Steps.refl _) (argsL := [(.int r252)]) (rest := []) (lenOf pd_6 rfl) rfl (by show 2 * 0 + _ ≤ _; exact Nat.le_of_eq rfl) (hb hby at_241) (fun _ _ => ⟨rfl, hh270, Nat.le_of_ble_eq_true rfl, Nat.le_of_ble_eq_true rfl⟩)
              dsimp only [Pt.U, Pt.locs, Pt.cells, Pt.slots] at X271 l271 y271 z271 st271 hQ271
              subst l271 y271 z271
              obtain ⟨rfl, Nq271, hh271⟩ := hQ271
              have N271 := Fr.app N270 Nq271
              refine Go.by (B := (T271.setTop (mkF m 244 #[.val (.long q1), .second, .val (.long q2), .second, .val (.long q3), .second, .val (.long q4), .second, .val (.int p5), .val (.long v187), .second, .val (.long v188), .second, .val (.int ad190), .val (.int sel192), .val (.long qq192), .second, .val (.ref b229), .val (.int r238), .val (.int r238), .val (.int r252), .val (.int (-1 : Int32)), .unset] [(.long (q4 ^^^ (-1 : Int64)))]))) (fun _ k => st271.trans k) ?_
              refine Go.by (B := (T271.setTop (mkF m 268 #[.val (.long q1), .second, .val (.long q2), .second, .val (.long q3), .second, .val (.long q4), .second, .val (.int p5), .val (.long v187), .second, .val (.long v188), .second, .val (.int ad190), .val (.int sel192), .val (.long qq192), .second, .val (.ref b229), .val (.int r238), .val (.int r238), .val (.int r252), .val (.int (-1 : Int32)), .unset] [(.int (lcmpW qq192 (0 : Int64)))]))) (fun _ k => XS.lload X271.here hx rfl (hb hby at_244) rfl (X271.ldc2Long hx hown (mvT hZ (wd hw 43 rfl)) (g := (mkF m 246 #[.val (.long q1), .second, .val (.long q2), .second, .val (.long q3), .second, .val (.long q4), .second, .val (.int p5), .val (.long v187), .second, .val (.long v188), .second, .val (.int ad190), .val (.int sel192), .val (.long qq192), .second, .val (.ref b229), .val (.int r238), .val (.int r238), .val (.int r252), .val (.int (-1 : Int32)), .unset] [(.long q4), (.long (q4 ^^^ (-1 : Int64)))])) rfl (hb hby at_246) _ (XS.lxor X271.here hx rfl (hb hby at_249) rfl (XS.lcmp X271.here hx rfl (hb hby at_250) rfl (XS.ifYes X271.here hx rfl (pc0 := 251) (pc' := 264) rfl (hb hby at_251) rfl ((if0 _ _).trans (teq ((lw_eq _ _).mpr (rfl : (q4 ^^^ (-1 : Int64)) = (q4 ^^^ (-1 : Int64))))).1) (by decide) (by decide) (XS.lload X271.here hx rfl (hb hby at_264) rfl (XS.lconst X271.here hx rfl (hb hby at_266) (XS.lcmp X271.here hx rfl (hb hby at_267) rfl k)))))))) ?_
              by_cases c272 : qq192 < (0 : Int64)
              · skip
                refine Go.by (B := (T271.setTop (mkF m 323 #[.val (.long q1), .second, .val (.long q2), .second, .val (.long q3), .second, .val (.long q4), .second, .val (.int p5), .val (.long v187), .second, .val (.long v188), .second, .val (.int ad190), .val (.int sel192), .val (.long qq192), .second, .val (.ref b229), .val (.int r238), .val (.int r238), .val (.int r252), .val (.int (-1 : Int32)), .val (.int (-1 : Int32))] [(.int 1)]))) (fun _ k => XS.ifNo X271.here hx rfl (hb hby at_268) rfl ((if0 _ _).trans (tlt ((lw_lt _ _).mpr c272)).2.1) (XS.iconst X271.here hx rfl (hb hby at_271) (XS.istore X271.here hx rfl (hb hby at_272) rfl (l' := #[.val (.long q1), .second, .val (.long q2), .second, .val (.long q3), .second, .val (.long q4), .second, .val (.int p5), .val (.long v187), .second, .val (.long v188), .second, .val (.int ad190), .val (.int sel192), .val (.long qq192), .second, .val (.ref b229), .val (.int r238), .val (.int r238), .val (.int r252), .val (.int (-1 : Int32)), .val (.int (-1 : Int32))]) rfl (XS.goto X271.here hx rfl (pc0 := 274) (pc' := 315) rfl (hb hby at_274) (by decide) (by decide) (XS.iload X271.here hx rfl (hb hby at_315) rfl (XS.iload X271.here hx rfl (hb hby at_317) rfl (XS.icmpNo X271.here hx rfl (hb hby at_319) rfl (teq (by decide : (-1 : Int32) = (-1 : Int32))).2 (XS.iconst X271.here hx rfl (hb hby at_322) k)))))))) ?_
                refine Go.by (B := (T271.setTop (mkF m 327 #[.val (.long q1), .second, .val (.long q2), .second, .val (.long q3), .second, .val (.long q4), .second, .val (.int p5), .val (.long v187), .second, .val (.long v188), .second, .val (.int ad190), .val (.int sel192), .val (.long qq192), .second, .val (.ref b229), .val (.int r238), .val (.int r238), .val (.int r252), .val (.int (-1 : Int32)), .val (.int (-1 : Int32))] [(.int 1)]))) (fun _ k => XS.goto X271.here hx rfl (pc0 := 323) (pc' := 327) rfl (hb hby at_323) (by decide) (by decide) k) ?_
                refine Go.ret X271 hx hlk (t := .boolean) hret rfl (Or.inl ⟨rfl, by simp, _, rfl⟩) (hb hby at_327) (by decide) (by decide) ?_
                exact ⟨rfl, N271⟩
              · skip
                refine Go.by (B := (T271.setTop (mkF m 299 #[.val (.long q1), .second, .val (.long q2), .second, .val (.long q3), .second, .val (.long q4), .second, .val (.int p5), .val (.long v187), .second, .val (.long v188), .second, .val (.int ad190), .val (.int sel192), .val (.long qq192), .second, .val (.ref b229), .val (.int r238), .val (.int r238), .val (.int r252), .val (.int (-1 : Int32)), .unset] [(.long qq192)]))) (fun _ k => XS.ifYes X271.here hx rfl (pc0 := 268) (pc' := 277) rfl (hb hby at_268) rfl ((if0 _ _).trans (flt (fun q => c272 ((lw_lt _ _).mp q))).2.1) (by decide) (by decide) (XS.lload X271.here hx rfl (hb hby at_277) rfl (XS.lload X271.here hx rfl (hb hby at_279) rfl (XS.lcmp X271.here hx rfl (hb hby at_281) rfl (XS.ifYes X271.here hx rfl (pc0 := 282) (pc' := 292) rfl (hb hby at_282) rfl ((if0 _ _).trans (feq (fun q => (fun q => c260 q.symm) ((lw_eq _ _).mp q))).2) (by decide) (by decide) (XS.iload X271.here hx rfl (hb hby at_292) rfl (XS.ifNo X271.here hx rfl (hb hby at_294) rfl ((if0 _ _).trans (feq c240).1) (XS.lload X271.here hx rfl (hb hby at_297) rfl k)))))))) ?_
                refine Go.by (B := (T271.setTop (mkF m 322 #[.val (.long q1), .second, .val (.long q2), .second, .val (.long q3), .second, .val (.long q4), .second, .val (.int p5), .val (.long v187), .second, .val (.long v188), .second, .val (.int ad190), .val (.int sel192), .val (.long qq192), .second, .val (.ref b229), .val (.int r238), .val (.int r238), .val (.int r252), .val (.int (-1 : Int32)), .val (.int (-1 : Int32))] []))) (fun _ k => XS.lload X271.here hx rfl (hb hby at_299) rfl (XS.lcmp X271.here hx rfl (hb hby at_301) rfl (XS.ifYes X271.here hx rfl (pc0 := 302) (pc' := 312) rfl (hb hby at_302) rfl ((if0 _ _).trans (feq (fun q => (fun q => c265 q.symm) ((lw_eq _ _).mp q))).2) (by decide) (by decide) (XS.iconst X271.here hx rfl (hb hby at_312) (XS.istore X271.here hx rfl (hb hby at_313) rfl (l' := #[.val (.long q1), .second, .val (.long q2), .second, .val (.long q3), .second, .val (.long q4), .second, .val (.int p5), .val (.long v187), .second, .val (.long v188), .second, .val (.int ad190), .val (.int sel192), .val (.long qq192), .second, .val (.ref b229), .val (.int r238), .val (.int r238), .val (.int r252), .val (.int (-1 : Int32)), .val (.int (-1 : Int32))]) rfl (XS.iload X271.here hx rfl (hb hby at_315) rfl (XS.iload X271.here hx rfl (hb hby at_317) rfl (XS.icmpNo X271.here hx rfl (hb hby at_319) rfl (teq (by decide : (-1 : Int32) = (-1 : Int32))).2 k)))))))) ?_
                refine Go.by (B := (T271.setTop (mkF m 327 #[.val (.long q1), .second, .val (.long q2), .second, .val (.long q3), .second, .val (.long q4), .second, .val (.int p5), .val (.long v187), .second, .val (.long v188), .second, .val (.int ad190), .val (.int sel192), .val (.long qq192), .second, .val (.ref b229), .val (.int r238), .val (.int r238), .val (.int r252), .val (.int (-1 : Int32)), .val (.int (-1 : Int32))] [(.int 1)]))) (fun _ k => XS.iconst X271.here hx rfl (hb hby at_322) (XS.goto X271.here hx rfl (pc0 := 323) (pc' := 327) rfl (hb hby at_323) (by decide) (by decide) k)) ?_
                refine Go.ret X271 hx hlk (t := .boolean) hret rfl (Or.inl ⟨rfl, by simp, _, rfl⟩) (hb hby at_327) (by decide) (by decide) ?_
                exact ⟨rfl, N271⟩
    refine Go.by (B := (T190.setTop (mkF m 34 #[.val (.long q1), .second, .val (.long q2), .second, .val (.long q3), .second, .val (.long q4), .second, .val (.int p5), .val (.long v187), .second, .val (.long v188), .second, .val (.int ad190), .unset, .unset, .unset, .unset, .unset, .unset, .unset, .unset, .unset] [(.int (((p5.toUInt32 >>> ((1 : Int32) &&& 31).toUInt32).toInt32) &&& (3 : Int32)))]))) (fun _ k => XS.iload X191.here hx rfl (hb hby at_28) rfl (XS.iconst X191.here hx rfl (hb hby at_30) (XS.iushr X191.here hx rfl (hb hby at_31) rfl (XS.iconst X191.here hx rfl (hb hby at_32) (XS.iand X191.here hx rfl (hb hby at_33) rfl k))))) ?_
    obtain ⟨v273, hv273⟩ : ∃ v, v = (((p5.toUInt32 >>> ((1 : Int32) &&& 31).toUInt32).toInt32) &&& (3 : Int32)) := ⟨_, rfl⟩
    refine Go.by (B := (T190.setTop (mkF m 38 #[.val (.long q1), .second, .val (.long q2), .second, .val (.long q3), .second, .val (.long q4), .second, .val (.int p5), .val (.long v187), .second, .val (.long v188), .second, .val (.int ad190), .val (.int v273), .unset, .unset, .unset, .unset, .unset, .unset, .unset, .unset] [(.int v273)]))) (fun _ k => XS.istore (x := v273) (rest := []) X191.here hx rfl (hb hby at_34) (by rw [hv273]) (l' := #[.val (.long q1), .second, .val (.long q2), .second, .val (.long q3), .second, .val (.long q4), .second, .val (.int p5), .val (.long v187), .second, .val (.long v188), .second, .val (.int ad190), .val (.int v273), .unset, .unset, .unset, .unset, .unset, .unset, .unset, .unset]) rfl (XS.iload X191.here hx rfl (hb hby at_36) rfl k)) ?_
    by_cases c274 : v273 = (0 : Int32)
    · skip
      refine Go.by (B := (T190.setTop (mkF m 82 #[.val (.long q1), .second, .val (.long q2), .second, .val (.long q3), .second, .val (.long q4), .second, .val (.int p5), .val (.long v187), .second, .val (.long v188), .second, .val (.int ad190), .val (.int v273), .val (.long q3), .second, .unset, .unset, .unset, .unset, .unset, .unset] []))) (fun _ k => XS.ifNo X191.here hx rfl (hb hby at_38) rfl ((if0 _ _).trans (teq c274).2) (XS.lload X191.here hx rfl (hb hby at_41) rfl (XS.lstore X191.here hx rfl (hb hby at_43) rfl (l' := #[.val (.long q1), .second, .val (.long q2), .second, .val (.long q3), .second, .val (.long q4), .second, .val (.int p5), .val (.long v187), .second, .val (.long v188), .second, .val (.int ad190), .val (.int v273), .val (.long q3), .second, .unset, .unset, .unset, .unset, .unset, .unset]) rfl (XS.goto X191.here hx rfl (pc0 := 45) (pc' := 82) rfl (hb hby at_45) (by decide) (by decide) k)))) ?_
      exact J191 T190 X191 e191 q3 v273
    · skip
      refine Go.by (B := (T190.setTop (mkF m 51 #[.val (.long q1), .second, .val (.long q2), .second, .val (.long q3), .second, .val (.long q4), .second, .val (.int p5), .val (.long v187), .second, .val (.long v188), .second, .val (.int ad190), .val (.int v273), .unset, .unset, .unset, .unset, .unset, .unset, .unset, .unset] [(.int 1), (.int v273)]))) (fun _ k => XS.ifYes X191.here hx rfl (pc0 := 38) (pc' := 48) rfl (hb hby at_38) rfl ((if0 _ _).trans (feq c274).2) (by decide) (by decide) (XS.iload X191.here hx rfl (hb hby at_48) rfl (XS.iconst X191.here hx rfl (hb hby at_50) k))) ?_
      by_cases c275 : v273 = (1 : Int32)
      · skip
        refine Go.by (B := (T190.setTop (mkF m 82 #[.val (.long q1), .second, .val (.long q2), .second, .val (.long q3), .second, .val (.long q4), .second, .val (.int p5), .val (.long v187), .second, .val (.long v188), .second, .val (.int ad190), .val (.int v273), .val (.long v187), .second, .unset, .unset, .unset, .unset, .unset, .unset] []))) (fun _ k => XS.icmpNo X191.here hx rfl (hb hby at_51) rfl (teq c275).2 (XS.lload X191.here hx rfl (hb hby at_54) rfl (XS.lstore X191.here hx rfl (hb hby at_56) rfl (l' := #[.val (.long q1), .second, .val (.long q2), .second, .val (.long q3), .second, .val (.long q4), .second, .val (.int p5), .val (.long v187), .second, .val (.long v188), .second, .val (.int ad190), .val (.int v273), .val (.long v187), .second, .unset, .unset, .unset, .unset, .unset, .unset]) rfl (XS.goto X191.here hx rfl (pc0 := 58) (pc' := 82) rfl (hb hby at_58) (by decide) (by decide) k)))) ?_
        exact J191 T190 X191 e191 v187 v273
      · skip
        refine Go.by (B := (T190.setTop (mkF m 64 #[.val (.long q1), .second, .val (.long q2), .second, .val (.long q3), .second, .val (.long q4), .second, .val (.int p5), .val (.long v187), .second, .val (.long v188), .second, .val (.int ad190), .val (.int v273), .unset, .unset, .unset, .unset, .unset, .unset, .unset, .unset] [(.int 2), (.int v273)]))) (fun _ k => XS.icmpYes X191.here hx rfl (pc0 := 51) (pc' := 61) rfl (hb hby at_51) rfl (feq c275).2 (by decide) (by decide) (XS.iload X191.here hx rfl (hb hby at_61) rfl (XS.iconst X191.here hx rfl (hb hby at_63) k))) ?_
        by_cases c276 : v273 = (2 : Int32)
        · skip
          refine Go.by (B := (T190.setTop (mkF m 82 #[.val (.long q1), .second, .val (.long q2), .second, .val (.long q3), .second, .val (.long q4), .second, .val (.int p5), .val (.long v187), .second, .val (.long v188), .second, .val (.int ad190), .val (.int v273), .val (.long v188), .second, .unset, .unset, .unset, .unset, .unset, .unset] []))) (fun _ k => XS.icmpNo X191.here hx rfl (hb hby at_64) rfl (teq c276).2 (XS.lload X191.here hx rfl (hb hby at_67) rfl (XS.lstore X191.here hx rfl (hb hby at_69) rfl (l' := #[.val (.long q1), .second, .val (.long q2), .second, .val (.long q3), .second, .val (.long q4), .second, .val (.int p5), .val (.long v187), .second, .val (.long v188), .second, .val (.int ad190), .val (.int v273), .val (.long v188), .second, .unset, .unset, .unset, .unset, .unset, .unset]) rfl (XS.goto X191.here hx rfl (pc0 := 71) (pc' := 82) rfl (hb hby at_71) (by decide) (by decide) k)))) ?_
          exact J191 T190 X191 e191 v188 v273
        · skip
          refine Go.by (B := (T190.setTop (mkF m 80 #[.val (.long q1), .second, .val (.long q2), .second, .val (.long q3), .second, .val (.long q4), .second, .val (.int p5), .val (.long v187), .second, .val (.long v188), .second, .val (.int ad190), .val (.int v273), .unset, .unset, .unset, .unset, .unset, .unset, .unset, .unset] [(.long (v187 ^^^ (-1 : Int64)))]))) (fun _ k => XS.icmpYes X191.here hx rfl (pc0 := 64) (pc' := 74) rfl (hb hby at_64) rfl (feq c276).2 (by decide) (by decide) (XS.lload X191.here hx rfl (hb hby at_74) rfl (X191.ldc2Long hx hown (mvT hZ (wd hw 43 rfl)) (g := (mkF m 76 #[.val (.long q1), .second, .val (.long q2), .second, .val (.long q3), .second, .val (.long q4), .second, .val (.int p5), .val (.long v187), .second, .val (.long v188), .second, .val (.int ad190), .val (.int v273), .unset, .unset, .unset, .unset, .unset, .unset, .unset, .unset] [(.long v187)])) rfl (hb hby at_76) _ (XS.lxor X191.here hx rfl (hb hby at_79) rfl k)))) ?_
          obtain ⟨v277, hv277⟩ : ∃ v, v = (v187 ^^^ (-1 : Int64)) := ⟨_, rfl⟩
          refine Go.by (B := (T190.setTop (mkF m 82 #[.val (.long q1), .second, .val (.long q2), .second, .val (.long q3), .second, .val (.long q4), .second, .val (.int p5), .val (.long v187), .second, .val (.long v188), .second, .val (.int ad190), .val (.int v273), .val (.long v277), .second, .unset, .unset, .unset, .unset, .unset, .unset] []))) (fun _ k => XS.lstore (x := v277) (rest := []) X191.here hx rfl (hb hby at_80) (by rw [hv277]) (l' := #[.val (.long q1), .second, .val (.long q2), .second, .val (.long q3), .second, .val (.long q4), .second, .val (.int p5), .val (.long v187), .second, .val (.long v188), .second, .val (.int ad190), .val (.int v273), .val (.long v277), .second, .unset, .unset, .unset, .unset, .unset, .unset]) rfl k) ?_
          exact J191 T190 X191 e191 v277 v273
  refine Go.by (B := (s₁.setTop (mkF m 18 #[.val (.long q1), .second, .val (.long q2), .second, .val (.long q3), .second, .val (.long q4), .second, .val (.int p5), .val (.long v187), .second, .val (.long v188), .second, .unset, .unset, .unset, .unset, .unset, .unset, .unset, .unset, .unset, .unset] [(.int (p5 &&& (1 : Int32)))]))) (fun _ k => XS.iload X189.here hx rfl (hb hby at_14) rfl (XS.iconst X189.here hx rfl (hb hby at_16) (XS.iand X189.here hx rfl (hb hby at_17) rfl k))) ?_
  by_cases c278 : (p5 &&& (1 : Int32)) = (0 : Int32)
  · skip
    refine Go.by (B := (s₁.setTop (mkF m 26 #[.val (.long q1), .second, .val (.long q2), .second, .val (.long q3), .second, .val (.long q4), .second, .val (.int p5), .val (.long v187), .second, .val (.long v188), .second, .unset, .unset, .unset, .unset, .unset, .unset, .unset, .unset, .unset, .unset] [(.int 0)]))) (fun _ k => XS.ifYes X189.here hx rfl (pc0 := 18) (pc' := 25) rfl (hb hby at_18) rfl ((if0 _ _).trans (teq c278).1) (by decide) (by decide) (XS.iconst X189.here hx rfl (hb hby at_25) k)) ?_
    exact J189 s₁ X189 e189 (0 : Int32)
  · skip
    refine Go.by (B := (s₁.setTop (mkF m 26 #[.val (.long q1), .second, .val (.long q2), .second, .val (.long q3), .second, .val (.long q4), .second, .val (.int p5), .val (.long v187), .second, .val (.long v188), .second, .unset, .unset, .unset, .unset, .unset, .unset, .unset, .unset, .unset, .unset] [(.int 1)]))) (fun _ k => XS.ifNo X189.here hx rfl (hb hby at_18) rfl ((if0 _ _).trans (feq c278).1) (XS.iconst X189.here hx rfl (hb hby at_21) (XS.goto X189.here hx rfl (pc0 := 22) (pc' := 26) rfl (hb hby at_22) (by decide) (by decide) k))) ?_
    exact J189 s₁ X189 e189 (1 : Int32)
set_option maxRecDepth 65536 in
set_option maxHeartbeats 40000000 in
theorem comes_1 {Post : Tables → Env → Array Value → State → Outcome → State → Prop} (hpost : ∀ tb e args s v u, (limb_1_1.after args s (.returned v) u = true ∧ limb_1_2.after args s (.returned v) u = true ∧ True) → FrameEnd s (.returned v) u (Jvm.fieldLocs frame_1_writes args s ++ Jvm.arrayLocs frame_1_arrays args s ++ Jvm.staticLocs frame_1_statics s) 16 6272 → Post tb e args s (.returned v) u) :
    ArmFor flags0 classFile x code maxLocals ret World_1 tables_1 room_1 Calls_1 rest_1 Pre_1 Post := by
  intro l hfl _ _ p e ha hc hk s m args below hf hA hF happ hP
  obtain ⟨hcalls, hrest, hpre⟩ := hP
  obtain ⟨-, -, -, hnamed, -, -, -, hat⟩ := (Spec.applies_iff hf).mp happ
  obtain ⟨hg, hn⟩ := and_e (Cond.before_iff.mp (show (Jvm.Cond.and given_1 narrow_1).before args s = true from hpre))
  obtain ⟨hg0, hgr0⟩ := and_e hg
  obtain ⟨ga0, hgr1⟩ := and_e hgr0
  obtain ⟨ga1, hgr2⟩ := and_e hgr1
  obtain ⟨ga2, hgr3⟩ := and_e hgr2
  obtain ⟨ga3, hgr4⟩ := and_e hgr3
  obtain ⟨w0, w1, w2, w3, w4, rfl⟩ : ∃ w0 w1 w2 w3 w4 : Value, args = #[w0, w1, w2, w3, w4] := by
    have hs : args.size = 5 := by simpa [Cond.value, given_1] using hg0
    obtain ⟨L⟩ := args
    match L, hs with
    | [w0, w1, w2, w3, w4], _ => exact ⟨w0, w1, w2, w3, w4, rfl⟩
  have hw := fun d (hd : d ∈ tables_1) => atoms_spec (ws := Jvm.Cond.code x code maxLocals ret :: tables_1) hat d (List.mem_cons_of_mem _ hd)
  have hfit : Fit s := fun {y c} hc i hi => by
    obtain ⟨ha, rfl⟩ := Array.getElem?_eq_some_iff.mp hc
    have q := List.all_eq_true.mp ((Array.all_eq_true_iff_forall_mem.mp hF) _ (Array.getElem_mem ha)) i (List.mem_range.mpr hi)
    simpa [Array.getElem?_eq_getElem hi] using q
  obtain ⟨i0, ei0⟩ := isL_v ga0
  obtain rfl : w0 = (.long i0) := Option.some.inj ei0
  obtain ⟨i1, ei1⟩ := isL_v ga1
  obtain rfl : w1 = (.long i1) := Option.some.inj ei1
  obtain ⟨i2, ei2⟩ := isL_v ga2
  obtain rfl : w2 = (.long i2) := Option.some.inj ei2
  obtain ⟨i3, ei3⟩ := isL_v ga3
  obtain rfl : w3 = (.long i3) := Option.some.inj ei3
  obtain ⟨i4, ei4⟩ := is_v hgr4
  obtain rfl : w4 = (.int i4) := Option.some.inj ei4
  obtain ⟨n, o, h1, h2, h3, _, L, rfl, ⟨rfl, N⟩, hq⟩ := rm0 l s _ hw tables_1 i0 i1 i2 i3 i4 s.heap s.heap.size (Nat.le_refl _) (Old.start s) p e ha hc hk s m _ below hf ((Spec.applies_iff_loose hf).mp happ).1 ⟨rfl, State.Warmed39.refl s, rfl⟩ trivial
  refine ⟨n, _, h1, h2, h3, hpost _ _ _ _ _ _ ⟨Cond.after_iff.mpr rfl, Cond.after_iff.mpr (eq_i res_at (Term.int_eval (1)) rfl), trivial⟩ ⟨hq.1, hq.2.1, (hq.2.2.sift fun y hy => Or.inr (N y hy)).mono (by decide) (by decide)⟩⟩
theorem main_1_1 : Claimed_1_1 := comes_1 fun _ _ _ _ _ _ h hF => ⟨h.1, hF⟩
theorem main_1_2 : Claimed_1_2 := comes_1 fun _ _ _ _ _ _ h hF => ⟨h.2.1, hF⟩
end Jvm.Pilot.@@N@@
namespace Jvm.Pilot.@@N@@
open Jvm Jvm.ClassFile Sem Op Lib Jvm.Free Jvm.Stand Jvm.Pilot.@@N@@.Jvm.D
/-! MADE BY PROGRAM (witnessworld.py) out of the Statement's table words and the real class files: 12 classes; the members and pool entries that the words name. The judged class is class 1, her method 1. -/
namespace start1
open Jvm.ClassFile
def u (s : String) : CpInfo := .utf8 (stringToUtf16 s)
/-- a pool by its gaps: so many unusable entries, then the entry; so many at the end -/
def gap : Nat → List CpInfo → List CpInfo
  | 0, r => r
  | n + 1, r => .unusable :: gap n r
def poolList (es : List (Nat × CpInfo)) (last : Nat) : List CpInfo := es.foldr (fun e r => gap e.1 (e.2 :: r)) (gap last [])
def pool (es : List (Nat × CpInfo)) (last : Nat) : Array CpInfo := ⟨poolList es last⟩
def fileOf (pool : Array CpInfo) (this : Nat) (attrs : Array Attribute := #[]) (ms : Array MethodInfo := #[]) (fl : Nat := 33) (sup : Nat := 0) (ifs : Array Nat := #[]) (fds : Array FieldInfo := #[]) : ClassFile where
  minorVersion := 0
  majorVersion := 65
  constantPool := pool
  accessFlags := fl
  thisClass := this
  superClass := sup
  interfaces := ifs
  fields := fds
  methods := ms
  attributes := attrs
def plain (name : String) (sup : Option ClassId) : Class where
  name := name
  kind := .ordinary
  loader := none
  accessFlags := 33
  super := sup
  interfaces := #[]
  cf := none
  fields := #[]
  methods := #[]
  instanceTypes := #[]
  staticTypes := #[]
  resolved := #[]
  callSites := []
  init := .initialized
  statics := none
  mirror := none

def pool0 : Array CpInfo := pool [(5, u "<init>"), (0, u "()V"), (1, .class_ 10), (1, u "java/lang/Object")] 113

def k0c0 : Code := { maxStack := 0, maxLocals := 1, code := object_method_1_code, exceptionTable := #[], attributes := #[] }
def k0m0 : Method := { name := "<init>", desc := "()V", sig := { parameters := [], returnType := none }, accessFlags := 1, code := some k0c0 }
/-- java/lang/Object -/
def k0 : Class := { plain "java/lang/Object" none with
  accessFlags := 33
  interfaces := #[]
  cf := some (fileOf pool0 8 #[] #[{ accessFlags := 1, nameIndex := 5, descriptorIndex := 6, attributes := #[] }] 33 0 #[] #[])
  fields := #[]
  methods := #[k0m0]
  instanceTypes := #[]
  staticTypes := #[]
  resolved := Array.replicate 124 none
  statics := none }

def pool1 : Array CpInfo := pool [(2, .class_ 4), (0, .nameAndType 5 6), (0, u "java/lang/Object"), (0, u "<init>"), (0, u "()V"), (2, .long 9223372036854775807), (1, .long 18446744073709551615), (1, .class_ 14), (0, u "com/example/floodgauge/floodgauge/latency/SeqTable"), (0, .methodref 13 3), (0, .methodref 13 17), (0, .nameAndType 18 19), (0, u "slot"), (0, u "(J)I"), (0, .methodref 13 21), (0, .nameAndType 22 23), (0, u "add"), (0, u "(JJ)I"), (0, .methodref 13 25), (0, .nameAndType 26 27), (0, u "value"), (0, u "(I)J"), (0, .class_ 29), (0, u "com/example/floodgauge/floodgauge/latency/SeqTableSlotPinLaw"), (2, u "law"), (0, u "(JJJJI)Z")] 3

def k1m0 : Method := { name := "<init>", desc := "()V", sig := { parameters := [], returnType := none }, accessFlags := 1, code := none }
def k1c1 : Code := { maxStack := 7, maxLocals := 23, code := code, exceptionTable := #[], attributes := #[] }
def k1m1 : Method := { name := "law", desc := "(JJJJI)Z", sig := { parameters := [.long, .long, .long, .long, .int], returnType := some .boolean }, accessFlags := 9, code := some k1c1 }
/-- com/example/floodgauge/floodgauge/latency/SeqTableSlotPinLaw -/
def k1 : Class := { plain "com/example/floodgauge/floodgauge/latency/SeqTableSlotPinLaw" (some 0) with
  accessFlags := 49
  interfaces := #[]
  cf := some (fileOf pool1 28 #[] #[{ accessFlags := 1, nameIndex := 5, descriptorIndex := 6, attributes := #[] }, { accessFlags := 9, nameIndex := 32, descriptorIndex := 33, attributes := #[] }] 49 2 #[] #[])
  fields := #[]
  methods := #[k1m0, k1m1]
  instanceTypes := #[]
  staticTypes := #[]
  resolved := Array.replicate 37 none
  statics := none }

def pool2 : Array CpInfo := pool [(1, .methodref 2 3), (0, .class_ 4), (0, .nameAndType 5 6), (0, u "java/lang/Object"), (0, u "<init>"), (0, u "()V"), (0, .methodref 8 9), (0, .class_ 10), (0, .nameAndType 11 12), (0, u "com/example/floodgauge/floodgauge/latency/SeqTable"), (0, u "emptyTable"), (0, u "(I)[J"), (0, .fieldref 8 14), (0, .nameAndType 15 16), (0, u "seqs"), (0, u "[J"), (0, .fieldref 8 18), (0, .nameAndType 19 16), (0, u "values"), (0, .fieldref 8 21), (0, .nameAndType 22 23), (0, u "states"), (0, u "[B"), (9, .methodref 8 34), (0, .nameAndType 35 36), (0, u "find"), (0, u "([JJ)I"), (0, .fieldref 8 38), (0, .nameAndType 39 40), (0, u "size"), (0, u "I"), (0, .double 4602678819172646912), (4, .long 18446744073709551615), (2, .class_ 51), (1, u "com/example/floodgauge/floodgauge/latency/SeqTable$Action"), (8, .long 11400714819323198485), (1, .methodref 63 64), (0, .class_ 65), (0, .nameAndType 66 67), (0, u "java/util/Arrays"), (0, u "fill"), (0, u "([JJ)V"), (0, u "EMPTY"), (0, u "J"), (1, u "LOAD"), (0, u "D"), (2, u "add"), (0, u "(JJ)I"), (4, u "slot"), (0, u "(J)I"), (0, u "value"), (0, u "(I)J")] 27

def k2c0 : Code := { maxStack := 2, maxLocals := 1, code := prog_10_method_1_code, exceptionTable := #[], attributes := #[] }
def k2m0 : Method := { name := "<init>", desc := "()V", sig := { parameters := [], returnType := none }, accessFlags := 1, code := some k2c0 }
def k2c1 : Code := { maxStack := 6, maxLocals := 6, code := prog_10_method_2_code, exceptionTable := #[], attributes := #[] }
def k2m1 : Method := { name := "add", desc := "(JJ)I", sig := { parameters := [.long, .long], returnType := some .int }, accessFlags := 1, code := some k2c1 }
def k2c2 : Code := { maxStack := 4, maxLocals := 4, code := prog_10_method_5_code, exceptionTable := #[], attributes := #[] }
def k2m2 : Method := { name := "slot", desc := "(J)I", sig := { parameters := [.long], returnType := some .int }, accessFlags := 1, code := some k2c2 }
def k2c3 : Code := { maxStack := 2, maxLocals := 2, code := prog_10_method_6_code, exceptionTable := #[], attributes := #[] }
def k2m3 : Method := { name := "value", desc := "(I)J", sig := { parameters := [.int], returnType := some .long }, accessFlags := 1, code := some k2c3 }
def k2c4 : Code := { maxStack := 4, maxLocals := 5, code := prog_10_method_11_code, exceptionTable := #[], attributes := #[] }
def k2m4 : Method := { name := "find", desc := "([JJ)I", sig := { parameters := [(.array .long), .long], returnType := some .int }, accessFlags := 10, code := some k2c4 }
def k2c5 : Code := { maxStack := 3, maxLocals := 2, code := prog_10_method_12_code, exceptionTable := #[], attributes := #[] }
def k2m5 : Method := { name := "emptyTable", desc := "(I)[J", sig := { parameters := [.int], returnType := some (.array .long) }, accessFlags := 10, code := some k2c5 }
/-- com/example/floodgauge/floodgauge/latency/SeqTable -/
def k2 : Class := { plain "com/example/floodgauge/floodgauge/latency/SeqTable" (some 0) with
  accessFlags := 49
  interfaces := #[]
  cf := some (fileOf pool2 8 #[.nestMembers #[49]] #[{ accessFlags := 1, nameIndex := 5, descriptorIndex := 6, attributes := #[] }, { accessFlags := 1, nameIndex := 75, descriptorIndex := 76, attributes := #[] }, { accessFlags := 1, nameIndex := 81, descriptorIndex := 82, attributes := #[] }, { accessFlags := 1, nameIndex := 83, descriptorIndex := 84, attributes := #[] }, { accessFlags := 10, nameIndex := 35, descriptorIndex := 36, attributes := #[] }, { accessFlags := 10, nameIndex := 11, descriptorIndex := 12, attributes := #[] }] 49 2 #[] #[{ accessFlags := 26, nameIndex := 68, descriptorIndex := 69, attributes := #[] }, { accessFlags := 26, nameIndex := 71, descriptorIndex := 72, attributes := #[] }, { accessFlags := 2, nameIndex := 15, descriptorIndex := 16, attributes := #[] }, { accessFlags := 2, nameIndex := 19, descriptorIndex := 16, attributes := #[] }, { accessFlags := 2, nameIndex := 22, descriptorIndex := 23, attributes := #[] }, { accessFlags := 2, nameIndex := 39, descriptorIndex := 40, attributes := #[] }])
  fields := #[{ name := "EMPTY", type := .long, accessFlags := 26, slot := 0, constantValue := 0 }, { name := "LOAD", type := .double, accessFlags := 26, slot := 1, constantValue := 0 }, { name := "seqs", type := (.array .long), accessFlags := 2, slot := 0, constantValue := 0 }, { name := "values", type := (.array .long), accessFlags := 2, slot := 1, constantValue := 0 }, { name := "states", type := (.array .byte), accessFlags := 2, slot := 2, constantValue := 0 }, { name := "size", type := .int, accessFlags := 2, slot := 3, constantValue := 0 }]
  methods := #[k2m0, k2m1, k2m2, k2m3, k2m4, k2m5]
  instanceTypes := #[(.array .long), (.array .long), (.array .byte), .int]
  staticTypes := #[.long, .double]
  resolved := Array.replicate 112 none
  statics := none }

def pool3 : Array CpInfo := pool [(2, .class_ 4), (1, u "java/lang/Object"), (0, u "<init>"), (0, u "()V"), (7, .class_ 16), (1, u "java/util/Arrays"), (57, .class_ 76), (1, u "java/util/Arrays$NaturalOrder"), (36, .class_ 115), (1, u "java/util/Arrays$LegacyMergeSort"), (1, u "Z"), (257, .class_ 376), (0, u "java/util/Arrays$ArrayList"), (68, u "$assertionsDisabled"), (269, u "MIN_ARRAY_SORT_GRAN"), (0, u "I"), (2, u "INSERTIONSORT_THRESHOLD"), (120, u "fill"), (0, u "([JJ)V"), (133, .class_ 976), (0, u "java/util/Arrays$ArrayItr")] 52

def k3m0 : Method := { name := "<init>", desc := "()V", sig := { parameters := [], returnType := none }, accessFlags := 2, code := none }
def k3c1 : Code := { maxStack := 4, maxLocals := 5, code := jdk_65_method_101_code, exceptionTable := #[], attributes := #[] }
def k3m1 : Method := { name := "fill", desc := "([JJ)V", sig := { parameters := [(.array .long), .long], returnType := none }, accessFlags := 9, code := some k3c1 }
/-- java/util/Arrays -/
def k3 : Class := { plain "java/util/Arrays" (some 0) with
  accessFlags := 49
  interfaces := #[]
  cf := some (fileOf pool3 14 #[.nestMembers #[975, 375, 113, 74]] #[{ accessFlags := 2, nameIndex := 5, descriptorIndex := 6, attributes := #[] }, { accessFlags := 9, nameIndex := 840, descriptorIndex := 841, attributes := #[] }] 49 2 #[] #[{ accessFlags := 26, nameIndex := 715, descriptorIndex := 716, attributes := #[] }, { accessFlags := 26, nameIndex := 719, descriptorIndex := 716, attributes := #[] }, { accessFlags := 4120, nameIndex := 445, descriptorIndex := 117, attributes := #[] }])
  fields := #[{ name := "MIN_ARRAY_SORT_GRAN", type := .int, accessFlags := 26, slot := 0, constantValue := 0 }, { name := "INSERTIONSORT_THRESHOLD", type := .int, accessFlags := 26, slot := 1, constantValue := 0 }, { name := "$assertionsDisabled", type := .boolean, accessFlags := 4120, slot := 2, constantValue := 0 }]
  methods := #[k3m0, k3m1]
  instanceTypes := #[]
  staticTypes := #[.int, .int, .boolean]
  resolved := Array.replicate 1029 none
  statics := none }

def pool4 : Array CpInfo := pool [(1, u "java/lang/Cloneable"), (0, .class_ 1), (0, u "java/lang/Object"), (0, .class_ 3)] 3

/-- java/lang/Cloneable -/
def k4 : Class := { plain "java/lang/Cloneable" (some 0) with
  accessFlags := 1537
  interfaces := #[]
  cf := some (fileOf pool4 2 #[] #[] 1537 4 #[] #[])
  fields := #[]
  methods := #[]
  instanceTypes := #[]
  staticTypes := #[]
  resolved := Array.replicate 8 none
  statics := none }

def pool5 : Array CpInfo := pool [(1, u "java/io/Serializable"), (0, .class_ 1), (0, u "java/lang/Object"), (0, .class_ 3)] 3

/-- java/io/Serializable -/
def k5 : Class := { plain "java/io/Serializable" (some 0) with
  accessFlags := 1537
  interfaces := #[]
  cf := some (fileOf pool5 2 #[] #[] 1537 4 #[] #[])
  fields := #[]
  methods := #[]
  instanceTypes := #[]
  staticTypes := #[]
  resolved := Array.replicate 8 none
  statics := none }

/-- the primitive byte -/
def k6 : Class := { plain "byte" none with kind := .primitive 'B', accessFlags := 0x411 }
/-- [B -/
def k7 : Class := { plain "[B" (some 0) with kind := .array 6 .byte, interfaces := #[4, 5], accessFlags := 1041 }

/-- the primitive int -/
def k8 : Class := { plain "int" none with kind := .primitive 'I', accessFlags := 0x411 }
/-- [I -/
def k9 : Class := { plain "[I" (some 0) with kind := .array 8 .int, interfaces := #[4, 5], accessFlags := 1041 }

/-- the primitive long -/
def k10 : Class := { plain "long" none with kind := .primitive 'J', accessFlags := 0x411 }
/-- [J -/
def k11 : Class := { plain "[J" (some 0) with kind := .array 10 .long, interfaces := #[4, 5], accessFlags := 1041 }

def heap : Heap := #[]
def classes : Array Class := #[k0, k1, k2, k3, k4, k5, k6, k7, k8, k9, k10, k11]
def interned : List (Array UInt16 × Addr) := []
def slotsUsed : Nat := 0
def theMethod : MethodId := ⟨1, 1⟩
def args0 : Array Value := #[.long 5, .long 6, .long 7, .long 8, .int 9]
def aboutOver (below : List Frame) : State where
  vm := { classes := classes, interned := interned.toArray }
  heap := heap
  slotsUsed := slotsUsed
  threads := #[{ frames := .invoking theMethod args0 :: below }]
def below0 : List Frame := [.native { method := ⟨0, 0⟩, args := #[] }]
def about1 : State := aboutOver below0
def p0 : Program := .bare "" "" ""
def e0 : Env := launch0.env 0 0 0
theorem w_frames : about1.frames = Frame.invoking theMethod args0 :: below0 := rfl
set_option maxRecDepth 65536 in
theorem w_args : argsFit about1.vm theMethod args0 = true := by decide +kernel
set_option maxRecDepth 65536 in
theorem w_heap : heapFits about1 = true := by decide +kernel
set_option maxRecDepth 65536 in
theorem w_runnable : about1.curStatus? = some .runnable := by decide +kernel
set_option maxRecDepth 65536 in
theorem w_alone : about1.alone = true := by decide +kernel
set_option maxRecDepth 65536 in
theorem w_named : about1.methodNamed? x = some theMethod := by decide +kernel
set_option maxRecDepth 65536 in
theorem w_hears : about1.hears theMethod below0 = true := by decide +kernel
set_option maxRecDepth 65536 in
theorem w_ripe : about1.ripe theMethod args0 below0 = true := by decide +kernel
theorem w_running : about1.status = .running := rfl
set_option maxRecDepth 65536 in
theorem w_room : about1.hasRoom e0.platform room_1 = true :=
  launch0.hasRoom_least _ room_1 (by decide +kernel) (by decide +kernel) (by decide +kernel) (by decide +kernel) (by decide +kernel) (by decide +kernel)
theorem allAtoms_all (ts : List Jvm.Cond) (a : Array Jvm.Value) (st : Jvm.State) : (allAtoms ts).before a st = ts.all (fun c => c.before a st) := by
  induction ts with
  | nil => rfl
  | cons c t ih =>
    show (Jvm.Cond.and c (allAtoms t)).before a st = _
    rw [Jvm.Cond.before_and, ih, List.all_cons]
def words1 : List Jvm.Cond := Jvm.Cond.code x code maxLocals ret :: tables_1
/-- a 'code' word, met by the world's own term for the bytes: nothing is compared byte by byte -/
theorem code_word {y : MethodName} {bytes : ByteArray} {mx : Nat} {rt : Option FieldType} {a : Array Value} {s : State} {m : MethodId} {meth : Method} {c : Code} (h1 : s.methodNamed? y = some m) (h2 : s.vm.method? m = some meth) (h3 : meth.code = some c) (h4 : c.code = bytes)
    (h5 : (c.maxLocals == mx && c.exceptionTable.isEmpty && decide (c.maxStack ≤ mostOperands) && decide (meth.sig.returnType = rt) && !meth.locks && decide (parseMethodDescriptor y.desc = some meth.sig)) = true) : (Jvm.Cond.code y bytes mx rt).before a s = true := by
  simp only [Bool.and_eq_true, beq_iff_eq, Bool.not_eq_true', decide_eq_true_eq] at h5
  obtain ⟨⟨⟨⟨⟨g1, g2⟩, g3⟩, g4⟩, g5⟩, g6⟩ := h5
  simp [Cond.before, Cond.holds, Cond.value, h1, h2, h3, h4, g1, g2, g3, g4, g5, g6]
def isCode : Jvm.Cond → Bool
  | .code _ _ _ _ => true
  | _ => false
theorem all_split {L : List Jvm.Cond} {P : Jvm.Cond → Bool} (h1 : L.all (fun c => isCode c || P c) = true) (h2 : ∀ c ∈ L.filter isCode, P c = true) : L.all P = true := by
  refine List.all_eq_true.mpr fun c hc => ?_
  have h := List.all_eq_true.mp h1 c hc
  rcases Bool.eq_false_or_eq_true (isCode c) with hi | hi
  · exact h2 c (List.mem_filter.mpr ⟨hc, hi⟩)
  · simpa [hi] using h
set_option maxRecDepth 65536 in
theorem w_c0 : (Jvm.Cond.code x code maxLocals ret).before args0 about1 = true := code_word (m := ⟨1, 1⟩) (meth := k1m1) (c := k1c1) (by decide +kernel) rfl rfl rfl (by decide +kernel)
set_option maxRecDepth 65536 in
theorem w_c1 : (Jvm.Cond.code ({ cls := "com/example/floodgauge/floodgauge/latency/SeqTable", name := "<init>", desc := "()V" } : Jvm.MethodName) prog_10_method_1_code (1 : Nat) (Option.none : Option Jvm.ClassFile.FieldType)).before args0 about1 = true := code_word (m := ⟨2, 0⟩) (meth := k2m0) (c := k2c0) (by decide +kernel) rfl rfl rfl (by decide +kernel)
set_option maxRecDepth 65536 in
theorem w_c2 : (Jvm.Cond.code ({ cls := "java/lang/Object", name := "<init>", desc := "()V" } : Jvm.MethodName) object_method_1_code (1 : Nat) (Option.none : Option Jvm.ClassFile.FieldType)).before args0 about1 = true := code_word (m := ⟨0, 0⟩) (meth := k0m0) (c := k0c0) (by decide +kernel) rfl rfl rfl (by decide +kernel)
set_option maxRecDepth 65536 in
theorem w_c3 : (Jvm.Cond.code ({ cls := "com/example/floodgauge/floodgauge/latency/SeqTable", name := "emptyTable", desc := "(I)[J" } : Jvm.MethodName) prog_10_method_12_code (2 : Nat) (Option.some (Jvm.ClassFile.FieldType.array Jvm.ClassFile.FieldType.long))).before args0 about1 = true := code_word (m := ⟨2, 5⟩) (meth := k2m5) (c := k2c5) (by decide +kernel) rfl rfl rfl (by decide +kernel)
set_option maxRecDepth 65536 in
theorem w_c4 : (Jvm.Cond.code ({ cls := "java/util/Arrays", name := "fill", desc := "([JJ)V" } : Jvm.MethodName) jdk_65_method_101_code (5 : Nat) (Option.none : Option Jvm.ClassFile.FieldType)).before args0 about1 = true := code_word (m := ⟨3, 1⟩) (meth := k3m1) (c := k3c1) (by decide +kernel) rfl rfl rfl (by decide +kernel)
set_option maxRecDepth 65536 in
theorem w_c5 : (Jvm.Cond.code ({ cls := "com/example/floodgauge/floodgauge/latency/SeqTable", name := "slot", desc := "(J)I" } : Jvm.MethodName) prog_10_method_5_code (4 : Nat) (Option.some Jvm.ClassFile.FieldType.int)).before args0 about1 = true := code_word (m := ⟨2, 2⟩) (meth := k2m2) (c := k2c2) (by decide +kernel) rfl rfl rfl (by decide +kernel)
set_option maxRecDepth 65536 in
theorem w_c6 : (Jvm.Cond.code ({ cls := "com/example/floodgauge/floodgauge/latency/SeqTable", name := "find", desc := "([JJ)I" } : Jvm.MethodName) prog_10_method_11_code (5 : Nat) (Option.some Jvm.ClassFile.FieldType.int)).before args0 about1 = true := code_word (m := ⟨2, 4⟩) (meth := k2m4) (c := k2c4) (by decide +kernel) rfl rfl rfl (by decide +kernel)
set_option maxRecDepth 65536 in
theorem w_c7 : (Jvm.Cond.code ({ cls := "com/example/floodgauge/floodgauge/latency/SeqTable", name := "add", desc := "(JJ)I" } : Jvm.MethodName) prog_10_method_2_code (6 : Nat) (Option.some Jvm.ClassFile.FieldType.int)).before args0 about1 = true := code_word (m := ⟨2, 1⟩) (meth := k2m1) (c := k2c1) (by decide +kernel) rfl rfl rfl (by decide +kernel)
set_option maxRecDepth 65536 in
theorem w_c8 : (Jvm.Cond.code ({ cls := "com/example/floodgauge/floodgauge/latency/SeqTable", name := "value", desc := "(I)J" } : Jvm.MethodName) prog_10_method_6_code (2 : Nat) (Option.some Jvm.ClassFile.FieldType.long)).before args0 about1 = true := code_word (m := ⟨2, 3⟩) (meth := k2m3) (c := k2c3) (by decide +kernel) rfl rfl rfl (by decide +kernel)
def codes1 : List Jvm.Cond := [Jvm.Cond.code x code maxLocals ret, Jvm.Cond.code ({ cls := "com/example/floodgauge/floodgauge/latency/SeqTable", name := "<init>", desc := "()V" } : Jvm.MethodName) prog_10_method_1_code (1 : Nat) (Option.none : Option Jvm.ClassFile.FieldType), Jvm.Cond.code ({ cls := "java/lang/Object", name := "<init>", desc := "()V" } : Jvm.MethodName) object_method_1_code (1 : Nat) (Option.none : Option Jvm.ClassFile.FieldType), Jvm.Cond.code ({ cls := "com/example/floodgauge/floodgauge/latency/SeqTable", name := "emptyTable", desc := "(I)[J" } : Jvm.MethodName) prog_10_method_12_code (2 : Nat) (Option.some (Jvm.ClassFile.FieldType.array Jvm.ClassFile.FieldType.long)), Jvm.Cond.code ({ cls := "java/util/Arrays", name := "fill", desc := "([JJ)V" } : Jvm.MethodName) jdk_65_method_101_code (5 : Nat) (Option.none : Option Jvm.ClassFile.FieldType), Jvm.Cond.code ({ cls := "com/example/floodgauge/floodgauge/latency/SeqTable", name := "slot", desc := "(J)I" } : Jvm.MethodName) prog_10_method_5_code (4 : Nat) (Option.some Jvm.ClassFile.FieldType.int), Jvm.Cond.code ({ cls := "com/example/floodgauge/floodgauge/latency/SeqTable", name := "find", desc := "([JJ)I" } : Jvm.MethodName) prog_10_method_11_code (5 : Nat) (Option.some Jvm.ClassFile.FieldType.int), Jvm.Cond.code ({ cls := "com/example/floodgauge/floodgauge/latency/SeqTable", name := "add", desc := "(JJ)I" } : Jvm.MethodName) prog_10_method_2_code (6 : Nat) (Option.some Jvm.ClassFile.FieldType.int), Jvm.Cond.code ({ cls := "com/example/floodgauge/floodgauge/latency/SeqTable", name := "value", desc := "(I)J" } : Jvm.MethodName) prog_10_method_6_code (2 : Nat) (Option.some Jvm.ClassFile.FieldType.long)]
set_option maxRecDepth 65536 in
theorem codes_eq : words1.filter isCode = codes1 := rfl
theorem w_codes : ∀ c ∈ words1.filter isCode, c.before args0 about1 = true := by
  rw [codes_eq]
  intro c hc
  simp only [codes1, List.mem_cons, List.not_mem_nil, or_false] at hc
  rcases hc with rfl | rfl | rfl | rfl | rfl | rfl | rfl | rfl | rfl
  · exact w_c0
  · exact w_c1
  · exact w_c2
  · exact w_c3
  · exact w_c4
  · exact w_c5
  · exact w_c6
  · exact w_c7
  · exact w_c8
set_option maxRecDepth 65536 in
theorem w_t1 : (words1.take 24).all (fun c => isCode c || c.before args0 about1) = true := by decide +kernel
set_option maxRecDepth 65536 in
theorem w_t2 : ((words1.drop 24).take 24).all (fun c => isCode c || c.before args0 about1) = true := by decide +kernel
set_option maxRecDepth 65536 in
theorem w_t3 : ((words1.drop 24).drop 24).all (fun c => isCode c || c.before args0 about1) = true := by decide +kernel
theorem w_tables : (allAtoms (Jvm.Cond.code x code maxLocals ret :: tables_1)).before args0 about1 = true := by
  rw [allAtoms_all]
  show words1.all (fun c => c.before args0 about1) = true
  refine all_split ?_ w_codes
  rw [← List.take_append_drop 24 words1, List.all_append, w_t1, ← List.take_append_drop 24 (words1.drop 24), List.all_append, w_t2, w_t3]
  rfl
set_option maxRecDepth 65536 in
theorem w_case : (Jvm.Cond.and given_1 narrow_1).before args0 about1 = true := by decide +kernel
theorem w_applies : (headSpec (Jvm.Cond.code x code maxLocals ret :: tables_1) room_1).applies x e0.platform about1 = true :=
  (Spec.applies_iff w_frames).mpr ⟨w_running, w_runnable, w_alone, w_named, w_hears, w_ripe, w_room, w_tables⟩
theorem atStart : AtStart classFile x code maxLocals ret World_1 tables_1 room_1 Calls_1 rest_1 Pre_1 launch0 p0 e0 about1 theMethod args0 below0 :=
  ⟨lists_1, trivial, launch0.admits_env _ _ _, launch0.least_env, fairChoices_fair.cas, fairChoices_fair.clock, w_frames, w_args, w_heap, w_applies, trivial, trivial, w_case⟩
end start1
theorem witness_1 : WitnessClaimed_1 := ⟨start1.p0, start1.e0, start1.about1, start1.theMethod, start1.args0, start1.below0, start1.atStart⟩
end Jvm.Pilot.@@N@@
