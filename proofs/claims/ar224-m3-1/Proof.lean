import JvmDerived
import JvmDerived.Pilot.@@N@@Statement
import JvmDerived.Pilot.@@N@@Code
set_option linter.unusedVariables false
set_option linter.unusedSimpArgs false
namespace Jvm.Pilot.@@N@@
open Jvm Jvm.ClassFile Sem Op Lib Jvm.Free Jvm.Stand Jvm.LawKit Jvm.RoadKit Bundle Jvm.Pilot.@@N@@.Jvm.D
theorem own_lt32 {x y : Int32} {i j : Int} (hi : x.toInt = i) (hj : y.toInt = j) (h : i < j) : x < y := by rw [Int32.lt_iff_toInt_lt, hi, hj]; exact h
theorem own_nlt32 {x y : Int32} {i j : Int} (hi : x.toInt = i) (hj : y.toInt = j) (h : ¬ i < j) : ¬ x < y := by rw [Int32.lt_iff_toInt_lt, hi, hj]; exact h
theorem own_eq32 {x y : Int32} {i j : Int} (hi : x.toInt = i) (hj : y.toInt = j) (h : i = j) : x = y := by rw [← Int32.toInt_inj, hi, hj]; exact h
theorem own_neq32 {x y : Int32} {i j : Int} (hi : x.toInt = i) (hj : y.toInt = j) (h : ¬ i = j) : ¬ x = y := by rw [← Int32.toInt_inj, hi, hj]; exact h
theorem own_lt64 {x y : Int64} {i j : Int} (hi : x.toInt = i) (hj : y.toInt = j) (h : i < j) : x < y := by rw [Int64.lt_iff_toInt_lt, hi, hj]; exact h
theorem own_nlt64 {x y : Int64} {i j : Int} (hi : x.toInt = i) (hj : y.toInt = j) (h : ¬ i < j) : ¬ x < y := by rw [Int64.lt_iff_toInt_lt, hi, hj]; exact h
theorem own_eq64 {x y : Int64} {i j : Int} (hi : x.toInt = i) (hj : y.toInt = j) (h : i = j) : x = y := by rw [← Int64.toInt_inj, hi, hj]; exact h
theorem own_neq64 {x y : Int64} {i j : Int} (hi : x.toInt = i) (hj : y.toInt = j) (h : ¬ i = j) : ¬ x = y := by rw [← Int64.toInt_inj, hi, hj]; exact h
/-! OWN LAYER 1: the run goes on (own_Go), a method's contract (own_Met), its entry, its returns, its calls. -/
section OwnGo
variable {p : Program} {l : Launch} {e : Env} {R : Room} {s : State} {m : MethodId} {args : Array Value} {below : List Frame} {meth : Method} {c : Code} {T : State} {locs : List Loc} {cells slots : Nat} {Z : State} {a0 : Array Value} {h : Heap}
/-- from A the run comes to a state of which G holds -/
def own_Go (p : Program) (e : Env) (below : List Frame) (G : State → Prop) (A : State) : Prop := ∃ t, Steps p.tables e below A t ∧ G t
theorem own_go {G : State → Prop} {A B : State} (h : ∀ t, Steps p.tables e below B t → Steps p.tables e below A t) (k : own_Go p e below G B) : own_Go p e below G A := by
  obtain ⟨t, h1, h2⟩ := k; exact ⟨t, h t h1, h2⟩
/-- the invocation from s has ended by a return: what came back, the heap and the places written are as Q says -/
def own_End (below : List Frame) (s : State) (Q : Option Value → Heap → List Loc → Prop) (C N : Nat) (t : State) : Prop := t.status = .running ∧ ∃ v L, Ended t below (.returned v) ∧ Q v t.heap L ∧ FrameEnd s (.returned v) t L C N
/-- a contract of a method at one heap -/
def own_Met (l : Launch) (Z : State) (ws : List Jvm.Cond) (y : MethodName) (bytes : ByteArray) (maxL : Nat) (ret : Option FieldType) (rm : Room) (as' : Array Value) (h : Heap) (Q : Option Value → Heap → List Loc → Prop) : Prop :=
  MetFree l y (head1 (Jvm.Cond.code y bytes maxL ret :: ws) rm) (fun a U => a = as' ∧ Z.Warmed39 U.vm ∧ U.heap = h) (fun _ _ _ _ _ => True) (fun _ U o U' => ∃ v L, o = .returned v ∧ Q v U'.heap L ∧ FrameEnd U o U' L rm.cells rm.slots)
theorem own_met {ws : List Jvm.Cond} {y : MethodName} {bytes : ByteArray} {maxL : Nat} {ret : Option FieldType} {rm : Room} {as' : Array Value} {Q : Option Value → Heap → List Loc → Prop} (hpf : plainFor y = true)
    (body : ∀ (p : Program) (e : Env) (s : State) (m : MethodId) (below : List Frame) (meth : Method) (c : Code) (s₁ : State), p.tables.exec = Jvm.exec → c.code = bytes → c.maxLocals = maxL → s.vm.findClass y.cls = some m.cls → meth.name = y.name → meth.sig.returnType = ret → meth.locks = false → Z.Warmed39 s.vm →
      Stand p l e rm s m as' below meth c s₁ [] 0 0 → s₁.heap = h → own_Go p e below (own_End below s Q rm.cells rm.slots) (s₁.setTop (entryFrame m as' maxL))) :
    own_Met l Z ws y bytes maxL ret rm as' h Q := by
  refine MetFree.of_bodySF hpf hisR ?_
  intro p e s m args below meth c s₁ Bd hml0 hP hK
  obtain ⟨rfl, hZ, hh⟩ := hP
  obtain ⟨t, h1, h2, v, L, h3, h4, h5⟩ := body p e s m below meth c s₁ Bd.exec Bd.bytes hml0 (findClass_of_methodNamed Bd.named) (name_of_methodNamed Bd.named Bd.method).1 Bd.returns Bd.notSynchronized hZ (Stand.of_body Bd) (by rw [← hh, Bd.state]; rfl)
  exact ⟨t, _, h1, h2, h3, v, L, rfl, h4, h5⟩
theorem own_entry {G : State → Prop} {f g : JFrame} (q : f = g) (k : own_Go p e below G (T.setTop g)) : own_Go p e below G (T.setTop f) := q ▸ k
theorem own_ret (X : Stand p l e R s m args below meth c T locs cells slots) (hx : p.tables.exec = Jvm.exec) (hlk : meth.locks = false) {pc : Nat} {Ls : Array Slot} {w : Value} {t : FieldType} {i : Instr} {rest : List Value} (hret : meth.sig.returnType = some t) (hn : narrow t w = w)
    (hi : (i = .ireturn ∧ (t = .int ∨ t = .boolean ∨ t = .byte ∨ t = .char ∨ t = .short) ∧ ∃ z, w = .int z) ∨ (i = .lreturn ∧ t = .long ∧ ∃ z, w = .long z) ∨ (i = .dreturn ∧ t = .double ∧ ∃ z, w = .double z) ∨ (i = .freturn ∧ t = .float ∧ ∃ z, w = .float z) ∨ (i = .areturn ∧ t.isReference = true ∧ w.isRef = true))
    (hd : decode c.code pc = .ok (i, 1)) {Q : Option Value → Heap → List Loc → Prop} {C N : Nat} (hQ : Q (some w) T.heap locs) (hc : cells ≤ C) (hs : slots ≤ N) : own_Go p e below (own_End below s Q C N) (T.setTop (mkF m pc Ls (w :: rest))) := by
  obtain ⟨fs, hr, hrun, hended, hW, hsame⟩ := X.leave (v := some w) (fun h => by rw [hret] at h; cases h) hlk
  exact ⟨_, retOut X hx hret hn hi hd hr, hrun, _, _, hended, hQ, ⟨_, rfl⟩, hW, hsame.mono hc hs⟩
theorem own_retI (X : Stand p l e R s m args below meth c T locs cells slots) (hx : p.tables.exec = Jvm.exec) (hlk : meth.locks = false) {pc : Nat} {Ls : Array Slot} {z : Int32} {rest : List Value} (hret : meth.sig.returnType = some .int)
    (hd : decode c.code pc = .ok (.ireturn, 1)) {Q : Option Value → Heap → List Loc → Prop} {C N : Nat} (hQ : Q (some (.int z)) T.heap locs) (hc : cells ≤ C) (hs : slots ≤ N) : own_Go p e below (own_End below s Q C N) (T.setTop (mkF m pc Ls (.int z :: rest))) :=
  own_ret X hx hlk hret rfl (Or.inl ⟨rfl, Or.inl rfl, z, rfl⟩) hd hQ hc hs
theorem own_retZ (X : Stand p l e R s m args below meth c T locs cells slots) (hx : p.tables.exec = Jvm.exec) (hlk : meth.locks = false) {pc : Nat} {Ls : Array Slot} {z : Int32} {rest : List Value} (hret : meth.sig.returnType = some .boolean) (hz : z &&& 1 = z)
    (hd : decode c.code pc = .ok (.ireturn, 1)) {Q : Option Value → Heap → List Loc → Prop} {C N : Nat} (hQ : Q (some (.int z)) T.heap locs) (hc : cells ≤ C) (hs : slots ≤ N) : own_Go p e below (own_End below s Q C N) (T.setTop (mkF m pc Ls (.int z :: rest))) :=
  own_ret X hx hlk hret (by show Value.int (z &&& 1) = _; rw [hz]) (Or.inl ⟨rfl, Or.inr (Or.inl rfl), z, rfl⟩) hd hQ hc hs
theorem own_retJ (X : Stand p l e R s m args below meth c T locs cells slots) (hx : p.tables.exec = Jvm.exec) (hlk : meth.locks = false) {pc : Nat} {Ls : Array Slot} {z : Int64} {rest : List Value} (hret : meth.sig.returnType = some .long)
    (hd : decode c.code pc = .ok (.lreturn, 1)) {Q : Option Value → Heap → List Loc → Prop} {C N : Nat} (hQ : Q (some (.long z)) T.heap locs) (hc : cells ≤ C) (hs : slots ≤ N) : own_Go p e below (own_End below s Q C N) (T.setTop (mkF m pc Ls (.long z :: rest))) :=
  own_ret X hx hlk hret rfl (Or.inr (Or.inl ⟨rfl, rfl, z, rfl⟩)) hd hQ hc hs
theorem own_retA (X : Stand p l e R s m args below meth c T locs cells slots) (hx : p.tables.exec = Jvm.exec) (hlk : meth.locks = false) {pc : Nat} {Ls : Array Slot} {a : Addr} {t : FieldType} {rest : List Value} (hret : meth.sig.returnType = some t) (ht : t.isReference = true) (hn : narrow t (.ref a) = .ref a)
    (hd : decode c.code pc = .ok (.areturn, 1)) {Q : Option Value → Heap → List Loc → Prop} {C N : Nat} (hQ : Q (some (.ref a)) T.heap locs) (hc : cells ≤ C) (hs : slots ≤ N) : own_Go p e below (own_End below s Q C N) (T.setTop (mkF m pc Ls (.ref a :: rest))) :=
  own_ret X hx hlk hret hn (Or.inr (Or.inr (Or.inr (Or.inr ⟨rfl, ht, rfl⟩)))) hd hQ hc hs
theorem own_retV (X : Stand p l e R s m args below meth c T locs cells slots) (hx : p.tables.exec = Jvm.exec) (hlk : meth.locks = false) {pc : Nat} {Ls : Array Slot} (hret : meth.sig.returnType = none)
    (hd : decode c.code pc = .ok (.return_, 1)) {Q : Option Value → Heap → List Loc → Prop} {C N : Nat} (hQ : Q none T.heap locs) (hc : cells ≤ C) (hs : slots ≤ N) : own_Go p e below (own_End below s Q C N) (T.setTop (mkF m pc Ls [])) := by
  obtain ⟨fs, hr, hrun, hended, hW, hsame⟩ := X.leave (v := none) (fun _ => rfl) hlk
  exact ⟨_, X.returnOut hx hret hd hr, hrun, _, _, hended, hQ, ⟨_, rfl⟩, hW, hsame.mono hc hs⟩
/-- a static method by its contract -/
theorem own_callS (X : Stand p l e R s m args below meth c T locs cells slots) (hx : p.tables.exec = Jvm.exec) (hZ : Z.Warmed39 s.vm) {own : String} {index : Nat} {y : MethodName} {bytes : ByteArray} {maxL : Nat} {ret : Option FieldType} (hown : s.vm.findClass own = some m.cls)
    (w1 : (Jvm.Cond.methodLink own index y).before a0 Z = true) (w2 : (Jvm.Cond.static y).before a0 Z = true) (w3 : (Jvm.Cond.initialized y.cls).before a0 Z = true) (w4 : (Jvm.Cond.code y bytes maxL ret).before a0 Z = true) (hy : y.cls ≠ "java/lang/invoke/MethodHandle" ∧ y.cls ≠ "java/lang/invoke/VarHandle")
    {rm : Room} {as' : Array Value} {Q : Option Value → Heap → List Loc → Prop} (hM : own_Met l Z [] y bytes maxL ret rm as' h Q) (eT : T.heap = h) {pc : Nat} {Ls : Array Slot} {argsL rest st : List Value} (ha : argsL.toArray = as') (hsz : Ls.size = c.maxLocals)
    {ps : List FieldType} {r : Option FieldType} (hpd : parseMethodDescriptor y.desc = some ⟨ps, r⟩) (hpl : argsL.length = ps.length) (hst : st = argsL.reverse ++ rest) (hd : decode c.code pc = .ok (.invokestatic index, 3)) (W : Nat) (hW : (rest.map fun v => v.category).sum ≤ W)
    (hf : rm.frames + 1 ≤ R.frames) (hl : W + (maxL + 11) + rm.locals ≤ R.locals) (hc : cells + rm.cells ≤ R.cells) (hsl : slots + rm.slots ≤ R.slots) :
    ∃ (v : Option Value) (L : List Loc) (T' : State), Stand p l e R s m args below meth c T' (locs ++ L) (cells + rm.cells) (slots + rm.slots) ∧ Q v T'.heap L ∧ ∀ t, Steps p.tables e below (T'.setTop (mkF m (pc + 3) Ls (v.toList ++ rest))) t → Steps p.tables e below (T.setTop (mkF m pc Ls st)) t := by
  subst ha
  obtain ⟨v, _, ⟨T', L', k', n'⟩, -, X', ⟨L, hQ, l1, y1, z1⟩, st'⟩ := Jvm.LawKit.callS X hx (y := y) hown (mvT hZ w1) (mvT hZ w2) (mvT hZ w3) (mvT hZ w4) hy (backOf (W := W) hM hZ w4 w3 hf hl) (g := mkF m pc Ls st) rfl hsz (argsL := argsL) (rest := rest) (lenOf hpd hpl) hst (by show 2 * 0 + _ ≤ _; omega) hd (fun _ _ => ⟨rfl, eT, hc, hsl⟩)
  dsimp only [Pt.U, Pt.locs, Pt.cells, Pt.slots] at X' l1 y1 z1 st' hQ
  subst l1 y1 z1
  exact ⟨v, L, T', X', hQ, st'⟩
/-- an instance method by its contract, the receiver exactly of the class C -/
theorem own_callV (X : Stand p l e R s m args below meth c T locs cells slots) (hx : p.tables.exec = Jvm.exec) (hZ : Z.Warmed39 s.vm) {own C : String} {index : Nat} {y : MethodName} {bytes : ByteArray} {maxL : Nat} {ret : Option FieldType} (hown : s.vm.findClass own = some m.cls)
    (w1 : (Jvm.Cond.methodLink own index y).before a0 Z = true) (w2 : (Jvm.Cond.declares y).before a0 Z = true) (w3 : (Jvm.Cond.selects C y y).before a0 Z = true) (w4 : (Jvm.Cond.instanceMethod y).before a0 Z = true) (w5 : (Jvm.Cond.code y bytes maxL ret).before a0 Z = true) (w6 : (Jvm.Cond.initialized y.cls).before a0 Z = true)
    (hy : y.cls ≠ "java/lang/invoke/MethodHandle" ∧ y.cls ≠ "java/lang/invoke/VarHandle") {b : Addr} (E : Exa Z h b C)
    {rm : Room} {as' : Array Value} {Q : Option Value → Heap → List Loc → Prop} (hM : own_Met l Z [] y bytes maxL ret rm as' h Q) (eT : T.heap = h) {pc : Nat} {Ls : Array Slot} {argsL rest st : List Value} (ha : (.ref b :: argsL).toArray = as') (hsz : Ls.size = c.maxLocals)
    {ps : List FieldType} {r : Option FieldType} (hpd : parseMethodDescriptor y.desc = some ⟨ps, r⟩) (hpl : argsL.length = ps.length) (hst : st = argsL.reverse ++ .ref b :: rest) (hd : decode c.code pc = .ok (.invokevirtual index, 3)) (W : Nat) (hW : (rest.map fun v => v.category).sum ≤ W)
    (hf : rm.frames + 1 ≤ R.frames) (hl : W + (maxL + 11) + rm.locals ≤ R.locals) (hc : cells + rm.cells ≤ R.cells) (hsl : slots + rm.slots ≤ R.slots) :
    ∃ (v : Option Value) (L : List Loc) (T' : State), Stand p l e R s m args below meth c T' (locs ++ L) (cells + rm.cells) (slots + rm.slots) ∧ Q v T'.heap L ∧ ∀ t, Steps p.tables e below (T'.setTop (mkF m (pc + 3) Ls (v.toList ++ rest))) t → Steps p.tables e below (T.setTop (mkF m pc Ls st)) t := by
  subst ha
  obtain ⟨cq, kq, qa, qb, qc⟩ := isOf hZ eT E
  obtain ⟨v, _, ⟨T', L', k', n'⟩, -, X', ⟨L, hQ, l1, y1, z1⟩, st'⟩ := X.virtualBack hx (y := y) (z := y) hown (mvT hZ w1) (mvT hZ w2) (notFace_of_selects (args := #[]) (mvT hZ w3)) (mvT hZ w3) (mvT hZ w4) hy (backOf (W := W) hM hZ w5 w6 hf hl) qa qc (g := mkF m pc Ls st) rfl hsz (Steps.refl _) (argsL := argsL) (rest := rest) (lenOf hpd hpl) hst (by show 2 * 0 + _ ≤ _; omega) hd (fun _ _ => ⟨rfl, eT, hc, hsl⟩)
  dsimp only [Pt.U, Pt.locs, Pt.cells, Pt.slots] at X' l1 y1 z1 st' hQ
  subst l1 y1 z1
  exact ⟨v, L, T', X', hQ, fun t k => st'.trans k⟩
/-- a constructor by its contract -/
theorem own_callI (X : Stand p l e R s m args below meth c T locs cells slots) (hx : p.tables.exec = Jvm.exec) (hZ : Z.Warmed39 s.vm) {own : String} {index : Nat} {y : MethodName} {bytes : ByteArray} {maxL : Nat} (hyn : y.name = "<init>") (hown : s.vm.findClass own = some m.cls)
    (w1 : (Jvm.Cond.methodLink own index y).before a0 Z = true) (w2 : (Jvm.Cond.instanceMethod y).before a0 Z = true) (w3 : (Jvm.Cond.code y bytes maxL none).before a0 Z = true) (w4 : (Jvm.Cond.initialized y.cls).before a0 Z = true) (hy : y.cls ≠ "java/lang/invoke/MethodHandle" ∧ y.cls ≠ "java/lang/invoke/VarHandle") {b : Addr}
    {rm : Room} {as' : Array Value} {Q : Option Value → Heap → List Loc → Prop} (hM : own_Met l Z [] y bytes maxL none rm as' h Q) (eT : T.heap = h) {pc : Nat} {Ls : Array Slot} {argsL rest st : List Value} (ha : (.ref b :: argsL).toArray = as') (hsz : Ls.size = c.maxLocals)
    {ps : List FieldType} {r : Option FieldType} (hpd : parseMethodDescriptor y.desc = some ⟨ps, r⟩) (hpl : argsL.length = ps.length) (hst : st = argsL.reverse ++ .ref b :: rest) (hd : decode c.code pc = .ok (.invokespecial index, 3)) (W : Nat) (hW : (rest.map fun v => v.category).sum ≤ W)
    (hf : rm.frames + 1 ≤ R.frames) (hl : W + (maxL + 11) + rm.locals ≤ R.locals) (hc : cells + rm.cells ≤ R.cells) (hsl : slots + rm.slots ≤ R.slots) :
    ∃ (v : Option Value) (L : List Loc) (T' : State), Stand p l e R s m args below meth c T' (locs ++ L) (cells + rm.cells) (slots + rm.slots) ∧ Q v T'.heap L ∧ ∀ t, Steps p.tables e below (T'.setTop (mkF m (pc + 3) Ls (v.toList ++ rest))) t → Steps p.tables e below (T.setTop (mkF m pc Ls st)) t := by
  subst ha
  obtain ⟨v, _, ⟨T', L', k', n'⟩, -, X', ⟨L, hQ, l1, y1, z1⟩, st'⟩ := X.specialBack hx (y := y) hyn hown (mvT hZ w1) (mvT hZ w2) (mvT hZ w3) hy (backOf (W := W) hM hZ w3 w4 hf hl) (g := mkF m pc Ls st) rfl hsz (Steps.refl _) (a := b) (argsL := argsL) (rest := rest) (lenOf hpd hpl) hst (by show 2 * 0 + _ ≤ _; omega) hd (fun _ _ => ⟨rfl, eT, hc, hsl⟩)
  dsimp only [Pt.U, Pt.locs, Pt.cells, Pt.slots] at X' l1 y1 z1 st' hQ
  subst l1 y1 z1
  exact ⟨v, L, T', X', hQ, fun t k => st'.trans k⟩
end OwnGo
theorem pd_0 : parseMethodDescriptor "(J)V" = some ⟨[.long], none⟩ := by decide +kernel
theorem pd_1 : parseMethodDescriptor "(JJ)J" = some ⟨[.long, .long], some .long⟩ := by decide +kernel
theorem d1_0 : decode prog_60_method_3_code 0 = .ok (.lload_n 0, 1) := by decide +kernel
theorem d1_1 : decode prog_60_method_3_code 1 = .ok (.ldc2_w 40, 3) := by decide +kernel
theorem d1_4 : decode prog_60_method_3_code 4 = .ok (.lcmp, 1) := by decide +kernel
theorem d1_5 : decode prog_60_method_3_code 5 = .ok (.ifCond .le 13, 3) := by decide +kernel
theorem d1_8 : decode prog_60_method_3_code 8 = .ok (.new 21, 3) := by decide +kernel
theorem d1_11 : decode prog_60_method_3_code 11 = .ok (.dup, 1) := by decide +kernel
theorem d1_12 : decode prog_60_method_3_code 12 = .ok (.ldc 42, 2) := by decide +kernel
theorem d1_14 : decode prog_60_method_3_code 14 = .ok (.invokespecial 25, 3) := by decide +kernel
theorem d1_17 : decode prog_60_method_3_code 17 = .ok (.athrow, 1) := by decide +kernel
theorem d1_18 : decode prog_60_method_3_code 18 = .ok (.return_, 1) := by decide +kernel
theorem pn_1 : plainFor (⟨"com/example/rhizome/rhizome/model/Item", "requireSizeWithinLimit", "(J)V"⟩ : MethodName) = true := by first | exact plainFor_of_name (by first | (simp [plainName, overriddenIn]; done) | decide +kernel) | decide +kernel
theorem ef_1 (m : MethodId) (x0 : Int64) : entryFrame m #[(.long x0)] 2 = mkF m 0 #[.val (.long x0), .second] [] := by first | rfl | (simp [entryFrame, mkF, argsToLocals, Value.category]; done)
theorem d2_0 : decode jdk_29_method_70_code 0 = .ok (.lload_n 0, 1) := by decide +kernel
theorem d2_1 : decode jdk_29_method_70_code 1 = .ok (.lload_n 2, 1) := by decide +kernel
theorem d2_2 : decode jdk_29_method_70_code 2 = .ok (.lcmp, 1) := by decide +kernel
theorem d2_3 : decode jdk_29_method_70_code 3 = .ok (.ifCond .gt 7, 3) := by decide +kernel
theorem d2_6 : decode jdk_29_method_70_code 6 = .ok (.lload_n 0, 1) := by decide +kernel
theorem d2_7 : decode jdk_29_method_70_code 7 = .ok (.goto 4, 3) := by decide +kernel
theorem d2_10 : decode jdk_29_method_70_code 10 = .ok (.lload_n 2, 1) := by decide +kernel
theorem d2_11 : decode jdk_29_method_70_code 11 = .ok (.lreturn, 1) := by decide +kernel
theorem pn_2 : plainFor (⟨"java/lang/Math", "min", "(JJ)J"⟩ : MethodName) = true := by first | exact plainFor_of_name (by first | (simp [plainName, overriddenIn]; done) | decide +kernel) | decide +kernel
theorem ef_2 (m : MethodId) (x0 : Int64) (x1 : Int64) : entryFrame m #[(.long x0), (.long x1)] 4 = mkF m 0 #[.val (.long x0), .second, .val (.long x1), .second] [] := by first | rfl | (simp [entryFrame, mkF, argsToLocals, Value.category]; done)
theorem pn_0 : plainFor (⟨"com/example/rhizome/rhizome/model/ItemRequireSizeWithinLimitPinLaw", "law", "(JI)Z"⟩ : MethodName) = true := by first | exact plainFor_of_name (by first | (simp [plainName, overriddenIn]; done) | decide +kernel) | decide +kernel
theorem ef_0 (m : MethodId) (x0 : Int64) (x1 : Int32) : entryFrame m #[(.long x0), (.int x1)] maxLocals = mkF m 0 #[.val (.long x0), .second, .val (.int x1), .unset, .unset, .unset, .unset] [] := by first | rfl | (simp [entryFrame, mkF, argsToLocals, Value.category, maxLocals]; done)
set_option maxRecDepth 65536 in
set_option maxHeartbeats 40000000 in
theorem rmMin (l : Launch) (Z : State) (a0 : Array Value) (hw : ∀ d ∈ tables_1, d.before a0 Z = true) (ws : List Jvm.Cond) (q1 q2 : Int64) (h0 : Heap)  :
    own_Met l Z ws (⟨"java/lang/Math", "min", "(JJ)J"⟩ : MethodName) jdk_29_method_70_code 4 (some .long) ({ frames := 0, cells := 0, slots := 0, locals := 0 } : Room) #[(.long q1), (.long q2)] h0 (fun v h L => ∃ z : Int64, v = some (.long z) ∧ ((z = q1 ∧ q1.toInt ≤ q2.toInt) ∨ (z = q2 ∧ q2.toInt < q1.toInt)) ∧ h = h0 ∧ L = []) := by
  refine own_met pn_2 ?_
  intro p e s m below meth c s₁ hx hby hml hown hnm hret hlk hZ X0 e0
  refine own_entry (ef_2 m q1 q2) ?_
  show own_Go p e below _ (s₁.setTop (mkF m 0 #[.val (.long q1), .second, .val (.long q2), .second] []))
  refine own_go (fun tt kk => XS.lloadN X0.here hx rfl (hb hby d2_0) rfl kk) ?_
  show own_Go p e below _ (s₁.setTop (mkF m 1 #[.val (.long q1), .second, .val (.long q2), .second] [(.long q1)]))
  refine own_go (fun tt kk => XS.lloadN X0.here hx rfl (hb hby d2_1) rfl kk) ?_
  show own_Go p e below _ (s₁.setTop (mkF m 2 #[.val (.long q1), .second, .val (.long q2), .second] [(.long q2), (.long q1)]))
  refine own_go (fun tt kk => XS.lcmp X0.here hx rfl (hb hby d2_2) rfl kk) ?_
  show own_Go p e below _ (s₁.setTop (mkF m 3 #[.val (.long q1), .second, .val (.long q2), .second] [(.int (lcmpW q1 q2))]))
  by_cases hc3 : q2.toInt < q1.toInt
  · refine own_go (fun tt kk => XS.ifYes X0.here hx rfl (pc0 := 3) (pc' := 10) rfl (hb hby d2_3) rfl ((if0 _ _).trans (tlt ((lw_gt q1 q2).mpr (own_lt64 (x := q2) (y := q1) (i := q2.toInt) (j := q1.toInt) rfl rfl hc3))).2.2.1) (by decide) (by decide) kk) ?_
    show own_Go p e below _ (s₁.setTop (mkF m 10 #[.val (.long q1), .second, .val (.long q2), .second] []))
    refine own_go (fun tt kk => XS.lloadN X0.here hx rfl (hb hby d2_10) rfl kk) ?_
    show own_Go p e below _ (s₁.setTop (mkF m 11 #[.val (.long q1), .second, .val (.long q2), .second] [(.long q2)]))
    exact own_retJ X0 hx hlk hret (hb hby d2_11) ⟨q2, rfl, by first | exact Or.inl ⟨rfl, by omega⟩ | exact Or.inr ⟨rfl, by omega⟩, e0, rfl⟩ (by decide) (by decide)
  · refine own_go (fun tt kk => XS.ifNo X0.here hx rfl (hb hby d2_3) rfl ((if0 _ _).trans (flt (fun q => (own_nlt64 (x := q2) (y := q1) (i := q2.toInt) (j := q1.toInt) rfl rfl hc3) ((lw_gt q1 q2).mp q))).2.2.1) kk) ?_
    show own_Go p e below _ (s₁.setTop (mkF m 6 #[.val (.long q1), .second, .val (.long q2), .second] []))
    refine own_go (fun tt kk => XS.lloadN X0.here hx rfl (hb hby d2_6) rfl kk) ?_
    show own_Go p e below _ (s₁.setTop (mkF m 7 #[.val (.long q1), .second, .val (.long q2), .second] [(.long q1)]))
    refine own_go (fun tt kk => XS.goto X0.here hx rfl (pc0 := 7) (pc' := 11) rfl (hb hby d2_7) (by decide) (by decide) kk) ?_
    show own_Go p e below _ (s₁.setTop (mkF m 11 #[.val (.long q1), .second, .val (.long q2), .second] [(.long q1)]))
    exact own_retJ X0 hx hlk hret (hb hby d2_11) ⟨q1, rfl, by first | exact Or.inl ⟨rfl, by omega⟩ | exact Or.inr ⟨rfl, by omega⟩, e0, rfl⟩ (by decide) (by decide)
set_option maxRecDepth 65536 in
set_option maxHeartbeats 40000000 in
theorem rmReq (l : Launch) (Z : State) (a0 : Array Value) (hw : ∀ d ∈ tables_1, d.before a0 Z = true) (ws : List Jvm.Cond) (q1 : Int64) (h0 : Heap) (hq : q1.toInt ≤ 409600) :
    own_Met l Z ws (⟨"com/example/rhizome/rhizome/model/Item", "requireSizeWithinLimit", "(J)V"⟩ : MethodName) prog_60_method_3_code 2 none ({ frames := 0, cells := 0, slots := 0, locals := 0 } : Room) #[(.long q1)] h0 (fun v h L => v = none ∧ h = h0 ∧ L = []) := by
  refine own_met pn_1 ?_
  intro p e s m below meth c s₁ hx hby hml hown hnm hret hlk hZ X0 e0
  refine own_entry (ef_1 m q1) ?_
  show own_Go p e below _ (s₁.setTop (mkF m 0 #[.val (.long q1), .second] []))
  refine own_go (fun tt kk => XS.lloadN X0.here hx rfl (hb hby d1_0) rfl kk) ?_
  show own_Go p e below _ (s₁.setTop (mkF m 1 #[.val (.long q1), .second] [(.long q1)]))
  refine own_go (X0.ldc2Long hx hown (mvT hZ (hw _ (List.mem_of_getElem? (i := 5) rfl))) (g := (mkF m 1 #[.val (.long q1), .second] [(.long q1)])) rfl (hb hby d1_1)) ?_
  show own_Go p e below _ (s₁.setTop (mkF m 4 #[.val (.long q1), .second] [(.long (409600 : Int64)), (.long q1)]))
  refine own_go (fun tt kk => XS.lcmp X0.here hx rfl (hb hby d1_4) rfl kk) ?_
  show own_Go p e below _ (s₁.setTop (mkF m 5 #[.val (.long q1), .second] [(.int (lcmpW q1 (409600 : Int64)))]))
  refine own_go (fun tt kk => XS.ifYes X0.here hx rfl (pc0 := 5) (pc' := 18) rfl (hb hby d1_5) rfl ((if0 _ _).trans (flt (fun q => (own_nlt64 (x := (409600 : Int64)) (y := q1) (i := 409600) (j := q1.toInt) rfl rfl (by omega)) ((lw_gt q1 (409600 : Int64)).mp q))).2.2.2) (by decide) (by decide) kk) ?_
  show own_Go p e below _ (s₁.setTop (mkF m 18 #[.val (.long q1), .second] []))
  exact own_retV X0 hx hlk hret (hb hby d1_18) ⟨rfl, e0, rfl⟩ (by decide) (by decide)
set_option maxRecDepth 65536 in
set_option maxHeartbeats 40000000 in
theorem rm0 (l : Launch) (Z : State) (a0 : Array Value) (hw : ∀ d ∈ tables_1, d.before a0 Z = true) (ws : List Jvm.Cond) (q1 : Int64) (p2 : Int32) (h0 : Heap)  :
    own_Met l Z ws x code maxLocals ret room_1 #[(.long q1), (.int p2)] h0 (fun v h L => v = some (.int 1) ∧ Fr h0.size L) := by
  refine own_met pn_0 ?_
  intro p e s m below meth c s₁ hx hby hml hown hnm hret hlk hZ X0 e0
  refine own_entry (ef_0 m q1 p2) ?_
  show own_Go p e below _ (s₁.setTop (mkF m 0 #[.val (.long q1), .second, .val (.int p2), .unset, .unset, .unset, .unset] []))
  have F0 : (409600 : Int64).toInt = 409600 := rfl
  refine own_go (X0.ldc2Long hx hown (mvT hZ (hw _ (List.mem_of_getElem? (i := 0) rfl))) (g := (mkF m 0 #[.val (.long q1), .second, .val (.int p2), .unset, .unset, .unset, .unset] [])) rfl (hb hby at_0)) ?_
  show own_Go p e below _ (s₁.setTop (mkF m 3 #[.val (.long q1), .second, .val (.int p2), .unset, .unset, .unset, .unset] [(.long (409600 : Int64))]))
  refine own_go (fun tt kk => XS.lstoreN X0.here hx rfl (hb hby at_3) rfl (l' := #[.val (.long q1), .second, .val (.int p2), .val (.long (409600 : Int64)), .second, .unset, .unset]) rfl kk) ?_
  show own_Go p e below _ (s₁.setTop (mkF m 4 #[.val (.long q1), .second, .val (.int p2), .val (.long (409600 : Int64)), .second, .unset, .unset] []))
  refine own_go (fun tt kk => XS.iloadN X0.here hx rfl (hb hby at_4) rfl kk) ?_
  show own_Go p e below _ (s₁.setTop (mkF m 5 #[.val (.long q1), .second, .val (.int p2), .val (.long (409600 : Int64)), .second, .unset, .unset] [(.int p2)]))
  refine own_go (fun tt kk => XS.iconst X0.here hx rfl (hb hby at_5) kk) ?_
  show own_Go p e below _ (s₁.setTop (mkF m 6 #[.val (.long q1), .second, .val (.int p2), .val (.long (409600 : Int64)), .second, .unset, .unset] [(.int (1 : Int32)), (.int p2)]))
  refine own_go (fun tt kk => XS.iand X0.here hx rfl (hb hby at_6) rfl kk) ?_
  show own_Go p e below _ (s₁.setTop (mkF m 7 #[.val (.long q1), .second, .val (.int p2), .val (.long (409600 : Int64)), .second, .unset, .unset] [(.int (p2 &&& (1 : Int32)))]))
  by_cases hc7 : (p2 &&& (1 : Int32)).toInt = 0
  · refine own_go (fun tt kk => XS.ifYes X0.here hx rfl (pc0 := 7) (pc' := 20) rfl (hb hby at_7) rfl ((if0 _ _).trans (teq (own_eq32 (x := (p2 &&& (1 : Int32))) (y := (0 : Int32)) (i := (p2 &&& (1 : Int32)).toInt) (j := 0) rfl rfl hc7)).1) (by decide) (by decide) kk) ?_
    show own_Go p e below _ (s₁.setTop (mkF m 20 #[.val (.long q1), .second, .val (.int p2), .val (.long (409600 : Int64)), .second, .unset, .unset] []))
    have F1 : ((((p2.toUInt32 >>> ((1 : Int32) &&& 31).toUInt32).toInt32)) &&& (15 : Int32)).toInt = (((p2.toUInt32 >>> ((1 : Int32) &&& 31).toUInt32).toInt32)).toInt % 16 := c_mask _ _ 4 (by decide) (by decide)
    have F2 := c_i2l (((p2.toUInt32 >>> ((1 : Int32) &&& 31).toUInt32).toInt32) &&& (15 : Int32))
    have F3 := c_lsub 409600 (((p2.toUInt32 >>> ((1 : Int32) &&& 31).toUInt32).toInt32) &&& (15 : Int32)).toInt64
    have F4 := rng64 (409600 - (((p2.toUInt32 >>> ((1 : Int32) &&& 31).toUInt32).toInt32) &&& (15 : Int32)).toInt64)
    refine own_go (fun tt kk => XS.lloadN X0.here hx rfl (hb hby at_20) rfl kk) ?_
    show own_Go p e below _ (s₁.setTop (mkF m 21 #[.val (.long q1), .second, .val (.int p2), .val (.long (409600 : Int64)), .second, .unset, .unset] [(.long (409600 : Int64))]))
    refine own_go (fun tt kk => XS.iloadN X0.here hx rfl (hb hby at_21) rfl kk) ?_
    show own_Go p e below _ (s₁.setTop (mkF m 22 #[.val (.long q1), .second, .val (.int p2), .val (.long (409600 : Int64)), .second, .unset, .unset] [(.int p2), (.long (409600 : Int64))]))
    refine own_go (fun tt kk => XS.iconst X0.here hx rfl (hb hby at_22) kk) ?_
    show own_Go p e below _ (s₁.setTop (mkF m 23 #[.val (.long q1), .second, .val (.int p2), .val (.long (409600 : Int64)), .second, .unset, .unset] [(.int (1 : Int32)), (.int p2), (.long (409600 : Int64))]))
    refine own_go (fun tt kk => XS.iushr X0.here hx rfl (hb hby at_23) rfl kk) ?_
    show own_Go p e below _ (s₁.setTop (mkF m 24 #[.val (.long q1), .second, .val (.int p2), .val (.long (409600 : Int64)), .second, .unset, .unset] [(.int ((p2.toUInt32 >>> ((1 : Int32) &&& 31).toUInt32).toInt32)), (.long (409600 : Int64))]))
    refine own_go (fun tt kk => XS.bipush X0.here hx rfl (hb hby at_24) kk) ?_
    show own_Go p e below _ (s₁.setTop (mkF m 26 #[.val (.long q1), .second, .val (.int p2), .val (.long (409600 : Int64)), .second, .unset, .unset] [(.int (15 : Int32)), (.int ((p2.toUInt32 >>> ((1 : Int32) &&& 31).toUInt32).toInt32)), (.long (409600 : Int64))]))
    refine own_go (fun tt kk => XS.iand X0.here hx rfl (hb hby at_26) rfl kk) ?_
    show own_Go p e below _ (s₁.setTop (mkF m 27 #[.val (.long q1), .second, .val (.int p2), .val (.long (409600 : Int64)), .second, .unset, .unset] [(.int (((p2.toUInt32 >>> ((1 : Int32) &&& 31).toUInt32).toInt32) &&& (15 : Int32))), (.long (409600 : Int64))]))
    refine own_go (fun tt kk => XS.i2l X0.here hx rfl (hb hby at_27) rfl kk) ?_
    show own_Go p e below _ (s₁.setTop (mkF m 28 #[.val (.long q1), .second, .val (.int p2), .val (.long (409600 : Int64)), .second, .unset, .unset] [(.long ((((p2.toUInt32 >>> ((1 : Int32) &&& 31).toUInt32).toInt32) &&& (15 : Int32)).toInt64)), (.long (409600 : Int64))]))
    refine own_go (fun tt kk => XS.lsub X0.here hx rfl (hb hby at_28) rfl kk) ?_
    show own_Go p e below _ (s₁.setTop (mkF m 29 #[.val (.long q1), .second, .val (.int p2), .val (.long (409600 : Int64)), .second, .unset, .unset] [(.long ((409600 : Int64) - ((((p2.toUInt32 >>> ((1 : Int32) &&& 31).toUInt32).toInt32) &&& (15 : Int32)).toInt64)))]))
    refine own_go (fun tt kk => XS.lstore X0.here hx rfl (hb hby at_29) rfl (l' := #[.val (.long q1), .second, .val (.int p2), .val (.long (409600 : Int64)), .second, .val (.long ((409600 : Int64) - ((((p2.toUInt32 >>> ((1 : Int32) &&& 31).toUInt32).toInt32) &&& (15 : Int32)).toInt64))), .second]) rfl kk) ?_
    show own_Go p e below _ (s₁.setTop (mkF m 31 #[.val (.long q1), .second, .val (.int p2), .val (.long (409600 : Int64)), .second, .val (.long ((409600 : Int64) - ((((p2.toUInt32 >>> ((1 : Int32) &&& 31).toUInt32).toInt32) &&& (15 : Int32)).toInt64))), .second] []))
    refine own_go (fun tt kk => XS.lload X0.here hx rfl (hb hby at_31) rfl kk) ?_
    show own_Go p e below _ (s₁.setTop (mkF m 33 #[.val (.long q1), .second, .val (.int p2), .val (.long (409600 : Int64)), .second, .val (.long ((409600 : Int64) - ((((p2.toUInt32 >>> ((1 : Int32) &&& 31).toUInt32).toInt32) &&& (15 : Int32)).toInt64))), .second] [(.long ((409600 : Int64) - ((((p2.toUInt32 >>> ((1 : Int32) &&& 31).toUInt32).toInt32) &&& (15 : Int32)).toInt64)))]))
    have hle : ((409600 : Int64) - ((((p2.toUInt32 >>> ((1 : Int32) &&& 31).toUInt32).toInt32) &&& (15 : Int32)).toInt64)).toInt ≤ 409600 := by omega
    obtain ⟨v1, L1, T1, X1, qq1, st1⟩ := own_callS X0 hx hZ hown (hw _ (List.mem_of_getElem? (i := 1) rfl)) (hw _ (List.mem_of_getElem? (i := 2) rfl)) (hw _ (List.mem_of_getElem? (i := 3) rfl)) (hw _ (List.mem_of_getElem? (i := 4) rfl)) (by decide) (rmReq l Z a0 hw [] ((409600 : Int64) - ((((p2.toUInt32 >>> ((1 : Int32) &&& 31).toUInt32).toInt32) &&& (15 : Int32)).toInt64)) h0 hle) e0 (pc := 33) (Ls := #[.val (.long q1), .second, .val (.int p2), .val (.long (409600 : Int64)), .second, .val (.long ((409600 : Int64) - ((((p2.toUInt32 >>> ((1 : Int32) &&& 31).toUInt32).toInt32) &&& (15 : Int32)).toInt64))), .second]) (argsL := [(.long ((409600 : Int64) - ((((p2.toUInt32 >>> ((1 : Int32) &&& 31).toUInt32).toInt32) &&& (15 : Int32)).toInt64)))]) (rest := []) rfl (by rw [hml]; rfl) pd_0 rfl rfl (hb hby at_33) 0 (Nat.le_of_eq rfl) (by decide) (by decide) (by decide) (by decide)
    obtain ⟨rfl, hh1, rfl⟩ := qq1
    refine own_go st1 ?_
    show own_Go p e below _ (T1.setTop (mkF m 36 #[.val (.long q1), .second, .val (.int p2), .val (.long (409600 : Int64)), .second, .val (.long ((409600 : Int64) - ((((p2.toUInt32 >>> ((1 : Int32) &&& 31).toUInt32).toInt32) &&& (15 : Int32)).toInt64))), .second] []))
    refine own_go (fun tt kk => XS.lload X1.here hx rfl (hb hby at_36) rfl kk) ?_
    show own_Go p e below _ (T1.setTop (mkF m 38 #[.val (.long q1), .second, .val (.int p2), .val (.long (409600 : Int64)), .second, .val (.long ((409600 : Int64) - ((((p2.toUInt32 >>> ((1 : Int32) &&& 31).toUInt32).toInt32) &&& (15 : Int32)).toInt64))), .second] [(.long ((409600 : Int64) - ((((p2.toUInt32 >>> ((1 : Int32) &&& 31).toUInt32).toInt32) &&& (15 : Int32)).toInt64)))]))
    refine own_go (X1.ldc2Long hx hown (mvT hZ (hw _ (List.mem_of_getElem? (i := 0) rfl))) (g := (mkF m 38 #[.val (.long q1), .second, .val (.int p2), .val (.long (409600 : Int64)), .second, .val (.long ((409600 : Int64) - ((((p2.toUInt32 >>> ((1 : Int32) &&& 31).toUInt32).toInt32) &&& (15 : Int32)).toInt64))), .second] [(.long ((409600 : Int64) - ((((p2.toUInt32 >>> ((1 : Int32) &&& 31).toUInt32).toInt32) &&& (15 : Int32)).toInt64)))])) rfl (hb hby at_38)) ?_
    show own_Go p e below _ (T1.setTop (mkF m 41 #[.val (.long q1), .second, .val (.int p2), .val (.long (409600 : Int64)), .second, .val (.long ((409600 : Int64) - ((((p2.toUInt32 >>> ((1 : Int32) &&& 31).toUInt32).toInt32) &&& (15 : Int32)).toInt64))), .second] [(.long (409600 : Int64)), (.long ((409600 : Int64) - ((((p2.toUInt32 >>> ((1 : Int32) &&& 31).toUInt32).toInt32) &&& (15 : Int32)).toInt64)))]))
    refine own_go (fun tt kk => XS.lcmp X1.here hx rfl (hb hby at_41) rfl kk) ?_
    show own_Go p e below _ (T1.setTop (mkF m 42 #[.val (.long q1), .second, .val (.int p2), .val (.long (409600 : Int64)), .second, .val (.long ((409600 : Int64) - ((((p2.toUInt32 >>> ((1 : Int32) &&& 31).toUInt32).toInt32) &&& (15 : Int32)).toInt64))), .second] [(.int (lcmpW ((409600 : Int64) - ((((p2.toUInt32 >>> ((1 : Int32) &&& 31).toUInt32).toInt32) &&& (15 : Int32)).toInt64)) (409600 : Int64)))]))
    refine own_go (fun tt kk => XS.ifNo X1.here hx rfl (hb hby at_42) rfl ((if0 _ _).trans (flt (fun q => (own_nlt64 (x := (409600 : Int64)) (y := ((409600 : Int64) - ((((p2.toUInt32 >>> ((1 : Int32) &&& 31).toUInt32).toInt32) &&& (15 : Int32)).toInt64))) (i := 409600) (j := ((409600 : Int64) - ((((p2.toUInt32 >>> ((1 : Int32) &&& 31).toUInt32).toInt32) &&& (15 : Int32)).toInt64)).toInt) rfl rfl (by omega)) ((lw_gt ((409600 : Int64) - ((((p2.toUInt32 >>> ((1 : Int32) &&& 31).toUInt32).toInt32) &&& (15 : Int32)).toInt64)) (409600 : Int64)).mp q))).2.2.1) kk) ?_
    show own_Go p e below _ (T1.setTop (mkF m 45 #[.val (.long q1), .second, .val (.int p2), .val (.long (409600 : Int64)), .second, .val (.long ((409600 : Int64) - ((((p2.toUInt32 >>> ((1 : Int32) &&& 31).toUInt32).toInt32) &&& (15 : Int32)).toInt64))), .second] []))
    refine own_go (fun tt kk => XS.iconst X1.here hx rfl (hb hby at_45) kk) ?_
    show own_Go p e below _ (T1.setTop (mkF m 46 #[.val (.long q1), .second, .val (.int p2), .val (.long (409600 : Int64)), .second, .val (.long ((409600 : Int64) - ((((p2.toUInt32 >>> ((1 : Int32) &&& 31).toUInt32).toInt32) &&& (15 : Int32)).toInt64))), .second] [(.int (1 : Int32))]))
    refine own_go (fun tt kk => XS.goto X1.here hx rfl (pc0 := 46) (pc' := 50) rfl (hb hby at_46) (by decide) (by decide) kk) ?_
    show own_Go p e below _ (T1.setTop (mkF m 50 #[.val (.long q1), .second, .val (.int p2), .val (.long (409600 : Int64)), .second, .val (.long ((409600 : Int64) - ((((p2.toUInt32 >>> ((1 : Int32) &&& 31).toUInt32).toInt32) &&& (15 : Int32)).toInt64))), .second] [(.int (1 : Int32))]))
    exact own_retZ X1 hx hlk hret (by decide) (hb hby at_50) ⟨rfl, Fr.nil _⟩ (by decide) (by decide)
  · refine own_go (fun tt kk => XS.ifNo X0.here hx rfl (hb hby at_7) rfl ((if0 _ _).trans (feq (own_neq32 (x := (p2 &&& (1 : Int32))) (y := (0 : Int32)) (i := (p2 &&& (1 : Int32)).toInt) (j := 0) rfl rfl hc7)).1) kk) ?_
    show own_Go p e below _ (s₁.setTop (mkF m 10 #[.val (.long q1), .second, .val (.int p2), .val (.long (409600 : Int64)), .second, .unset, .unset] []))
    refine own_go (fun tt kk => XS.lloadN X0.here hx rfl (hb hby at_10) rfl kk) ?_
    show own_Go p e below _ (s₁.setTop (mkF m 11 #[.val (.long q1), .second, .val (.int p2), .val (.long (409600 : Int64)), .second, .unset, .unset] [(.long q1)]))
    refine own_go (fun tt kk => XS.lloadN X0.here hx rfl (hb hby at_11) rfl kk) ?_
    show own_Go p e below _ (s₁.setTop (mkF m 12 #[.val (.long q1), .second, .val (.int p2), .val (.long (409600 : Int64)), .second, .unset, .unset] [(.long (409600 : Int64)), (.long q1)]))
    obtain ⟨v2, L2, T2, X2, qq2, st2⟩ := own_callS X0 hx hZ hown (hw _ (List.mem_of_getElem? (i := 6) rfl)) (hw _ (List.mem_of_getElem? (i := 7) rfl)) (hw _ (List.mem_of_getElem? (i := 8) rfl)) (hw _ (List.mem_of_getElem? (i := 9) rfl)) (by decide) (rmMin l Z a0 hw [] q1 (409600 : Int64) h0) e0 (pc := 12) (Ls := #[.val (.long q1), .second, .val (.int p2), .val (.long (409600 : Int64)), .second, .unset, .unset]) (argsL := [(.long q1), (.long (409600 : Int64))]) (rest := []) rfl (by rw [hml]; rfl) pd_1 rfl rfl (hb hby at_12) 0 (Nat.le_of_eq rfl) (by decide) (by decide) (by decide) (by decide)
    obtain ⟨z2, rfl, hz2, hh2, rfl⟩ := qq2
    refine own_go st2 ?_
    show own_Go p e below _ (T2.setTop (mkF m 15 #[.val (.long q1), .second, .val (.int p2), .val (.long (409600 : Int64)), .second, .unset, .unset] [(.long z2)]))
    refine own_go (fun tt kk => XS.lstore X2.here hx rfl (hb hby at_15) rfl (l' := #[.val (.long q1), .second, .val (.int p2), .val (.long (409600 : Int64)), .second, .val (.long z2), .second]) rfl kk) ?_
    show own_Go p e below _ (T2.setTop (mkF m 17 #[.val (.long q1), .second, .val (.int p2), .val (.long (409600 : Int64)), .second, .val (.long z2), .second] []))
    refine own_go (fun tt kk => XS.goto X2.here hx rfl (pc0 := 17) (pc' := 31) rfl (hb hby at_17) (by decide) (by decide) kk) ?_
    show own_Go p e below _ (T2.setTop (mkF m 31 #[.val (.long q1), .second, .val (.int p2), .val (.long (409600 : Int64)), .second, .val (.long z2), .second] []))
    refine own_go (fun tt kk => XS.lload X2.here hx rfl (hb hby at_31) rfl kk) ?_
    show own_Go p e below _ (T2.setTop (mkF m 33 #[.val (.long q1), .second, .val (.int p2), .val (.long (409600 : Int64)), .second, .val (.long z2), .second] [(.long z2)]))
    have hle : z2.toInt ≤ 409600 := by rcases hz2 with ⟨rfl, h⟩ | ⟨rfl, h⟩ <;> omega
    obtain ⟨v3, L3, T3, X3, qq3, st3⟩ := own_callS X2 hx hZ hown (hw _ (List.mem_of_getElem? (i := 1) rfl)) (hw _ (List.mem_of_getElem? (i := 2) rfl)) (hw _ (List.mem_of_getElem? (i := 3) rfl)) (hw _ (List.mem_of_getElem? (i := 4) rfl)) (by decide) (rmReq l Z a0 hw [] z2 h0 hle) hh2 (pc := 33) (Ls := #[.val (.long q1), .second, .val (.int p2), .val (.long (409600 : Int64)), .second, .val (.long z2), .second]) (argsL := [(.long z2)]) (rest := []) rfl (by rw [hml]; rfl) pd_0 rfl rfl (hb hby at_33) 0 (Nat.le_of_eq rfl) (by decide) (by decide) (by decide) (by decide)
    obtain ⟨rfl, hh3, rfl⟩ := qq3
    refine own_go st3 ?_
    show own_Go p e below _ (T3.setTop (mkF m 36 #[.val (.long q1), .second, .val (.int p2), .val (.long (409600 : Int64)), .second, .val (.long z2), .second] []))
    refine own_go (fun tt kk => XS.lload X3.here hx rfl (hb hby at_36) rfl kk) ?_
    show own_Go p e below _ (T3.setTop (mkF m 38 #[.val (.long q1), .second, .val (.int p2), .val (.long (409600 : Int64)), .second, .val (.long z2), .second] [(.long z2)]))
    refine own_go (X3.ldc2Long hx hown (mvT hZ (hw _ (List.mem_of_getElem? (i := 0) rfl))) (g := (mkF m 38 #[.val (.long q1), .second, .val (.int p2), .val (.long (409600 : Int64)), .second, .val (.long z2), .second] [(.long z2)])) rfl (hb hby at_38)) ?_
    show own_Go p e below _ (T3.setTop (mkF m 41 #[.val (.long q1), .second, .val (.int p2), .val (.long (409600 : Int64)), .second, .val (.long z2), .second] [(.long (409600 : Int64)), (.long z2)]))
    refine own_go (fun tt kk => XS.lcmp X3.here hx rfl (hb hby at_41) rfl kk) ?_
    show own_Go p e below _ (T3.setTop (mkF m 42 #[.val (.long q1), .second, .val (.int p2), .val (.long (409600 : Int64)), .second, .val (.long z2), .second] [(.int (lcmpW z2 (409600 : Int64)))]))
    refine own_go (fun tt kk => XS.ifNo X3.here hx rfl (hb hby at_42) rfl ((if0 _ _).trans (flt (fun q => (own_nlt64 (x := (409600 : Int64)) (y := z2) (i := 409600) (j := z2.toInt) rfl rfl (by omega)) ((lw_gt z2 (409600 : Int64)).mp q))).2.2.1) kk) ?_
    show own_Go p e below _ (T3.setTop (mkF m 45 #[.val (.long q1), .second, .val (.int p2), .val (.long (409600 : Int64)), .second, .val (.long z2), .second] []))
    refine own_go (fun tt kk => XS.iconst X3.here hx rfl (hb hby at_45) kk) ?_
    show own_Go p e below _ (T3.setTop (mkF m 46 #[.val (.long q1), .second, .val (.int p2), .val (.long (409600 : Int64)), .second, .val (.long z2), .second] [(.int (1 : Int32))]))
    refine own_go (fun tt kk => XS.goto X3.here hx rfl (pc0 := 46) (pc' := 50) rfl (hb hby at_46) (by decide) (by decide) kk) ?_
    show own_Go p e below _ (T3.setTop (mkF m 50 #[.val (.long q1), .second, .val (.int p2), .val (.long (409600 : Int64)), .second, .val (.long z2), .second] [(.int (1 : Int32))]))
    exact own_retZ X3 hx hlk hret (by decide) (hb hby at_50) ⟨rfl, Fr.nil _⟩ (by decide) (by decide)
set_option maxRecDepth 65536 in
set_option maxHeartbeats 40000000 in
theorem comes_1 {Post : Tables → Env → Array Value → State → Outcome → State → Prop} (hpost : ∀ tb e args s v u, (limb_1_1.after args s (.returned v) u = true ∧ limb_1_2.after args s (.returned v) u = true ∧ True) → FrameEnd s (.returned v) u (Jvm.fieldLocs frame_1_writes args s ++ Jvm.arrayLocs frame_1_arrays args s ++ Jvm.staticLocs frame_1_statics s) 0 0 → Post tb e args s (.returned v) u) :
    ArmFor flags0 classFile x code maxLocals ret World_1 tables_1 room_1 Calls_1 rest_1 Pre_1 Post := by
  intro l hfl _ _ p e ha hc hk s m args below hf hA hF happ hP
  obtain ⟨hcalls, hrest, hpre⟩ := hP
  obtain ⟨-, -, -, hnamed, -, -, -, hat⟩ := (Spec.applies_iff hf).mp happ
  obtain ⟨hg, hn⟩ := and_e (Cond.before_iff.mp (show (Jvm.Cond.and given_1 narrow_1).before args s = true from hpre))
  obtain ⟨h1, h2⟩ := and_e hg
  obtain ⟨w0, w1, rfl⟩ : ∃ w0 w1 : Value, args = #[w0, w1] := by
    have hs : args.size = 2 := by simpa [Cond.value, given_1] using h1
    obtain ⟨L⟩ := args
    match L, hs with
    | [w0, w1], _ => exact ⟨w0, w1, rfl⟩
  have hw := fun d (hd : d ∈ tables_1) => atoms_spec (ws := Jvm.Cond.code x code maxLocals ret :: tables_1) hat d (List.mem_cons_of_mem _ hd)
  obtain ⟨g0, h20⟩ := and_e h2
  obtain ⟨i0, e0⟩ := isL_v g0
  obtain rfl : w0 = (.long i0) := Option.some.inj e0
  obtain ⟨i1, e1⟩ := is_v h20
  obtain rfl : w1 = (.int i1) := Option.some.inj e1
  obtain ⟨n, o, h1, h2, h3, _, L, rfl, ⟨rfl, N⟩, hq⟩ := rm0 l s _ hw tables_1 i0 i1 s.heap p e ha hc hk s m _ below hf ((Spec.applies_iff_loose hf).mp happ).1 ⟨rfl, State.Warmed39.refl s, rfl⟩ trivial
  refine ⟨n, _, h1, h2, h3, hpost _ _ _ _ _ _ ⟨Cond.after_iff.mpr rfl, Cond.after_iff.mpr (eq_i res_at (Term.int_eval (1)) rfl), trivial⟩ ⟨hq.1, hq.2.1, (hq.2.2.sift fun y hy => Or.inr (N y hy)).mono (by decide) (by decide)⟩⟩
theorem main_1_1 : Claimed_1_1 := comes_1 fun _ _ _ _ _ _ h hF => ⟨h.1, hF⟩
theorem main_1_2 : Claimed_1_2 := comes_1 fun _ _ _ _ _ _ h hF => ⟨h.2.1, hF⟩
end Jvm.Pilot.@@N@@
namespace Jvm.Pilot.@@N@@
open Jvm Jvm.ClassFile Sem Op Lib Jvm.Free Jvm.Stand Jvm.Pilot.@@N@@.Jvm.D
/-! MADE BY PROGRAM (witnessworld.py) out of the Statement's table words and the real class files: 11 classes; the members and pool entries that the words name. The judged class is class 1, her method 1. -/
namespace start1
open Jvm.ClassFile
def u (s : String) : CpInfo := .utf8 (stringToUtf16 s)
/-- a pool by its gaps: so many unusable entries, then the entry; so many at the end -/
def gap : Nat → List CpInfo → List CpInfo
  | 0, r => r
  | n + 1, r => .unusable :: gap n r
def poolList (es : List (Nat × CpInfo)) (last : Nat) : List CpInfo := es.foldr (fun e r => gap e.1 (e.2 :: r)) (gap last [])
def pool (es : List (Nat × CpInfo)) (last : Nat) : Array CpInfo := ⟨poolList es last⟩
def fileOf (pool : Array CpInfo) (this : Nat) (attrs : Array Attribute := #[]) (ms : Array MethodInfo := #[]) (fl : Nat := 33) (sup : Nat := 0) (ifs : Array Nat := #[]) (fds : Array FieldInfo := #[]) : ClassFile where
  minorVersion := 0
  majorVersion := 65
  constantPool := pool
  accessFlags := fl
  thisClass := this
  superClass := sup
  interfaces := ifs
  fields := fds
  methods := ms
  attributes := attrs
def plain (name : String) (sup : Option ClassId) : Class where
  name := name
  kind := .ordinary
  loader := none
  accessFlags := 33
  super := sup
  interfaces := #[]
  cf := none
  fields := #[]
  methods := #[]
  instanceTypes := #[]
  staticTypes := #[]
  resolved := #[]
  callSites := []
  init := .initialized
  statics := none
  mirror := none

def pool0 : Array CpInfo := pool [(5, u "<init>"), (0, u "()V"), (1, .class_ 10), (1, u "java/lang/Object")] 113

def k0m0 : Method := { name := "<init>", desc := "()V", sig := { parameters := [], returnType := none }, accessFlags := 1, code := none }
/-- java/lang/Object -/
def k0 : Class := { plain "java/lang/Object" none with
  accessFlags := 33
  interfaces := #[]
  cf := some (fileOf pool0 8 #[] #[{ accessFlags := 1, nameIndex := 5, descriptorIndex := 6, attributes := #[] }] 33 0 #[] #[])
  fields := #[]
  methods := #[k0m0]
  instanceTypes := #[]
  staticTypes := #[]
  resolved := Array.replicate 124 none
  statics := none }

def pool1 : Array CpInfo := pool [(2, .class_ 4), (1, u "java/lang/Object"), (0, u "<init>"), (0, u "()V"), (0, .class_ 8), (0, u "com/example/rhizome/rhizome/model/Item"), (0, .long 409600), (1, .methodref 12 13), (0, .class_ 14), (0, .nameAndType 15 16), (0, u "java/lang/Math"), (0, u "min"), (0, u "(JJ)J"), (0, .methodref 7 18), (0, .nameAndType 19 20), (0, u "requireSizeWithinLimit"), (0, u "(J)V"), (0, .class_ 22), (0, u "com/example/rhizome/rhizome/model/ItemRequireSizeWithinLimitPinLaw"), (2, u "law"), (0, u "(JI)Z")] 3

def k1m0 : Method := { name := "<init>", desc := "()V", sig := { parameters := [], returnType := none }, accessFlags := 2, code := none }
def k1c1 : Code := { maxStack := 4, maxLocals := 7, code := code, exceptionTable := #[], attributes := #[] }
def k1m1 : Method := { name := "law", desc := "(JI)Z", sig := { parameters := [.long, .int], returnType := some .boolean }, accessFlags := 9, code := some k1c1 }
/-- com/example/rhizome/rhizome/model/ItemRequireSizeWithinLimitPinLaw -/
def k1 : Class := { plain "com/example/rhizome/rhizome/model/ItemRequireSizeWithinLimitPinLaw" (some 0) with
  accessFlags := 49
  interfaces := #[]
  cf := some (fileOf pool1 21 #[] #[{ accessFlags := 2, nameIndex := 5, descriptorIndex := 6, attributes := #[] }, { accessFlags := 9, nameIndex := 25, descriptorIndex := 26, attributes := #[] }] 49 2 #[] #[])
  fields := #[]
  methods := #[k1m0, k1m1]
  instanceTypes := #[]
  staticTypes := #[]
  resolved := Array.replicate 30 none
  statics := none }

def pool2 : Array CpInfo := pool [(2, .class_ 4), (1, u "java/lang/Object"), (0, u "<init>"), (0, u "()V"), (0, .class_ 8), (0, u "java/lang/Record")] 13

def k2m0 : Method := { name := "<init>", desc := "()V", sig := { parameters := [], returnType := none }, accessFlags := 4, code := none }
/-- java/lang/Record -/
def k2 : Class := { plain "java/lang/Record" (some 0) with
  accessFlags := 1057
  interfaces := #[]
  cf := some (fileOf pool2 7 #[] #[{ accessFlags := 4, nameIndex := 5, descriptorIndex := 6, attributes := #[] }] 1057 2 #[] #[])
  fields := #[]
  methods := #[k2m0]
  instanceTypes := #[]
  staticTypes := #[]
  resolved := Array.replicate 22 none
  statics := none }

def pool3 : Array CpInfo := pool [(2, .class_ 4), (1, u "java/lang/Record"), (24, .class_ 31), (1, u "com/example/rhizome/rhizome/model/Item"), (0, u "attributes"), (0, u "Ljava/util/Map;"), (6, .long 409600), (70, u "requireSizeWithinLimit"), (0, u "(J)V"), (1, .class_ 116), (1, u "com/example/rhizome/rhizome/model/Item$1"), (69, u "MAX_SIZE"), (0, u "I"), (2, u "MAX_DEPTH"), (1, u "CONTAINER_BYTES"), (1, u "ELEMENT_BYTES")] 36

def k3c0 : Code := { maxStack := 4, maxLocals := 2, code := prog_60_method_3_code, exceptionTable := #[], attributes := #[] }
def k3m0 : Method := { name := "requireSizeWithinLimit", desc := "(J)V", sig := { parameters := [.long], returnType := none }, accessFlags := 9, code := some k3c0 }
/-- com/example/rhizome/rhizome/model/Item -/
def k3 : Class := { plain "com/example/rhizome/rhizome/model/Item" (some 2) with
  accessFlags := 49
  interfaces := #[]
  cf := some (fileOf pool3 29 #[.nestMembers #[114]] #[{ accessFlags := 9, nameIndex := 111, descriptorIndex := 112, attributes := #[] }] 49 2 #[] #[{ accessFlags := 18, nameIndex := 32, descriptorIndex := 33, attributes := #[] }, { accessFlags := 25, nameIndex := 186, descriptorIndex := 187, attributes := #[] }, { accessFlags := 25, nameIndex := 190, descriptorIndex := 187, attributes := #[] }, { accessFlags := 26, nameIndex := 192, descriptorIndex := 187, attributes := #[] }, { accessFlags := 26, nameIndex := 194, descriptorIndex := 187, attributes := #[] }])
  fields := #[{ name := "attributes", type := (.object "java/util/Map"), accessFlags := 18, slot := 0, constantValue := 0 }, { name := "MAX_SIZE", type := .int, accessFlags := 25, slot := 0, constantValue := 0 }, { name := "MAX_DEPTH", type := .int, accessFlags := 25, slot := 1, constantValue := 0 }, { name := "CONTAINER_BYTES", type := .int, accessFlags := 26, slot := 2, constantValue := 0 }, { name := "ELEMENT_BYTES", type := .int, accessFlags := 26, slot := 3, constantValue := 0 }]
  methods := #[k3m0]
  instanceTypes := #[(.object "java/util/Map")]
  staticTypes := #[.int, .int, .int, .int]
  resolved := Array.replicate 231 none
  statics := none }

def pool4 : Array CpInfo := pool [(1, .class_ 2), (0, u "java/lang/Math"), (1, .class_ 6), (1, u "java/lang/Object"), (0, u "<init>"), (0, u "()V"), (89, .class_ 100), (1, u "java/lang/Math$RandomNumberGeneratorHolder"), (20, u "(JJ)J"), (50, u "negativeZeroFloatBits"), (0, u "J"), (2, u "negativeZeroDoubleBits"), (24, u "min"), (43, u "$assertionsDisabled"), (0, u "Z"), (91, u "twoToTheDoubleScaleDown"), (0, u "D"), (4, u "twoToTheDoubleScaleUp"), (9, u "E"), (3, u "PI"), (2, u "TAU"), (2, u "DEGREES_TO_RADIANS"), (0, u "RADIANS_TO_DEGREES")] 94

def k4m0 : Method := { name := "<init>", desc := "()V", sig := { parameters := [], returnType := none }, accessFlags := 2, code := none }
def k4c1 : Code := { maxStack := 4, maxLocals := 4, code := jdk_29_method_70_code, exceptionTable := #[], attributes := #[] }
def k4m1 : Method := { name := "min", desc := "(JJ)J", sig := { parameters := [.long, .long], returnType := some .long }, accessFlags := 9, code := some k4c1 }
/-- java/lang/Math -/
def k4 : Class := { plain "java/lang/Math" (some 0) with
  accessFlags := 49
  interfaces := #[]
  cf := some (fileOf pool4 1 #[.nestMembers #[98]] #[{ accessFlags := 2, nameIndex := 7, descriptorIndex := 8, attributes := #[] }, { accessFlags := 9, nameIndex := 201, descriptorIndex := 121, attributes := #[] }] 49 4 #[] #[{ accessFlags := 25, nameIndex := 354, descriptorIndex := 339, attributes := #[] }, { accessFlags := 25, nameIndex := 358, descriptorIndex := 339, attributes := #[] }, { accessFlags := 25, nameIndex := 361, descriptorIndex := 339, attributes := #[] }, { accessFlags := 26, nameIndex := 364, descriptorIndex := 339, attributes := #[] }, { accessFlags := 26, nameIndex := 365, descriptorIndex := 339, attributes := #[] }, { accessFlags := 26, nameIndex := 172, descriptorIndex := 173, attributes := #[] }, { accessFlags := 26, nameIndex := 176, descriptorIndex := 173, attributes := #[] }, { accessFlags := 8, nameIndex := 344, descriptorIndex := 339, attributes := #[] }, { accessFlags := 8, nameIndex := 338, descriptorIndex := 339, attributes := #[] }, { accessFlags := 4120, nameIndex := 245, descriptorIndex := 246, attributes := #[] }])
  fields := #[{ name := "E", type := .double, accessFlags := 25, slot := 0, constantValue := 0 }, { name := "PI", type := .double, accessFlags := 25, slot := 1, constantValue := 0 }, { name := "TAU", type := .double, accessFlags := 25, slot := 2, constantValue := 0 }, { name := "DEGREES_TO_RADIANS", type := .double, accessFlags := 26, slot := 3, constantValue := 0 }, { name := "RADIANS_TO_DEGREES", type := .double, accessFlags := 26, slot := 4, constantValue := 0 }, { name := "negativeZeroFloatBits", type := .long, accessFlags := 26, slot := 5, constantValue := 0 }, { name := "negativeZeroDoubleBits", type := .long, accessFlags := 26, slot := 6, constantValue := 0 }, { name := "twoToTheDoubleScaleUp", type := .double, accessFlags := 8, slot := 7, constantValue := 0 }, { name := "twoToTheDoubleScaleDown", type := .double, accessFlags := 8, slot := 8, constantValue := 0 }, { name := "$assertionsDisabled", type := .boolean, accessFlags := 4120, slot := 9, constantValue := 0 }]
  methods := #[k4m0, k4m1]
  instanceTypes := #[]
  staticTypes := #[.double, .double, .double, .double, .double, .long, .long, .double, .double, .boolean]
  resolved := Array.replicate 460 none
  statics := none }

def pool5 : Array CpInfo := pool [(1, u "java/lang/Cloneable"), (0, .class_ 1), (0, u "java/lang/Object"), (0, .class_ 3)] 3

/-- java/lang/Cloneable -/
def k5 : Class := { plain "java/lang/Cloneable" (some 0) with
  accessFlags := 1537
  interfaces := #[]
  cf := some (fileOf pool5 2 #[] #[] 1537 4 #[] #[])
  fields := #[]
  methods := #[]
  instanceTypes := #[]
  staticTypes := #[]
  resolved := Array.replicate 8 none
  statics := none }

def pool6 : Array CpInfo := pool [(1, u "java/io/Serializable"), (0, .class_ 1), (0, u "java/lang/Object"), (0, .class_ 3)] 3

/-- java/io/Serializable -/
def k6 : Class := { plain "java/io/Serializable" (some 0) with
  accessFlags := 1537
  interfaces := #[]
  cf := some (fileOf pool6 2 #[] #[] 1537 4 #[] #[])
  fields := #[]
  methods := #[]
  instanceTypes := #[]
  staticTypes := #[]
  resolved := Array.replicate 8 none
  statics := none }

/-- the primitive byte -/
def k7 : Class := { plain "byte" none with kind := .primitive 'B', accessFlags := 0x411 }
/-- [B -/
def k8 : Class := { plain "[B" (some 0) with kind := .array 7 .byte, interfaces := #[5, 6], accessFlags := 1041 }

/-- the primitive int -/
def k9 : Class := { plain "int" none with kind := .primitive 'I', accessFlags := 0x411 }
/-- [I -/
def k10 : Class := { plain "[I" (some 0) with kind := .array 9 .int, interfaces := #[5, 6], accessFlags := 1041 }

def heap : Heap := #[]
def classes : Array Class := #[k0, k1, k2, k3, k4, k5, k6, k7, k8, k9, k10]
def interned : List (Array UInt16 × Addr) := []
def slotsUsed : Nat := 0
def theMethod : MethodId := ⟨1, 1⟩
def args0 : Array Value := #[.long 5, .int 7]
def aboutOver (below : List Frame) : State where
  vm := { classes := classes, interned := interned.toArray }
  heap := heap
  slotsUsed := slotsUsed
  threads := #[{ frames := .invoking theMethod args0 :: below }]
def below0 : List Frame := [.native { method := ⟨0, 0⟩, args := #[] }]
def about1 : State := aboutOver below0
def p0 : Program := .bare "" "" ""
def e0 : Env := launch0.env 0 0 0
theorem w_frames : about1.frames = Frame.invoking theMethod args0 :: below0 := rfl
set_option maxRecDepth 65536 in
theorem w_args : argsFit about1.vm theMethod args0 = true := by decide +kernel
set_option maxRecDepth 65536 in
theorem w_heap : heapFits about1 = true := by decide +kernel
set_option maxRecDepth 65536 in
theorem w_runnable : about1.curStatus? = some .runnable := by decide +kernel
set_option maxRecDepth 65536 in
theorem w_alone : about1.alone = true := by decide +kernel
set_option maxRecDepth 65536 in
theorem w_named : about1.methodNamed? x = some theMethod := by decide +kernel
set_option maxRecDepth 65536 in
theorem w_hears : about1.hears theMethod below0 = true := by decide +kernel
set_option maxRecDepth 65536 in
theorem w_ripe : about1.ripe theMethod args0 below0 = true := by decide +kernel
theorem w_running : about1.status = .running := rfl
set_option maxRecDepth 65536 in
theorem w_room : about1.hasRoom e0.platform room_1 = true :=
  launch0.hasRoom_least _ room_1 (by decide +kernel) (by decide +kernel) (by decide +kernel) (by decide +kernel) (by decide +kernel) (by decide +kernel)
theorem allAtoms_all (ts : List Jvm.Cond) (a : Array Jvm.Value) (st : Jvm.State) : (allAtoms ts).before a st = ts.all (fun c => c.before a st) := by
  induction ts with
  | nil => rfl
  | cons c t ih =>
    show (Jvm.Cond.and c (allAtoms t)).before a st = _
    rw [Jvm.Cond.before_and, ih, List.all_cons]
def words1 : List Jvm.Cond := Jvm.Cond.code x code maxLocals ret :: tables_1
/-- a 'code' word, met by the world's own term for the bytes: nothing is compared byte by byte -/
theorem code_word {y : MethodName} {bytes : ByteArray} {mx : Nat} {rt : Option FieldType} {a : Array Value} {s : State} {m : MethodId} {meth : Method} {c : Code} (h1 : s.methodNamed? y = some m) (h2 : s.vm.method? m = some meth) (h3 : meth.code = some c) (h4 : c.code = bytes)
    (h5 : (c.maxLocals == mx && c.exceptionTable.isEmpty && decide (c.maxStack ≤ mostOperands) && decide (meth.sig.returnType = rt) && !meth.locks && decide (parseMethodDescriptor y.desc = some meth.sig)) = true) : (Jvm.Cond.code y bytes mx rt).before a s = true := by
  simp only [Bool.and_eq_true, beq_iff_eq, Bool.not_eq_true', decide_eq_true_eq] at h5
  obtain ⟨⟨⟨⟨⟨g1, g2⟩, g3⟩, g4⟩, g5⟩, g6⟩ := h5
  simp [Cond.before, Cond.holds, Cond.value, h1, h2, h3, h4, g1, g2, g3, g4, g5, g6]
def isCode : Jvm.Cond → Bool
  | .code _ _ _ _ => true
  | _ => false
theorem all_split {L : List Jvm.Cond} {P : Jvm.Cond → Bool} (h1 : L.all (fun c => isCode c || P c) = true) (h2 : ∀ c ∈ L.filter isCode, P c = true) : L.all P = true := by
  refine List.all_eq_true.mpr fun c hc => ?_
  have h := List.all_eq_true.mp h1 c hc
  rcases Bool.eq_false_or_eq_true (isCode c) with hi | hi
  · exact h2 c (List.mem_filter.mpr ⟨hc, hi⟩)
  · simpa [hi] using h
set_option maxRecDepth 65536 in
theorem w_c0 : (Jvm.Cond.code x code maxLocals ret).before args0 about1 = true := code_word (m := ⟨1, 1⟩) (meth := k1m1) (c := k1c1) (by decide +kernel) rfl rfl rfl (by decide +kernel)
set_option maxRecDepth 65536 in
theorem w_c1 : (Jvm.Cond.code ({ cls := "com/example/rhizome/rhizome/model/Item", name := "requireSizeWithinLimit", desc := "(J)V" } : Jvm.MethodName) prog_60_method_3_code (2 : Nat) (Option.none : Option Jvm.ClassFile.FieldType)).before args0 about1 = true := code_word (m := ⟨3, 0⟩) (meth := k3m0) (c := k3c0) (by decide +kernel) rfl rfl rfl (by decide +kernel)
set_option maxRecDepth 65536 in
theorem w_c2 : (Jvm.Cond.code ({ cls := "java/lang/Math", name := "min", desc := "(JJ)J" } : Jvm.MethodName) jdk_29_method_70_code (4 : Nat) (Option.some Jvm.ClassFile.FieldType.long)).before args0 about1 = true := code_word (m := ⟨4, 1⟩) (meth := k4m1) (c := k4c1) (by decide +kernel) rfl rfl rfl (by decide +kernel)
def codes1 : List Jvm.Cond := [Jvm.Cond.code x code maxLocals ret, Jvm.Cond.code ({ cls := "com/example/rhizome/rhizome/model/Item", name := "requireSizeWithinLimit", desc := "(J)V" } : Jvm.MethodName) prog_60_method_3_code (2 : Nat) (Option.none : Option Jvm.ClassFile.FieldType), Jvm.Cond.code ({ cls := "java/lang/Math", name := "min", desc := "(JJ)J" } : Jvm.MethodName) jdk_29_method_70_code (4 : Nat) (Option.some Jvm.ClassFile.FieldType.long)]
set_option maxRecDepth 65536 in
theorem codes_eq : words1.filter isCode = codes1 := rfl
theorem w_codes : ∀ c ∈ words1.filter isCode, c.before args0 about1 = true := by
  rw [codes_eq]
  intro c hc
  simp only [codes1, List.mem_cons, List.not_mem_nil, or_false] at hc
  rcases hc with rfl | rfl | rfl
  · exact w_c0
  · exact w_c1
  · exact w_c2
set_option maxRecDepth 65536 in
theorem w_t1 : words1.all (fun c => isCode c || c.before args0 about1) = true := by decide +kernel
theorem w_tables : (allAtoms (Jvm.Cond.code x code maxLocals ret :: tables_1)).before args0 about1 = true := by
  rw [allAtoms_all]
  show words1.all (fun c => c.before args0 about1) = true
  refine all_split ?_ w_codes
  rw [w_t1]
set_option maxRecDepth 65536 in
theorem w_case : (Jvm.Cond.and given_1 narrow_1).before args0 about1 = true := by decide +kernel
theorem w_applies : (headSpec (Jvm.Cond.code x code maxLocals ret :: tables_1) room_1).applies x e0.platform about1 = true :=
  (Spec.applies_iff w_frames).mpr ⟨w_running, w_runnable, w_alone, w_named, w_hears, w_ripe, w_room, w_tables⟩
theorem atStart : AtStart classFile x code maxLocals ret World_1 tables_1 room_1 Calls_1 rest_1 Pre_1 launch0 p0 e0 about1 theMethod args0 below0 :=
  ⟨lists_1, trivial, launch0.admits_env _ _ _, launch0.least_env, fairChoices_fair.cas, fairChoices_fair.clock, w_frames, w_args, w_heap, w_applies, trivial, trivial, w_case⟩
end start1
theorem witness_1 : WitnessClaimed_1 := ⟨start1.p0, start1.e0, start1.about1, start1.theMethod, start1.args0, start1.below0, start1.atStart⟩
end Jvm.Pilot.@@N@@
