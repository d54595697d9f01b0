import JvmDerived
import JvmDerived.Pilot.@@N@@Statement
import JvmDerived.Pilot.@@N@@Code
set_option linter.unusedVariables false
set_option linter.unusedSimpArgs false
namespace Jvm.Pilot.@@N@@
open Jvm Jvm.ClassFile Sem Op Lib Jvm.Free Jvm.Stand Jvm.LawKit Jvm.RoadKit Bundle Jvm.Pilot.@@N@@.Jvm.D
theorem own_lt32 {x y : Int32} {i j : Int} (hi : x.toInt = i) (hj : y.toInt = j) (h : i < j) : x < y := by rw [Int32.lt_iff_toInt_lt, hi, hj]; exact h
theorem own_nlt32 {x y : Int32} {i j : Int} (hi : x.toInt = i) (hj : y.toInt = j) (h : ¬ i < j) : ¬ x < y := by rw [Int32.lt_iff_toInt_lt, hi, hj]; exact h
theorem own_eq32 {x y : Int32} {i j : Int} (hi : x.toInt = i) (hj : y.toInt = j) (h : i = j) : x = y := by rw [← Int32.toInt_inj, hi, hj]; exact h
theorem own_neq32 {x y : Int32} {i j : Int} (hi : x.toInt = i) (hj : y.toInt = j) (h : ¬ i = j) : ¬ x = y := by rw [← Int32.toInt_inj, hi, hj]; exact h
theorem own_lt64 {x y : Int64} {i j : Int} (hi : x.toInt = i) (hj : y.toInt = j) (h : i < j) : x < y := by rw [Int64.lt_iff_toInt_lt, hi, hj]; exact h
theorem own_nlt64 {x y : Int64} {i j : Int} (hi : x.toInt = i) (hj : y.toInt = j) (h : ¬ i < j) : ¬ x < y := by rw [Int64.lt_iff_toInt_lt, hi, hj]; exact h
theorem own_eq64 {x y : Int64} {i j : Int} (hi : x.toInt = i) (hj : y.toInt = j) (h : i = j) : x = y := by rw [← Int64.toInt_inj, hi, hj]; exact h
theorem own_neq64 {x y : Int64} {i j : Int} (hi : x.toInt = i) (hj : y.toInt = j) (h : ¬ i = j) : ¬ x = y := by rw [← Int64.toInt_inj, hi, hj]; exact h
/-! OWN LAYER 1: the run goes on (own_Go), a method's contract (own_Met), its entry, its returns, its calls. -/
section OwnGo
variable {p : Program} {l : Launch} {e : Env} {R : Room} {s : State} {m : MethodId} {args : Array Value} {below : List Frame} {meth : Method} {c : Code} {T : State} {locs : List Loc} {cells slots : Nat} {Z : State} {a0 : Array Value} {h : Heap}
/-- from A the run comes to a state of which G holds -/
def own_Go (p : Program) (e : Env) (below : List Frame) (G : State → Prop) (A : State) : Prop := ∃ t, Steps p.tables e below A t ∧ G t
theorem own_go {G : State → Prop} {A B : State} (h : ∀ t, Steps p.tables e below B t → Steps p.tables e below A t) (k : own_Go p e below G B) : own_Go p e below G A := by
  obtain ⟨t, h1, h2⟩ := k; exact ⟨t, h t h1, h2⟩
/-- the invocation from s has ended by a return: what came back, the heap and the places written are as Q says -/
def own_End (below : List Frame) (s : State) (Q : Option Value → Heap → List Loc → Prop) (C N : Nat) (t : State) : Prop := t.status = .running ∧ ∃ v L, Ended t below (.returned v) ∧ Q v t.heap L ∧ FrameEnd s (.returned v) t L C N
/-- a contract of a method at one heap -/
def own_Met (l : Launch) (Z : State) (ws : List Jvm.Cond) (y : MethodName) (bytes : ByteArray) (maxL : Nat) (ret : Option FieldType) (rm : Room) (as' : Array Value) (h : Heap) (Q : Option Value → Heap → List Loc → Prop) : Prop :=
  MetFree l y (head1 (Jvm.Cond.code y bytes maxL ret :: ws) rm) (fun a U => a = as' ∧ Z.Warmed39 U.vm ∧ U.heap = h) (fun _ _ _ _ _ => True) (fun _ U o U' => ∃ v L, o = .returned v ∧ Q v U'.heap L ∧ FrameEnd U o U' L rm.cells rm.slots)
theorem own_met {ws : List Jvm.Cond} {y : MethodName} {bytes : ByteArray} {maxL : Nat} {ret : Option FieldType} {rm : Room} {as' : Array Value} {Q : Option Value → Heap → List Loc → Prop} (hpf : plainFor y = true)
    (body : ∀ (p : Program) (e : Env) (s : State) (m : MethodId) (below : List Frame) (meth : Method) (c : Code) (s₁ : State), p.tables.exec = Jvm.exec → c.code = bytes → c.maxLocals = maxL → s.vm.findClass y.cls = some m.cls → meth.name = y.name → meth.sig.returnType = ret → meth.locks = false → Z.Warmed39 s.vm →
      Stand p l e rm s m as' below meth c s₁ [] 0 0 → s₁.heap = h → own_Go p e below (own_End below s Q rm.cells rm.slots) (s₁.setTop (entryFrame m as' maxL))) :
    own_Met l Z ws y bytes maxL ret rm as' h Q := by
  refine MetFree.of_bodySF hpf hisR ?_
  intro p e s m args below meth c s₁ Bd hml0 hP hK
  obtain ⟨rfl, hZ, hh⟩ := hP
  obtain ⟨t, h1, h2, v, L, h3, h4, h5⟩ := body p e s m below meth c s₁ Bd.exec Bd.bytes hml0 (findClass_of_methodNamed Bd.named) (name_of_methodNamed Bd.named Bd.method).1 Bd.returns Bd.notSynchronized hZ (Stand.of_body Bd) (by rw [← hh, Bd.state]; rfl)
  exact ⟨t, _, h1, h2, h3, v, L, rfl, h4, h5⟩
theorem own_entry {G : State → Prop} {f g : JFrame} (q : f = g) (k : own_Go p e below G (T.setTop g)) : own_Go p e below G (T.setTop f) := q ▸ k
theorem own_ret (X : Stand p l e R s m args below meth c T locs cells slots) (hx : p.tables.exec = Jvm.exec) (hlk : meth.locks = false) {pc : Nat} {Ls : Array Slot} {w : Value} {t : FieldType} {i : Instr} {rest : List Value} (hret : meth.sig.returnType = some t) (hn : narrow t w = w)
    (hi : (i = .ireturn ∧ (t = .int ∨ t = .boolean ∨ t = .byte ∨ t = .char ∨ t = .short) ∧ ∃ z, w = .int z) ∨ (i = .lreturn ∧ t = .long ∧ ∃ z, w = .long z) ∨ (i = .dreturn ∧ t = .double ∧ ∃ z, w = .double z) ∨ (i = .freturn ∧ t = .float ∧ ∃ z, w = .float z) ∨ (i = .areturn ∧ t.isReference = true ∧ w.isRef = true))
    (hd : decode c.code pc = .ok (i, 1)) {Q : Option Value → Heap → List Loc → Prop} {C N : Nat} (hQ : Q (some w) T.heap locs) (hc : cells ≤ C) (hs : slots ≤ N) : own_Go p e below (own_End below s Q C N) (T.setTop (mkF m pc Ls (w :: rest))) := by
  obtain ⟨fs, hr, hrun, hended, hW, hsame⟩ := X.leave (v := some w) (fun h => by rw [hret] at h; cases h) hlk
  exact ⟨_, retOut X hx hret hn hi hd hr, hrun, _, _, hended, hQ, ⟨_, rfl⟩, hW, hsame.mono hc hs⟩
theorem own_retI (X : Stand p l e R s m args below meth c T locs cells slots) (hx : p.tables.exec = Jvm.exec) (hlk : meth.locks = false) {pc : Nat} {Ls : Array Slot} {z : Int32} {rest : List Value} (hret : meth.sig.returnType = some .int)
    (hd : decode c.code pc = .ok (.ireturn, 1)) {Q : Option Value → Heap → List Loc → Prop} {C N : Nat} (hQ : Q (some (.int z)) T.heap locs) (hc : cells ≤ C) (hs : slots ≤ N) : own_Go p e below (own_End below s Q C N) (T.setTop (mkF m pc Ls (.int z :: rest))) :=
  own_ret X hx hlk hret rfl (Or.inl ⟨rfl, Or.inl rfl, z, rfl⟩) hd hQ hc hs
theorem own_retZ (X : Stand p l e R s m args below meth c T locs cells slots) (hx : p.tables.exec = Jvm.exec) (hlk : meth.locks = false) {pc : Nat} {Ls : Array Slot} {z : Int32} {rest : List Value} (hret : meth.sig.returnType = some .boolean) (hz : z &&& 1 = z)
    (hd : decode c.code pc = .ok (.ireturn, 1)) {Q : Option Value → Heap → List Loc → Prop} {C N : Nat} (hQ : Q (some (.int z)) T.heap locs) (hc : cells ≤ C) (hs : slots ≤ N) : own_Go p e below (own_End below s Q C N) (T.setTop (mkF m pc Ls (.int z :: rest))) :=
  own_ret X hx hlk hret (by show Value.int (z &&& 1) = _; rw [hz]) (Or.inl ⟨rfl, Or.inr (Or.inl rfl), z, rfl⟩) hd hQ hc hs
theorem own_retJ (X : Stand p l e R s m args below meth c T locs cells slots) (hx : p.tables.exec = Jvm.exec) (hlk : meth.locks = false) {pc : Nat} {Ls : Array Slot} {z : Int64} {rest : List Value} (hret : meth.sig.returnType = some .long)
    (hd : decode c.code pc = .ok (.lreturn, 1)) {Q : Option Value → Heap → List Loc → Prop} {C N : Nat} (hQ : Q (some (.long z)) T.heap locs) (hc : cells ≤ C) (hs : slots ≤ N) : own_Go p e below (own_End below s Q C N) (T.setTop (mkF m pc Ls (.long z :: rest))) :=
  own_ret X hx hlk hret rfl (Or.inr (Or.inl ⟨rfl, rfl, z, rfl⟩)) hd hQ hc hs
theorem own_retA (X : Stand p l e R s m args below meth c T locs cells slots) (hx : p.tables.exec = Jvm.exec) (hlk : meth.locks = false) {pc : Nat} {Ls : Array Slot} {a : Addr} {t : FieldType} {rest : List Value} (hret : meth.sig.returnType = some t) (ht : t.isReference = true) (hn : narrow t (.ref a) = .ref a)
    (hd : decode c.code pc = .ok (.areturn, 1)) {Q : Option Value → Heap → List Loc → Prop} {C N : Nat} (hQ : Q (some (.ref a)) T.heap locs) (hc : cells ≤ C) (hs : slots ≤ N) : own_Go p e below (own_End below s Q C N) (T.setTop (mkF m pc Ls (.ref a :: rest))) :=
  own_ret X hx hlk hret hn (Or.inr (Or.inr (Or.inr (Or.inr ⟨rfl, ht, rfl⟩)))) hd hQ hc hs
theorem own_retV (X : Stand p l e R s m args below meth c T locs cells slots) (hx : p.tables.exec = Jvm.exec) (hlk : meth.locks = false) {pc : Nat} {Ls : Array Slot} (hret : meth.sig.returnType = none)
    (hd : decode c.code pc = .ok (.return_, 1)) {Q : Option Value → Heap → List Loc → Prop} {C N : Nat} (hQ : Q none T.heap locs) (hc : cells ≤ C) (hs : slots ≤ N) : own_Go p e below (own_End below s Q C N) (T.setTop (mkF m pc Ls [])) := by
  obtain ⟨fs, hr, hrun, hended, hW, hsame⟩ := X.leave (v := none) (fun _ => rfl) hlk
  exact ⟨_, X.returnOut hx hret hd hr, hrun, _, _, hended, hQ, ⟨_, rfl⟩, hW, hsame.mono hc hs⟩
/-- a static method by its contract -/
theorem own_callS (X : Stand p l e R s m args below meth c T locs cells slots) (hx : p.tables.exec = Jvm.exec) (hZ : Z.Warmed39 s.vm) {own : String} {index : Nat} {y : MethodName} {bytes : ByteArray} {maxL : Nat} {ret : Option FieldType} (hown : s.vm.findClass own = some m.cls)
    (w1 : (Jvm.Cond.methodLink own index y).before a0 Z = true) (w2 : (Jvm.Cond.static y).before a0 Z = true) (w3 : (Jvm.Cond.initialized y.cls).before a0 Z = true) (w4 : (Jvm.Cond.code y bytes maxL ret).before a0 Z = true) (hy : y.cls ≠ "java/lang/invoke/MethodHandle" ∧ y.cls ≠ "java/lang/invoke/VarHandle")
    {rm : Room} {as' : Array Value} {Q : Option Value → Heap → List Loc → Prop} (hM : own_Met l Z [] y bytes maxL ret rm as' h Q) (eT : T.heap = h) {pc : Nat} {Ls : Array Slot} {argsL rest st : List Value} (ha : argsL.toArray = as') (hsz : Ls.size = c.maxLocals)
    {ps : List FieldType} {r : Option FieldType} (hpd : parseMethodDescriptor y.desc = some ⟨ps, r⟩) (hpl : argsL.length = ps.length) (hst : st = argsL.reverse ++ rest) (hd : decode c.code pc = .ok (.invokestatic index, 3)) (W : Nat) (hW : (rest.map fun v => v.category).sum ≤ W)
    (hf : rm.frames + 1 ≤ R.frames) (hl : W + (maxL + 11) + rm.locals ≤ R.locals) (hc : cells + rm.cells ≤ R.cells) (hsl : slots + rm.slots ≤ R.slots) :
    ∃ (v : Option Value) (L : List Loc) (T' : State), Stand p l e R s m args below meth c T' (locs ++ L) (cells + rm.cells) (slots + rm.slots) ∧ Q v T'.heap L ∧ ∀ t, Steps p.tables e below (T'.setTop (mkF m (pc + 3) Ls (v.toList ++ rest))) t → Steps p.tables e below (T.setTop (mkF m pc Ls st)) t := by
  subst ha
  obtain ⟨v, _, ⟨T', L', k', n'⟩, -, X', ⟨L, hQ, l1, y1, z1⟩, st'⟩ := Jvm.LawKit.callS X hx (y := y) hown (mvT hZ w1) (mvT hZ w2) (mvT hZ w3) (mvT hZ w4) hy (backOf (W := W) hM hZ w4 w3 hf hl) (g := mkF m pc Ls st) rfl hsz (argsL := argsL) (rest := rest) (lenOf hpd hpl) hst (by show 2 * 0 + _ ≤ _; omega) hd (fun _ _ => ⟨rfl, eT, hc, hsl⟩)
  dsimp only [Pt.U, Pt.locs, Pt.cells, Pt.slots] at X' l1 y1 z1 st' hQ
  subst l1 y1 z1
  exact ⟨v, L, T', X', hQ, st'⟩
/-- an instance method by its contract, the receiver exactly of the class C -/
theorem own_callV (X : Stand p l e R s m args below meth c T locs cells slots) (hx : p.tables.exec = Jvm.exec) (hZ : Z.Warmed39 s.vm) {own C : String} {index : Nat} {y : MethodName} {bytes : ByteArray} {maxL : Nat} {ret : Option FieldType} (hown : s.vm.findClass own = some m.cls)
    (w1 : (Jvm.Cond.methodLink own index y).before a0 Z = true) (w2 : (Jvm.Cond.declares y).before a0 Z = true) (w3 : (Jvm.Cond.selects C y y).before a0 Z = true) (w4 : (Jvm.Cond.instanceMethod y).before a0 Z = true) (w5 : (Jvm.Cond.code y bytes maxL ret).before a0 Z = true) (w6 : (Jvm.Cond.initialized y.cls).before a0 Z = true)
    (hy : y.cls ≠ "java/lang/invoke/MethodHandle" ∧ y.cls ≠ "java/lang/invoke/VarHandle") {b : Addr} (E : Exa Z h b C)
    {rm : Room} {as' : Array Value} {Q : Option Value → Heap → List Loc → Prop} (hM : own_Met l Z [] y bytes maxL ret rm as' h Q) (eT : T.heap = h) {pc : Nat} {Ls : Array Slot} {argsL rest st : List Value} (ha : (.ref b :: argsL).toArray = as') (hsz : Ls.size = c.maxLocals)
    {ps : List FieldType} {r : Option FieldType} (hpd : parseMethodDescriptor y.desc = some ⟨ps, r⟩) (hpl : argsL.length = ps.length) (hst : st = argsL.reverse ++ .ref b :: rest) (hd : decode c.code pc = .ok (.invokevirtual index, 3)) (W : Nat) (hW : (rest.map fun v => v.category).sum ≤ W)
    (hf : rm.frames + 1 ≤ R.frames) (hl : W + (maxL + 11) + rm.locals ≤ R.locals) (hc : cells + rm.cells ≤ R.cells) (hsl : slots + rm.slots ≤ R.slots) :
    ∃ (v : Option Value) (L : List Loc) (T' : State), Stand p l e R s m args below meth c T' (locs ++ L) (cells + rm.cells) (slots + rm.slots) ∧ Q v T'.heap L ∧ ∀ t, Steps p.tables e below (T'.setTop (mkF m (pc + 3) Ls (v.toList ++ rest))) t → Steps p.tables e below (T.setTop (mkF m pc Ls st)) t := by
  subst ha
  obtain ⟨cq, kq, qa, qb, qc⟩ := isOf hZ eT E
  obtain ⟨v, _, ⟨T', L', k', n'⟩, -, X', ⟨L, hQ, l1, y1, z1⟩, st'⟩ := X.virtualBack hx (y := y) (z := y) hown (mvT hZ w1) (mvT hZ w2) (notFace_of_selects (args := #[]) (mvT hZ w3)) (mvT hZ w3) (mvT hZ w4) hy (backOf (W := W) hM hZ w5 w6 hf hl) qa qc (g := mkF m pc Ls st) rfl hsz (Steps.refl _) (argsL := argsL) (rest := rest) (lenOf hpd hpl) hst (by show 2 * 0 + _ ≤ _; omega) hd (fun _ _ => ⟨rfl, eT, hc, hsl⟩)
  dsimp only [Pt.U, Pt.locs, Pt.cells, Pt.slots] at X' l1 y1 z1 st' hQ
  subst l1 y1 z1
  exact ⟨v, L, T', X', hQ, fun t k => st'.trans k⟩
/-- a constructor by its contract -/
theorem own_callI (X : Stand p l e R s m args below meth c T locs cells slots) (hx : p.tables.exec = Jvm.exec) (hZ : Z.Warmed39 s.vm) {own : String} {index : Nat} {y : MethodName} {bytes : ByteArray} {maxL : Nat} (hyn : y.name = "<init>") (hown : s.vm.findClass own = some m.cls)
    (w1 : (Jvm.Cond.methodLink own index y).before a0 Z = true) (w2 : (Jvm.Cond.instanceMethod y).before a0 Z = true) (w3 : (Jvm.Cond.code y bytes maxL none).before a0 Z = true) (w4 : (Jvm.Cond.initialized y.cls).before a0 Z = true) (hy : y.cls ≠ "java/lang/invoke/MethodHandle" ∧ y.cls ≠ "java/lang/invoke/VarHandle") {b : Addr}
    {rm : Room} {as' : Array Value} {Q : Option Value → Heap → List Loc → Prop} (hM : own_Met l Z [] y bytes maxL none rm as' h Q) (eT : T.heap = h) {pc : Nat} {Ls : Array Slot} {argsL rest st : List Value} (ha : (.ref b :: argsL).toArray = as') (hsz : Ls.size = c.maxLocals)
    {ps : List FieldType} {r : Option FieldType} (hpd : parseMethodDescriptor y.desc = some ⟨ps, r⟩) (hpl : argsL.length = ps.length) (hst : st = argsL.reverse ++ .ref b :: rest) (hd : decode c.code pc = .ok (.invokespecial index, 3)) (W : Nat) (hW : (rest.map fun v => v.category).sum ≤ W)
    (hf : rm.frames + 1 ≤ R.frames) (hl : W + (maxL + 11) + rm.locals ≤ R.locals) (hc : cells + rm.cells ≤ R.cells) (hsl : slots + rm.slots ≤ R.slots) :
    ∃ (v : Option Value) (L : List Loc) (T' : State), Stand p l e R s m args below meth c T' (locs ++ L) (cells + rm.cells) (slots + rm.slots) ∧ Q v T'.heap L ∧ ∀ t, Steps p.tables e below (T'.setTop (mkF m (pc + 3) Ls (v.toList ++ rest))) t → Steps p.tables e below (T.setTop (mkF m pc Ls st)) t := by
  subst ha
  obtain ⟨v, _, ⟨T', L', k', n'⟩, -, X', ⟨L, hQ, l1, y1, z1⟩, st'⟩ := X.specialBack hx (y := y) hyn hown (mvT hZ w1) (mvT hZ w2) (mvT hZ w3) hy (backOf (W := W) hM hZ w3 w4 hf hl) (g := mkF m pc Ls st) rfl hsz (Steps.refl _) (a := b) (argsL := argsL) (rest := rest) (lenOf hpd hpl) hst (by show 2 * 0 + _ ≤ _; omega) hd (fun _ _ => ⟨rfl, eT, hc, hsl⟩)
  dsimp only [Pt.U, Pt.locs, Pt.cells, Pt.slots] at X' l1 y1 z1 st' hQ
  subst l1 y1 z1
  exact ⟨v, L, T', X', hQ, fun t k => st'.trans k⟩
end OwnGo
/-! OWN LAYER 2: private calls, arrays by functions, small stack steps. -/
section OwnAr
variable {p : Program} {l : Launch} {e : Env} {R : Room} {s : State} {m : MethodId} {args : Array Value} {below : List Frame} {meth : Method} {c : Code} {T : State} {locs : List Loc} {cells slots : Nat} {Z : State} {a0 : Array Value} {h h' : Heap}
/-- a private method by its contract -/
theorem own_callP (X : Stand p l e R s m args below meth c T locs cells slots) (hx : p.tables.exec = Jvm.exec) (hZ : Z.Warmed39 s.vm) {own : String} {index kk : Nat} {y : MethodName} {bytes : ByteArray} {maxL : Nat} {ret : Option FieldType} (hown : s.vm.findClass own = some m.cls)
    (w1 : (Jvm.Cond.methodLink own index y).before a0 Z = true) (w2 : (Jvm.Cond.instanceMethod y).before a0 Z = true) (w3 : (Jvm.Cond.privateMethod y).before a0 Z = true) (w4 : (Jvm.Cond.instantiable y.cls kk).before a0 Z = true) (w5 : (Jvm.Cond.code y bytes maxL ret).before a0 Z = true) (w6 : (Jvm.Cond.initialized y.cls).before a0 Z = true)
    (hy : y.cls ≠ "java/lang/invoke/MethodHandle" ∧ y.cls ≠ "java/lang/invoke/VarHandle") {b : Addr} {C : String} (E : Exa Z h b C)
    {rm : Room} {as' : Array Value} {Q : Option Value → Heap → List Loc → Prop} (hM : own_Met l Z [] y bytes maxL ret rm as' h Q) (eT : T.heap = h) {pc : Nat} {Ls : Array Slot} {argsL rest st : List Value} (ha : (.ref b :: argsL).toArray = as') (hsz : Ls.size = c.maxLocals)
    {ps : List FieldType} {r : Option FieldType} (hpd : parseMethodDescriptor y.desc = some ⟨ps, r⟩) (hpl : argsL.length = ps.length) (hst : st = argsL.reverse ++ .ref b :: rest) (hd : decode c.code pc = .ok (.invokevirtual index, 3)) (W : Nat) (hW : (rest.map fun v => v.category).sum ≤ W)
    (hf : rm.frames + 1 ≤ R.frames) (hl : W + (maxL + 11) + rm.locals ≤ R.locals) (hc : cells + rm.cells ≤ R.cells) (hsl : slots + rm.slots ≤ R.slots) :
    ∃ (v : Option Value) (L : List Loc) (T' : State), Stand p l e R s m args below meth c T' (locs ++ L) (cells + rm.cells) (slots + rm.slots) ∧ Q v T'.heap L ∧ ∀ t, Steps p.tables e below (T'.setTop (mkF m (pc + 3) Ls (v.toList ++ rest))) t → Steps p.tables e below (T.setTop (mkF m pc Ls st)) t := by
  subst ha
  obtain ⟨cell, q1, q2⟩ := E.cell
  have hp : s.PrivateAt y := Cond.privateMethod_at (mvP hZ w3 (args := #[]))
  have w4s : (Jvm.Cond.instantiable y.cls kk).before args s = true := mvT hZ w4
  obtain ⟨ci, ki, i1, i2, -, i3, -⟩ := Cond.instantiable_spec w4s
  have hsel : (Jvm.Cond.selects y.cls y y).before args s = true := Jvm.Stand.selects_self_of_private i1 i2 (Bool.or_eq_false_iff.mp i3).1 hp (mvT hZ w2) hy
  obtain ⟨v, _, ⟨T', L', k', n'⟩, -, X', ⟨L, hQ, l1, y1, z1⟩, st'⟩ := X.privateBack hx (y := y) hown (mvT hZ w1) (mvT hZ w2) hsel hp (mvT hZ w5) hy (backOf (W := W) hM hZ w5 w6 hf hl) (g := mkF m pc Ls st) rfl hsz (Steps.refl _) (a := b) (by rw [eT]; exact q1) q2 (argsL := argsL) (rest := rest) (lenOf hpd hpl) hst (by show 2 * 0 + _ ≤ _; omega) hd (fun _ _ => ⟨rfl, eT, hc, hsl⟩)
  dsimp only [Pt.U, Pt.locs, Pt.cells, Pt.slots] at X' l1 y1 z1 st' hQ
  subst l1 y1 z1
  exact ⟨v, L, T', X', hQ, fun t k => st'.trans k⟩
/-- the array at a: of the kind ty, n places, place i holds f i -/
def own_Ar (Z : State) (h : Heap) (a : Addr) (ty : FieldType) (n : Nat) (f : Nat → Value) : Prop := n < 2 ^ 31 ∧ ∃ c : Cell, Arr Z h a c ty ∧ c.slots.size = n ∧ ∀ i, i < n → c.slots[i]? = some (f i)
abbrev own_I (g : Nat → Int32) : Nat → Value := fun i => .int (g i)
abbrev own_J (g : Nat → Int64) : Nat → Value := fun i => .long (g i)
def own_upd {α : Type} (g : Nat → α) (j : Nat) (x : α) : Nat → α := fun i => if i = j then x else g i
theorem own_upd_at {α : Type} (g : Nat → α) (j : Nat) (x : α) : own_upd g j x j = x := if_pos rfl
theorem own_upd_ne {α : Type} (g : Nat → α) {i j : Nat} (x : α) (q : i ≠ j) : own_upd g j x i = g i := if_neg q
theorem own_Ar.congr {a : Addr} {ty : FieldType} {n : Nat} {f f' : Nat → Value} (A : own_Ar Z h a ty n f) (q : ∀ i, i < n → f i = f' i) : own_Ar Z h a ty n f' := by
  obtain ⟨hn, cl, A1, A2, A3⟩ := A; exact ⟨hn, cl, A1, A2, fun i hi => by rw [← q i hi]; exact A3 i hi⟩
theorem own_Ar.ext {a : Addr} {ty : FieldType} {n : Nat} {f : Nat → Value} (A : own_Ar Z h a ty n f) (E : Ext h h') : own_Ar Z h' a ty n f := by
  obtain ⟨hn, cl, A1, A2⟩ := A; exact ⟨hn, cl, A1.ext E, A2⟩
theorem own_Ar.other {a b : Addr} {ty : FieldType} {n sl : Nat} {f : Nat → Value} {v : Value} (A : own_Ar Z h b ty n f) (W : Wr h h' a sl v) (q : b ≠ a) : own_Ar Z h' b ty n f := by
  obtain ⟨hn, cl, A1, A2⟩ := A; exact ⟨hn, cl, A1.other W q, A2⟩
theorem own_Ar.keep {a : Addr} {ty : FieldType} {n : Nat} {f : Nat → Value} {ws : List Addr} (A : own_Ar Z h a ty n f) (K : Keep h h' ws) (q : a ∉ ws) : own_Ar Z h' a ty n f := by
  obtain ⟨hn, cl, A1, A2⟩ := A; exact ⟨hn, cl, ⟨K.2.1 a cl A1.1 q, A1.2⟩, A2⟩
theorem own_Ar.lt {a : Addr} {ty : FieldType} {n : Nat} {f : Nat → Value} (A : own_Ar Z h a ty n f) : a < h.size := by obtain ⟨_, cl, A1, -⟩ := A; exact A1.lt
theorem own_Ar.set {a : Addr} {ty : FieldType} {n i : Nat} {f : Nat → Value} {v : Value} (A : own_Ar Z h a ty n f) (W : Wr h h' a i v) : own_Ar Z h' a ty n (own_upd f i v) := by
  obtain ⟨hn, cl, A1, A2, A3⟩ := A
  refine ⟨hn, _, A1.same W, by rw [sz_set]; exact A2, fun j hj => ?_⟩
  simp only [Cell.setSlot, own_upd]
  by_cases q : j = i
  · subst q; rw [if_pos rfl]; simp [A2, hj]
  · rw [if_neg q, Array.getElem?_setIfInBounds_ne (Ne.symm q)]; exact A3 j hj
theorem own_Ar.setI {a : Addr} {n i : Nat} {g : Nat → Int32} {x : Int32} (A : own_Ar Z h a .int n (own_I g)) (W : Wr h h' a i (.int x)) : own_Ar Z h' a .int n (own_I (own_upd g i x)) := (A.set W).congr fun j _ => by
  show own_upd (own_I g) i (.int x) j = .int (own_upd g i x j)
  unfold own_upd; split <;> rfl
theorem own_Ar.setJ {a : Addr} {n i : Nat} {g : Nat → Int64} {x : Int64} (A : own_Ar Z h a .long n (own_J g)) (W : Wr h h' a i (.long x)) : own_Ar Z h' a .long n (own_J (own_upd g i x)) := (A.set W).congr fun j _ => by
  show own_upd (own_J g) i (.long x) j = .long (own_upd g i x j)
  unfold own_upd; split <;> rfl
theorem own_nat {j : Int32} {i : Nat} (hj : j.toInt = i) : j.toNatClampNeg = i ∧ ¬ j < 0 := by
  constructor
  · simp only [Int32.toNatClampNeg]; omega
  · rw [Int32.lt_iff_toInt_lt, hj]; have : (0 : Int32).toInt = 0 := rfl
    omega
theorem own_in {cl : Cell} {j : Int32} {i n : Nat} (hj : j.toInt = i) (hs : cl.slots.size = n) (hi : i < n) : ¬ (j < 0 ∨ cl.slots.size ≤ j.toNatClampNeg) := by
  obtain ⟨q1, q2⟩ := own_nat hj
  rw [q1]
  exact fun r => r.elim q2 (fun r => by omega)
theorem own_gt {a : Addr} {n : Nat} (h : a < n) : n > a := h
theorem own_iaload (X : Stand p l e R s m args below meth c T locs cells slots) (hx : p.tables.exec = Jvm.exec) (hZ : Z.Warmed39 s.vm) (eT : T.heap = h) {a : Addr} {n i : Nat} {g : Nat → Int32} (A : own_Ar Z h a .int n (own_I g)) {j : Int32} (hj : j.toInt = i) (hi : i < n) {pc : Nat} {Ls : Array Slot} {rest : List Value}
    (hd : decode c.code pc = .ok (.iaload, 1)) : ∀ t, Steps p.tables e below (T.setTop (mkF m (pc + 1) Ls (.int (g i) :: rest))) t → Steps p.tables e below (T.setTop (mkF m pc Ls (.int j :: .ref a :: rest))) t := by
  obtain ⟨hn, cl, A1, A2, A3⟩ := A
  intro t k
  exact X.iaload hx (j := j) (v := .int (g i)) (by rw [eT]; exact A1.1) (State.isArrayOf_alike hZ.alike A1.2.1) A1.2.2 (own_in hj A2 hi) (by rw [(own_nat hj).1]; exact A3 i hi) (g := mkF m pc Ls (.int j :: .ref a :: rest)) rfl rfl hd _ k
theorem own_laload (X : Stand p l e R s m args below meth c T locs cells slots) (hx : p.tables.exec = Jvm.exec) (hZ : Z.Warmed39 s.vm) (eT : T.heap = h) {a : Addr} {n i : Nat} {g : Nat → Int64} (A : own_Ar Z h a .long n (own_J g)) {j : Int32} (hj : j.toInt = i) (hi : i < n) {pc : Nat} {Ls : Array Slot} {rest : List Value}
    (hd : decode c.code pc = .ok (.laload, 1)) : ∀ t, Steps p.tables e below (T.setTop (mkF m (pc + 1) Ls (.long (g i) :: rest))) t → Steps p.tables e below (T.setTop (mkF m pc Ls (.int j :: .ref a :: rest))) t := by
  obtain ⟨hn, cl, A1, A2, A3⟩ := A
  intro t k
  exact X.laload hx (j := j) (v := .long (g i)) (by rw [eT]; exact A1.1) (State.isArrayOf_alike hZ.alike A1.2.1) A1.2.2 (own_in hj A2 hi) (by rw [(own_nat hj).1]; exact A3 i hi) (g := mkF m pc Ls (.int j :: .ref a :: rest)) rfl rfl hd _ k
theorem own_alen (X : Stand p l e R s m args below meth c T locs cells slots) (hx : p.tables.exec = Jvm.exec) (hZ : Z.Warmed39 s.vm) (eT : T.heap = h) {a : Addr} {ty : FieldType} {n : Nat} {f : Nat → Value} (A : own_Ar Z h a ty n f) {pc : Nat} {Ls : Array Slot} {rest : List Value}
    (hd : decode c.code pc = .ok (.arraylength, 1)) : ∀ t, Steps p.tables e below (T.setTop (mkF m (pc + 1) Ls (.int n.toInt32 :: rest))) t → Steps p.tables e below (T.setTop (mkF m pc Ls (.ref a :: rest))) t := by
  obtain ⟨hn, cl, A1, A2, A3⟩ := A
  intro t k
  exact X.arraylength hx (by rw [eT]; exact A1.1) (State.isArrayOf_alike hZ.alike A1.2.1) (g := mkF m pc Ls (.ref a :: rest)) rfl rfl hd _ (by rw [A2]; exact k)
theorem own_iastore (X : Stand p l e R s m args below meth c T locs cells slots) (hx : p.tables.exec = Jvm.exec) (hZ : Z.Warmed39 s.vm) (eT : T.heap = h) {a : Addr} {n i : Nat} {g : Nat → Int32} (A : own_Ar Z h a .int n (own_I g)) {j x : Int32} (hj : j.toInt = i) (hi : i < n) {pc : Nat} {Ls : Array Slot} {rest : List Value}
    (hd : decode c.code pc = .ok (.iastore, 1)) : ∃ T' h', Stand p l e R s m args below meth c T' (locs ++ [⟨a, i⟩]) cells slots ∧ T'.heap = h' ∧ Wr h h' a i (.int x) ∧ ∀ t, Steps p.tables e below (T'.setTop (mkF m (pc + 1) Ls rest)) t → Steps p.tables e below (T.setTop (mkF m pc Ls (.int x :: .int j :: .ref a :: rest))) t := by
  obtain ⟨hn, cl, A1, A2, A3⟩ := A
  obtain ⟨T', h', X', e', W', st⟩ := stI X hx hZ eT A1 (j := j) (x := x) (own_in hj A2 hi) (g := mkF m pc Ls (.int x :: .int j :: .ref a :: rest)) rfl rfl hd
  rw [(own_nat hj).1] at X' W'
  exact ⟨T', h', X', e', W', st⟩
theorem own_lastore (X : Stand p l e R s m args below meth c T locs cells slots) (hx : p.tables.exec = Jvm.exec) (hZ : Z.Warmed39 s.vm) (eT : T.heap = h) {a : Addr} {n i : Nat} {g : Nat → Int64} (A : own_Ar Z h a .long n (own_J g)) {j : Int32} {x : Int64} (hj : j.toInt = i) (hi : i < n) {pc : Nat} {Ls : Array Slot} {rest : List Value}
    (hd : decode c.code pc = .ok (.lastore, 1)) : ∃ T' h', Stand p l e R s m args below meth c T' (locs ++ [⟨a, i⟩]) cells slots ∧ T'.heap = h' ∧ Wr h h' a i (.long x) ∧ ∀ t, Steps p.tables e below (T'.setTop (mkF m (pc + 1) Ls rest)) t → Steps p.tables e below (T.setTop (mkF m pc Ls (.long x :: .int j :: .ref a :: rest))) t := by
  obtain ⟨hn, cl, A1, A2, A3⟩ := A
  obtain ⟨T', h', X', e', W', st⟩ := stJ X hx hZ eT A1 (j := j) (x := x) (own_in hj A2 hi) (g := mkF m pc Ls (.long x :: .int j :: .ref a :: rest)) rfl rfl hd
  rw [(own_nat hj).1] at X' W'
  exact ⟨T', h', X', e', W', st⟩
theorem own_newarr (X : Stand p l e R s m args below meth c T locs cells slots) (hx : p.tables.exec = Jvm.exec) (hZ : Z.Warmed39 s.vm) {aty : ArrayType} (w : (Jvm.Cond.arrayClass (newarray.typeOf aty)).before a0 Z = true) (eT : T.heap = h) {n : Int32} {N : Nat} (hN : n.toInt = N) {cap : Nat} (hcap : N ≤ cap) (hb : cap * 8 ≤ 536870912) (hc : cells + 1 ≤ R.cells) (hl : slots + cap ≤ R.slots)
    {pc : Nat} {Ls : Array Slot} {rest : List Value} (hd : decode c.code pc = .ok (.newarray aty, 2)) :
    ∃ T' h', Stand p l e R s m args below meth c T' locs (cells + 1) (slots + cap) ∧ T'.heap = h' ∧ Ext h h' ∧ own_Ar Z h' h.size (newarray.typeOf aty) N (fun _ => defaultValue (newarray.typeOf aty)) ∧
      ∀ t, Steps p.tables e below (T'.setTop (mkF m (pc + 2) Ls (.ref h.size :: rest))) t → Steps p.tables e below (T.setTop (mkF m pc Ls (.int n :: rest))) t := by
  obtain ⟨q1, q2⟩ := own_nat hN
  obtain ⟨T', h', cA, X', e', E', A', st⟩ := newP X hx hZ w eT (g := mkF m pc Ls (.int n :: rest)) rfl hd rfl q2 (cap := cap) (by rw [q1]; exact hcap) hb hc hl
  refine ⟨T', h', X', e', E', ⟨?_, _, A', by rw [sz_new]; exact q1, fun i hi => ?_⟩, st⟩
  · have := n.toInt_lt; omega
  · simp [newA, q1, hi]
theorem own_dup2 {tb : Tables} [Ours tb] {target : State} {g : JFrame} (h : At T m c below) (hx : tb.exec = Jvm.exec) (hg : g.method = m) {x y : Value} {rest : List Value} (hd : decode c.code g.pc = .ok (.dup2, 1)) (hs : g.stack = x :: y :: rest) (hc : x.category = 1) (hc' : y.category = 1)
    (hr : Steps tb e below (T.setTop { g with pc := g.pc + 1, stack := x :: y :: x :: y :: rest }) target) : Steps tb e below (T.setTop g) target := by
  subst hg
  jvm_step h [h.top, hx, hd, hs, hc, hc']
  exact hr
theorem own_dupX2 {tb : Tables} [Ours tb] {target : State} {g : JFrame} (h : At T m c below) (hx : tb.exec = Jvm.exec) (hg : g.method = m) {x y z : Value} {rest : List Value} (hd : decode c.code g.pc = .ok (.dup_x2, 1)) (hs : g.stack = x :: y :: z :: rest) (hc : x.category = 1) (hc' : y.category = 1) (hc'' : z.category = 1)
    (hr : Steps tb e below (T.setTop { g with pc := g.pc + 1, stack := x :: y :: z :: x :: rest }) target) : Steps tb e below (T.setTop g) target := by
  subst hg
  jvm_step h [h.top, hx, hd, hs, hc, hc', hc'']
  exact hr
theorem own_pop2 {tb : Tables} [Ours tb] {target : State} {g : JFrame} (h : At T m c below) (hx : tb.exec = Jvm.exec) (hg : g.method = m) {x : Value} {rest : List Value} (hd : decode c.code g.pc = .ok (.pop2, 1)) (hs : g.stack = x :: rest) (hc : x.category = 2)
    (hr : Steps tb e below (T.setTop { g with pc := g.pc + 1, stack := rest }) target) : Steps tb e below (T.setTop g) target := by
  subst hg
  jvm_step h [h.top, hx, hd, hs, hc]
  exact hr
end OwnAr
/-! OWN LAYER 3: System.arraycopy of ints, by functions -/
section OwnCopy
variable {p : Program} {l : Launch} {e : Env} {R : Room} {s : State} {m : MethodId} {args : Array Value} {below : List Frame} {meth : Method} {c : Code} {T : State} {locs : List Loc} {cells slots : Nat} {Z : State} {a0 : Array Value} {h h' : Heap}
theorem own_getD {n i : Nat} {f : Nat → Value} {d : Value} (hi : i < n) : ((List.range n).map f).getD i d = f i := by
  rw [List.getD_eq_getElem?_getD, List.getElem?_map, List.getElem?_range hi]; rfl
theorem own_Ar.arv {a : Addr} {n : Nat} {f : Nat → Int32} (A : own_Ar Z h a .int n (own_I f)) : ∃ k, Arv Z h a k .int n.toInt32 ((List.range n).map (own_I f)) (.int 0) := by
  obtain ⟨hn, cl, A1, A2, A3⟩ := A
  obtain ⟨q1, q2⟩ := own_nat (len_toInt hn)
  refine ⟨cl.cls, cl, A1, rfl, by rw [q1]; exact A2, q2, fun i hi => ?_, fun i hi => ?_⟩
  · rw [own_getD (by omega)]; exact A3 i (by omega)
  · rw [own_getD (by omega)]; rfl
theorem own_arraycopy (X : Stand p l e R s m args below meth c T locs cells slots) (hx : p.tables.exec = Jvm.exec) (hZ : Z.Warmed39 s.vm) {own : String} {index : Nat} (hown : s.vm.findClass own = some m.cls)
    (w1 : (Jvm.Cond.methodLink own index Jvm.Stand.acN).before a0 Z = true) (w2 : (Jvm.Cond.native Jvm.Stand.acN).before a0 Z = true) (w3 : (Jvm.Cond.static Jvm.Stand.acN).before a0 Z = true) (w4 : (Jvm.Cond.initialized "java/lang/System").before a0 Z = true) (eT : T.heap = h)
    {a b : Addr} {n n' i j k : Nat} {f g : Nat → Int32} {sp dp nn : Int32} (A : own_Ar Z h a .int n (own_I f)) (B : own_Ar Z h b .int n' (own_I g)) (hsp : sp.toInt = i) (hdp : dp.toInt = j) (hnn : nn.toInt = k) (h4 : i + k ≤ n) (h5 : j + k ≤ n') {n0 : Nat} (N : Fr n0 locs) (ge : n0 ≤ b)
    {pc : Nat} {Ls : Array Slot} (hsz : Ls.size = c.maxLocals) {rest : List Value} (hd : decode c.code pc = .ok (.invokestatic index, 3)) (hf : 1 ≤ R.frames) (W : Nat) (hW : (rest.map fun v => v.category).sum ≤ W) (hlo : W + (nativeFrameWords "java/lang/System" "arraycopy" 5 + 11) ≤ R.locals) :
    ∃ T' h' L, Stand p l e R s m args below meth c T' L cells slots ∧ T'.heap = h' ∧ Fr n0 L ∧ Keep h h' [b] ∧ own_Ar Z h' b .int n' (own_I fun x => if j ≤ x ∧ x < j + k then f (i + (x - j)) else g x) ∧
      ∀ t, Steps p.tables e below (T'.setTop (mkF m (pc + 3) Ls rest)) t → Steps p.tables e below (T.setTop (mkF m pc Ls (.int nn :: .int dp :: .ref b :: .int sp :: .ref a :: rest))) t := by
  obtain ⟨hn, -⟩ := id A
  obtain ⟨hn', -⟩ := id B
  obtain ⟨ka, VA⟩ := A.arv
  obtain ⟨kb, VB⟩ := B.arv
  obtain ⟨p1, p2⟩ := own_nat hsp
  obtain ⟨p3, p4⟩ := own_nat hdp
  obtain ⟨p5, p6⟩ := own_nat hnn
  obtain ⟨p7, p8⟩ := own_nat (len_toInt hn)
  obtain ⟨p9, p10⟩ := own_nat (len_toInt hn')
  obtain ⟨T', h', L, X', e', N', K, VB', st⟩ := cpA X hx hZ hown w1 w2 w3 w4 eT (sp := sp) (dp := dp) (nn := nn) VA VB (Or.inl ⟨rfl, rfl⟩) p2 p4 p6 (by rw [p1, p5, p7]; exact h4) (by rw [p3, p5, p9]; exact h5) rfl (by rw [p3, p5, List.length_map, List.length_range]; exact h5) N ge (g := mkF m pc Ls (.int nn :: .int dp :: .ref b :: .int sp :: .ref a :: rest)) rfl hsz rfl hd hf (W := W) (by show 2 * 0 + _ ≤ _; omega) hlo
  refine ⟨T', h', L, X', e', N', K, ?_, st⟩
  obtain ⟨cl, C1, -, C2, -, C3, -⟩ := VB'
  rw [p9] at C2
  refine ⟨hn', cl, C1, C2, fun x hx' => ?_⟩
  rw [C3 x (by omega), p1, p3, p5]
  congr 1
  show _ = Value.int (if j ≤ x ∧ x < j + k then f (i + (x - j)) else g x)
  rw [List.getD_eq_getElem?_getD]
  have lt1 : (((List.range n').map (own_I g)).take j).length = j := by rw [List.length_take, List.length_map, List.length_range]; omega
  by_cases c1 : x < j
  · rw [if_neg (by omega), List.append_assoc, List.getElem?_append_left (by omega), List.getElem?_take_of_lt c1, List.getElem?_map, List.getElem?_range (by omega)]; rfl
  · by_cases c2 : x < j + k
    · rw [if_pos ⟨by omega, c2⟩, List.getElem?_append_left (by rw [List.length_append, lt1, List.length_map, List.length_range]; omega), List.getElem?_append_right (by omega), lt1, List.getElem?_map, List.getElem?_range (by omega)]
      show ((List.range n).map (own_I f)).getD (i + (x - j)) (.int 0) = _
      rw [own_getD (by omega)]
    · rw [if_neg (by omega), List.getElem?_append_right (by rw [List.length_append, lt1, List.length_map, List.length_range]; omega), List.length_append, lt1, List.length_map, List.length_range, List.getElem?_drop, show j + k + (x - (j + k)) = x by omega, List.getElem?_map, List.getElem?_range (by omega)]; rfl
end OwnCopy
/-! THE PLAIN LAW OF THE EDGE LISTS: lists in one store, each in her own stretch -/
section OwnEdge
theorem own_cpy (x n : Nat) (g : Nat → Int32) : (if 0 ≤ x ∧ x < 0 + n then g (0 + (x - 0)) else 0) = (if x < n then g x else 0) := by
  by_cases q : x < n
  · rw [if_pos ⟨by omega, by omega⟩, if_pos q, show 0 + (x - 0) = x by omega]
  · rw [if_neg (by omega), if_neg q]
def own_EI (N : Nat) (st ct rm ac nb : Nat → Int32) (sN rN cnt : Nat → Nat) (u : Nat) (A B : Nat → Nat → Int32) : Prop :=
  N ≤ 14 ∧ (∀ q, q < N → (st q).toInt = sN q ∧ (ct q).toInt = cnt q ∧ (rm q).toInt = rN q ∧ cnt q ≤ rN q ∧ sN q + rN q ≤ u ∧ ∀ k, k < cnt q → ac (sN q + k) = A q k ∧ nb (sN q + k) = B q k) ∧
  (∀ q, N ≤ q → cnt q = 0) ∧ (∀ q q', q < N → q' < N → q ≠ q' → rN q = 0 ∨ rN q' = 0 ∨ sN q + rN q ≤ sN q' ∨ sN q' + rN q' ≤ sN q)
variable {N u : Nat} {st ct rm ac nb : Nat → Int32} {sN rN cnt : Nat → Nat} {A B : Nat → Nat → Int32}
theorem own_EI.grow {N' : Nat} {st' ct' rm' : Nat → Int32} (I : own_EI N st ct rm ac nb sN rN cnt u A B) (h1 : N ≤ N') (h2 : N' ≤ 14) (h3 : ∀ i, i < N → st' i = st i ∧ ct' i = ct i ∧ rm' i = rm i) (h4 : ∀ i, N ≤ i → i < N' → st' i = 0 ∧ ct' i = 0 ∧ rm' i = 0) :
    own_EI N' st' ct' rm' ac nb (fun q => if q < N then sN q else 0) (fun q => if q < N then rN q else 0) cnt u A B := by
  obtain ⟨i1, i2, i3, i4⟩ := I
  refine ⟨h2, fun q hq => ?_, fun q hq => i3 q (by omega), fun q q' hq hq' hne => ?_⟩
  · by_cases c : q < N
    · obtain ⟨a1, a2, a3⟩ := h3 q c
      rw [a1, a2, a3]; simp only [c, if_true]; exact i2 q c
    · obtain ⟨a1, a2, a3⟩ := h4 q (by omega) hq
      rw [a1, a2, a3]; simp only [c, if_false]
      have z := i3 q (by omega)
      rw [z]
      exact ⟨rfl, rfl, rfl, by omega, by omega, fun k hk => absurd hk (Nat.not_lt_zero _)⟩
  · by_cases c : q < N
    · by_cases c' : q' < N
      · simp only [c, c', if_true]; exact i4 q q' c c' hne
      · simp only [c', if_false]; exact Or.inr (Or.inl trivial)
    · simp only [c, if_false]; exact Or.inl trivial
theorem own_EI.move {q R : Nat} {U Rv : Int32} {ac' nb' : Nat → Int32} (I : own_EI N st ct rm ac nb sN rN cnt u A B) (hq : q < N) (hU : U.toInt = u) (hR : Rv.toInt = R) (hc : cnt q ≤ R)
    (ha : ∀ x, ac' x = if u ≤ x ∧ x < u + cnt q then ac (sN q + (x - u)) else ac x) (hb : ∀ x, nb' x = if u ≤ x ∧ x < u + cnt q then nb (sN q + (x - u)) else nb x) :
    own_EI N (own_upd st q U) ct (own_upd rm q Rv) ac' nb' (own_upd sN q u) (own_upd rN q R) cnt (u + R) A B := by
  obtain ⟨i1, i2, i3, i4⟩ := I
  refine ⟨i1, fun x hx => ?_, i3, fun x y hx hy hne => ?_⟩
  · by_cases c : x = q
    · subst c
      simp only [own_upd_at]
      obtain ⟨b1, b2, b3, b4, b5, b6⟩ := i2 x hx
      refine ⟨hU, b2, hR, hc, by omega, fun k hk => ?_⟩
      rw [ha, hb, if_pos ⟨by omega, by omega⟩, if_pos ⟨by omega, by omega⟩, show u + k - u = k by omega]
      exact b6 k hk
    · rw [own_upd_ne _ _ c, own_upd_ne _ _ c, own_upd_ne _ _ c, own_upd_ne _ _ c]
      obtain ⟨b1, b2, b3, b4, b5, b6⟩ := i2 x hx
      refine ⟨b1, b2, b3, b4, by omega, fun k hk => ?_⟩
      rw [ha, hb, if_neg (by omega), if_neg (by omega)]
      exact b6 k hk
  · by_cases c : x = q
    · subst c
      have hy' := i2 y hy
      rw [own_upd_at, own_upd_at, own_upd_ne _ _ (Ne.symm hne), own_upd_ne _ _ (Ne.symm hne)]
      omega
    · by_cases c' : y = q
      · subst c'
        have hx' := i2 x hx
        rw [own_upd_at, own_upd_at, own_upd_ne _ _ c, own_upd_ne _ _ c]
        omega
      · rw [own_upd_ne _ _ c, own_upd_ne _ _ c, own_upd_ne _ _ c', own_upd_ne _ _ c']
        exact i4 x y hx hy hne
def own_put (A : Nat → Nat → Int32) (q i : Nat) (x : Int32) : Nat → Nat → Int32 := fun q' k => if q' = q ∧ k = i then x else A q' k
theorem own_EI.push {q : Nat} {cv x y : Int32} (I : own_EI N st ct rm ac nb sN rN cnt u A B) (hq : q < N) (hr : cnt q + 1 ≤ rN q) (hcv : cv.toInt = ((cnt q + 1 : Nat) : Int)) :
    own_EI N st (own_upd ct q cv) rm (own_upd ac (sN q + cnt q) x) (own_upd nb (sN q + cnt q) y) sN rN (own_upd cnt q (cnt q + 1)) u (own_put A q (cnt q) x) (own_put B q (cnt q) y) := by
  obtain ⟨i1, i2, i3, i4⟩ := I
  refine ⟨i1, fun z hz => ?_, fun z hz => ?_, i4⟩
  · by_cases c : z = q
    · subst c
      simp only [own_upd_at]
      obtain ⟨b1, b2, b3, b4, b5, b6⟩ := i2 z hz
      refine ⟨b1, hcv, b3, hr, b5, fun k hk => ?_⟩
      by_cases e : k = cnt z
      · subst e
        rw [own_upd_at, own_upd_at, own_put, own_put, if_pos ⟨rfl, rfl⟩, if_pos ⟨rfl, rfl⟩]; exact ⟨rfl, rfl⟩
      · rw [own_upd_ne _ _ (by omega), own_upd_ne _ _ (by omega), own_put, own_put, if_neg (by omega), if_neg (by omega)]
        exact b6 k (by omega)
    · rw [own_upd_ne _ _ c, own_upd_ne _ _ c]
      obtain ⟨b1, b2, b3, b4, b5, b6⟩ := i2 z hz
      refine ⟨b1, b2, b3, b4, b5, fun k hk => ?_⟩
      have dj := i4 z q hz hq c
      rw [own_upd_ne _ _ (by omega), own_upd_ne _ _ (by omega), own_put, own_put, if_neg (by omega), if_neg (by omega)]
      exact b6 k hk
  · rw [own_upd_ne _ _ (by omega)]; exact i3 z hz
theorem own_EI.drop {q : Nat} {cv : Int32} {ac' nb' : Nat → Int32} (I : own_EI N st ct rm ac nb sN rN cnt u A B) (hq : q < N) (hcv : cv.toInt = ((cnt q - 1 : Nat) : Int)) :
    own_EI N st (own_upd ct q cv) rm ac' nb' sN rN (own_upd cnt q (cnt q - 1)) u (fun q k => ac' (sN q + k)) (fun q k => nb' (sN q + k)) := by
  obtain ⟨i1, i2, i3, i4⟩ := I
  refine ⟨i1, fun z hz => ?_, fun z hz => ?_, i4⟩
  · obtain ⟨b1, b2, b3, b4, b5, b6⟩ := i2 z hz
    by_cases c : z = q
    · subst c
      rw [own_upd_at, own_upd_at]
      exact ⟨b1, hcv, b3, by omega, b5, fun k hk => ⟨rfl, rfl⟩⟩
    · rw [own_upd_ne _ _ c, own_upd_ne _ _ c]
      exact ⟨b1, b2, b3, b4, b5, fun k hk => ⟨rfl, rfl⟩⟩
  · by_cases c : z = q
    · omega
    · rw [own_upd_ne _ _ c]; exact i3 z hz
/-- i1 adds to s1, then i2 to s2 -/
def own_Sg (s1 s2 : Nat) (f a : Int32) (i1 i2 : Nat) (cnt : Nat → Nat) (A B : Nat → Nat → Int32) : Prop :=
  (∀ q, cnt q = (if q = s1 then i1 else 0) + (if q = s2 then i2 else 0)) ∧ (∀ k, k < i1 → A s1 k = f + Int32.ofNat k ∧ B s1 k = a) ∧ (∀ k, k < i2 → A s2 ((if s1 = s2 then i1 else 0) + k) = f + Int32.ofNat (3 + k))
theorem own_Sg.first {s1 s2 i1 : Nat} {f a : Int32} (S : own_Sg s1 s2 f a i1 0 cnt A B) {x : Int32} (hx : x = f + Int32.ofNat i1) : own_Sg s1 s2 f a (i1 + 1) 0 (own_upd cnt s1 (cnt s1 + 1)) (own_put A s1 (cnt s1) x) (own_put B s1 (cnt s1) a) := by
  obtain ⟨h1, h2, h3⟩ := S
  have e1 : cnt s1 = i1 := by rw [h1, if_pos rfl]; split <;> omega
  refine ⟨fun q => ?_, fun k hk => ?_, fun k hk => absurd hk (Nat.not_lt_zero _)⟩
  · unfold own_upd
    by_cases c : q = s1
    · simp only [c, if_true, e1]; split <;> omega
    · simp only [c, if_false]; rw [h1 q]; simp only [c, if_false]
  · unfold own_put
    by_cases c : k = cnt s1
    · rw [if_pos ⟨rfl, c⟩, if_pos ⟨rfl, c⟩, hx, c, e1]; exact ⟨rfl, rfl⟩
    · rw [if_neg (fun q => c q.2), if_neg (fun q => c q.2)]; exact h2 k (by omega)
theorem own_Sg.second {s1 s2 i1 i2 : Nat} {f a y : Int32} (S : own_Sg s1 s2 f a i1 i2 cnt A B) {x : Int32} (hx : x = f + Int32.ofNat (3 + i2)) : own_Sg s1 s2 f a i1 (i2 + 1) (own_upd cnt s2 (cnt s2 + 1)) (own_put A s2 (cnt s2) x) (own_put B s2 (cnt s2) y) := by
  obtain ⟨h1, h2, h3⟩ := S
  have e2 : cnt s2 = (if s1 = s2 then i1 else 0) + i2 := by
    rw [h1, if_pos rfl]
    by_cases c : s1 = s2
    · rw [if_pos c.symm, if_pos c]
    · rw [if_neg (Ne.symm c), if_neg c]
  refine ⟨fun q => ?_, fun k hk => ?_, fun k hk => ?_⟩
  · unfold own_upd
    by_cases c : q = s2
    · simp only [c, if_true]; rw [h1 s2]; simp only [if_true]; omega
    · simp only [c, if_false]; rw [h1 q]; simp only [c, if_false]
  · unfold own_put
    have ne : ¬ (s1 = s2 ∧ k = cnt s2) := fun ⟨c1, c2⟩ => by rw [e2, if_pos c1] at c2; omega
    rw [if_neg ne, if_neg ne]; exact h2 k hk
  · unfold own_put
    by_cases c : k = i2
    · rw [if_pos ⟨rfl, by rw [e2, c]⟩, hx, c]
    · rw [if_neg (by rw [e2]; omega)]; exact h3 k (by omega)
theorem own_as (p k : Int32) : p + k - 1 = p + (k - 1) := by rw [Int32.sub_eq_add_neg, Int32.add_assoc, ← Int32.sub_eq_add_neg]
theorem own_Sg.cnt_at {s1 s2 n1 n2 : Nat} {f a : Int32} (S : own_Sg s1 s2 f a n1 n2 cnt A B) (q : Nat) : cnt q = (if q = s1 then n1 else 0) + (if q = s2 then n2 else 0) := S.1 q
theorem own_Sg.ends {s1 s2 n1 n2 q : Nat} {f a y1 y2 : Int32} (S : own_Sg s1 s2 f a n1 n2 cnt A B) (h1 : n1 ≤ 3) (h2 : n2 ≤ 2) (e1 : y1.toInt = n1) (e2 : y2.toInt = n2) (hq : 0 < cnt q) :
    A q 0 = (if q = s1 ∧ 0 < n1 then f else f + 3) ∧ A q (cnt q - 1) = (if q = s2 ∧ 0 < n2 then f + 2 + y2 else f + y1 - 1) := by
  obtain ⟨c1, c2, c3⟩ := S
  have hc := c1 q
  constructor
  · by_cases c : q = s1 ∧ 0 < n1
    · rw [if_pos c, c.1, (c2 0 c.2).1]; exact Int32.add_zero f
    · rw [if_neg c]
      have d1 : q = s2 ∧ 0 < n2 := by
        by_cases r : q = s1
        · have : n1 = 0 := by omega
          by_cases r' : q = s2
          · exact ⟨r', by rw [if_pos r, if_pos r'] at hc; omega⟩
          · rw [if_pos r, if_neg r'] at hc; omega
        · by_cases r' : q = s2
          · exact ⟨r', by rw [if_neg r, if_pos r'] at hc; omega⟩
          · rw [if_neg r, if_neg r'] at hc; omega
      have z : (if s1 = s2 then n1 else 0) = 0 := by
        by_cases r : s1 = s2
        · rw [if_pos r]; omega
        · rw [if_neg r]
      have := c3 0 d1.2
      rw [z] at this
      rw [d1.1]; exact this
  · by_cases c : q = s2 ∧ 0 < n2
    · rw [if_pos c]
      have e : cnt q - 1 = (if s1 = s2 then n1 else 0) + (n2 - 1) := by
        rw [hc, if_pos c.1]
        by_cases r : s1 = s2
        · rw [if_pos r, if_pos (by omega)]; omega
        · rw [if_neg r, if_neg (by omega)]; omega
      rw [e, c.1, c3 (n2 - 1) (by omega), Int32.add_assoc]
      congr 1
      have : n2 = 1 ∨ n2 = 2 := by omega
      rcases this with r | r
      · subst r; obtain rfl : y2 = 1 := Int32.toInt_inj.mp e2
        rfl
      · subst r; obtain rfl : y2 = 2 := Int32.toInt_inj.mp e2
        rfl
    · rw [if_neg c]
      have d1 : q = s1 ∧ 0 < n1 ∧ cnt q = n1 := by
        by_cases r : q = s1
        · by_cases r' : q = s2
          · have : n2 = 0 := by omega
            rw [if_pos r, if_pos r'] at hc; exact ⟨r, by omega, by omega⟩
          · rw [if_pos r, if_neg r'] at hc; exact ⟨r, by omega, by omega⟩
        · by_cases r' : q = s2
          · have : n2 = 0 := by omega
            rw [if_neg r, if_pos r'] at hc; omega
          · rw [if_neg r, if_neg r'] at hc; omega
      rw [d1.2.2, d1.1, (c2 (n1 - 1) (by omega)).1, own_as]
      congr 1
      have : n1 = 1 ∨ n1 = 2 ∨ n1 = 3 := by omega
      rcases this with r | r | r
      · subst r; obtain rfl : y1 = 1 := Int32.toInt_inj.mp e1
        rfl
      · subst r; obtain rfl : y1 = 2 := Int32.toInt_inj.mp e1
        rfl
      · subst r; obtain rfl : y1 = 3 := Int32.toInt_inj.mp e1
        rfl
end OwnEdge
/-! THE EdgeLists IN THE HEAP (printed by edgeheap.py) -/
section OwnEdgeHeap
abbrev own_EC : String := "com/example/guarantor/guarantor/ag/EdgeLists"
def own_El (Z : State) (n0 : Nat) (h : Heap) (o s c r a b : Addr) (Ns Nc Nr : Nat) (st ct rm ac nb : Nat → Int32) (U W : Int32) : Prop :=
  Exa Z h o own_EC ∧ (Fld Z h o own_EC "starts" "[I" (.ref s) ∧ Fld Z h o own_EC "counts" "[I" (.ref c) ∧ Fld Z h o own_EC "rooms" "[I" (.ref r) ∧ Fld Z h o own_EC "actions" "[I" (.ref a) ∧ Fld Z h o own_EC "neighbours" "[I" (.ref b) ∧ Fld Z h o own_EC "used" "I" (.int U) ∧ Fld Z h o own_EC "stateCount" "I" (.int W)) ∧ (own_Ar Z h s .int Ns (own_I st) ∧ own_Ar Z h c .int Nc (own_I ct) ∧ own_Ar Z h r .int Nr (own_I rm) ∧ own_Ar Z h a .int 64 (own_I ac) ∧ own_Ar Z h b .int 64 (own_I nb)) ∧ (o ≠ s ∧ o ≠ c ∧ o ≠ r ∧ o ≠ a ∧ o ≠ b ∧ s ≠ c ∧ s ≠ r ∧ s ≠ a ∧ s ≠ b ∧ c ≠ r ∧ c ≠ a ∧ c ≠ b ∧ r ≠ a ∧ r ≠ b ∧ a ≠ b) ∧ (n0 ≤ o ∧ n0 ≤ s ∧ n0 ≤ c ∧ n0 ≤ r ∧ n0 ≤ a ∧ n0 ≤ b)
variable {Z : State} {n0 : Nat} {h h' : Heap} {o s c r a b : Addr} {Ns Nc Nr : Nat} {st ct rm ac nb : Nat → Int32} {U W : Int32}
theorem own_El.w_s {i : Nat} {x : Int32} (A : own_El Z n0 h o s c r a b Ns Nc Nr st ct rm ac nb U W) (W' : Wr h h' s i (.int x)) : own_El Z n0 h' o s c r a b Ns Nc Nr (own_upd st i x) ct rm ac nb U W := by
  obtain ⟨E0, ⟨F_s, F_c, F_r, F_a, F_b, F_U, F_W⟩, ⟨A_s, A_c, A_r, A_a, A_b⟩, ⟨d_os, d_oc, d_or, d_oa, d_ob, d_sc, d_sr, d_sa, d_sb, d_cr, d_ca, d_cb, d_ra, d_rb, d_ab⟩, ⟨g_o, g_s, g_c, g_r, g_a, g_b⟩⟩ := A
  exact ⟨E0.wr W', ⟨F_s.other W' (Or.inl d_os), F_c.other W' (Or.inl d_os), F_r.other W' (Or.inl d_os), F_a.other W' (Or.inl d_os), F_b.other W' (Or.inl d_os), F_U.other W' (Or.inl d_os), F_W.other W' (Or.inl d_os)⟩, ⟨A_s.setI W', A_c.other W' (Ne.symm d_sc), A_r.other W' (Ne.symm d_sr), A_a.other W' (Ne.symm d_sa), A_b.other W' (Ne.symm d_sb)⟩, ⟨d_os, d_oc, d_or, d_oa, d_ob, d_sc, d_sr, d_sa, d_sb, d_cr, d_ca, d_cb, d_ra, d_rb, d_ab⟩, ⟨g_o, g_s, g_c, g_r, g_a, g_b⟩⟩
theorem own_El.w_c {i : Nat} {x : Int32} (A : own_El Z n0 h o s c r a b Ns Nc Nr st ct rm ac nb U W) (W' : Wr h h' c i (.int x)) : own_El Z n0 h' o s c r a b Ns Nc Nr st (own_upd ct i x) rm ac nb U W := by
  obtain ⟨E0, ⟨F_s, F_c, F_r, F_a, F_b, F_U, F_W⟩, ⟨A_s, A_c, A_r, A_a, A_b⟩, ⟨d_os, d_oc, d_or, d_oa, d_ob, d_sc, d_sr, d_sa, d_sb, d_cr, d_ca, d_cb, d_ra, d_rb, d_ab⟩, ⟨g_o, g_s, g_c, g_r, g_a, g_b⟩⟩ := A
  exact ⟨E0.wr W', ⟨F_s.other W' (Or.inl d_oc), F_c.other W' (Or.inl d_oc), F_r.other W' (Or.inl d_oc), F_a.other W' (Or.inl d_oc), F_b.other W' (Or.inl d_oc), F_U.other W' (Or.inl d_oc), F_W.other W' (Or.inl d_oc)⟩, ⟨A_s.other W' d_sc, A_c.setI W', A_r.other W' (Ne.symm d_cr), A_a.other W' (Ne.symm d_ca), A_b.other W' (Ne.symm d_cb)⟩, ⟨d_os, d_oc, d_or, d_oa, d_ob, d_sc, d_sr, d_sa, d_sb, d_cr, d_ca, d_cb, d_ra, d_rb, d_ab⟩, ⟨g_o, g_s, g_c, g_r, g_a, g_b⟩⟩
theorem own_El.w_r {i : Nat} {x : Int32} (A : own_El Z n0 h o s c r a b Ns Nc Nr st ct rm ac nb U W) (W' : Wr h h' r i (.int x)) : own_El Z n0 h' o s c r a b Ns Nc Nr st ct (own_upd rm i x) ac nb U W := by
  obtain ⟨E0, ⟨F_s, F_c, F_r, F_a, F_b, F_U, F_W⟩, ⟨A_s, A_c, A_r, A_a, A_b⟩, ⟨d_os, d_oc, d_or, d_oa, d_ob, d_sc, d_sr, d_sa, d_sb, d_cr, d_ca, d_cb, d_ra, d_rb, d_ab⟩, ⟨g_o, g_s, g_c, g_r, g_a, g_b⟩⟩ := A
  exact ⟨E0.wr W', ⟨F_s.other W' (Or.inl d_or), F_c.other W' (Or.inl d_or), F_r.other W' (Or.inl d_or), F_a.other W' (Or.inl d_or), F_b.other W' (Or.inl d_or), F_U.other W' (Or.inl d_or), F_W.other W' (Or.inl d_or)⟩, ⟨A_s.other W' d_sr, A_c.other W' d_cr, A_r.setI W', A_a.other W' (Ne.symm d_ra), A_b.other W' (Ne.symm d_rb)⟩, ⟨d_os, d_oc, d_or, d_oa, d_ob, d_sc, d_sr, d_sa, d_sb, d_cr, d_ca, d_cb, d_ra, d_rb, d_ab⟩, ⟨g_o, g_s, g_c, g_r, g_a, g_b⟩⟩
theorem own_El.w_a {i : Nat} {x : Int32} (A : own_El Z n0 h o s c r a b Ns Nc Nr st ct rm ac nb U W) (W' : Wr h h' a i (.int x)) : own_El Z n0 h' o s c r a b Ns Nc Nr st ct rm (own_upd ac i x) nb U W := by
  obtain ⟨E0, ⟨F_s, F_c, F_r, F_a, F_b, F_U, F_W⟩, ⟨A_s, A_c, A_r, A_a, A_b⟩, ⟨d_os, d_oc, d_or, d_oa, d_ob, d_sc, d_sr, d_sa, d_sb, d_cr, d_ca, d_cb, d_ra, d_rb, d_ab⟩, ⟨g_o, g_s, g_c, g_r, g_a, g_b⟩⟩ := A
  exact ⟨E0.wr W', ⟨F_s.other W' (Or.inl d_oa), F_c.other W' (Or.inl d_oa), F_r.other W' (Or.inl d_oa), F_a.other W' (Or.inl d_oa), F_b.other W' (Or.inl d_oa), F_U.other W' (Or.inl d_oa), F_W.other W' (Or.inl d_oa)⟩, ⟨A_s.other W' d_sa, A_c.other W' d_ca, A_r.other W' d_ra, A_a.setI W', A_b.other W' (Ne.symm d_ab)⟩, ⟨d_os, d_oc, d_or, d_oa, d_ob, d_sc, d_sr, d_sa, d_sb, d_cr, d_ca, d_cb, d_ra, d_rb, d_ab⟩, ⟨g_o, g_s, g_c, g_r, g_a, g_b⟩⟩
theorem own_El.w_b {i : Nat} {x : Int32} (A : own_El Z n0 h o s c r a b Ns Nc Nr st ct rm ac nb U W) (W' : Wr h h' b i (.int x)) : own_El Z n0 h' o s c r a b Ns Nc Nr st ct rm ac (own_upd nb i x) U W := by
  obtain ⟨E0, ⟨F_s, F_c, F_r, F_a, F_b, F_U, F_W⟩, ⟨A_s, A_c, A_r, A_a, A_b⟩, ⟨d_os, d_oc, d_or, d_oa, d_ob, d_sc, d_sr, d_sa, d_sb, d_cr, d_ca, d_cb, d_ra, d_rb, d_ab⟩, ⟨g_o, g_s, g_c, g_r, g_a, g_b⟩⟩ := A
  exact ⟨E0.wr W', ⟨F_s.other W' (Or.inl d_ob), F_c.other W' (Or.inl d_ob), F_r.other W' (Or.inl d_ob), F_a.other W' (Or.inl d_ob), F_b.other W' (Or.inl d_ob), F_U.other W' (Or.inl d_ob), F_W.other W' (Or.inl d_ob)⟩, ⟨A_s.other W' d_sb, A_c.other W' d_cb, A_r.other W' d_rb, A_a.other W' d_ab, A_b.setI W'⟩, ⟨d_os, d_oc, d_or, d_oa, d_ob, d_sc, d_sr, d_sa, d_sb, d_cr, d_ca, d_cb, d_ra, d_rb, d_ab⟩, ⟨g_o, g_s, g_c, g_r, g_a, g_b⟩⟩
theorem own_El.k_a {f' : Nat → Int32} (A : own_El Z n0 h o s c r a b Ns Nc Nr st ct rm ac nb U W) (K : Keep h h' [a]) (A' : own_Ar Z h' a .int 64 (own_I f')) : own_El Z n0 h' o s c r a b Ns Nc Nr st ct rm f' nb U W := by
  obtain ⟨E0, ⟨F_s, F_c, F_r, F_a, F_b, F_U, F_W⟩, ⟨A_s, A_c, A_r, A_a, A_b⟩, ⟨d_os, d_oc, d_or, d_oa, d_ob, d_sc, d_sr, d_sa, d_sb, d_cr, d_ca, d_cb, d_ra, d_rb, d_ab⟩, ⟨g_o, g_s, g_c, g_r, g_a, g_b⟩⟩ := A
  exact ⟨E0.keep K, ⟨F_s.keep K (fun q => d_oa (List.mem_singleton.mp q)), F_c.keep K (fun q => d_oa (List.mem_singleton.mp q)), F_r.keep K (fun q => d_oa (List.mem_singleton.mp q)), F_a.keep K (fun q => d_oa (List.mem_singleton.mp q)), F_b.keep K (fun q => d_oa (List.mem_singleton.mp q)), F_U.keep K (fun q => d_oa (List.mem_singleton.mp q)), F_W.keep K (fun q => d_oa (List.mem_singleton.mp q))⟩, ⟨A_s.keep K (fun q => d_sa (List.mem_singleton.mp q)), A_c.keep K (fun q => d_ca (List.mem_singleton.mp q)), A_r.keep K (fun q => d_ra (List.mem_singleton.mp q)), A', A_b.keep K (fun q => (Ne.symm d_ab) (List.mem_singleton.mp q))⟩, ⟨d_os, d_oc, d_or, d_oa, d_ob, d_sc, d_sr, d_sa, d_sb, d_cr, d_ca, d_cb, d_ra, d_rb, d_ab⟩, ⟨g_o, g_s, g_c, g_r, g_a, g_b⟩⟩
theorem own_El.k_b {f' : Nat → Int32} (A : own_El Z n0 h o s c r a b Ns Nc Nr st ct rm ac nb U W) (K : Keep h h' [b]) (A' : own_Ar Z h' b .int 64 (own_I f')) : own_El Z n0 h' o s c r a b Ns Nc Nr st ct rm ac f' U W := by
  obtain ⟨E0, ⟨F_s, F_c, F_r, F_a, F_b, F_U, F_W⟩, ⟨A_s, A_c, A_r, A_a, A_b⟩, ⟨d_os, d_oc, d_or, d_oa, d_ob, d_sc, d_sr, d_sa, d_sb, d_cr, d_ca, d_cb, d_ra, d_rb, d_ab⟩, ⟨g_o, g_s, g_c, g_r, g_a, g_b⟩⟩ := A
  exact ⟨E0.keep K, ⟨F_s.keep K (fun q => d_ob (List.mem_singleton.mp q)), F_c.keep K (fun q => d_ob (List.mem_singleton.mp q)), F_r.keep K (fun q => d_ob (List.mem_singleton.mp q)), F_a.keep K (fun q => d_ob (List.mem_singleton.mp q)), F_b.keep K (fun q => d_ob (List.mem_singleton.mp q)), F_U.keep K (fun q => d_ob (List.mem_singleton.mp q)), F_W.keep K (fun q => d_ob (List.mem_singleton.mp q))⟩, ⟨A_s.keep K (fun q => d_sb (List.mem_singleton.mp q)), A_c.keep K (fun q => d_cb (List.mem_singleton.mp q)), A_r.keep K (fun q => d_rb (List.mem_singleton.mp q)), A_a.keep K (fun q => d_ab (List.mem_singleton.mp q)), A'⟩, ⟨d_os, d_oc, d_or, d_oa, d_ob, d_sc, d_sr, d_sa, d_sb, d_cr, d_ca, d_cb, d_ra, d_rb, d_ab⟩, ⟨g_o, g_s, g_c, g_r, g_a, g_b⟩⟩
theorem own_El.kept (A : own_El Z n0 h o s c r a b Ns Nc Nr st ct rm ac nb U W) (K : Keep h h' []) : own_El Z n0 h' o s c r a b Ns Nc Nr st ct rm ac nb U W := by
  obtain ⟨E0, ⟨F_s, F_c, F_r, F_a, F_b, F_U, F_W⟩, ⟨A_s, A_c, A_r, A_a, A_b⟩, ⟨d_os, d_oc, d_or, d_oa, d_ob, d_sc, d_sr, d_sa, d_sb, d_cr, d_ca, d_cb, d_ra, d_rb, d_ab⟩, ⟨g_o, g_s, g_c, g_r, g_a, g_b⟩⟩ := A
  exact ⟨E0.keep K, ⟨F_s.keep K List.not_mem_nil, F_c.keep K List.not_mem_nil, F_r.keep K List.not_mem_nil, F_a.keep K List.not_mem_nil, F_b.keep K List.not_mem_nil, F_U.keep K List.not_mem_nil, F_W.keep K List.not_mem_nil⟩, ⟨A_s.keep K List.not_mem_nil, A_c.keep K List.not_mem_nil, A_r.keep K List.not_mem_nil, A_a.keep K List.not_mem_nil, A_b.keep K List.not_mem_nil⟩, ⟨d_os, d_oc, d_or, d_oa, d_ob, d_sc, d_sr, d_sa, d_sb, d_cr, d_ca, d_cb, d_ra, d_rb, d_ab⟩, ⟨g_o, g_s, g_c, g_r, g_a, g_b⟩⟩
theorem own_El.f_s {a0 : Array Value} (hw : ∀ d ∈ tables_1, d.before a0 Z = true) {x : Addr} {N' : Nat} {f' : Nat → Int32} (A : own_El Z n0 h o s c r a b Ns Nc Nr st ct rm ac nb U W) (A' : own_Ar Z h x .int N' (own_I f')) (hd : o ≠ x ∧ c ≠ x ∧ r ≠ x ∧ a ≠ x ∧ b ≠ x) (gx : n0 ≤ x) (W' : Wr h h' o (RoadKit.slotOf Z own_EC "starts" "[I") (.ref x)) : own_El Z n0 h' o x c r a b N' Nc Nr f' ct rm ac nb U W := by
  obtain ⟨E0, ⟨F_s, F_c, F_r, F_a, F_b, F_U, F_W⟩, ⟨A_s, A_c, A_r, A_a, A_b⟩, ⟨d_os, d_oc, d_or, d_oa, d_ob, d_sc, d_sr, d_sa, d_sb, d_cr, d_ca, d_cb, d_ra, d_rb, d_ab⟩, ⟨g_o, g_s, g_c, g_r, g_a, g_b⟩⟩ := A
  obtain ⟨x_o, x_c, x_r, x_a, x_b⟩ := hd
  exact ⟨E0.wr W', ⟨F_s.same W', F_c.other W' (Or.inr (slot_ne (Or.inl (hw _ (List.mem_of_getElem? (i := 14) rfl)) : Laid Z a0 own_EC own_EC "counts" "[I") (Or.inl (hw _ (List.mem_of_getElem? (i := 12) rfl)) : Laid Z a0 own_EC own_EC "starts" "[I") (by decide) (t := (.array .int)) (t' := (.array .int)) (by decide) (by decide))), F_r.other W' (Or.inr (slot_ne (Or.inl (hw _ (List.mem_of_getElem? (i := 16) rfl)) : Laid Z a0 own_EC own_EC "rooms" "[I") (Or.inl (hw _ (List.mem_of_getElem? (i := 12) rfl)) : Laid Z a0 own_EC own_EC "starts" "[I") (by decide) (t := (.array .int)) (t' := (.array .int)) (by decide) (by decide))), F_a.other W' (Or.inr (slot_ne (Or.inl (hw _ (List.mem_of_getElem? (i := 18) rfl)) : Laid Z a0 own_EC own_EC "actions" "[I") (Or.inl (hw _ (List.mem_of_getElem? (i := 12) rfl)) : Laid Z a0 own_EC own_EC "starts" "[I") (by decide) (t := (.array .int)) (t' := (.array .int)) (by decide) (by decide))), F_b.other W' (Or.inr (slot_ne (Or.inl (hw _ (List.mem_of_getElem? (i := 20) rfl)) : Laid Z a0 own_EC own_EC "neighbours" "[I") (Or.inl (hw _ (List.mem_of_getElem? (i := 12) rfl)) : Laid Z a0 own_EC own_EC "starts" "[I") (by decide) (t := (.array .int)) (t' := (.array .int)) (by decide) (by decide))), F_U.other W' (Or.inr (slot_ne (Or.inl (hw _ (List.mem_of_getElem? (i := 56) rfl)) : Laid Z a0 own_EC own_EC "used" "I") (Or.inl (hw _ (List.mem_of_getElem? (i := 12) rfl)) : Laid Z a0 own_EC own_EC "starts" "[I") (by decide) (t := .int) (t' := (.array .int)) (by decide) (by decide))), F_W.other W' (Or.inr (slot_ne (Or.inl (hw _ (List.mem_of_getElem? (i := 31) rfl)) : Laid Z a0 own_EC own_EC "stateCount" "I") (Or.inl (hw _ (List.mem_of_getElem? (i := 12) rfl)) : Laid Z a0 own_EC own_EC "starts" "[I") (by decide) (t := .int) (t' := (.array .int)) (by decide) (by decide)))⟩, ⟨A'.other W' (Ne.symm x_o), A_c.other W' (Ne.symm d_oc), A_r.other W' (Ne.symm d_or), A_a.other W' (Ne.symm d_oa), A_b.other W' (Ne.symm d_ob)⟩, ⟨x_o, d_oc, d_or, d_oa, d_ob, (Ne.symm x_c), (Ne.symm x_r), (Ne.symm x_a), (Ne.symm x_b), d_cr, d_ca, d_cb, d_ra, d_rb, d_ab⟩, ⟨g_o, gx, g_c, g_r, g_a, g_b⟩⟩
theorem own_El.f_c {a0 : Array Value} (hw : ∀ d ∈ tables_1, d.before a0 Z = true) {x : Addr} {N' : Nat} {f' : Nat → Int32} (A : own_El Z n0 h o s c r a b Ns Nc Nr st ct rm ac nb U W) (A' : own_Ar Z h x .int N' (own_I f')) (hd : o ≠ x ∧ s ≠ x ∧ r ≠ x ∧ a ≠ x ∧ b ≠ x) (gx : n0 ≤ x) (W' : Wr h h' o (RoadKit.slotOf Z own_EC "counts" "[I") (.ref x)) : own_El Z n0 h' o s x r a b Ns N' Nr st f' rm ac nb U W := by
  obtain ⟨E0, ⟨F_s, F_c, F_r, F_a, F_b, F_U, F_W⟩, ⟨A_s, A_c, A_r, A_a, A_b⟩, ⟨d_os, d_oc, d_or, d_oa, d_ob, d_sc, d_sr, d_sa, d_sb, d_cr, d_ca, d_cb, d_ra, d_rb, d_ab⟩, ⟨g_o, g_s, g_c, g_r, g_a, g_b⟩⟩ := A
  obtain ⟨x_o, x_s, x_r, x_a, x_b⟩ := hd
  exact ⟨E0.wr W', ⟨F_s.other W' (Or.inr (slot_ne (Or.inl (hw _ (List.mem_of_getElem? (i := 12) rfl)) : Laid Z a0 own_EC own_EC "starts" "[I") (Or.inl (hw _ (List.mem_of_getElem? (i := 14) rfl)) : Laid Z a0 own_EC own_EC "counts" "[I") (by decide) (t := (.array .int)) (t' := (.array .int)) (by decide) (by decide))), F_c.same W', F_r.other W' (Or.inr (slot_ne (Or.inl (hw _ (List.mem_of_getElem? (i := 16) rfl)) : Laid Z a0 own_EC own_EC "rooms" "[I") (Or.inl (hw _ (List.mem_of_getElem? (i := 14) rfl)) : Laid Z a0 own_EC own_EC "counts" "[I") (by decide) (t := (.array .int)) (t' := (.array .int)) (by decide) (by decide))), F_a.other W' (Or.inr (slot_ne (Or.inl (hw _ (List.mem_of_getElem? (i := 18) rfl)) : Laid Z a0 own_EC own_EC "actions" "[I") (Or.inl (hw _ (List.mem_of_getElem? (i := 14) rfl)) : Laid Z a0 own_EC own_EC "counts" "[I") (by decide) (t := (.array .int)) (t' := (.array .int)) (by decide) (by decide))), F_b.other W' (Or.inr (slot_ne (Or.inl (hw _ (List.mem_of_getElem? (i := 20) rfl)) : Laid Z a0 own_EC own_EC "neighbours" "[I") (Or.inl (hw _ (List.mem_of_getElem? (i := 14) rfl)) : Laid Z a0 own_EC own_EC "counts" "[I") (by decide) (t := (.array .int)) (t' := (.array .int)) (by decide) (by decide))), F_U.other W' (Or.inr (slot_ne (Or.inl (hw _ (List.mem_of_getElem? (i := 56) rfl)) : Laid Z a0 own_EC own_EC "used" "I") (Or.inl (hw _ (List.mem_of_getElem? (i := 14) rfl)) : Laid Z a0 own_EC own_EC "counts" "[I") (by decide) (t := .int) (t' := (.array .int)) (by decide) (by decide))), F_W.other W' (Or.inr (slot_ne (Or.inl (hw _ (List.mem_of_getElem? (i := 31) rfl)) : Laid Z a0 own_EC own_EC "stateCount" "I") (Or.inl (hw _ (List.mem_of_getElem? (i := 14) rfl)) : Laid Z a0 own_EC own_EC "counts" "[I") (by decide) (t := .int) (t' := (.array .int)) (by decide) (by decide)))⟩, ⟨A_s.other W' (Ne.symm d_os), A'.other W' (Ne.symm x_o), A_r.other W' (Ne.symm d_or), A_a.other W' (Ne.symm d_oa), A_b.other W' (Ne.symm d_ob)⟩, ⟨d_os, x_o, d_or, d_oa, d_ob, x_s, d_sr, d_sa, d_sb, (Ne.symm x_r), (Ne.symm x_a), (Ne.symm x_b), d_ra, d_rb, d_ab⟩, ⟨g_o, g_s, gx, g_r, g_a, g_b⟩⟩
theorem own_El.f_r {a0 : Array Value} (hw : ∀ d ∈ tables_1, d.before a0 Z = true) {x : Addr} {N' : Nat} {f' : Nat → Int32} (A : own_El Z n0 h o s c r a b Ns Nc Nr st ct rm ac nb U W) (A' : own_Ar Z h x .int N' (own_I f')) (hd : o ≠ x ∧ s ≠ x ∧ c ≠ x ∧ a ≠ x ∧ b ≠ x) (gx : n0 ≤ x) (W' : Wr h h' o (RoadKit.slotOf Z own_EC "rooms" "[I") (.ref x)) : own_El Z n0 h' o s c x a b Ns Nc N' st ct f' ac nb U W := by
  obtain ⟨E0, ⟨F_s, F_c, F_r, F_a, F_b, F_U, F_W⟩, ⟨A_s, A_c, A_r, A_a, A_b⟩, ⟨d_os, d_oc, d_or, d_oa, d_ob, d_sc, d_sr, d_sa, d_sb, d_cr, d_ca, d_cb, d_ra, d_rb, d_ab⟩, ⟨g_o, g_s, g_c, g_r, g_a, g_b⟩⟩ := A
  obtain ⟨x_o, x_s, x_c, x_a, x_b⟩ := hd
  exact ⟨E0.wr W', ⟨F_s.other W' (Or.inr (slot_ne (Or.inl (hw _ (List.mem_of_getElem? (i := 12) rfl)) : Laid Z a0 own_EC own_EC "starts" "[I") (Or.inl (hw _ (List.mem_of_getElem? (i := 16) rfl)) : Laid Z a0 own_EC own_EC "rooms" "[I") (by decide) (t := (.array .int)) (t' := (.array .int)) (by decide) (by decide))), F_c.other W' (Or.inr (slot_ne (Or.inl (hw _ (List.mem_of_getElem? (i := 14) rfl)) : Laid Z a0 own_EC own_EC "counts" "[I") (Or.inl (hw _ (List.mem_of_getElem? (i := 16) rfl)) : Laid Z a0 own_EC own_EC "rooms" "[I") (by decide) (t := (.array .int)) (t' := (.array .int)) (by decide) (by decide))), F_r.same W', F_a.other W' (Or.inr (slot_ne (Or.inl (hw _ (List.mem_of_getElem? (i := 18) rfl)) : Laid Z a0 own_EC own_EC "actions" "[I") (Or.inl (hw _ (List.mem_of_getElem? (i := 16) rfl)) : Laid Z a0 own_EC own_EC "rooms" "[I") (by decide) (t := (.array .int)) (t' := (.array .int)) (by decide) (by decide))), F_b.other W' (Or.inr (slot_ne (Or.inl (hw _ (List.mem_of_getElem? (i := 20) rfl)) : Laid Z a0 own_EC own_EC "neighbours" "[I") (Or.inl (hw _ (List.mem_of_getElem? (i := 16) rfl)) : Laid Z a0 own_EC own_EC "rooms" "[I") (by decide) (t := (.array .int)) (t' := (.array .int)) (by decide) (by decide))), F_U.other W' (Or.inr (slot_ne (Or.inl (hw _ (List.mem_of_getElem? (i := 56) rfl)) : Laid Z a0 own_EC own_EC "used" "I") (Or.inl (hw _ (List.mem_of_getElem? (i := 16) rfl)) : Laid Z a0 own_EC own_EC "rooms" "[I") (by decide) (t := .int) (t' := (.array .int)) (by decide) (by decide))), F_W.other W' (Or.inr (slot_ne (Or.inl (hw _ (List.mem_of_getElem? (i := 31) rfl)) : Laid Z a0 own_EC own_EC "stateCount" "I") (Or.inl (hw _ (List.mem_of_getElem? (i := 16) rfl)) : Laid Z a0 own_EC own_EC "rooms" "[I") (by decide) (t := .int) (t' := (.array .int)) (by decide) (by decide)))⟩, ⟨A_s.other W' (Ne.symm d_os), A_c.other W' (Ne.symm d_oc), A'.other W' (Ne.symm x_o), A_a.other W' (Ne.symm d_oa), A_b.other W' (Ne.symm d_ob)⟩, ⟨d_os, d_oc, x_o, d_oa, d_ob, d_sc, x_s, d_sa, d_sb, x_c, d_ca, d_cb, (Ne.symm x_a), (Ne.symm x_b), d_ab⟩, ⟨g_o, g_s, g_c, gx, g_a, g_b⟩⟩
theorem own_El.f_U {a0 : Array Value} (hw : ∀ d ∈ tables_1, d.before a0 Z = true) {x : Int32} (A : own_El Z n0 h o s c r a b Ns Nc Nr st ct rm ac nb U W) (W' : Wr h h' o (RoadKit.slotOf Z own_EC "used" "I") (.int x)) : own_El Z n0 h' o s c r a b Ns Nc Nr st ct rm ac nb x W := by
  obtain ⟨E0, ⟨F_s, F_c, F_r, F_a, F_b, F_U, F_W⟩, ⟨A_s, A_c, A_r, A_a, A_b⟩, ⟨d_os, d_oc, d_or, d_oa, d_ob, d_sc, d_sr, d_sa, d_sb, d_cr, d_ca, d_cb, d_ra, d_rb, d_ab⟩, ⟨g_o, g_s, g_c, g_r, g_a, g_b⟩⟩ := A
  exact ⟨E0.wr W', ⟨F_s.other W' (Or.inr (slot_ne (Or.inl (hw _ (List.mem_of_getElem? (i := 12) rfl)) : Laid Z a0 own_EC own_EC "starts" "[I") (Or.inl (hw _ (List.mem_of_getElem? (i := 56) rfl)) : Laid Z a0 own_EC own_EC "used" "I") (by decide) (t := (.array .int)) (t' := .int) (by decide) (by decide))), F_c.other W' (Or.inr (slot_ne (Or.inl (hw _ (List.mem_of_getElem? (i := 14) rfl)) : Laid Z a0 own_EC own_EC "counts" "[I") (Or.inl (hw _ (List.mem_of_getElem? (i := 56) rfl)) : Laid Z a0 own_EC own_EC "used" "I") (by decide) (t := (.array .int)) (t' := .int) (by decide) (by decide))), F_r.other W' (Or.inr (slot_ne (Or.inl (hw _ (List.mem_of_getElem? (i := 16) rfl)) : Laid Z a0 own_EC own_EC "rooms" "[I") (Or.inl (hw _ (List.mem_of_getElem? (i := 56) rfl)) : Laid Z a0 own_EC own_EC "used" "I") (by decide) (t := (.array .int)) (t' := .int) (by decide) (by decide))), F_a.other W' (Or.inr (slot_ne (Or.inl (hw _ (List.mem_of_getElem? (i := 18) rfl)) : Laid Z a0 own_EC own_EC "actions" "[I") (Or.inl (hw _ (List.mem_of_getElem? (i := 56) rfl)) : Laid Z a0 own_EC own_EC "used" "I") (by decide) (t := (.array .int)) (t' := .int) (by decide) (by decide))), F_b.other W' (Or.inr (slot_ne (Or.inl (hw _ (List.mem_of_getElem? (i := 20) rfl)) : Laid Z a0 own_EC own_EC "neighbours" "[I") (Or.inl (hw _ (List.mem_of_getElem? (i := 56) rfl)) : Laid Z a0 own_EC own_EC "used" "I") (by decide) (t := (.array .int)) (t' := .int) (by decide) (by decide))), F_U.same W', F_W.other W' (Or.inr (slot_ne (Or.inl (hw _ (List.mem_of_getElem? (i := 31) rfl)) : Laid Z a0 own_EC own_EC "stateCount" "I") (Or.inl (hw _ (List.mem_of_getElem? (i := 56) rfl)) : Laid Z a0 own_EC own_EC "used" "I") (by decide) (t := .int) (t' := .int) (by decide) (by decide)))⟩, ⟨A_s.other W' (Ne.symm d_os), A_c.other W' (Ne.symm d_oc), A_r.other W' (Ne.symm d_or), A_a.other W' (Ne.symm d_oa), A_b.other W' (Ne.symm d_ob)⟩, ⟨d_os, d_oc, d_or, d_oa, d_ob, d_sc, d_sr, d_sa, d_sb, d_cr, d_ca, d_cb, d_ra, d_rb, d_ab⟩, ⟨g_o, g_s, g_c, g_r, g_a, g_b⟩⟩
theorem own_El.f_W {a0 : Array Value} (hw : ∀ d ∈ tables_1, d.before a0 Z = true) {x : Int32} (A : own_El Z n0 h o s c r a b Ns Nc Nr st ct rm ac nb U W) (W' : Wr h h' o (RoadKit.slotOf Z own_EC "stateCount" "I") (.int x)) : own_El Z n0 h' o s c r a b Ns Nc Nr st ct rm ac nb U x := by
  obtain ⟨E0, ⟨F_s, F_c, F_r, F_a, F_b, F_U, F_W⟩, ⟨A_s, A_c, A_r, A_a, A_b⟩, ⟨d_os, d_oc, d_or, d_oa, d_ob, d_sc, d_sr, d_sa, d_sb, d_cr, d_ca, d_cb, d_ra, d_rb, d_ab⟩, ⟨g_o, g_s, g_c, g_r, g_a, g_b⟩⟩ := A
  exact ⟨E0.wr W', ⟨F_s.other W' (Or.inr (slot_ne (Or.inl (hw _ (List.mem_of_getElem? (i := 12) rfl)) : Laid Z a0 own_EC own_EC "starts" "[I") (Or.inl (hw _ (List.mem_of_getElem? (i := 31) rfl)) : Laid Z a0 own_EC own_EC "stateCount" "I") (by decide) (t := (.array .int)) (t' := .int) (by decide) (by decide))), F_c.other W' (Or.inr (slot_ne (Or.inl (hw _ (List.mem_of_getElem? (i := 14) rfl)) : Laid Z a0 own_EC own_EC "counts" "[I") (Or.inl (hw _ (List.mem_of_getElem? (i := 31) rfl)) : Laid Z a0 own_EC own_EC "stateCount" "I") (by decide) (t := (.array .int)) (t' := .int) (by decide) (by decide))), F_r.other W' (Or.inr (slot_ne (Or.inl (hw _ (List.mem_of_getElem? (i := 16) rfl)) : Laid Z a0 own_EC own_EC "rooms" "[I") (Or.inl (hw _ (List.mem_of_getElem? (i := 31) rfl)) : Laid Z a0 own_EC own_EC "stateCount" "I") (by decide) (t := (.array .int)) (t' := .int) (by decide) (by decide))), F_a.other W' (Or.inr (slot_ne (Or.inl (hw _ (List.mem_of_getElem? (i := 18) rfl)) : Laid Z a0 own_EC own_EC "actions" "[I") (Or.inl (hw _ (List.mem_of_getElem? (i := 31) rfl)) : Laid Z a0 own_EC own_EC "stateCount" "I") (by decide) (t := (.array .int)) (t' := .int) (by decide) (by decide))), F_b.other W' (Or.inr (slot_ne (Or.inl (hw _ (List.mem_of_getElem? (i := 20) rfl)) : Laid Z a0 own_EC own_EC "neighbours" "[I") (Or.inl (hw _ (List.mem_of_getElem? (i := 31) rfl)) : Laid Z a0 own_EC own_EC "stateCount" "I") (by decide) (t := (.array .int)) (t' := .int) (by decide) (by decide))), F_U.other W' (Or.inr (slot_ne (Or.inl (hw _ (List.mem_of_getElem? (i := 56) rfl)) : Laid Z a0 own_EC own_EC "used" "I") (Or.inl (hw _ (List.mem_of_getElem? (i := 31) rfl)) : Laid Z a0 own_EC own_EC "stateCount" "I") (by decide) (t := .int) (t' := .int) (by decide) (by decide))), F_W.same W'⟩, ⟨A_s.other W' (Ne.symm d_os), A_c.other W' (Ne.symm d_oc), A_r.other W' (Ne.symm d_or), A_a.other W' (Ne.symm d_oa), A_b.other W' (Ne.symm d_ob)⟩, ⟨d_os, d_oc, d_or, d_oa, d_ob, d_sc, d_sr, d_sa, d_sb, d_cr, d_ca, d_cb, d_ra, d_rb, d_ab⟩, ⟨g_o, g_s, g_c, g_r, g_a, g_b⟩⟩
theorem own_El_lts (A : own_El Z n0 h o s c r a b Ns Nc Nr st ct rm ac nb U W) : h.size > o ∧ h.size > s ∧ h.size > c ∧ h.size > r ∧ h.size > a ∧ h.size > b := by
  obtain ⟨E0, ⟨F_s, F_c, F_r, F_a, F_b, F_U, F_W⟩, ⟨A_s, A_c, A_r, A_a, A_b⟩, ⟨d_os, d_oc, d_or, d_oa, d_ob, d_sc, d_sr, d_sa, d_sb, d_cr, d_ca, d_cb, d_ra, d_rb, d_ab⟩, ⟨g_o, g_s, g_c, g_r, g_a, g_b⟩⟩ := A
  exact ⟨E0.lt, A_s.lt, A_c.lt, A_r.lt, A_a.lt, A_b.lt⟩
def own_EL (Z : State) (n0 : Nat) (h : Heap) (o : Addr) (cnt : Nat → Nat) (LA LB : Nat → Nat → Int32) (u : Nat) : Prop := ∃ (s c r a b : Addr) (N : Nat) (st ct rm ac nb : Nat → Int32) (U W : Int32) (sN rN : Nat → Nat), own_El Z n0 h o s c r a b N N N st ct rm ac nb U W ∧ own_EI N st ct rm ac nb sN rN cnt u LA LB ∧ U.toInt = u
theorem own_EL_exa {cnt : Nat → Nat} {LA LB : Nat → Nat → Int32} {u : Nat} (E : own_EL Z n0 h o cnt LA LB u) : Exa Z h o own_EC := by
  obtain ⟨_, _, _, _, _, _, _, _, _, _, _, _, _, _, _, A, -⟩ := E
  exact A.1
end OwnEdgeHeap
theorem pd_0 : parseMethodDescriptor "(II)I" = some ⟨[.int, .int], some .int⟩ := by decide +kernel
theorem pd_1 : parseMethodDescriptor "([II)[I" = some ⟨[(.array .int), .int], some (.array .int)⟩ := by decide +kernel
theorem pd_2 : parseMethodDescriptor "(JJ)J" = some ⟨[.long, .long], some .long⟩ := by decide +kernel
theorem pd_3 : parseMethodDescriptor "(I)V" = some ⟨[.int], none⟩ := by decide +kernel
theorem pd_4 : parseMethodDescriptor "(II)V" = some ⟨[.int, .int], none⟩ := by decide +kernel
theorem pd_5 : parseMethodDescriptor "(I)I" = some ⟨[.int], some .int⟩ := by decide +kernel
theorem pd_6 : parseMethodDescriptor "()V" = some ⟨[], none⟩ := by decide +kernel
theorem pd_7 : parseMethodDescriptor "(III)V" = some ⟨[.int, .int, .int], none⟩ := by decide +kernel
theorem d5_0 : decode jdk_29_method_65_code 0 = .ok (.iload_n 0, 1) := by decide +kernel
theorem d5_1 : decode jdk_29_method_65_code 1 = .ok (.iload_n 1, 1) := by decide +kernel
theorem d5_2 : decode jdk_29_method_65_code 2 = .ok (.if_icmp .lt 7, 3) := by decide +kernel
theorem d5_5 : decode jdk_29_method_65_code 5 = .ok (.iload_n 0, 1) := by decide +kernel
theorem d5_6 : decode jdk_29_method_65_code 6 = .ok (.goto 4, 3) := by decide +kernel
theorem d5_9 : decode jdk_29_method_65_code 9 = .ok (.iload_n 1, 1) := by decide +kernel
theorem d5_10 : decode jdk_29_method_65_code 10 = .ok (.ireturn, 1) := by decide +kernel
theorem pn_5 : plainFor (⟨"java/lang/Math", "max", "(II)I"⟩ : MethodName) = true := by first | exact plainFor_of_name (by first | (simp [plainName, overriddenIn]; done) | decide +kernel) | decide +kernel
theorem ef_5 (m : MethodId) (x0 : Int32) (x1 : Int32) : entryFrame m #[(.int x0), (.int x1)] 2 = mkF m 0 #[.val (.int x0), .val (.int x1)] [] := by first | (simp [entryFrame, mkF, argsToLocals, Value.category]; done) | rfl
theorem d7_0 : decode jdk_29_method_69_code 0 = .ok (.iload_n 0, 1) := by decide +kernel
theorem d7_1 : decode jdk_29_method_69_code 1 = .ok (.iload_n 1, 1) := by decide +kernel
theorem d7_2 : decode jdk_29_method_69_code 2 = .ok (.if_icmp .gt 7, 3) := by decide +kernel
theorem d7_5 : decode jdk_29_method_69_code 5 = .ok (.iload_n 0, 1) := by decide +kernel
theorem d7_6 : decode jdk_29_method_69_code 6 = .ok (.goto 4, 3) := by decide +kernel
theorem d7_9 : decode jdk_29_method_69_code 9 = .ok (.iload_n 1, 1) := by decide +kernel
theorem d7_10 : decode jdk_29_method_69_code 10 = .ok (.ireturn, 1) := by decide +kernel
theorem pn_7 : plainFor (⟨"java/lang/Math", "min", "(II)I"⟩ : MethodName) = true := by first | exact plainFor_of_name (by first | (simp [plainName, overriddenIn]; done) | decide +kernel) | decide +kernel
theorem ef_7 (m : MethodId) (x0 : Int32) (x1 : Int32) : entryFrame m #[(.int x0), (.int x1)] 2 = mkF m 0 #[.val (.int x0), .val (.int x1)] [] := by first | (simp [entryFrame, mkF, argsToLocals, Value.category]; done) | rfl
theorem d9_0 : decode jdk_29_method_70_code 0 = .ok (.lload_n 0, 1) := by decide +kernel
theorem d9_1 : decode jdk_29_method_70_code 1 = .ok (.lload_n 2, 1) := by decide +kernel
theorem d9_2 : decode jdk_29_method_70_code 2 = .ok (.lcmp, 1) := by decide +kernel
theorem d9_3 : decode jdk_29_method_70_code 3 = .ok (.ifCond .gt 7, 3) := by decide +kernel
theorem d9_6 : decode jdk_29_method_70_code 6 = .ok (.lload_n 0, 1) := by decide +kernel
theorem d9_7 : decode jdk_29_method_70_code 7 = .ok (.goto 4, 3) := by decide +kernel
theorem d9_10 : decode jdk_29_method_70_code 10 = .ok (.lload_n 2, 1) := by decide +kernel
theorem d9_11 : decode jdk_29_method_70_code 11 = .ok (.lreturn, 1) := by decide +kernel
theorem pn_9 : plainFor (⟨"java/lang/Math", "min", "(JJ)J"⟩ : MethodName) = true := by first | exact plainFor_of_name (by first | (simp [plainName, overriddenIn]; done) | decide +kernel) | decide +kernel
theorem ef_9 (m : MethodId) (x0 : Int64) (x1 : Int64) : entryFrame m #[(.long x0), (.long x1)] 4 = mkF m 0 #[.val (.long x0), .second, .val (.long x1), .second] [] := by first | (simp [entryFrame, mkF, argsToLocals, Value.category]; done) | rfl
theorem d6_0 : decode jdk_65_method_123_code 0 = .ok (.iload_n 1, 1) := by decide +kernel
theorem d6_1 : decode jdk_65_method_123_code 1 = .ok (.aload_n 0, 1) := by decide +kernel
theorem d6_2 : decode jdk_65_method_123_code 2 = .ok (.arraylength, 1) := by decide +kernel
theorem d6_3 : decode jdk_65_method_123_code 3 = .ok (.if_icmp .ne 11, 3) := by decide +kernel
theorem d6_6 : decode jdk_65_method_123_code 6 = .ok (.aload_n 0, 1) := by decide +kernel
theorem d6_7 : decode jdk_65_method_123_code 7 = .ok (.invokevirtual 316, 3) := by decide +kernel
theorem d6_10 : decode jdk_65_method_123_code 10 = .ok (.checkcast 317, 3) := by decide +kernel
theorem d6_13 : decode jdk_65_method_123_code 13 = .ok (.areturn, 1) := by decide +kernel
theorem d6_14 : decode jdk_65_method_123_code 14 = .ok (.iload_n 1, 1) := by decide +kernel
theorem d6_15 : decode jdk_65_method_123_code 15 = .ok (.newarray .int, 2) := by decide +kernel
theorem d6_17 : decode jdk_65_method_123_code 17 = .ok (.astore_n 2, 1) := by decide +kernel
theorem d6_18 : decode jdk_65_method_123_code 18 = .ok (.aload_n 0, 1) := by decide +kernel
theorem d6_19 : decode jdk_65_method_123_code 19 = .ok (.iconst 0, 1) := by decide +kernel
theorem d6_20 : decode jdk_65_method_123_code 20 = .ok (.aload_n 2, 1) := by decide +kernel
theorem d6_21 : decode jdk_65_method_123_code 21 = .ok (.iconst 0, 1) := by decide +kernel
theorem d6_22 : decode jdk_65_method_123_code 22 = .ok (.aload_n 0, 1) := by decide +kernel
theorem d6_23 : decode jdk_65_method_123_code 23 = .ok (.arraylength, 1) := by decide +kernel
theorem d6_24 : decode jdk_65_method_123_code 24 = .ok (.iload_n 1, 1) := by decide +kernel
theorem d6_25 : decode jdk_65_method_123_code 25 = .ok (.invokestatic 304, 3) := by decide +kernel
theorem d6_28 : decode jdk_65_method_123_code 28 = .ok (.invokestatic 150, 3) := by decide +kernel
theorem d6_31 : decode jdk_65_method_123_code 31 = .ok (.aload_n 2, 1) := by decide +kernel
theorem d6_32 : decode jdk_65_method_123_code 32 = .ok (.areturn, 1) := by decide +kernel
theorem pn_6 : plainFor (⟨"java/util/Arrays", "copyOf", "([II)[I"⟩ : MethodName) = true := by first | exact plainFor_of_name (by first | (simp [plainName, overriddenIn]; done) | decide +kernel) | decide +kernel
theorem ef_6 (m : MethodId) (x0 : Addr) (x1 : Int32) : entryFrame m #[(.ref x0), (.int x1)] 3 = mkF m 0 #[.val (.ref x0), .val (.int x1), .unset] [] := by first | (simp [entryFrame, mkF, argsToLocals, Value.category]; done) | rfl
theorem d1_0 : decode prog_8_method_1_code 0 = .ok (.aload_n 0, 1) := by decide +kernel
theorem d1_1 : decode prog_8_method_1_code 1 = .ok (.invokespecial 3, 3) := by decide +kernel
theorem d1_4 : decode prog_8_method_1_code 4 = .ok (.aload_n 0, 1) := by decide +kernel
theorem d1_5 : decode prog_8_method_1_code 5 = .ok (.iconst 0, 1) := by decide +kernel
theorem d1_6 : decode prog_8_method_1_code 6 = .ok (.newarray .int, 2) := by decide +kernel
theorem d1_8 : decode prog_8_method_1_code 8 = .ok (.putfield 9, 3) := by decide +kernel
theorem d1_11 : decode prog_8_method_1_code 11 = .ok (.aload_n 0, 1) := by decide +kernel
theorem d1_12 : decode prog_8_method_1_code 12 = .ok (.iconst 0, 1) := by decide +kernel
theorem d1_13 : decode prog_8_method_1_code 13 = .ok (.newarray .int, 2) := by decide +kernel
theorem d1_15 : decode prog_8_method_1_code 15 = .ok (.putfield 15, 3) := by decide +kernel
theorem d1_18 : decode prog_8_method_1_code 18 = .ok (.aload_n 0, 1) := by decide +kernel
theorem d1_19 : decode prog_8_method_1_code 19 = .ok (.iconst 0, 1) := by decide +kernel
theorem d1_20 : decode prog_8_method_1_code 20 = .ok (.newarray .int, 2) := by decide +kernel
theorem d1_22 : decode prog_8_method_1_code 22 = .ok (.putfield 18, 3) := by decide +kernel
theorem d1_25 : decode prog_8_method_1_code 25 = .ok (.aload_n 0, 1) := by decide +kernel
theorem d1_26 : decode prog_8_method_1_code 26 = .ok (.bipush 64, 2) := by decide +kernel
theorem d1_28 : decode prog_8_method_1_code 28 = .ok (.newarray .int, 2) := by decide +kernel
theorem d1_30 : decode prog_8_method_1_code 30 = .ok (.putfield 21, 3) := by decide +kernel
theorem d1_33 : decode prog_8_method_1_code 33 = .ok (.aload_n 0, 1) := by decide +kernel
theorem d1_34 : decode prog_8_method_1_code 34 = .ok (.bipush 64, 2) := by decide +kernel
theorem d1_36 : decode prog_8_method_1_code 36 = .ok (.newarray .int, 2) := by decide +kernel
theorem d1_38 : decode prog_8_method_1_code 38 = .ok (.putfield 24, 3) := by decide +kernel
theorem d1_41 : decode prog_8_method_1_code 41 = .ok (.return_, 1) := by decide +kernel
theorem pn_1 : plainFor (⟨"com/example/guarantor/guarantor/ag/EdgeLists", "<init>", "()V"⟩ : MethodName) = true := by first | exact plainFor_of_name (by first | (simp [plainName, overriddenIn]; done) | decide +kernel) | decide +kernel
theorem ef_1 (m : MethodId) (x0 : Addr) : entryFrame m #[(.ref x0)] 1 = mkF m 0 #[.val (.ref x0)] [] := by first | (simp [entryFrame, mkF, argsToLocals, Value.category]; done) | rfl
theorem d4_0 : decode prog_8_method_9_code 0 = .ok (.aload_n 0, 1) := by decide +kernel
theorem d4_1 : decode prog_8_method_9_code 1 = .ok (.aload_n 0, 1) := by decide +kernel
theorem d4_2 : decode prog_8_method_9_code 2 = .ok (.getfield 57, 3) := by decide +kernel
theorem d4_5 : decode prog_8_method_9_code 5 = .ok (.iload_n 1, 1) := by decide +kernel
theorem d4_6 : decode prog_8_method_9_code 6 = .ok (.iconst 1, 1) := by decide +kernel
theorem d4_7 : decode prog_8_method_9_code 7 = .ok (.iadd, 1) := by decide +kernel
theorem d4_8 : decode prog_8_method_9_code 8 = .ok (.invokestatic 61, 3) := by decide +kernel
theorem d4_11 : decode prog_8_method_9_code 11 = .ok (.putfield 57, 3) := by decide +kernel
theorem d4_14 : decode prog_8_method_9_code 14 = .ok (.iload_n 1, 1) := by decide +kernel
theorem d4_15 : decode prog_8_method_9_code 15 = .ok (.aload_n 0, 1) := by decide +kernel
theorem d4_16 : decode prog_8_method_9_code 16 = .ok (.getfield 9, 3) := by decide +kernel
theorem d4_19 : decode prog_8_method_9_code 19 = .ok (.arraylength, 1) := by decide +kernel
theorem d4_20 : decode prog_8_method_9_code 20 = .ok (.if_icmp .lt 53, 3) := by decide +kernel
theorem d4_23 : decode prog_8_method_9_code 23 = .ok (.iload_n 1, 1) := by decide +kernel
theorem d4_24 : decode prog_8_method_9_code 24 = .ok (.iconst 1, 1) := by decide +kernel
theorem d4_25 : decode prog_8_method_9_code 25 = .ok (.iadd, 1) := by decide +kernel
theorem d4_26 : decode prog_8_method_9_code 26 = .ok (.iconst 2, 1) := by decide +kernel
theorem d4_27 : decode prog_8_method_9_code 27 = .ok (.aload_n 0, 1) := by decide +kernel
theorem d4_28 : decode prog_8_method_9_code 28 = .ok (.getfield 9, 3) := by decide +kernel
theorem d4_31 : decode prog_8_method_9_code 31 = .ok (.arraylength, 1) := by decide +kernel
theorem d4_32 : decode prog_8_method_9_code 32 = .ok (.imul, 1) := by decide +kernel
theorem d4_33 : decode prog_8_method_9_code 33 = .ok (.invokestatic 61, 3) := by decide +kernel
theorem d4_36 : decode prog_8_method_9_code 36 = .ok (.istore_n 2, 1) := by decide +kernel
theorem d4_37 : decode prog_8_method_9_code 37 = .ok (.aload_n 0, 1) := by decide +kernel
theorem d4_38 : decode prog_8_method_9_code 38 = .ok (.aload_n 0, 1) := by decide +kernel
theorem d4_39 : decode prog_8_method_9_code 39 = .ok (.getfield 9, 3) := by decide +kernel
theorem d4_42 : decode prog_8_method_9_code 42 = .ok (.iload_n 2, 1) := by decide +kernel
theorem d4_43 : decode prog_8_method_9_code 43 = .ok (.invokestatic 67, 3) := by decide +kernel
theorem d4_46 : decode prog_8_method_9_code 46 = .ok (.putfield 9, 3) := by decide +kernel
theorem d4_49 : decode prog_8_method_9_code 49 = .ok (.aload_n 0, 1) := by decide +kernel
theorem d4_50 : decode prog_8_method_9_code 50 = .ok (.aload_n 0, 1) := by decide +kernel
theorem d4_51 : decode prog_8_method_9_code 51 = .ok (.getfield 15, 3) := by decide +kernel
theorem d4_54 : decode prog_8_method_9_code 54 = .ok (.iload_n 2, 1) := by decide +kernel
theorem d4_55 : decode prog_8_method_9_code 55 = .ok (.invokestatic 67, 3) := by decide +kernel
theorem d4_58 : decode prog_8_method_9_code 58 = .ok (.putfield 15, 3) := by decide +kernel
theorem d4_61 : decode prog_8_method_9_code 61 = .ok (.aload_n 0, 1) := by decide +kernel
theorem d4_62 : decode prog_8_method_9_code 62 = .ok (.aload_n 0, 1) := by decide +kernel
theorem d4_63 : decode prog_8_method_9_code 63 = .ok (.getfield 18, 3) := by decide +kernel
theorem d4_66 : decode prog_8_method_9_code 66 = .ok (.iload_n 2, 1) := by decide +kernel
theorem d4_67 : decode prog_8_method_9_code 67 = .ok (.invokestatic 67, 3) := by decide +kernel
theorem d4_70 : decode prog_8_method_9_code 70 = .ok (.putfield 18, 3) := by decide +kernel
theorem d4_73 : decode prog_8_method_9_code 73 = .ok (.return_, 1) := by decide +kernel
theorem pn_4 : plainFor (⟨"com/example/guarantor/guarantor/ag/EdgeLists", "fit", "(I)V"⟩ : MethodName) = true := by first | exact plainFor_of_name (by first | (simp [plainName, overriddenIn]; done) | decide +kernel) | decide +kernel
theorem ef_4 (m : MethodId) (x0 : Addr) (x1 : Int32) : entryFrame m #[(.ref x0), (.int x1)] 3 = mkF m 0 #[.val (.ref x0), .val (.int x1), .unset] [] := by first | (simp [entryFrame, mkF, argsToLocals, Value.category]; done) | rfl
theorem d8_0 : decode prog_8_method_10_code 0 = .ok (.iload_n 2, 1) := by decide +kernel
theorem d8_1 : decode prog_8_method_10_code 1 = .ok (.aload_n 0, 1) := by decide +kernel
theorem d8_2 : decode prog_8_method_10_code 2 = .ok (.getfield 18, 3) := by decide +kernel
theorem d8_5 : decode prog_8_method_10_code 5 = .ok (.iload_n 1, 1) := by decide +kernel
theorem d8_6 : decode prog_8_method_10_code 6 = .ok (.iaload, 1) := by decide +kernel
theorem d8_7 : decode prog_8_method_10_code 7 = .ok (.if_icmp .gt 4, 3) := by decide +kernel
theorem d8_10 : decode prog_8_method_10_code 10 = .ok (.return_, 1) := by decide +kernel
theorem d8_11 : decode prog_8_method_10_code 11 = .ok (.ldc2_w 73, 3) := by decide +kernel
theorem d8_14 : decode prog_8_method_10_code 14 = .ok (.iload_n 2, 1) := by decide +kernel
theorem d8_15 : decode prog_8_method_10_code 15 = .ok (.i2l, 1) := by decide +kernel
theorem d8_16 : decode prog_8_method_10_code 16 = .ok (.iload_n 2, 1) := by decide +kernel
theorem d8_17 : decode prog_8_method_10_code 17 = .ok (.iconst 1, 1) := by decide +kernel
theorem d8_18 : decode prog_8_method_10_code 18 = .ok (.ishr, 1) := by decide +kernel
theorem d8_19 : decode prog_8_method_10_code 19 = .ok (.i2l, 1) := by decide +kernel
theorem d8_20 : decode prog_8_method_10_code 20 = .ok (.ladd, 1) := by decide +kernel
theorem d8_21 : decode prog_8_method_10_code 21 = .ok (.invokestatic 75, 3) := by decide +kernel
theorem d8_24 : decode prog_8_method_10_code 24 = .ok (.l2i, 1) := by decide +kernel
theorem d8_25 : decode prog_8_method_10_code 25 = .ok (.istore_n 3, 1) := by decide +kernel
theorem d8_26 : decode prog_8_method_10_code 26 = .ok (.aload_n 0, 1) := by decide +kernel
theorem d8_27 : decode prog_8_method_10_code 27 = .ok (.getfield 79, 3) := by decide +kernel
theorem d8_30 : decode prog_8_method_10_code 30 = .ok (.i2l, 1) := by decide +kernel
theorem d8_31 : decode prog_8_method_10_code 31 = .ok (.iload_n 3, 1) := by decide +kernel
theorem d8_32 : decode prog_8_method_10_code 32 = .ok (.i2l, 1) := by decide +kernel
theorem d8_33 : decode prog_8_method_10_code 33 = .ok (.ladd, 1) := by decide +kernel
theorem d8_34 : decode prog_8_method_10_code 34 = .ok (.aload_n 0, 1) := by decide +kernel
theorem d8_35 : decode prog_8_method_10_code 35 = .ok (.getfield 21, 3) := by decide +kernel
theorem d8_38 : decode prog_8_method_10_code 38 = .ok (.arraylength, 1) := by decide +kernel
theorem d8_39 : decode prog_8_method_10_code 39 = .ok (.i2l, 1) := by decide +kernel
theorem d8_40 : decode prog_8_method_10_code 40 = .ok (.lcmp, 1) := by decide +kernel
theorem d8_41 : decode prog_8_method_10_code 41 = .ok (.ifCond .le 10, 3) := by decide +kernel
theorem d8_44 : decode prog_8_method_10_code 44 = .ok (.aload_n 0, 1) := by decide +kernel
theorem d8_45 : decode prog_8_method_10_code 45 = .ok (.iload_n 1, 1) := by decide +kernel
theorem d8_46 : decode prog_8_method_10_code 46 = .ok (.iload_n 3, 1) := by decide +kernel
theorem d8_47 : decode prog_8_method_10_code 47 = .ok (.invokevirtual 82, 3) := by decide +kernel
theorem d8_50 : decode prog_8_method_10_code 50 = .ok (.return_, 1) := by decide +kernel
theorem d8_51 : decode prog_8_method_10_code 51 = .ok (.aload_n 0, 1) := by decide +kernel
theorem d8_52 : decode prog_8_method_10_code 52 = .ok (.getfield 21, 3) := by decide +kernel
theorem d8_55 : decode prog_8_method_10_code 55 = .ok (.aload_n 0, 1) := by decide +kernel
theorem d8_56 : decode prog_8_method_10_code 56 = .ok (.getfield 9, 3) := by decide +kernel
theorem d8_59 : decode prog_8_method_10_code 59 = .ok (.iload_n 1, 1) := by decide +kernel
theorem d8_60 : decode prog_8_method_10_code 60 = .ok (.iaload, 1) := by decide +kernel
theorem d8_61 : decode prog_8_method_10_code 61 = .ok (.aload_n 0, 1) := by decide +kernel
theorem d8_62 : decode prog_8_method_10_code 62 = .ok (.getfield 21, 3) := by decide +kernel
theorem d8_65 : decode prog_8_method_10_code 65 = .ok (.aload_n 0, 1) := by decide +kernel
theorem d8_66 : decode prog_8_method_10_code 66 = .ok (.getfield 79, 3) := by decide +kernel
theorem d8_69 : decode prog_8_method_10_code 69 = .ok (.aload_n 0, 1) := by decide +kernel
theorem d8_70 : decode prog_8_method_10_code 70 = .ok (.getfield 15, 3) := by decide +kernel
theorem d8_73 : decode prog_8_method_10_code 73 = .ok (.iload_n 1, 1) := by decide +kernel
theorem d8_74 : decode prog_8_method_10_code 74 = .ok (.iaload, 1) := by decide +kernel
theorem d8_75 : decode prog_8_method_10_code 75 = .ok (.invokestatic 51, 3) := by decide +kernel
theorem d8_78 : decode prog_8_method_10_code 78 = .ok (.aload_n 0, 1) := by decide +kernel
theorem d8_79 : decode prog_8_method_10_code 79 = .ok (.getfield 24, 3) := by decide +kernel
theorem d8_82 : decode prog_8_method_10_code 82 = .ok (.aload_n 0, 1) := by decide +kernel
theorem d8_83 : decode prog_8_method_10_code 83 = .ok (.getfield 9, 3) := by decide +kernel
theorem d8_86 : decode prog_8_method_10_code 86 = .ok (.iload_n 1, 1) := by decide +kernel
theorem d8_87 : decode prog_8_method_10_code 87 = .ok (.iaload, 1) := by decide +kernel
theorem d8_88 : decode prog_8_method_10_code 88 = .ok (.aload_n 0, 1) := by decide +kernel
theorem d8_89 : decode prog_8_method_10_code 89 = .ok (.getfield 24, 3) := by decide +kernel
theorem d8_92 : decode prog_8_method_10_code 92 = .ok (.aload_n 0, 1) := by decide +kernel
theorem d8_93 : decode prog_8_method_10_code 93 = .ok (.getfield 79, 3) := by decide +kernel
theorem d8_96 : decode prog_8_method_10_code 96 = .ok (.aload_n 0, 1) := by decide +kernel
theorem d8_97 : decode prog_8_method_10_code 97 = .ok (.getfield 15, 3) := by decide +kernel
theorem d8_100 : decode prog_8_method_10_code 100 = .ok (.iload_n 1, 1) := by decide +kernel
theorem d8_101 : decode prog_8_method_10_code 101 = .ok (.iaload, 1) := by decide +kernel
theorem d8_102 : decode prog_8_method_10_code 102 = .ok (.invokestatic 51, 3) := by decide +kernel
theorem d8_105 : decode prog_8_method_10_code 105 = .ok (.aload_n 0, 1) := by decide +kernel
theorem d8_106 : decode prog_8_method_10_code 106 = .ok (.getfield 9, 3) := by decide +kernel
theorem d8_109 : decode prog_8_method_10_code 109 = .ok (.iload_n 1, 1) := by decide +kernel
theorem d8_110 : decode prog_8_method_10_code 110 = .ok (.aload_n 0, 1) := by decide +kernel
theorem d8_111 : decode prog_8_method_10_code 111 = .ok (.getfield 79, 3) := by decide +kernel
theorem d8_114 : decode prog_8_method_10_code 114 = .ok (.iastore, 1) := by decide +kernel
theorem d8_115 : decode prog_8_method_10_code 115 = .ok (.aload_n 0, 1) := by decide +kernel
theorem d8_116 : decode prog_8_method_10_code 116 = .ok (.getfield 18, 3) := by decide +kernel
theorem d8_119 : decode prog_8_method_10_code 119 = .ok (.iload_n 1, 1) := by decide +kernel
theorem d8_120 : decode prog_8_method_10_code 120 = .ok (.iload_n 3, 1) := by decide +kernel
theorem d8_121 : decode prog_8_method_10_code 121 = .ok (.iastore, 1) := by decide +kernel
theorem d8_122 : decode prog_8_method_10_code 122 = .ok (.aload_n 0, 1) := by decide +kernel
theorem d8_123 : decode prog_8_method_10_code 123 = .ok (.dup, 1) := by decide +kernel
theorem d8_124 : decode prog_8_method_10_code 124 = .ok (.getfield 79, 3) := by decide +kernel
theorem d8_127 : decode prog_8_method_10_code 127 = .ok (.iload_n 3, 1) := by decide +kernel
theorem d8_128 : decode prog_8_method_10_code 128 = .ok (.iadd, 1) := by decide +kernel
theorem d8_129 : decode prog_8_method_10_code 129 = .ok (.putfield 79, 3) := by decide +kernel
theorem d8_132 : decode prog_8_method_10_code 132 = .ok (.return_, 1) := by decide +kernel
theorem pn_8 : plainFor (⟨"com/example/guarantor/guarantor/ag/EdgeLists", "reserve", "(II)V"⟩ : MethodName) = true := by first | exact plainFor_of_name (by first | (simp [plainName, overriddenIn]; done) | decide +kernel) | decide +kernel
theorem ef_8 (m : MethodId) (x0 : Addr) (x1 : Int32) (x2 : Int32) : entryFrame m #[(.ref x0), (.int x1), (.int x2)] 4 = mkF m 0 #[.val (.ref x0), .val (.int x1), .val (.int x2), .unset] [] := by first | (simp [entryFrame, mkF, argsToLocals, Value.category]; done) | rfl
theorem d3_0 : decode prog_8_method_6_code 0 = .ok (.aload_n 0, 1) := by decide +kernel
theorem d3_1 : decode prog_8_method_6_code 1 = .ok (.iload_n 1, 1) := by decide +kernel
theorem d3_2 : decode prog_8_method_6_code 2 = .ok (.invokevirtual 27, 3) := by decide +kernel
theorem d3_5 : decode prog_8_method_6_code 5 = .ok (.aload_n 0, 1) := by decide +kernel
theorem d3_6 : decode prog_8_method_6_code 6 = .ok (.iload_n 1, 1) := by decide +kernel
theorem d3_7 : decode prog_8_method_6_code 7 = .ok (.aload_n 0, 1) := by decide +kernel
theorem d3_8 : decode prog_8_method_6_code 8 = .ok (.getfield 15, 3) := by decide +kernel
theorem d3_11 : decode prog_8_method_6_code 11 = .ok (.iload_n 1, 1) := by decide +kernel
theorem d3_12 : decode prog_8_method_6_code 12 = .ok (.iaload, 1) := by decide +kernel
theorem d3_13 : decode prog_8_method_6_code 13 = .ok (.iconst 1, 1) := by decide +kernel
theorem d3_14 : decode prog_8_method_6_code 14 = .ok (.iadd, 1) := by decide +kernel
theorem d3_15 : decode prog_8_method_6_code 15 = .ok (.invokevirtual 31, 3) := by decide +kernel
theorem d3_18 : decode prog_8_method_6_code 18 = .ok (.aload_n 0, 1) := by decide +kernel
theorem d3_19 : decode prog_8_method_6_code 19 = .ok (.getfield 9, 3) := by decide +kernel
theorem d3_22 : decode prog_8_method_6_code 22 = .ok (.iload_n 1, 1) := by decide +kernel
theorem d3_23 : decode prog_8_method_6_code 23 = .ok (.iaload, 1) := by decide +kernel
theorem d3_24 : decode prog_8_method_6_code 24 = .ok (.aload_n 0, 1) := by decide +kernel
theorem d3_25 : decode prog_8_method_6_code 25 = .ok (.getfield 15, 3) := by decide +kernel
theorem d3_28 : decode prog_8_method_6_code 28 = .ok (.iload_n 1, 1) := by decide +kernel
theorem d3_29 : decode prog_8_method_6_code 29 = .ok (.dup2, 1) := by decide +kernel
theorem d3_30 : decode prog_8_method_6_code 30 = .ok (.iaload, 1) := by decide +kernel
theorem d3_31 : decode prog_8_method_6_code 31 = .ok (.dup_x2, 1) := by decide +kernel
theorem d3_32 : decode prog_8_method_6_code 32 = .ok (.iconst 1, 1) := by decide +kernel
theorem d3_33 : decode prog_8_method_6_code 33 = .ok (.iadd, 1) := by decide +kernel
theorem d3_34 : decode prog_8_method_6_code 34 = .ok (.iastore, 1) := by decide +kernel
theorem d3_35 : decode prog_8_method_6_code 35 = .ok (.iadd, 1) := by decide +kernel
theorem d3_36 : decode prog_8_method_6_code 36 = .ok (.istore 4, 2) := by decide +kernel
theorem d3_38 : decode prog_8_method_6_code 38 = .ok (.aload_n 0, 1) := by decide +kernel
theorem d3_39 : decode prog_8_method_6_code 39 = .ok (.getfield 21, 3) := by decide +kernel
theorem d3_42 : decode prog_8_method_6_code 42 = .ok (.iload 4, 2) := by decide +kernel
theorem d3_44 : decode prog_8_method_6_code 44 = .ok (.iload_n 2, 1) := by decide +kernel
theorem d3_45 : decode prog_8_method_6_code 45 = .ok (.iastore, 1) := by decide +kernel
theorem d3_46 : decode prog_8_method_6_code 46 = .ok (.aload_n 0, 1) := by decide +kernel
theorem d3_47 : decode prog_8_method_6_code 47 = .ok (.getfield 24, 3) := by decide +kernel
theorem d3_50 : decode prog_8_method_6_code 50 = .ok (.iload 4, 2) := by decide +kernel
theorem d3_52 : decode prog_8_method_6_code 52 = .ok (.iload_n 3, 1) := by decide +kernel
theorem d3_53 : decode prog_8_method_6_code 53 = .ok (.iastore, 1) := by decide +kernel
theorem d3_54 : decode prog_8_method_6_code 54 = .ok (.return_, 1) := by decide +kernel
theorem pn_3 : plainFor (⟨"com/example/guarantor/guarantor/ag/EdgeLists", "add", "(III)V"⟩ : MethodName) = true := by first | exact plainFor_of_name (by first | (simp [plainName, overriddenIn]; done) | decide +kernel) | decide +kernel
theorem ef_3 (m : MethodId) (x0 : Addr) (x1 : Int32) (x2 : Int32) (x3 : Int32) : entryFrame m #[(.ref x0), (.int x1), (.int x2), (.int x3)] 5 = mkF m 0 #[.val (.ref x0), .val (.int x1), .val (.int x2), .val (.int x3), .unset] [] := by first | (simp [entryFrame, mkF, argsToLocals, Value.category]; done) | rfl
theorem d10_0 : decode prog_8_method_2_code 0 = .ok (.iload_n 1, 1) := by decide +kernel
theorem d10_1 : decode prog_8_method_2_code 1 = .ok (.aload_n 0, 1) := by decide +kernel
theorem d10_2 : decode prog_8_method_2_code 2 = .ok (.getfield 9, 3) := by decide +kernel
theorem d10_5 : decode prog_8_method_2_code 5 = .ok (.arraylength, 1) := by decide +kernel
theorem d10_6 : decode prog_8_method_2_code 6 = .ok (.if_icmp .ge 12, 3) := by decide +kernel
theorem d10_9 : decode prog_8_method_2_code 9 = .ok (.aload_n 0, 1) := by decide +kernel
theorem d10_10 : decode prog_8_method_2_code 10 = .ok (.getfield 9, 3) := by decide +kernel
theorem d10_13 : decode prog_8_method_2_code 13 = .ok (.iload_n 1, 1) := by decide +kernel
theorem d10_14 : decode prog_8_method_2_code 14 = .ok (.iaload, 1) := by decide +kernel
theorem d10_15 : decode prog_8_method_2_code 15 = .ok (.goto 4, 3) := by decide +kernel
theorem d10_18 : decode prog_8_method_2_code 18 = .ok (.iconst 0, 1) := by decide +kernel
theorem d10_19 : decode prog_8_method_2_code 19 = .ok (.ireturn, 1) := by decide +kernel
theorem pn_10 : plainFor (⟨"com/example/guarantor/guarantor/ag/EdgeLists", "start", "(I)I"⟩ : MethodName) = true := by first | exact plainFor_of_name (by first | (simp [plainName, overriddenIn]; done) | decide +kernel) | decide +kernel
theorem ef_10 (m : MethodId) (x0 : Addr) (x1 : Int32) : entryFrame m #[(.ref x0), (.int x1)] 2 = mkF m 0 #[.val (.ref x0), .val (.int x1)] [] := by first | (simp [entryFrame, mkF, argsToLocals, Value.category]; done) | rfl
theorem d11_0 : decode prog_8_method_3_code 0 = .ok (.iload_n 1, 1) := by decide +kernel
theorem d11_1 : decode prog_8_method_3_code 1 = .ok (.aload_n 0, 1) := by decide +kernel
theorem d11_2 : decode prog_8_method_3_code 2 = .ok (.getfield 9, 3) := by decide +kernel
theorem d11_5 : decode prog_8_method_3_code 5 = .ok (.arraylength, 1) := by decide +kernel
theorem d11_6 : decode prog_8_method_3_code 6 = .ok (.if_icmp .ge 19, 3) := by decide +kernel
theorem d11_9 : decode prog_8_method_3_code 9 = .ok (.aload_n 0, 1) := by decide +kernel
theorem d11_10 : decode prog_8_method_3_code 10 = .ok (.getfield 9, 3) := by decide +kernel
theorem d11_13 : decode prog_8_method_3_code 13 = .ok (.iload_n 1, 1) := by decide +kernel
theorem d11_14 : decode prog_8_method_3_code 14 = .ok (.iaload, 1) := by decide +kernel
theorem d11_15 : decode prog_8_method_3_code 15 = .ok (.aload_n 0, 1) := by decide +kernel
theorem d11_16 : decode prog_8_method_3_code 16 = .ok (.getfield 15, 3) := by decide +kernel
theorem d11_19 : decode prog_8_method_3_code 19 = .ok (.iload_n 1, 1) := by decide +kernel
theorem d11_20 : decode prog_8_method_3_code 20 = .ok (.iaload, 1) := by decide +kernel
theorem d11_21 : decode prog_8_method_3_code 21 = .ok (.iadd, 1) := by decide +kernel
theorem d11_22 : decode prog_8_method_3_code 22 = .ok (.goto 4, 3) := by decide +kernel
theorem d11_25 : decode prog_8_method_3_code 25 = .ok (.iconst 0, 1) := by decide +kernel
theorem d11_26 : decode prog_8_method_3_code 26 = .ok (.ireturn, 1) := by decide +kernel
theorem pn_11 : plainFor (⟨"com/example/guarantor/guarantor/ag/EdgeLists", "end", "(I)I"⟩ : MethodName) = true := by first | exact plainFor_of_name (by first | (simp [plainName, overriddenIn]; done) | decide +kernel) | decide +kernel
theorem ef_11 (m : MethodId) (x0 : Addr) (x1 : Int32) : entryFrame m #[(.ref x0), (.int x1)] 2 = mkF m 0 #[.val (.ref x0), .val (.int x1)] [] := by first | (simp [entryFrame, mkF, argsToLocals, Value.category]; done) | rfl
theorem d12_0 : decode prog_8_method_4_code 0 = .ok (.aload_n 0, 1) := by decide +kernel
theorem d12_1 : decode prog_8_method_4_code 1 = .ok (.getfield 21, 3) := by decide +kernel
theorem d12_4 : decode prog_8_method_4_code 4 = .ok (.iload_n 1, 1) := by decide +kernel
theorem d12_5 : decode prog_8_method_4_code 5 = .ok (.iaload, 1) := by decide +kernel
theorem d12_6 : decode prog_8_method_4_code 6 = .ok (.ireturn, 1) := by decide +kernel
theorem pn_12 : plainFor (⟨"com/example/guarantor/guarantor/ag/EdgeLists", "action", "(I)I"⟩ : MethodName) = true := by first | exact plainFor_of_name (by first | (simp [plainName, overriddenIn]; done) | decide +kernel) | decide +kernel
theorem ef_12 (m : MethodId) (x0 : Addr) (x1 : Int32) : entryFrame m #[(.ref x0), (.int x1)] 2 = mkF m 0 #[.val (.ref x0), .val (.int x1)] [] := by first | (simp [entryFrame, mkF, argsToLocals, Value.category]; done) | rfl
theorem d13_0 : decode prog_8_method_7_code 0 = .ok (.aload_n 0, 1) := by decide +kernel
theorem d13_1 : decode prog_8_method_7_code 1 = .ok (.iload_n 1, 1) := by decide +kernel
theorem d13_2 : decode prog_8_method_7_code 2 = .ok (.invokevirtual 35, 3) := by decide +kernel
theorem d13_5 : decode prog_8_method_7_code 5 = .ok (.iconst 1, 1) := by decide +kernel
theorem d13_6 : decode prog_8_method_7_code 6 = .ok (.isub, 1) := by decide +kernel
theorem d13_7 : decode prog_8_method_7_code 7 = .ok (.istore 4, 2) := by decide +kernel
theorem d13_9 : decode prog_8_method_7_code 9 = .ok (.aload_n 0, 1) := by decide +kernel
theorem d13_10 : decode prog_8_method_7_code 10 = .ok (.iload_n 1, 1) := by decide +kernel
theorem d13_11 : decode prog_8_method_7_code 11 = .ok (.invokevirtual 39, 3) := by decide +kernel
theorem d13_14 : decode prog_8_method_7_code 14 = .ok (.istore 5, 2) := by decide +kernel
theorem d13_16 : decode prog_8_method_7_code 16 = .ok (.iload 5, 2) := by decide +kernel
theorem d13_18 : decode prog_8_method_7_code 18 = .ok (.iload 4, 2) := by decide +kernel
theorem d13_20 : decode prog_8_method_7_code 20 = .ok (.if_icmp .gt 70, 3) := by decide +kernel
theorem d13_23 : decode prog_8_method_7_code 23 = .ok (.aload_n 0, 1) := by decide +kernel
theorem d13_24 : decode prog_8_method_7_code 24 = .ok (.getfield 21, 3) := by decide +kernel
theorem d13_27 : decode prog_8_method_7_code 27 = .ok (.iload 5, 2) := by decide +kernel
theorem d13_29 : decode prog_8_method_7_code 29 = .ok (.iaload, 1) := by decide +kernel
theorem d13_30 : decode prog_8_method_7_code 30 = .ok (.iload_n 2, 1) := by decide +kernel
theorem d13_31 : decode prog_8_method_7_code 31 = .ok (.if_icmp .ne 53, 3) := by decide +kernel
theorem d13_34 : decode prog_8_method_7_code 34 = .ok (.aload_n 0, 1) := by decide +kernel
theorem d13_35 : decode prog_8_method_7_code 35 = .ok (.getfield 24, 3) := by decide +kernel
theorem d13_38 : decode prog_8_method_7_code 38 = .ok (.iload 5, 2) := by decide +kernel
theorem d13_40 : decode prog_8_method_7_code 40 = .ok (.iaload, 1) := by decide +kernel
theorem d13_41 : decode prog_8_method_7_code 41 = .ok (.iload_n 3, 1) := by decide +kernel
theorem d13_42 : decode prog_8_method_7_code 42 = .ok (.if_icmp .ne 42, 3) := by decide +kernel
theorem d13_45 : decode prog_8_method_7_code 45 = .ok (.aload_n 0, 1) := by decide +kernel
theorem d13_46 : decode prog_8_method_7_code 46 = .ok (.getfield 21, 3) := by decide +kernel
theorem d13_49 : decode prog_8_method_7_code 49 = .ok (.iload 5, 2) := by decide +kernel
theorem d13_51 : decode prog_8_method_7_code 51 = .ok (.aload_n 0, 1) := by decide +kernel
theorem d13_52 : decode prog_8_method_7_code 52 = .ok (.getfield 21, 3) := by decide +kernel
theorem d13_55 : decode prog_8_method_7_code 55 = .ok (.iload 4, 2) := by decide +kernel
theorem d13_57 : decode prog_8_method_7_code 57 = .ok (.iaload, 1) := by decide +kernel
theorem d13_58 : decode prog_8_method_7_code 58 = .ok (.iastore, 1) := by decide +kernel
theorem d13_59 : decode prog_8_method_7_code 59 = .ok (.aload_n 0, 1) := by decide +kernel
theorem d13_60 : decode prog_8_method_7_code 60 = .ok (.getfield 24, 3) := by decide +kernel
theorem d13_63 : decode prog_8_method_7_code 63 = .ok (.iload 5, 2) := by decide +kernel
theorem d13_65 : decode prog_8_method_7_code 65 = .ok (.aload_n 0, 1) := by decide +kernel
theorem d13_66 : decode prog_8_method_7_code 66 = .ok (.getfield 24, 3) := by decide +kernel
theorem d13_69 : decode prog_8_method_7_code 69 = .ok (.iload 4, 2) := by decide +kernel
theorem d13_71 : decode prog_8_method_7_code 71 = .ok (.iaload, 1) := by decide +kernel
theorem d13_72 : decode prog_8_method_7_code 72 = .ok (.iastore, 1) := by decide +kernel
theorem d13_73 : decode prog_8_method_7_code 73 = .ok (.aload_n 0, 1) := by decide +kernel
theorem d13_74 : decode prog_8_method_7_code 74 = .ok (.getfield 15, 3) := by decide +kernel
theorem d13_77 : decode prog_8_method_7_code 77 = .ok (.iload_n 1, 1) := by decide +kernel
theorem d13_78 : decode prog_8_method_7_code 78 = .ok (.dup2, 1) := by decide +kernel
theorem d13_79 : decode prog_8_method_7_code 79 = .ok (.iaload, 1) := by decide +kernel
theorem d13_80 : decode prog_8_method_7_code 80 = .ok (.iconst 1, 1) := by decide +kernel
theorem d13_81 : decode prog_8_method_7_code 81 = .ok (.isub, 1) := by decide +kernel
theorem d13_82 : decode prog_8_method_7_code 82 = .ok (.iastore, 1) := by decide +kernel
theorem d13_83 : decode prog_8_method_7_code 83 = .ok (.return_, 1) := by decide +kernel
theorem d13_84 : decode prog_8_method_7_code 84 = .ok (.iinc 5 1, 3) := by decide +kernel
theorem d13_87 : decode prog_8_method_7_code 87 = .ok (.goto (-71), 3) := by decide +kernel
theorem d13_90 : decode prog_8_method_7_code 90 = .ok (.new 42, 3) := by decide +kernel
theorem d13_93 : decode prog_8_method_7_code 93 = .ok (.dup, 1) := by decide +kernel
theorem d13_94 : decode prog_8_method_7_code 94 = .ok (.iload_n 1, 1) := by decide +kernel
theorem d13_95 : decode prog_8_method_7_code 95 = .ok (.invokedynamic 44, 5) := by decide +kernel
theorem d13_100 : decode prog_8_method_7_code 100 = .ok (.invokespecial 48, 3) := by decide +kernel
theorem d13_103 : decode prog_8_method_7_code 103 = .ok (.athrow, 1) := by decide +kernel
theorem pn_13 : plainFor (⟨"com/example/guarantor/guarantor/ag/EdgeLists", "remove", "(III)V"⟩ : MethodName) = true := by first | exact plainFor_of_name (by first | (simp [plainName, overriddenIn]; done) | decide +kernel) | decide +kernel
theorem ef_13 (m : MethodId) (x0 : Addr) (x1 : Int32) (x2 : Int32) (x3 : Int32) : entryFrame m #[(.ref x0), (.int x1), (.int x2), (.int x3)] 6 = mkF m 0 #[.val (.ref x0), .val (.int x1), .val (.int x2), .val (.int x3), .unset, .unset] [] := by first | (simp [entryFrame, mkF, argsToLocals, Value.category]; done) | rfl
theorem pn_0 : plainFor (⟨"com/example/guarantor/guarantor/ag/EdgeListsEndPinLaw", "law", "(IIIIII)Z"⟩ : MethodName) = true := by first | exact plainFor_of_name (by first | (simp [plainName, overriddenIn]; done) | decide +kernel) | decide +kernel
theorem ef_0 (m : MethodId) (x0 : Int32) (x1 : Int32) (x2 : Int32) (x3 : Int32) (x4 : Int32) (x5 : Int32) : entryFrame m #[(.int x0), (.int x1), (.int x2), (.int x3), (.int x4), (.int x5)] maxLocals = mkF m 0 #[.val (.int x0), .val (.int x1), .val (.int x2), .val (.int x3), .val (.int x4), .val (.int x5), .unset, .unset, .unset, .unset, .unset, .unset, .unset, .unset, .unset, .unset, .unset, .unset] [] := by first | (simp [entryFrame, mkF, argsToLocals, Value.category, maxLocals]; done) | rfl
set_option maxRecDepth 65536 in
set_option maxHeartbeats 40000000 in
theorem rmMaxI (l : Launch) (Z : State) (a0 : Array Value) (hw : ∀ d ∈ tables_1, d.before a0 Z = true) (ws : List Jvm.Cond) (x1 x2 : Int32) (h0 : Heap)  :
    own_Met l Z ws (⟨"java/lang/Math", "max", "(II)I"⟩ : MethodName) jdk_29_method_65_code 2 (some .int) ({ frames := 0, cells := 0, slots := 0, locals := 0 } : Room) #[(.int x1), (.int x2)] h0 (fun v h L => ∃ z : Int32, v = some (.int z) ∧ ((z = x1 ∧ x2.toInt ≤ x1.toInt) ∨ (z = x2 ∧ x1.toInt < x2.toInt)) ∧ h = h0 ∧ L = []) := by
  refine own_met pn_5 ?_
  intro p e s m below meth c s₁ hx hby hml hown hnm hret hlk hZ X0 e0
  refine own_entry (ef_5 m x1 x2) ?_
  show own_Go p e below _ (s₁.setTop (mkF m 0 #[.val (.int x1), .val (.int x2)] []))
  refine own_go (fun tt kk => XS.iloadN X0.here hx rfl (hb hby d5_0) rfl kk) ?_
  show own_Go p e below _ (s₁.setTop (mkF m 1 #[.val (.int x1), .val (.int x2)] [(.int x1)]))
  refine own_go (fun tt kk => XS.iloadN X0.here hx rfl (hb hby d5_1) rfl kk) ?_
  show own_Go p e below _ (s₁.setTop (mkF m 2 #[.val (.int x1), .val (.int x2)] [(.int x2), (.int x1)]))
  by_cases hc2 : x1.toInt < x2.toInt
  · refine own_go (fun tt kk => XS.icmpYes X0.here hx rfl (pc0 := 2) (pc' := 9) rfl (hb hby d5_2) rfl (tlt (own_lt32 (x := x1) (y := x2) (i := x1.toInt) (j := x2.toInt) rfl rfl hc2)).1 (by decide) (by decide) kk) ?_
    show own_Go p e below _ (s₁.setTop (mkF m 9 #[.val (.int x1), .val (.int x2)] []))
    refine own_go (fun tt kk => XS.iloadN X0.here hx rfl (hb hby d5_9) rfl kk) ?_
    show own_Go p e below _ (s₁.setTop (mkF m 10 #[.val (.int x1), .val (.int x2)] [(.int x2)]))
    exact own_retI X0 hx hlk hret (hb hby d5_10) ⟨x2, rfl, by first | exact Or.inl ⟨rfl, by omega⟩ | exact Or.inr ⟨rfl, by omega⟩, e0, rfl⟩ (by decide) (by decide)
  · refine own_go (fun tt kk => XS.icmpNo X0.here hx rfl (hb hby d5_2) rfl (flt (own_nlt32 (x := x1) (y := x2) (i := x1.toInt) (j := x2.toInt) rfl rfl hc2)).1 kk) ?_
    show own_Go p e below _ (s₁.setTop (mkF m 5 #[.val (.int x1), .val (.int x2)] []))
    refine own_go (fun tt kk => XS.iloadN X0.here hx rfl (hb hby d5_5) rfl kk) ?_
    show own_Go p e below _ (s₁.setTop (mkF m 6 #[.val (.int x1), .val (.int x2)] [(.int x1)]))
    refine own_go (fun tt kk => XS.goto X0.here hx rfl (pc0 := 6) (pc' := 10) rfl (hb hby d5_6) (by decide) (by decide) kk) ?_
    show own_Go p e below _ (s₁.setTop (mkF m 10 #[.val (.int x1), .val (.int x2)] [(.int x1)]))
    exact own_retI X0 hx hlk hret (hb hby d5_10) ⟨x1, rfl, by first | exact Or.inl ⟨rfl, by omega⟩ | exact Or.inr ⟨rfl, by omega⟩, e0, rfl⟩ (by decide) (by decide)
set_option maxRecDepth 65536 in
set_option maxHeartbeats 40000000 in
theorem rmMinI (l : Launch) (Z : State) (a0 : Array Value) (hw : ∀ d ∈ tables_1, d.before a0 Z = true) (ws : List Jvm.Cond) (x1 x2 : Int32) (h0 : Heap)  :
    own_Met l Z ws (⟨"java/lang/Math", "min", "(II)I"⟩ : MethodName) jdk_29_method_69_code 2 (some .int) ({ frames := 0, cells := 0, slots := 0, locals := 0 } : Room) #[(.int x1), (.int x2)] h0 (fun v h L => ∃ z : Int32, v = some (.int z) ∧ ((z = x1 ∧ x1.toInt ≤ x2.toInt) ∨ (z = x2 ∧ x2.toInt < x1.toInt)) ∧ h = h0 ∧ L = []) := by
  refine own_met pn_7 ?_
  intro p e s m below meth c s₁ hx hby hml hown hnm hret hlk hZ X0 e0
  refine own_entry (ef_7 m x1 x2) ?_
  show own_Go p e below _ (s₁.setTop (mkF m 0 #[.val (.int x1), .val (.int x2)] []))
  refine own_go (fun tt kk => XS.iloadN X0.here hx rfl (hb hby d7_0) rfl kk) ?_
  show own_Go p e below _ (s₁.setTop (mkF m 1 #[.val (.int x1), .val (.int x2)] [(.int x1)]))
  refine own_go (fun tt kk => XS.iloadN X0.here hx rfl (hb hby d7_1) rfl kk) ?_
  show own_Go p e below _ (s₁.setTop (mkF m 2 #[.val (.int x1), .val (.int x2)] [(.int x2), (.int x1)]))
  by_cases hc2 : x2.toInt < x1.toInt
  · refine own_go (fun tt kk => XS.icmpYes X0.here hx rfl (pc0 := 2) (pc' := 9) rfl (hb hby d7_2) rfl (tlt (own_lt32 (x := x2) (y := x1) (i := x2.toInt) (j := x1.toInt) rfl rfl hc2)).2.2.1 (by decide) (by decide) kk) ?_
    show own_Go p e below _ (s₁.setTop (mkF m 9 #[.val (.int x1), .val (.int x2)] []))
    refine own_go (fun tt kk => XS.iloadN X0.here hx rfl (hb hby d7_9) rfl kk) ?_
    show own_Go p e below _ (s₁.setTop (mkF m 10 #[.val (.int x1), .val (.int x2)] [(.int x2)]))
    exact own_retI X0 hx hlk hret (hb hby d7_10) ⟨x2, rfl, by first | exact Or.inl ⟨rfl, by omega⟩ | exact Or.inr ⟨rfl, by omega⟩, e0, rfl⟩ (by decide) (by decide)
  · refine own_go (fun tt kk => XS.icmpNo X0.here hx rfl (hb hby d7_2) rfl (flt (own_nlt32 (x := x2) (y := x1) (i := x2.toInt) (j := x1.toInt) rfl rfl hc2)).2.2.1 kk) ?_
    show own_Go p e below _ (s₁.setTop (mkF m 5 #[.val (.int x1), .val (.int x2)] []))
    refine own_go (fun tt kk => XS.iloadN X0.here hx rfl (hb hby d7_5) rfl kk) ?_
    show own_Go p e below _ (s₁.setTop (mkF m 6 #[.val (.int x1), .val (.int x2)] [(.int x1)]))
    refine own_go (fun tt kk => XS.goto X0.here hx rfl (pc0 := 6) (pc' := 10) rfl (hb hby d7_6) (by decide) (by decide) kk) ?_
    show own_Go p e below _ (s₁.setTop (mkF m 10 #[.val (.int x1), .val (.int x2)] [(.int x1)]))
    exact own_retI X0 hx hlk hret (hb hby d7_10) ⟨x1, rfl, by first | exact Or.inl ⟨rfl, by omega⟩ | exact Or.inr ⟨rfl, by omega⟩, e0, rfl⟩ (by decide) (by decide)
set_option maxRecDepth 65536 in
set_option maxHeartbeats 40000000 in
theorem rmMinJ (l : Launch) (Z : State) (a0 : Array Value) (hw : ∀ d ∈ tables_1, d.before a0 Z = true) (ws : List Jvm.Cond) (x1 x2 : Int64) (h0 : Heap)  :
    own_Met l Z ws (⟨"java/lang/Math", "min", "(JJ)J"⟩ : MethodName) jdk_29_method_70_code 4 (some .long) ({ frames := 0, cells := 0, slots := 0, locals := 0 } : Room) #[(.long x1), (.long x2)] h0 (fun v h L => ∃ z : Int64, v = some (.long z) ∧ ((z = x1 ∧ x1.toInt ≤ x2.toInt) ∨ (z = x2 ∧ x2.toInt < x1.toInt)) ∧ h = h0 ∧ L = []) := by
  refine own_met pn_9 ?_
  intro p e s m below meth c s₁ hx hby hml hown hnm hret hlk hZ X0 e0
  refine own_entry (ef_9 m x1 x2) ?_
  show own_Go p e below _ (s₁.setTop (mkF m 0 #[.val (.long x1), .second, .val (.long x2), .second] []))
  refine own_go (fun tt kk => XS.lloadN X0.here hx rfl (hb hby d9_0) rfl kk) ?_
  show own_Go p e below _ (s₁.setTop (mkF m 1 #[.val (.long x1), .second, .val (.long x2), .second] [(.long x1)]))
  refine own_go (fun tt kk => XS.lloadN X0.here hx rfl (hb hby d9_1) rfl kk) ?_
  show own_Go p e below _ (s₁.setTop (mkF m 2 #[.val (.long x1), .second, .val (.long x2), .second] [(.long x2), (.long x1)]))
  refine own_go (fun tt kk => XS.lcmp X0.here hx rfl (hb hby d9_2) rfl kk) ?_
  show own_Go p e below _ (s₁.setTop (mkF m 3 #[.val (.long x1), .second, .val (.long x2), .second] [(.int (lcmpW x1 x2))]))
  by_cases hc3 : x2.toInt < x1.toInt
  · refine own_go (fun tt kk => XS.ifYes X0.here hx rfl (pc0 := 3) (pc' := 10) rfl (hb hby d9_3) rfl ((if0 _ _).trans (tlt ((lw_gt x1 x2).mpr (own_lt64 (x := x2) (y := x1) (i := x2.toInt) (j := x1.toInt) rfl rfl hc3))).2.2.1) (by decide) (by decide) kk) ?_
    show own_Go p e below _ (s₁.setTop (mkF m 10 #[.val (.long x1), .second, .val (.long x2), .second] []))
    refine own_go (fun tt kk => XS.lloadN X0.here hx rfl (hb hby d9_10) rfl kk) ?_
    show own_Go p e below _ (s₁.setTop (mkF m 11 #[.val (.long x1), .second, .val (.long x2), .second] [(.long x2)]))
    exact own_retJ X0 hx hlk hret (hb hby d9_11) ⟨x2, rfl, by first | exact Or.inl ⟨rfl, by omega⟩ | exact Or.inr ⟨rfl, by omega⟩, e0, rfl⟩ (by decide) (by decide)
  · refine own_go (fun tt kk => XS.ifNo X0.here hx rfl (hb hby d9_3) rfl ((if0 _ _).trans (flt (fun q => (own_nlt64 (x := x2) (y := x1) (i := x2.toInt) (j := x1.toInt) rfl rfl hc3) ((lw_gt x1 x2).mp q))).2.2.1) kk) ?_
    show own_Go p e below _ (s₁.setTop (mkF m 6 #[.val (.long x1), .second, .val (.long x2), .second] []))
    refine own_go (fun tt kk => XS.lloadN X0.here hx rfl (hb hby d9_6) rfl kk) ?_
    show own_Go p e below _ (s₁.setTop (mkF m 7 #[.val (.long x1), .second, .val (.long x2), .second] [(.long x1)]))
    refine own_go (fun tt kk => XS.goto X0.here hx rfl (pc0 := 7) (pc' := 11) rfl (hb hby d9_7) (by decide) (by decide) kk) ?_
    show own_Go p e below _ (s₁.setTop (mkF m 11 #[.val (.long x1), .second, .val (.long x2), .second] [(.long x1)]))
    exact own_retJ X0 hx hlk hret (hb hby d9_11) ⟨x1, rfl, by first | exact Or.inl ⟨rfl, by omega⟩ | exact Or.inr ⟨rfl, by omega⟩, e0, rfl⟩ (by decide) (by decide)
set_option maxRecDepth 65536 in
set_option maxHeartbeats 40000000 in
theorem rmCopy (l : Launch) (Z : State) (a0 : Array Value) (hw : ∀ d ∈ tables_1, d.before a0 Z = true) (ws : List Jvm.Cond) (a1 : Addr) (n : Nat) (g : Nat → Int32) (p2 : Int32) (M n0 : Nat) (h0 : Heap) (A : own_Ar Z h0 a1 .int n (own_I g)) (hp : p2.toInt = M) (hM : n < M) (hM' : M ≤ 16) (g0 : n0 ≤ h0.size) :
    own_Met l Z ws (⟨"java/util/Arrays", "copyOf", "([II)[I"⟩ : MethodName) jdk_65_method_123_code 3 (some (.array .int)) ({ frames := 1, cells := 1, slots := 16, locals := 60 } : Room) #[(.ref a1), (.int p2)] h0 (fun v h L => ∃ t : Addr, v = some (.ref t) ∧ own_Ar Z h t .int M (own_I fun i => if i < n then g i else 0) ∧ h0.size ≤ t ∧ Keep h0 h [] ∧ Fr n0 L) := by
  refine own_met pn_6 ?_
  intro p e s m below meth c s₁ hx hby hml hown hnm hret hlk hZ X0 e0
  refine own_entry (ef_6 m a1 p2) ?_
  show own_Go p e below _ (s₁.setTop (mkF m 0 #[.val (.ref a1), .val (.int p2), .unset] []))
  have hn : n.toInt32.toInt = n := len_toInt A.1
  have z0 : (0 : Int32).toInt = ((0 : Nat) : Int) := rfl
  refine own_go (fun tt kk => XS.iloadN X0.here hx rfl (hb hby d6_0) rfl kk) ?_
  show own_Go p e below _ (s₁.setTop (mkF m 1 #[.val (.ref a1), .val (.int p2), .unset] [(.int p2)]))
  refine own_go (fun tt kk => XS.aloadN X0.here hx rfl (hb hby d6_1) rfl rfl kk) ?_
  show own_Go p e below _ (s₁.setTop (mkF m 2 #[.val (.ref a1), .val (.int p2), .unset] [(.ref a1), (.int p2)]))
  refine own_go (own_alen X0 hx hZ e0 A (pc := 2) (Ls := #[.val (.ref a1), .val (.int p2), .unset]) (rest := [(.int p2)]) (hb hby d6_2)) ?_
  show own_Go p e below _ (s₁.setTop (mkF m 3 #[.val (.ref a1), .val (.int p2), .unset] [(.int n.toInt32), (.int p2)]))
  refine own_go (fun tt kk => XS.icmpYes X0.here hx rfl (pc0 := 3) (pc' := 14) rfl (hb hby d6_3) rfl (feq (own_neq32 (x := p2) (y := n.toInt32) (i := p2.toInt) (j := (n.toInt32).toInt) rfl rfl (by omega))).2 (by decide) (by decide) kk) ?_
  show own_Go p e below _ (s₁.setTop (mkF m 14 #[.val (.ref a1), .val (.int p2), .unset] []))
  refine own_go (fun tt kk => XS.iloadN X0.here hx rfl (hb hby d6_14) rfl kk) ?_
  show own_Go p e below _ (s₁.setTop (mkF m 15 #[.val (.ref a1), .val (.int p2), .unset] [(.int p2)]))
  obtain ⟨T1, h1, X1, e1, E1, A1, st1⟩ := own_newarr X0 hx hZ (hw _ (List.mem_of_getElem? (i := 10) rfl)) e0 (n := p2) (N := M) hp (cap := 16) (by omega) (by decide) (by decide) (by decide) (pc := 15) (Ls := #[.val (.ref a1), .val (.int p2), .unset]) (rest := []) (hb hby d6_15)
  obtain ⟨t, qe1⟩ : ∃ z, z = h0.size := ⟨_, rfl⟩
  rw [← qe1] at A1 st1
  refine own_go st1 ?_
  show own_Go p e below _ (T1.setTop (mkF m 17 #[.val (.ref a1), .val (.int p2), .unset] [(.ref t)]))
  have A' := A.ext E1
  refine own_go (fun tt kk => XS.astoreN X1.here hx rfl (hb hby d6_17) rfl rfl (l' := #[.val (.ref a1), .val (.int p2), .val (.ref t)]) rfl kk) ?_
  show own_Go p e below _ (T1.setTop (mkF m 18 #[.val (.ref a1), .val (.int p2), .val (.ref t)] []))
  refine own_go (fun tt kk => XS.aloadN X1.here hx rfl (hb hby d6_18) rfl rfl kk) ?_
  show own_Go p e below _ (T1.setTop (mkF m 19 #[.val (.ref a1), .val (.int p2), .val (.ref t)] [(.ref a1)]))
  refine own_go (fun tt kk => XS.iconst X1.here hx rfl (hb hby d6_19) kk) ?_
  show own_Go p e below _ (T1.setTop (mkF m 20 #[.val (.ref a1), .val (.int p2), .val (.ref t)] [(.int (0 : Int32)), (.ref a1)]))
  refine own_go (fun tt kk => XS.aloadN X1.here hx rfl (hb hby d6_20) rfl rfl kk) ?_
  show own_Go p e below _ (T1.setTop (mkF m 21 #[.val (.ref a1), .val (.int p2), .val (.ref t)] [(.ref t), (.int (0 : Int32)), (.ref a1)]))
  refine own_go (fun tt kk => XS.iconst X1.here hx rfl (hb hby d6_21) kk) ?_
  show own_Go p e below _ (T1.setTop (mkF m 22 #[.val (.ref a1), .val (.int p2), .val (.ref t)] [(.int (0 : Int32)), (.ref t), (.int (0 : Int32)), (.ref a1)]))
  refine own_go (fun tt kk => XS.aloadN X1.here hx rfl (hb hby d6_22) rfl rfl kk) ?_
  show own_Go p e below _ (T1.setTop (mkF m 23 #[.val (.ref a1), .val (.int p2), .val (.ref t)] [(.ref a1), (.int (0 : Int32)), (.ref t), (.int (0 : Int32)), (.ref a1)]))
  refine own_go (own_alen X1 hx hZ e1 A' (pc := 23) (Ls := #[.val (.ref a1), .val (.int p2), .val (.ref t)]) (rest := [(.int (0 : Int32)), (.ref t), (.int (0 : Int32)), (.ref a1)]) (hb hby d6_23)) ?_
  show own_Go p e below _ (T1.setTop (mkF m 24 #[.val (.ref a1), .val (.int p2), .val (.ref t)] [(.int n.toInt32), (.int (0 : Int32)), (.ref t), (.int (0 : Int32)), (.ref a1)]))
  refine own_go (fun tt kk => XS.iloadN X1.here hx rfl (hb hby d6_24) rfl kk) ?_
  show own_Go p e below _ (T1.setTop (mkF m 25 #[.val (.ref a1), .val (.int p2), .val (.ref t)] [(.int p2), (.int n.toInt32), (.int (0 : Int32)), (.ref t), (.int (0 : Int32)), (.ref a1)]))
  obtain ⟨v2, L2, T2, X2, qq2, st2⟩ := own_callS X1 hx hZ hown (hw _ (List.mem_of_getElem? (i := 40) rfl)) (hw _ (List.mem_of_getElem? (i := 41) rfl)) (hw _ (List.mem_of_getElem? (i := 34) rfl)) (hw _ (List.mem_of_getElem? (i := 42) rfl)) (by decide) (rmMinI l Z a0 hw [] n.toInt32 p2 h1) e1 (pc := 25) (Ls := #[.val (.ref a1), .val (.int p2), .val (.ref t)]) (argsL := [(.int n.toInt32), (.int p2)]) (rest := [(.int (0 : Int32)), (.ref t), (.int (0 : Int32)), (.ref a1)]) rfl (by rw [hml]; rfl) pd_0 rfl rfl (hb hby d6_25) 4 (Nat.le_of_eq rfl) (by decide) (by decide) (by decide) (by decide)
  obtain ⟨z2, rfl, hz2, hh2, rfl⟩ := qq2
  refine own_go st2 ?_
  show own_Go p e below _ (T2.setTop (mkF m 28 #[.val (.ref a1), .val (.int p2), .val (.ref t)] [(.int z2), (.int (0 : Int32)), (.ref t), (.int (0 : Int32)), (.ref a1)]))
  have hzn : z2.toInt = n := by rcases hz2 with ⟨rfl, _⟩ | ⟨rfl, _⟩ <;> omega
  obtain ⟨T3, h3, L3, X3, e3, N3, K3, A3, st3⟩ := own_arraycopy X2 hx hZ hown (hw _ (List.mem_of_getElem? (i := 43) rfl)) (hw _ (List.mem_of_getElem? (i := 46) rfl)) (hw _ (List.mem_of_getElem? (i := 44) rfl)) (hw _ (List.mem_of_getElem? (i := 45) rfl)) hh2 (sp := (0 : Int32)) (dp := (0 : Int32)) (nn := z2) A' A1 z0 z0 hzn (by omega) (by omega) (Fr.app (Fr.nil n0) (Fr.nil n0)) (show n0 ≤ t by omega) (pc := 28) (Ls := #[.val (.ref a1), .val (.int p2), .val (.ref t)]) (by rw [hml]; rfl) (rest := []) (hb hby d6_28) (by decide) 0 (Nat.le_of_eq rfl) (by decide)
  refine own_go st3 ?_
  show own_Go p e below _ (T3.setTop (mkF m 31 #[.val (.ref a1), .val (.int p2), .val (.ref t)] []))
  refine own_go (fun tt kk => XS.aloadN X3.here hx rfl (hb hby d6_31) rfl rfl kk) ?_
  show own_Go p e below _ (T3.setTop (mkF m 32 #[.val (.ref a1), .val (.int p2), .val (.ref t)] [(.ref t)]))
  exact own_retA X3 hx hlk hret rfl rfl (hb hby d6_32) ⟨t, rfl, by rw [e3]; exact A3.congr fun x hx' => congrArg Value.int (own_cpy x n g), Nat.le_of_eq qe1.symm, by rw [e3]; exact ((Keep.refl h0 []).ext E1).trans K3 (fun x hx' => by cases List.mem_singleton.mp hx'; exact Or.inr (Nat.le_of_eq qe1.symm)), N3⟩ (by decide) (by decide)
set_option maxRecDepth 65536 in
set_option maxHeartbeats 40000000 in
theorem rmInit (l : Launch) (Z : State) (a0 : Array Value) (hw : ∀ d ∈ tables_1, d.before a0 Z = true) (ws : List Jvm.Cond) (o : Addr) (n0 : Nat) (h0 : Heap) (Ex : Exa Z h0 o own_EC) (F_s : Fld Z h0 o own_EC "starts" "[I" .null) (F_c : Fld Z h0 o own_EC "counts" "[I" .null) (F_r : Fld Z h0 o own_EC "rooms" "[I" .null) (F_a : Fld Z h0 o own_EC "actions" "[I" .null) (F_b : Fld Z h0 o own_EC "neighbours" "[I" .null) (F_U : Fld Z h0 o own_EC "used" "I" (.int 0)) (F_W : Fld Z h0 o own_EC "stateCount" "I" (.int 0)) (go : n0 ≤ o) (g0 : n0 ≤ h0.size) :
    own_Met l Z ws (⟨"com/example/guarantor/guarantor/ag/EdgeLists", "<init>", "()V"⟩ : MethodName) prog_8_method_1_code 1 none ({ frames := 1, cells := 5, slots := 128, locals := 12 } : Room) #[(.ref o)] h0 (fun v h L => v = none ∧ (∃ s c r a b, own_El Z n0 h o s c r a b 0 0 0 (fun _ => 0) (fun _ => 0) (fun _ => 0) (fun _ => 0) (fun _ => 0) 0 0) ∧ Fr n0 L) := by
  refine own_met pn_1 ?_
  intro p e s m below meth c s₁ hx hby hml hown hnm hret hlk hZ X0 e0
  refine own_entry (ef_1 m o) ?_
  show own_Go p e below _ (s₁.setTop (mkF m 0 #[.val (.ref o)] []))
  have lo := own_gt Ex.lt
  have L_s : Laid Z a0 own_EC own_EC "starts" "[I" := Or.inl (hw _ (List.mem_of_getElem? (i := 12) rfl))
  have L_c : Laid Z a0 own_EC own_EC "counts" "[I" := Or.inl (hw _ (List.mem_of_getElem? (i := 14) rfl))
  have L_r : Laid Z a0 own_EC own_EC "rooms" "[I" := Or.inl (hw _ (List.mem_of_getElem? (i := 16) rfl))
  have L_a : Laid Z a0 own_EC own_EC "actions" "[I" := Or.inl (hw _ (List.mem_of_getElem? (i := 18) rfl))
  have L_b : Laid Z a0 own_EC own_EC "neighbours" "[I" := Or.inl (hw _ (List.mem_of_getElem? (i := 20) rfl))
  have L_U : Laid Z a0 own_EC own_EC "used" "I" := Or.inl (hw _ (List.mem_of_getElem? (i := 56) rfl))
  have L_W : Laid Z a0 own_EC own_EC "stateCount" "I" := Or.inl (hw _ (List.mem_of_getElem? (i := 31) rfl))
  refine own_go (fun tt kk => XS.aloadN X0.here hx rfl (hb hby d1_0) rfl rfl kk) ?_
  show own_Go p e below _ (s₁.setTop (mkF m 1 #[.val (.ref o)] [(.ref o)]))
  obtain ⟨T1, X1, e1, st1⟩ := initO X0 hx hZ hown (hw _ (List.mem_of_getElem? (i := 7) rfl)) (hw _ (List.mem_of_getElem? (i := 8) rfl)) (hw _ (List.mem_of_getElem? (i := 9) rfl)) e0 (g := (mkF m 1 #[.val (.ref o)] [(.ref o)])) rfl (by rw [hml]; rfl) rfl (hb hby d1_1) (by decide) (W := 0) (by show 2 * 0 + _ ≤ _; exact Nat.le_of_eq rfl) (by decide)
  refine own_go st1 ?_
  show own_Go p e below _ (T1.setTop (mkF m 4 #[.val (.ref o)] []))
  refine own_go (fun tt kk => XS.aloadN X1.here hx rfl (hb hby d1_4) rfl rfl kk) ?_
  show own_Go p e below _ (T1.setTop (mkF m 5 #[.val (.ref o)] [(.ref o)]))
  refine own_go (fun tt kk => XS.iconst X1.here hx rfl (hb hby d1_5) kk) ?_
  show own_Go p e below _ (T1.setTop (mkF m 6 #[.val (.ref o)] [(.int (0 : Int32)), (.ref o)]))
  obtain ⟨T2, h2, X2, e2, E2, A2, st2⟩ := own_newarr X1 hx hZ (hw _ (List.mem_of_getElem? (i := 10) rfl)) e1 (n := (0 : Int32)) (N := 0) (by decide) (cap := 0) (by omega) (by decide) (by decide) (by decide) (pc := 6) (Ls := #[.val (.ref o)]) (rest := [(.ref o)]) (hb hby d1_6)
  obtain ⟨aS, qe2⟩ : ∃ z, z = h0.size := ⟨_, rfl⟩
  rw [← qe2] at A2 st2
  refine own_go st2 ?_
  show own_Go p e below _ (T2.setTop (mkF m 8 #[.val (.ref o)] [(.ref aS), (.ref o)]))
  have zz2 := E2.1
  have lt_aS := own_gt A2.lt
  have no_aS : o ≠ aS := Nat.ne_of_lt (by omega)
  have Ex2 := Ex.ext E2
  have F2_s := F_s.ext E2
  have F2_c := F_c.ext E2
  have F2_r := F_r.ext E2
  have F2_a := F_a.ext E2
  have F2_b := F_b.ext E2
  have F2_U := F_U.ext E2
  have F2_W := F_W.ext E2
  obtain ⟨T3, h3, X3, e3, W3, st3⟩ := putF X2 hx hZ hown (host := "") (Or.inl (hw _ (List.mem_of_getElem? (i := 11) rfl))) Via.refl e2 F2_s Ex2 (Or.inl (hw _ (List.mem_of_getElem? (i := 12) rfl))) (hw _ (List.mem_of_getElem? (i := 2) rfl)) (ty := (.array .int)) (by decide) rfl rfl (g := (mkF m 8 #[.val (.ref o)] [(.ref aS), (.ref o)])) rfl rfl (hb hby d1_8)
  refine own_go st3 ?_
  show own_Go p e below _ (T3.setTop (mkF m 11 #[.val (.ref o)] []))
  have Ex3 := Ex2.wr W3
  have F3_s := F2_s.same W3
  have F3_c := F2_c.other W3 (Or.inr (slot_ne L_c L_s (by decide) (t := (.array .int)) (t' := (.array .int)) (by decide) (by decide)))
  have F3_r := F2_r.other W3 (Or.inr (slot_ne L_r L_s (by decide) (t := (.array .int)) (t' := (.array .int)) (by decide) (by decide)))
  have F3_a := F2_a.other W3 (Or.inr (slot_ne L_a L_s (by decide) (t := (.array .int)) (t' := (.array .int)) (by decide) (by decide)))
  have F3_b := F2_b.other W3 (Or.inr (slot_ne L_b L_s (by decide) (t := (.array .int)) (t' := (.array .int)) (by decide) (by decide)))
  have F3_U := F2_U.other W3 (Or.inr (slot_ne L_U L_s (by decide) (t := .int) (t' := (.array .int)) (by decide) (by decide)))
  have F3_W := F2_W.other W3 (Or.inr (slot_ne L_W L_s (by decide) (t := .int) (t' := (.array .int)) (by decide) (by decide)))
  have A3_s := A2.other W3 (Ne.symm no_aS)
  have zz3 := W3.size
  refine own_go (fun tt kk => XS.aloadN X3.here hx rfl (hb hby d1_11) rfl rfl kk) ?_
  show own_Go p e below _ (T3.setTop (mkF m 12 #[.val (.ref o)] [(.ref o)]))
  refine own_go (fun tt kk => XS.iconst X3.here hx rfl (hb hby d1_12) kk) ?_
  show own_Go p e below _ (T3.setTop (mkF m 13 #[.val (.ref o)] [(.int (0 : Int32)), (.ref o)]))
  obtain ⟨T4, h4, X4, e4, E4, A4, st4⟩ := own_newarr X3 hx hZ (hw _ (List.mem_of_getElem? (i := 10) rfl)) e3 (n := (0 : Int32)) (N := 0) (by decide) (cap := 0) (by omega) (by decide) (by decide) (by decide) (pc := 13) (Ls := #[.val (.ref o)]) (rest := [(.ref o)]) (hb hby d1_13)
  obtain ⟨aC, qe4⟩ : ∃ z, z = h3.size := ⟨_, rfl⟩
  rw [← qe4] at A4 st4
  refine own_go st4 ?_
  show own_Go p e below _ (T4.setTop (mkF m 15 #[.val (.ref o)] [(.ref aC), (.ref o)]))
  have zz4 := E4.1
  have lt_aC := own_gt A4.lt
  have no_aC : o ≠ aC := Nat.ne_of_lt (by omega)
  have naSaC : aS ≠ aC := Nat.ne_of_lt (by omega)
  have Ex4 := Ex3.ext E4
  have F4_s := F3_s.ext E4
  have F4_c := F3_c.ext E4
  have F4_r := F3_r.ext E4
  have F4_a := F3_a.ext E4
  have F4_b := F3_b.ext E4
  have F4_U := F3_U.ext E4
  have F4_W := F3_W.ext E4
  have A4_s := A3_s.ext E4
  obtain ⟨T5, h5, X5, e5, W5, st5⟩ := putF X4 hx hZ hown (host := "") (Or.inl (hw _ (List.mem_of_getElem? (i := 13) rfl))) Via.refl e4 F4_c Ex4 (Or.inl (hw _ (List.mem_of_getElem? (i := 14) rfl))) (hw _ (List.mem_of_getElem? (i := 2) rfl)) (ty := (.array .int)) (by decide) rfl rfl (g := (mkF m 15 #[.val (.ref o)] [(.ref aC), (.ref o)])) rfl rfl (hb hby d1_15)
  refine own_go st5 ?_
  show own_Go p e below _ (T5.setTop (mkF m 18 #[.val (.ref o)] []))
  have Ex5 := Ex4.wr W5
  have F5_s := F4_s.other W5 (Or.inr (slot_ne L_s L_c (by decide) (t := (.array .int)) (t' := (.array .int)) (by decide) (by decide)))
  have F5_c := F4_c.same W5
  have F5_r := F4_r.other W5 (Or.inr (slot_ne L_r L_c (by decide) (t := (.array .int)) (t' := (.array .int)) (by decide) (by decide)))
  have F5_a := F4_a.other W5 (Or.inr (slot_ne L_a L_c (by decide) (t := (.array .int)) (t' := (.array .int)) (by decide) (by decide)))
  have F5_b := F4_b.other W5 (Or.inr (slot_ne L_b L_c (by decide) (t := (.array .int)) (t' := (.array .int)) (by decide) (by decide)))
  have F5_U := F4_U.other W5 (Or.inr (slot_ne L_U L_c (by decide) (t := .int) (t' := (.array .int)) (by decide) (by decide)))
  have F5_W := F4_W.other W5 (Or.inr (slot_ne L_W L_c (by decide) (t := .int) (t' := (.array .int)) (by decide) (by decide)))
  have A5_s := A4_s.other W5 (Ne.symm no_aS)
  have A5_c := A4.other W5 (Ne.symm no_aC)
  have zz5 := W5.size
  refine own_go (fun tt kk => XS.aloadN X5.here hx rfl (hb hby d1_18) rfl rfl kk) ?_
  show own_Go p e below _ (T5.setTop (mkF m 19 #[.val (.ref o)] [(.ref o)]))
  refine own_go (fun tt kk => XS.iconst X5.here hx rfl (hb hby d1_19) kk) ?_
  show own_Go p e below _ (T5.setTop (mkF m 20 #[.val (.ref o)] [(.int (0 : Int32)), (.ref o)]))
  obtain ⟨T6, h6, X6, e6, E6, A6, st6⟩ := own_newarr X5 hx hZ (hw _ (List.mem_of_getElem? (i := 10) rfl)) e5 (n := (0 : Int32)) (N := 0) (by decide) (cap := 0) (by omega) (by decide) (by decide) (by decide) (pc := 20) (Ls := #[.val (.ref o)]) (rest := [(.ref o)]) (hb hby d1_20)
  obtain ⟨aR, qe6⟩ : ∃ z, z = h5.size := ⟨_, rfl⟩
  rw [← qe6] at A6 st6
  refine own_go st6 ?_
  show own_Go p e below _ (T6.setTop (mkF m 22 #[.val (.ref o)] [(.ref aR), (.ref o)]))
  have zz6 := E6.1
  have lt_aR := own_gt A6.lt
  have no_aR : o ≠ aR := Nat.ne_of_lt (by omega)
  have naSaR : aS ≠ aR := Nat.ne_of_lt (by omega)
  have naCaR : aC ≠ aR := Nat.ne_of_lt (by omega)
  have Ex6 := Ex5.ext E6
  have F6_s := F5_s.ext E6
  have F6_c := F5_c.ext E6
  have F6_r := F5_r.ext E6
  have F6_a := F5_a.ext E6
  have F6_b := F5_b.ext E6
  have F6_U := F5_U.ext E6
  have F6_W := F5_W.ext E6
  have A6_s := A5_s.ext E6
  have A6_c := A5_c.ext E6
  obtain ⟨T7, h7, X7, e7, W7, st7⟩ := putF X6 hx hZ hown (host := "") (Or.inl (hw _ (List.mem_of_getElem? (i := 15) rfl))) Via.refl e6 F6_r Ex6 (Or.inl (hw _ (List.mem_of_getElem? (i := 16) rfl))) (hw _ (List.mem_of_getElem? (i := 2) rfl)) (ty := (.array .int)) (by decide) rfl rfl (g := (mkF m 22 #[.val (.ref o)] [(.ref aR), (.ref o)])) rfl rfl (hb hby d1_22)
  refine own_go st7 ?_
  show own_Go p e below _ (T7.setTop (mkF m 25 #[.val (.ref o)] []))
  have Ex7 := Ex6.wr W7
  have F7_s := F6_s.other W7 (Or.inr (slot_ne L_s L_r (by decide) (t := (.array .int)) (t' := (.array .int)) (by decide) (by decide)))
  have F7_c := F6_c.other W7 (Or.inr (slot_ne L_c L_r (by decide) (t := (.array .int)) (t' := (.array .int)) (by decide) (by decide)))
  have F7_r := F6_r.same W7
  have F7_a := F6_a.other W7 (Or.inr (slot_ne L_a L_r (by decide) (t := (.array .int)) (t' := (.array .int)) (by decide) (by decide)))
  have F7_b := F6_b.other W7 (Or.inr (slot_ne L_b L_r (by decide) (t := (.array .int)) (t' := (.array .int)) (by decide) (by decide)))
  have F7_U := F6_U.other W7 (Or.inr (slot_ne L_U L_r (by decide) (t := .int) (t' := (.array .int)) (by decide) (by decide)))
  have F7_W := F6_W.other W7 (Or.inr (slot_ne L_W L_r (by decide) (t := .int) (t' := (.array .int)) (by decide) (by decide)))
  have A7_s := A6_s.other W7 (Ne.symm no_aS)
  have A7_c := A6_c.other W7 (Ne.symm no_aC)
  have A7_r := A6.other W7 (Ne.symm no_aR)
  have zz7 := W7.size
  refine own_go (fun tt kk => XS.aloadN X7.here hx rfl (hb hby d1_25) rfl rfl kk) ?_
  show own_Go p e below _ (T7.setTop (mkF m 26 #[.val (.ref o)] [(.ref o)]))
  refine own_go (fun tt kk => XS.bipush X7.here hx rfl (hb hby d1_26) kk) ?_
  show own_Go p e below _ (T7.setTop (mkF m 28 #[.val (.ref o)] [(.int (64 : Int32)), (.ref o)]))
  obtain ⟨T8, h8, X8, e8, E8, A8, st8⟩ := own_newarr X7 hx hZ (hw _ (List.mem_of_getElem? (i := 10) rfl)) e7 (n := (64 : Int32)) (N := 64) (by decide) (cap := 64) (by omega) (by decide) (by decide) (by decide) (pc := 28) (Ls := #[.val (.ref o)]) (rest := [(.ref o)]) (hb hby d1_28)
  obtain ⟨aA, qe8⟩ : ∃ z, z = h7.size := ⟨_, rfl⟩
  rw [← qe8] at A8 st8
  refine own_go st8 ?_
  show own_Go p e below _ (T8.setTop (mkF m 30 #[.val (.ref o)] [(.ref aA), (.ref o)]))
  have zz8 := E8.1
  have lt_aA := own_gt A8.lt
  have no_aA : o ≠ aA := Nat.ne_of_lt (by omega)
  have naSaA : aS ≠ aA := Nat.ne_of_lt (by omega)
  have naCaA : aC ≠ aA := Nat.ne_of_lt (by omega)
  have naRaA : aR ≠ aA := Nat.ne_of_lt (by omega)
  have Ex8 := Ex7.ext E8
  have F8_s := F7_s.ext E8
  have F8_c := F7_c.ext E8
  have F8_r := F7_r.ext E8
  have F8_a := F7_a.ext E8
  have F8_b := F7_b.ext E8
  have F8_U := F7_U.ext E8
  have F8_W := F7_W.ext E8
  have A8_s := A7_s.ext E8
  have A8_c := A7_c.ext E8
  have A8_r := A7_r.ext E8
  obtain ⟨T9, h9, X9, e9, W9, st9⟩ := putF X8 hx hZ hown (host := "") (Or.inl (hw _ (List.mem_of_getElem? (i := 17) rfl))) Via.refl e8 F8_a Ex8 (Or.inl (hw _ (List.mem_of_getElem? (i := 18) rfl))) (hw _ (List.mem_of_getElem? (i := 2) rfl)) (ty := (.array .int)) (by decide) rfl rfl (g := (mkF m 30 #[.val (.ref o)] [(.ref aA), (.ref o)])) rfl rfl (hb hby d1_30)
  refine own_go st9 ?_
  show own_Go p e below _ (T9.setTop (mkF m 33 #[.val (.ref o)] []))
  have Ex9 := Ex8.wr W9
  have F9_s := F8_s.other W9 (Or.inr (slot_ne L_s L_a (by decide) (t := (.array .int)) (t' := (.array .int)) (by decide) (by decide)))
  have F9_c := F8_c.other W9 (Or.inr (slot_ne L_c L_a (by decide) (t := (.array .int)) (t' := (.array .int)) (by decide) (by decide)))
  have F9_r := F8_r.other W9 (Or.inr (slot_ne L_r L_a (by decide) (t := (.array .int)) (t' := (.array .int)) (by decide) (by decide)))
  have F9_a := F8_a.same W9
  have F9_b := F8_b.other W9 (Or.inr (slot_ne L_b L_a (by decide) (t := (.array .int)) (t' := (.array .int)) (by decide) (by decide)))
  have F9_U := F8_U.other W9 (Or.inr (slot_ne L_U L_a (by decide) (t := .int) (t' := (.array .int)) (by decide) (by decide)))
  have F9_W := F8_W.other W9 (Or.inr (slot_ne L_W L_a (by decide) (t := .int) (t' := (.array .int)) (by decide) (by decide)))
  have A9_s := A8_s.other W9 (Ne.symm no_aS)
  have A9_c := A8_c.other W9 (Ne.symm no_aC)
  have A9_r := A8_r.other W9 (Ne.symm no_aR)
  have A9_a := A8.other W9 (Ne.symm no_aA)
  have zz9 := W9.size
  refine own_go (fun tt kk => XS.aloadN X9.here hx rfl (hb hby d1_33) rfl rfl kk) ?_
  show own_Go p e below _ (T9.setTop (mkF m 34 #[.val (.ref o)] [(.ref o)]))
  refine own_go (fun tt kk => XS.bipush X9.here hx rfl (hb hby d1_34) kk) ?_
  show own_Go p e below _ (T9.setTop (mkF m 36 #[.val (.ref o)] [(.int (64 : Int32)), (.ref o)]))
  obtain ⟨T10, h10, X10, e10, E10, A10, st10⟩ := own_newarr X9 hx hZ (hw _ (List.mem_of_getElem? (i := 10) rfl)) e9 (n := (64 : Int32)) (N := 64) (by decide) (cap := 64) (by omega) (by decide) (by decide) (by decide) (pc := 36) (Ls := #[.val (.ref o)]) (rest := [(.ref o)]) (hb hby d1_36)
  obtain ⟨aB, qe10⟩ : ∃ z, z = h9.size := ⟨_, rfl⟩
  rw [← qe10] at A10 st10
  refine own_go st10 ?_
  show own_Go p e below _ (T10.setTop (mkF m 38 #[.val (.ref o)] [(.ref aB), (.ref o)]))
  have zz10 := E10.1
  have lt_aB := own_gt A10.lt
  have no_aB : o ≠ aB := Nat.ne_of_lt (by omega)
  have naSaB : aS ≠ aB := Nat.ne_of_lt (by omega)
  have naCaB : aC ≠ aB := Nat.ne_of_lt (by omega)
  have naRaB : aR ≠ aB := Nat.ne_of_lt (by omega)
  have naAaB : aA ≠ aB := Nat.ne_of_lt (by omega)
  have Ex10 := Ex9.ext E10
  have F10_s := F9_s.ext E10
  have F10_c := F9_c.ext E10
  have F10_r := F9_r.ext E10
  have F10_a := F9_a.ext E10
  have F10_b := F9_b.ext E10
  have F10_U := F9_U.ext E10
  have F10_W := F9_W.ext E10
  have A10_s := A9_s.ext E10
  have A10_c := A9_c.ext E10
  have A10_r := A9_r.ext E10
  have A10_a := A9_a.ext E10
  obtain ⟨T11, h11, X11, e11, W11, st11⟩ := putF X10 hx hZ hown (host := "") (Or.inl (hw _ (List.mem_of_getElem? (i := 19) rfl))) Via.refl e10 F10_b Ex10 (Or.inl (hw _ (List.mem_of_getElem? (i := 20) rfl))) (hw _ (List.mem_of_getElem? (i := 2) rfl)) (ty := (.array .int)) (by decide) rfl rfl (g := (mkF m 38 #[.val (.ref o)] [(.ref aB), (.ref o)])) rfl rfl (hb hby d1_38)
  refine own_go st11 ?_
  show own_Go p e below _ (T11.setTop (mkF m 41 #[.val (.ref o)] []))
  have Ex11 := Ex10.wr W11
  have F11_s := F10_s.other W11 (Or.inr (slot_ne L_s L_b (by decide) (t := (.array .int)) (t' := (.array .int)) (by decide) (by decide)))
  have F11_c := F10_c.other W11 (Or.inr (slot_ne L_c L_b (by decide) (t := (.array .int)) (t' := (.array .int)) (by decide) (by decide)))
  have F11_r := F10_r.other W11 (Or.inr (slot_ne L_r L_b (by decide) (t := (.array .int)) (t' := (.array .int)) (by decide) (by decide)))
  have F11_a := F10_a.other W11 (Or.inr (slot_ne L_a L_b (by decide) (t := (.array .int)) (t' := (.array .int)) (by decide) (by decide)))
  have F11_b := F10_b.same W11
  have F11_U := F10_U.other W11 (Or.inr (slot_ne L_U L_b (by decide) (t := .int) (t' := (.array .int)) (by decide) (by decide)))
  have F11_W := F10_W.other W11 (Or.inr (slot_ne L_W L_b (by decide) (t := .int) (t' := (.array .int)) (by decide) (by decide)))
  have A11_s := A10_s.other W11 (Ne.symm no_aS)
  have A11_c := A10_c.other W11 (Ne.symm no_aC)
  have A11_r := A10_r.other W11 (Ne.symm no_aR)
  have A11_a := A10_a.other W11 (Ne.symm no_aA)
  have A11_b := A10.other W11 (Ne.symm no_aB)
  have zz11 := W11.size
  exact own_retV X11 hx hlk hret (hb hby d1_41) ⟨rfl, ⟨aS, aC, aR, aA, aB, by rw [e11]; exact ⟨Ex11, ⟨F11_s, F11_c, F11_r, F11_a, F11_b, F11_U, F11_W⟩, ⟨A11_s, A11_c, A11_r, A11_a, A11_b⟩, ⟨no_aS, no_aC, no_aR, no_aA, no_aB, naSaC, naSaR, naSaA, naSaB, naCaR, naCaA, naCaB, naRaA, naRaB, naAaB⟩, ⟨go, by omega, by omega, by omega, by omega, by omega⟩⟩⟩, (Fr.snoc X11 (Fr.snoc X9 (Fr.snoc X7 (Fr.snoc X5 (Fr.snoc X3 (Fr.nil n0) go) go) go) go) go)⟩ (by decide) (by decide)
set_option maxRecDepth 65536 in
set_option maxHeartbeats 40000000 in
theorem rmFit (l : Launch) (Z : State) (a0 : Array Value) (hw : ∀ d ∈ tables_1, d.before a0 Z = true) (ws : List Jvm.Cond) (o aS aC aR aA aB : Addr) (N : Nat) (st ct rm ac nb : Nat → Int32) (U W : Int32) (p1 : Int32) (q n0 : Nat) (h0 : Heap) (A : own_El Z n0 h0 o aS aC aR aA aB N N N st ct rm ac nb U W) (hp : p1.toInt = q) (hq : q < 8) (hN : N ≤ 14) :
    own_Met l Z ws (⟨"com/example/guarantor/guarantor/ag/EdgeLists", "fit", "(I)V"⟩ : MethodName) prog_8_method_9_code 3 none ({ frames := 2, cells := 3, slots := 48, locals := 90 } : Room) #[(.ref o), (.int p1)] h0 (fun v h L => v = none ∧ (∃ (aS' aC' aR' : Addr) (N' : Nat) (st' ct' rm' : Nat → Int32) (W' : Int32), own_El Z n0 h o aS' aC' aR' aA aB N' N' N' st' ct' rm' ac nb U W' ∧ q < N' ∧ N ≤ N' ∧ N' ≤ 14 ∧ (∀ i, i < N → st' i = st i ∧ ct' i = ct i ∧ rm' i = rm i) ∧ (∀ i, N ≤ i → i < N' → st' i = 0 ∧ ct' i = 0 ∧ rm' i = 0)) ∧ n0 ≤ h.size ∧ Fr n0 L) := by
  refine own_met pn_4 ?_
  intro p e s m below meth c s₁ hx hby hml hown hnm hret hlk hZ X0 e0
  refine own_entry (ef_4 m o p1) ?_
  show own_Go p e below _ (s₁.setTop (mkF m 0 #[.val (.ref o), .val (.int p1), .unset] []))
  obtain ⟨E0_1, ⟨F_s_1, F_c_1, F_r_1, F_a_1, F_b_1, F_U_1, F_W_1⟩, ⟨A_s_1, A_c_1, A_r_1, A_a_1, A_b_1⟩, -, ⟨g_o_1, g_s_1, g_c_1, g_r_1, g_a_1, g_b_1⟩⟩ := id A
  have hNN : N.toInt32.toInt = N := len_toInt A_s_1.1
  have o32 : (1 : Int32).toInt = 1 := rfl
  have t32 : (2 : Int32).toInt = 2 := rfl
  have P1 := c_iadd p1 1
  have P2 := rng32 (p1 + 1)
  refine own_go (fun tt kk => XS.aloadN X0.here hx rfl (hb hby d4_0) rfl rfl kk) ?_
  show own_Go p e below _ (s₁.setTop (mkF m 1 #[.val (.ref o), .val (.int p1), .unset] [(.ref o)]))
  refine own_go (fun tt kk => XS.aloadN X0.here hx rfl (hb hby d4_1) rfl rfl kk) ?_
  show own_Go p e below _ (s₁.setTop (mkF m 2 #[.val (.ref o), .val (.int p1), .unset] [(.ref o), (.ref o)]))
  obtain ⟨T1, X1, e1, st1⟩ := getF X0 hx hZ hown (host := "") (Or.inl (hw _ (List.mem_of_getElem? (i := 30) rfl))) Via.refl e0 F_W_1 (g := (mkF m 2 #[.val (.ref o), .val (.int p1), .unset] [(.ref o), (.ref o)])) rfl rfl (hb hby d4_2)
  refine own_go st1 ?_
  show own_Go p e below _ (T1.setTop (mkF m 5 #[.val (.ref o), .val (.int p1), .unset] [(.int W), (.ref o)]))
  refine own_go (fun tt kk => XS.iloadN X1.here hx rfl (hb hby d4_5) rfl kk) ?_
  show own_Go p e below _ (T1.setTop (mkF m 6 #[.val (.ref o), .val (.int p1), .unset] [(.int p1), (.int W), (.ref o)]))
  refine own_go (fun tt kk => XS.iconst X1.here hx rfl (hb hby d4_6) kk) ?_
  show own_Go p e below _ (T1.setTop (mkF m 7 #[.val (.ref o), .val (.int p1), .unset] [(.int (1 : Int32)), (.int p1), (.int W), (.ref o)]))
  refine own_go (fun tt kk => XS.iadd X1.here hx rfl (hb hby d4_7) rfl kk) ?_
  show own_Go p e below _ (T1.setTop (mkF m 8 #[.val (.ref o), .val (.int p1), .unset] [(.int (p1 + (1 : Int32))), (.int W), (.ref o)]))
  obtain ⟨v2, L2, T2, X2, qq2, st2⟩ := own_callS X1 hx hZ hown (hw _ (List.mem_of_getElem? (i := 32) rfl)) (hw _ (List.mem_of_getElem? (i := 33) rfl)) (hw _ (List.mem_of_getElem? (i := 34) rfl)) (hw _ (List.mem_of_getElem? (i := 35) rfl)) (by decide) (rmMaxI l Z a0 hw [] W (p1 + (1 : Int32)) h0) e1 (pc := 8) (Ls := #[.val (.ref o), .val (.int p1), .unset]) (argsL := [(.int W), (.int (p1 + (1 : Int32)))]) (rest := [(.ref o)]) rfl (by rw [hml]; rfl) pd_0 rfl rfl (hb hby d4_8) 1 (Nat.le_of_eq rfl) (by decide) (by decide) (by decide) (by decide)
  obtain ⟨z2, rfl, hz2, hh2, rfl⟩ := qq2
  refine own_go st2 ?_
  show own_Go p e below _ (T2.setTop (mkF m 11 #[.val (.ref o), .val (.int p1), .unset] [(.int z2), (.ref o)]))
  obtain ⟨T3, h3, X3, e3, W3, st3⟩ := putF X2 hx hZ hown (host := "") (Or.inl (hw _ (List.mem_of_getElem? (i := 30) rfl))) Via.refl hh2 F_W_1 E0_1 (Or.inl (hw _ (List.mem_of_getElem? (i := 31) rfl))) (hw _ (List.mem_of_getElem? (i := 2) rfl)) (ty := .int) (by decide) rfl rfl (g := (mkF m 11 #[.val (.ref o), .val (.int p1), .unset] [(.int z2), (.ref o)])) rfl rfl (hb hby d4_11)
  refine own_go st3 ?_
  show own_Go p e below _ (T3.setTop (mkF m 14 #[.val (.ref o), .val (.int p1), .unset] []))
  have B := A.f_W hw W3
  obtain ⟨E0_2, ⟨F_s_2, F_c_2, F_r_2, F_a_2, F_b_2, F_U_2, F_W_2⟩, ⟨A_s_2, A_c_2, A_r_2, A_a_2, A_b_2⟩, -, ⟨g_o_2, g_s_2, g_c_2, g_r_2, g_a_2, g_b_2⟩⟩ := id B
  have zs := W3.size
  refine own_go (fun tt kk => XS.iloadN X3.here hx rfl (hb hby d4_14) rfl kk) ?_
  show own_Go p e below _ (T3.setTop (mkF m 15 #[.val (.ref o), .val (.int p1), .unset] [(.int p1)]))
  refine own_go (fun tt kk => XS.aloadN X3.here hx rfl (hb hby d4_15) rfl rfl kk) ?_
  show own_Go p e below _ (T3.setTop (mkF m 16 #[.val (.ref o), .val (.int p1), .unset] [(.ref o), (.int p1)]))
  obtain ⟨T4, X4, e4, st4⟩ := getF X3 hx hZ hown (host := "") (Or.inl (hw _ (List.mem_of_getElem? (i := 11) rfl))) Via.refl e3 F_s_2 (g := (mkF m 16 #[.val (.ref o), .val (.int p1), .unset] [(.ref o), (.int p1)])) rfl rfl (hb hby d4_16)
  refine own_go st4 ?_
  show own_Go p e below _ (T4.setTop (mkF m 19 #[.val (.ref o), .val (.int p1), .unset] [(.ref aS), (.int p1)]))
  refine own_go (own_alen X4 hx hZ e4 A_s_2 (pc := 19) (Ls := #[.val (.ref o), .val (.int p1), .unset]) (rest := [(.int p1)]) (hb hby d4_19)) ?_
  show own_Go p e below _ (T4.setTop (mkF m 20 #[.val (.ref o), .val (.int p1), .unset] [(.int N.toInt32), (.int p1)]))
  by_cases hc20 : p1.toInt < (N.toInt32).toInt
  · refine own_go (fun tt kk => XS.icmpYes X4.here hx rfl (pc0 := 20) (pc' := 73) rfl (hb hby d4_20) rfl (tlt (own_lt32 (x := p1) (y := N.toInt32) (i := p1.toInt) (j := (N.toInt32).toInt) rfl rfl hc20)).1 (by decide) (by decide) kk) ?_
    show own_Go p e below _ (T4.setTop (mkF m 73 #[.val (.ref o), .val (.int p1), .unset] []))
    exact own_retV X4 hx hlk hret (hb hby d4_73) ⟨rfl, ⟨aS, aC, aR, N, st, ct, rm, _, by rw [e4]; exact B, by omega, Nat.le_refl _, hN, fun i _ => ⟨rfl, rfl, rfl⟩, fun i h1 h2 => absurd h1 (by omega)⟩, by have := own_gt E0_2.lt; rw [e4]; omega, (Fr.snoc X3 (Fr.app (Fr.nil n0) (Fr.nil n0)) g_o_1)⟩ (by decide) (by decide)
  · refine own_go (fun tt kk => XS.icmpNo X4.here hx rfl (hb hby d4_20) rfl (flt (own_nlt32 (x := p1) (y := N.toInt32) (i := p1.toInt) (j := (N.toInt32).toInt) rfl rfl hc20)).1 kk) ?_
    show own_Go p e below _ (T4.setTop (mkF m 23 #[.val (.ref o), .val (.int p1), .unset] []))
    refine own_go (fun tt kk => XS.iloadN X4.here hx rfl (hb hby d4_23) rfl kk) ?_
    show own_Go p e below _ (T4.setTop (mkF m 24 #[.val (.ref o), .val (.int p1), .unset] [(.int p1)]))
    refine own_go (fun tt kk => XS.iconst X4.here hx rfl (hb hby d4_24) kk) ?_
    show own_Go p e below _ (T4.setTop (mkF m 25 #[.val (.ref o), .val (.int p1), .unset] [(.int (1 : Int32)), (.int p1)]))
    refine own_go (fun tt kk => XS.iadd X4.here hx rfl (hb hby d4_25) rfl kk) ?_
    show own_Go p e below _ (T4.setTop (mkF m 26 #[.val (.ref o), .val (.int p1), .unset] [(.int (p1 + (1 : Int32)))]))
    refine own_go (fun tt kk => XS.iconst X4.here hx rfl (hb hby d4_26) kk) ?_
    show own_Go p e below _ (T4.setTop (mkF m 27 #[.val (.ref o), .val (.int p1), .unset] [(.int (2 : Int32)), (.int (p1 + (1 : Int32)))]))
    refine own_go (fun tt kk => XS.aloadN X4.here hx rfl (hb hby d4_27) rfl rfl kk) ?_
    show own_Go p e below _ (T4.setTop (mkF m 28 #[.val (.ref o), .val (.int p1), .unset] [(.ref o), (.int (2 : Int32)), (.int (p1 + (1 : Int32)))]))
    obtain ⟨T5, X5, e5, st5⟩ := getF X4 hx hZ hown (host := "") (Or.inl (hw _ (List.mem_of_getElem? (i := 11) rfl))) Via.refl e4 F_s_2 (g := (mkF m 28 #[.val (.ref o), .val (.int p1), .unset] [(.ref o), (.int (2 : Int32)), (.int (p1 + (1 : Int32)))])) rfl rfl (hb hby d4_28)
    refine own_go st5 ?_
    show own_Go p e below _ (T5.setTop (mkF m 31 #[.val (.ref o), .val (.int p1), .unset] [(.ref aS), (.int (2 : Int32)), (.int (p1 + (1 : Int32)))]))
    refine own_go (own_alen X5 hx hZ e5 A_s_2 (pc := 31) (Ls := #[.val (.ref o), .val (.int p1), .unset]) (rest := [(.int (2 : Int32)), (.int (p1 + (1 : Int32)))]) (hb hby d4_31)) ?_
    show own_Go p e below _ (T5.setTop (mkF m 32 #[.val (.ref o), .val (.int p1), .unset] [(.int N.toInt32), (.int (2 : Int32)), (.int (p1 + (1 : Int32)))]))
    refine own_go (fun tt kk => XS.imul X5.here hx rfl (hb hby d4_32) rfl kk) ?_
    show own_Go p e below _ (T5.setTop (mkF m 33 #[.val (.ref o), .val (.int p1), .unset] [(.int ((2 : Int32) * N.toInt32)), (.int (p1 + (1 : Int32)))]))
    have P3 := c_imul 2 N.toInt32
    have P4 := rng32 (2 * N.toInt32)
    rw [t32] at P3
    obtain ⟨v6, L6, T6, X6, qq6, st6⟩ := own_callS X5 hx hZ hown (hw _ (List.mem_of_getElem? (i := 32) rfl)) (hw _ (List.mem_of_getElem? (i := 33) rfl)) (hw _ (List.mem_of_getElem? (i := 34) rfl)) (hw _ (List.mem_of_getElem? (i := 35) rfl)) (by decide) (rmMaxI l Z a0 hw [] (p1 + (1 : Int32)) ((2 : Int32) * N.toInt32) h3) e5 (pc := 33) (Ls := #[.val (.ref o), .val (.int p1), .unset]) (argsL := [(.int (p1 + (1 : Int32))), (.int ((2 : Int32) * N.toInt32))]) (rest := []) rfl (by rw [hml]; rfl) pd_0 rfl rfl (hb hby d4_33) 0 (Nat.le_of_eq rfl) (by decide) (by decide) (by decide) (by decide)
    obtain ⟨z6, rfl, hz6, hh6, rfl⟩ := qq6
    refine own_go st6 ?_
    show own_Go p e below _ (T6.setTop (mkF m 36 #[.val (.ref o), .val (.int p1), .unset] [(.int z6)]))
    obtain ⟨M, hM⟩ : ∃ M : Nat, z6.toInt = M := ⟨z6.toInt.toNat, by rcases hz6 with ⟨rfl, _⟩ | ⟨rfl, _⟩ <;> omega⟩
    have hM2 : q < M ∧ N < M ∧ M ≤ 14 := by rcases hz6 with ⟨rfl, _⟩ | ⟨rfl, _⟩ <;> omega
    have gh : n0 ≤ h3.size := by have := own_gt E0_2.lt; omega
    have lts2 := own_El_lts B
    refine own_go (fun tt kk => XS.istoreN X6.here hx rfl (hb hby d4_36) rfl (l' := #[.val (.ref o), .val (.int p1), .val (.int z6)]) rfl kk) ?_
    show own_Go p e below _ (T6.setTop (mkF m 37 #[.val (.ref o), .val (.int p1), .val (.int z6)] []))
    refine own_go (fun tt kk => XS.aloadN X6.here hx rfl (hb hby d4_37) rfl rfl kk) ?_
    show own_Go p e below _ (T6.setTop (mkF m 38 #[.val (.ref o), .val (.int p1), .val (.int z6)] [(.ref o)]))
    refine own_go (fun tt kk => XS.aloadN X6.here hx rfl (hb hby d4_38) rfl rfl kk) ?_
    show own_Go p e below _ (T6.setTop (mkF m 39 #[.val (.ref o), .val (.int p1), .val (.int z6)] [(.ref o), (.ref o)]))
    obtain ⟨T7, X7, e7, st7⟩ := getF X6 hx hZ hown (host := "") (Or.inl (hw _ (List.mem_of_getElem? (i := 11) rfl))) Via.refl hh6 F_s_2 (g := (mkF m 39 #[.val (.ref o), .val (.int p1), .val (.int z6)] [(.ref o), (.ref o)])) rfl rfl (hb hby d4_39)
    refine own_go st7 ?_
    show own_Go p e below _ (T7.setTop (mkF m 42 #[.val (.ref o), .val (.int p1), .val (.int z6)] [(.ref aS), (.ref o)]))
    refine own_go (fun tt kk => XS.iloadN X7.here hx rfl (hb hby d4_42) rfl kk) ?_
    show own_Go p e below _ (T7.setTop (mkF m 43 #[.val (.ref o), .val (.int p1), .val (.int z6)] [(.int z6), (.ref aS), (.ref o)]))
    obtain ⟨v8, L8, T8, X8, qq8, st8⟩ := own_callS X7 hx hZ hown (hw _ (List.mem_of_getElem? (i := 36) rfl)) (hw _ (List.mem_of_getElem? (i := 37) rfl)) (hw _ (List.mem_of_getElem? (i := 38) rfl)) (hw _ (List.mem_of_getElem? (i := 39) rfl)) (by decide) (rmCopy l Z a0 hw [] aS N st z6 M n0 h3 A_s_2 hM (by omega) (by omega) gh) e7 (pc := 43) (Ls := #[.val (.ref o), .val (.int p1), .val (.int z6)]) (argsL := [(.ref aS), (.int z6)]) (rest := [(.ref o)]) rfl (by rw [hml]; rfl) pd_1 rfl rfl (hb hby d4_43) 1 (Nat.le_of_eq rfl) (by decide) (by decide) (by decide) (by decide)
    obtain ⟨b8, rfl, C8, lb8, K8, N8⟩ := qq8
    refine own_go st8 ?_
    show own_Go p e below _ (T8.setTop (mkF m 46 #[.val (.ref o), .val (.int p1), .val (.int z6)] [(.ref b8), (.ref o)]))
    have D8 := B.kept K8
    obtain ⟨E0_3, ⟨F_s_3, F_c_3, F_r_3, F_a_3, F_b_3, F_U_3, F_W_3⟩, ⟨A_s_3, A_c_3, A_r_3, A_a_3, A_b_3⟩, -, ⟨g_o_3, g_s_3, g_c_3, g_r_3, g_a_3, g_b_3⟩⟩ := id D8
    have zk8 := K8.1
    have lc8 := own_gt C8.lt
    obtain ⟨T9, h9, X9, e9, W9, st9⟩ := putF X8 hx hZ hown (host := "") (Or.inl (hw _ (List.mem_of_getElem? (i := 11) rfl))) Via.refl (rfl : T8.heap = _) F_s_3 E0_3 (Or.inl (hw _ (List.mem_of_getElem? (i := 12) rfl))) (hw _ (List.mem_of_getElem? (i := 2) rfl)) (ty := (.array .int)) (by decide) rfl rfl (g := (mkF m 46 #[.val (.ref o), .val (.int p1), .val (.int z6)] [(.ref b8), (.ref o)])) rfl rfl (hb hby d4_46)
    refine own_go st9 ?_
    show own_Go p e below _ (T9.setTop (mkF m 49 #[.val (.ref o), .val (.int p1), .val (.int z6)] []))
    have B9 := D8.f_s hw C8 ⟨Nat.ne_of_lt (by omega), Nat.ne_of_lt (by omega), Nat.ne_of_lt (by omega), Nat.ne_of_lt (by omega), Nat.ne_of_lt (by omega)⟩ (by omega) W9
    have zw9 := W9.size
    obtain ⟨E0_4, ⟨F_s_4, F_c_4, F_r_4, F_a_4, F_b_4, F_U_4, F_W_4⟩, ⟨A_s_4, A_c_4, A_r_4, A_a_4, A_b_4⟩, -, ⟨g_o_4, g_s_4, g_c_4, g_r_4, g_a_4, g_b_4⟩⟩ := id B9
    have lts9 := own_El_lts B9
    have gh9 : n0 ≤ h9.size := by omega
    refine own_go (fun tt kk => XS.aloadN X9.here hx rfl (hb hby d4_49) rfl rfl kk) ?_
    show own_Go p e below _ (T9.setTop (mkF m 50 #[.val (.ref o), .val (.int p1), .val (.int z6)] [(.ref o)]))
    refine own_go (fun tt kk => XS.aloadN X9.here hx rfl (hb hby d4_50) rfl rfl kk) ?_
    show own_Go p e below _ (T9.setTop (mkF m 51 #[.val (.ref o), .val (.int p1), .val (.int z6)] [(.ref o), (.ref o)]))
    obtain ⟨T10, X10, e10, st10⟩ := getF X9 hx hZ hown (host := "") (Or.inl (hw _ (List.mem_of_getElem? (i := 13) rfl))) Via.refl e9 F_c_4 (g := (mkF m 51 #[.val (.ref o), .val (.int p1), .val (.int z6)] [(.ref o), (.ref o)])) rfl rfl (hb hby d4_51)
    refine own_go st10 ?_
    show own_Go p e below _ (T10.setTop (mkF m 54 #[.val (.ref o), .val (.int p1), .val (.int z6)] [(.ref aC), (.ref o)]))
    refine own_go (fun tt kk => XS.iloadN X10.here hx rfl (hb hby d4_54) rfl kk) ?_
    show own_Go p e below _ (T10.setTop (mkF m 55 #[.val (.ref o), .val (.int p1), .val (.int z6)] [(.int z6), (.ref aC), (.ref o)]))
    obtain ⟨v11, L11, T11, X11, qq11, st11⟩ := own_callS X10 hx hZ hown (hw _ (List.mem_of_getElem? (i := 36) rfl)) (hw _ (List.mem_of_getElem? (i := 37) rfl)) (hw _ (List.mem_of_getElem? (i := 38) rfl)) (hw _ (List.mem_of_getElem? (i := 39) rfl)) (by decide) (rmCopy l Z a0 hw [] aC N ct z6 M n0 h9 A_c_4 hM (by omega) (by omega) gh9) e10 (pc := 55) (Ls := #[.val (.ref o), .val (.int p1), .val (.int z6)]) (argsL := [(.ref aC), (.int z6)]) (rest := [(.ref o)]) rfl (by rw [hml]; rfl) pd_1 rfl rfl (hb hby d4_55) 1 (Nat.le_of_eq rfl) (by decide) (by decide) (by decide) (by decide)
    obtain ⟨b11, rfl, C11, lb11, K11, N11⟩ := qq11
    refine own_go st11 ?_
    show own_Go p e below _ (T11.setTop (mkF m 58 #[.val (.ref o), .val (.int p1), .val (.int z6)] [(.ref b11), (.ref o)]))
    have D11 := B9.kept K11
    obtain ⟨E0_5, ⟨F_s_5, F_c_5, F_r_5, F_a_5, F_b_5, F_U_5, F_W_5⟩, ⟨A_s_5, A_c_5, A_r_5, A_a_5, A_b_5⟩, -, ⟨g_o_5, g_s_5, g_c_5, g_r_5, g_a_5, g_b_5⟩⟩ := id D11
    have zk11 := K11.1
    have lc11 := own_gt C11.lt
    obtain ⟨T12, h12, X12, e12, W12, st12⟩ := putF X11 hx hZ hown (host := "") (Or.inl (hw _ (List.mem_of_getElem? (i := 13) rfl))) Via.refl (rfl : T11.heap = _) F_c_5 E0_5 (Or.inl (hw _ (List.mem_of_getElem? (i := 14) rfl))) (hw _ (List.mem_of_getElem? (i := 2) rfl)) (ty := (.array .int)) (by decide) rfl rfl (g := (mkF m 58 #[.val (.ref o), .val (.int p1), .val (.int z6)] [(.ref b11), (.ref o)])) rfl rfl (hb hby d4_58)
    refine own_go st12 ?_
    show own_Go p e below _ (T12.setTop (mkF m 61 #[.val (.ref o), .val (.int p1), .val (.int z6)] []))
    have B12 := D11.f_c hw C11 ⟨Nat.ne_of_lt (by omega), Nat.ne_of_lt (by omega), Nat.ne_of_lt (by omega), Nat.ne_of_lt (by omega), Nat.ne_of_lt (by omega)⟩ (by omega) W12
    have zw12 := W12.size
    obtain ⟨E0_6, ⟨F_s_6, F_c_6, F_r_6, F_a_6, F_b_6, F_U_6, F_W_6⟩, ⟨A_s_6, A_c_6, A_r_6, A_a_6, A_b_6⟩, -, ⟨g_o_6, g_s_6, g_c_6, g_r_6, g_a_6, g_b_6⟩⟩ := id B12
    have lts12 := own_El_lts B12
    have gh12 : n0 ≤ h12.size := by omega
    refine own_go (fun tt kk => XS.aloadN X12.here hx rfl (hb hby d4_61) rfl rfl kk) ?_
    show own_Go p e below _ (T12.setTop (mkF m 62 #[.val (.ref o), .val (.int p1), .val (.int z6)] [(.ref o)]))
    refine own_go (fun tt kk => XS.aloadN X12.here hx rfl (hb hby d4_62) rfl rfl kk) ?_
    show own_Go p e below _ (T12.setTop (mkF m 63 #[.val (.ref o), .val (.int p1), .val (.int z6)] [(.ref o), (.ref o)]))
    obtain ⟨T13, X13, e13, st13⟩ := getF X12 hx hZ hown (host := "") (Or.inl (hw _ (List.mem_of_getElem? (i := 15) rfl))) Via.refl e12 F_r_6 (g := (mkF m 63 #[.val (.ref o), .val (.int p1), .val (.int z6)] [(.ref o), (.ref o)])) rfl rfl (hb hby d4_63)
    refine own_go st13 ?_
    show own_Go p e below _ (T13.setTop (mkF m 66 #[.val (.ref o), .val (.int p1), .val (.int z6)] [(.ref aR), (.ref o)]))
    refine own_go (fun tt kk => XS.iloadN X13.here hx rfl (hb hby d4_66) rfl kk) ?_
    show own_Go p e below _ (T13.setTop (mkF m 67 #[.val (.ref o), .val (.int p1), .val (.int z6)] [(.int z6), (.ref aR), (.ref o)]))
    obtain ⟨v14, L14, T14, X14, qq14, st14⟩ := own_callS X13 hx hZ hown (hw _ (List.mem_of_getElem? (i := 36) rfl)) (hw _ (List.mem_of_getElem? (i := 37) rfl)) (hw _ (List.mem_of_getElem? (i := 38) rfl)) (hw _ (List.mem_of_getElem? (i := 39) rfl)) (by decide) (rmCopy l Z a0 hw [] aR N rm z6 M n0 h12 A_r_6 hM (by omega) (by omega) gh12) e13 (pc := 67) (Ls := #[.val (.ref o), .val (.int p1), .val (.int z6)]) (argsL := [(.ref aR), (.int z6)]) (rest := [(.ref o)]) rfl (by rw [hml]; rfl) pd_1 rfl rfl (hb hby d4_67) 1 (Nat.le_of_eq rfl) (by decide) (by decide) (by decide) (by decide)
    obtain ⟨b14, rfl, C14, lb14, K14, N14⟩ := qq14
    refine own_go st14 ?_
    show own_Go p e below _ (T14.setTop (mkF m 70 #[.val (.ref o), .val (.int p1), .val (.int z6)] [(.ref b14), (.ref o)]))
    have D14 := B12.kept K14
    obtain ⟨E0_7, ⟨F_s_7, F_c_7, F_r_7, F_a_7, F_b_7, F_U_7, F_W_7⟩, ⟨A_s_7, A_c_7, A_r_7, A_a_7, A_b_7⟩, -, ⟨g_o_7, g_s_7, g_c_7, g_r_7, g_a_7, g_b_7⟩⟩ := id D14
    have zk14 := K14.1
    have lc14 := own_gt C14.lt
    obtain ⟨T15, h15, X15, e15, W15, st15⟩ := putF X14 hx hZ hown (host := "") (Or.inl (hw _ (List.mem_of_getElem? (i := 15) rfl))) Via.refl (rfl : T14.heap = _) F_r_7 E0_7 (Or.inl (hw _ (List.mem_of_getElem? (i := 16) rfl))) (hw _ (List.mem_of_getElem? (i := 2) rfl)) (ty := (.array .int)) (by decide) rfl rfl (g := (mkF m 70 #[.val (.ref o), .val (.int p1), .val (.int z6)] [(.ref b14), (.ref o)])) rfl rfl (hb hby d4_70)
    refine own_go st15 ?_
    show own_Go p e below _ (T15.setTop (mkF m 73 #[.val (.ref o), .val (.int p1), .val (.int z6)] []))
    have B15 := D14.f_r hw C14 ⟨Nat.ne_of_lt (by omega), Nat.ne_of_lt (by omega), Nat.ne_of_lt (by omega), Nat.ne_of_lt (by omega), Nat.ne_of_lt (by omega)⟩ (by omega) W15
    have zw15 := W15.size
    obtain ⟨E0_8, ⟨F_s_8, F_c_8, F_r_8, F_a_8, F_b_8, F_U_8, F_W_8⟩, ⟨A_s_8, A_c_8, A_r_8, A_a_8, A_b_8⟩, -, ⟨g_o_8, g_s_8, g_c_8, g_r_8, g_a_8, g_b_8⟩⟩ := id B15
    have lts15 := own_El_lts B15
    have gh15 : n0 ≤ h15.size := by omega
    exact own_retV X15 hx hlk hret (hb hby d4_73) ⟨rfl, ⟨b8, b11, b14, M, _, _, _, _, by rw [e15]; exact B15, hM2.1, by omega, hM2.2.2, fun i hi => by simp only [hi, if_true]; exact ⟨trivial, trivial, trivial⟩, fun i h1 h2 => by simp only [show ¬ i < N by omega, if_false]; exact ⟨trivial, trivial, trivial⟩⟩, by rw [e15]; exact gh15, (Fr.snoc X15 (Fr.app (Fr.snoc X12 (Fr.app (Fr.snoc X9 (Fr.app (Fr.app (Fr.snoc X3 (Fr.app (Fr.nil n0) (Fr.nil n0)) g_o_1) (Fr.nil n0)) N8) g_o_1) N11) g_o_1) N14) g_o_1)⟩ (by decide) (by decide)
set_option maxRecDepth 65536 in
set_option maxHeartbeats 40000000 in
theorem rmRes (l : Launch) (Z : State) (a0 : Array Value) (hw : ∀ d ∈ tables_1, d.before a0 Z = true) (ws : List Jvm.Cond) (o aS aC aR aA aB : Addr) (N : Nat) (st ct rm ac nb : Nat → Int32) (U W : Int32) (sN rN cnt : Nat → Nat) (u : Nat) (LA LB : Nat → Nat → Int32) (p1 p2 : Int32) (q n0 : Nat) (h0 : Heap) (A : own_El Z n0 h0 o aS aC aR aA aB N N N st ct rm ac nb U W) (I : own_EI N st ct rm ac nb sN rN cnt u LA LB) (hU : U.toInt = u) (hu : u + 7 ≤ 64) (hp : p1.toInt = q) (hq : q < N) (hc : cnt q ≤ 4) (h2 : p2.toInt = ((cnt q + 1 : Nat) : Int)) :
    own_Met l Z ws (⟨"com/example/guarantor/guarantor/ag/EdgeLists", "reserve", "(II)V"⟩ : MethodName) prog_8_method_10_code 4 none ({ frames := 1, cells := 0, slots := 0, locals := 60 } : Room) #[(.ref o), (.int p1), (.int p2)] h0 (fun v h L => v = none ∧ (∃ (st' rm' ac' nb' : Nat → Int32) (U' : Int32) (sN' rN' : Nat → Nat) (u' : Nat), own_El Z n0 h o aS aC aR aA aB N N N st' ct rm' ac' nb' U' W ∧ own_EI N st' ct rm' ac' nb' sN' rN' cnt u' LA LB ∧ U'.toInt = u' ∧ u' ≤ u + 7 ∧ cnt q + 1 ≤ rN' q) ∧ Fr n0 L) := by
  refine own_met pn_8 ?_
  intro p e s m below meth c s₁ hx hby hml hown hnm hret hlk hZ X0 e0
  refine own_entry (ef_8 m o p1 p2) ?_
  show own_Go p e below _ (s₁.setTop (mkF m 0 #[.val (.ref o), .val (.int p1), .val (.int p2), .unset] []))
  obtain ⟨E0_1, ⟨F_s_1, F_c_1, F_r_1, F_a_1, F_b_1, F_U_1, F_W_1⟩, ⟨A_s_1, A_c_1, A_r_1, A_a_1, A_b_1⟩, -, ⟨g_o_1, g_s_1, g_c_1, g_r_1, g_a_1, g_b_1⟩⟩ := id A
  obtain ⟨i1, i2, i3, i4, i5, i6⟩ := I.2.1 q hq
  refine own_go (fun tt kk => XS.iloadN X0.here hx rfl (hb hby d8_0) rfl kk) ?_
  show own_Go p e below _ (s₁.setTop (mkF m 1 #[.val (.ref o), .val (.int p1), .val (.int p2), .unset] [(.int p2)]))
  refine own_go (fun tt kk => XS.aloadN X0.here hx rfl (hb hby d8_1) rfl rfl kk) ?_
  show own_Go p e below _ (s₁.setTop (mkF m 2 #[.val (.ref o), .val (.int p1), .val (.int p2), .unset] [(.ref o), (.int p2)]))
  obtain ⟨T1, X1, e1, st1⟩ := getF X0 hx hZ hown (host := "") (Or.inl (hw _ (List.mem_of_getElem? (i := 15) rfl))) Via.refl e0 F_r_1 (g := (mkF m 2 #[.val (.ref o), .val (.int p1), .val (.int p2), .unset] [(.ref o), (.int p2)])) rfl rfl (hb hby d8_2)
  refine own_go st1 ?_
  show own_Go p e below _ (T1.setTop (mkF m 5 #[.val (.ref o), .val (.int p1), .val (.int p2), .unset] [(.ref aR), (.int p2)]))
  refine own_go (fun tt kk => XS.iloadN X1.here hx rfl (hb hby d8_5) rfl kk) ?_
  show own_Go p e below _ (T1.setTop (mkF m 6 #[.val (.ref o), .val (.int p1), .val (.int p2), .unset] [(.int p1), (.ref aR), (.int p2)]))
  refine own_go (own_iaload X1 hx hZ e1 A_r_1 (j := p1) hp hq (pc := 6) (Ls := #[.val (.ref o), .val (.int p1), .val (.int p2), .unset]) (rest := [(.int p2)]) (hb hby d8_6)) ?_
  show own_Go p e below _ (T1.setTop (mkF m 7 #[.val (.ref o), .val (.int p1), .val (.int p2), .unset] [(.int (rm q)), (.int p2)]))
  by_cases hc7 : (rm q).toInt < p2.toInt
  · refine own_go (fun tt kk => XS.icmpYes X1.here hx rfl (pc0 := 7) (pc' := 11) rfl (hb hby d8_7) rfl (tlt (own_lt32 (x := (rm q)) (y := p2) (i := (rm q).toInt) (j := p2.toInt) rfl rfl hc7)).2.2.1 (by decide) (by decide) kk) ?_
    show own_Go p e below _ (T1.setTop (mkF m 11 #[.val (.ref o), .val (.int p1), .val (.int p2), .unset] []))
    have s1 := c_ishr p2 1 1 (by decide)
    have s2 := c_i2l p2
    have s3 := c_i2l (p2 >>> ((1 : Int32) &&& 31))
    have s4 := c_ladd p2.toInt64 (p2 >>> ((1 : Int32) &&& 31)).toInt64
    have s5 := rng64 (p2.toInt64 + (p2 >>> ((1 : Int32) &&& 31)).toInt64)
    have s6 : (2147483639 : Int64).toInt = 2147483639 := rfl
    have s45 : (p2.toInt64 + (p2 >>> ((1 : Int32) &&& 31)).toInt64).toInt = p2.toInt + p2.toInt / 2 := by omega
    clear s4 s5
    refine own_go (X1.ldc2Long hx hown (mvT hZ (hw _ (List.mem_of_getElem? (i := 51) rfl))) (g := (mkF m 11 #[.val (.ref o), .val (.int p1), .val (.int p2), .unset] [])) rfl (hb hby d8_11)) ?_
    show own_Go p e below _ (T1.setTop (mkF m 14 #[.val (.ref o), .val (.int p1), .val (.int p2), .unset] [(.long (2147483639 : Int64))]))
    refine own_go (fun tt kk => XS.iloadN X1.here hx rfl (hb hby d8_14) rfl kk) ?_
    show own_Go p e below _ (T1.setTop (mkF m 15 #[.val (.ref o), .val (.int p1), .val (.int p2), .unset] [(.int p2), (.long (2147483639 : Int64))]))
    refine own_go (fun tt kk => XS.i2l X1.here hx rfl (hb hby d8_15) rfl kk) ?_
    show own_Go p e below _ (T1.setTop (mkF m 16 #[.val (.ref o), .val (.int p1), .val (.int p2), .unset] [(.long (p2.toInt64)), (.long (2147483639 : Int64))]))
    refine own_go (fun tt kk => XS.iloadN X1.here hx rfl (hb hby d8_16) rfl kk) ?_
    show own_Go p e below _ (T1.setTop (mkF m 17 #[.val (.ref o), .val (.int p1), .val (.int p2), .unset] [(.int p2), (.long (p2.toInt64)), (.long (2147483639 : Int64))]))
    refine own_go (fun tt kk => XS.iconst X1.here hx rfl (hb hby d8_17) kk) ?_
    show own_Go p e below _ (T1.setTop (mkF m 18 #[.val (.ref o), .val (.int p1), .val (.int p2), .unset] [(.int (1 : Int32)), (.int p2), (.long (p2.toInt64)), (.long (2147483639 : Int64))]))
    refine own_go (fun tt kk => XS.ishr X1.here hx rfl (hb hby d8_18) rfl kk) ?_
    show own_Go p e below _ (T1.setTop (mkF m 19 #[.val (.ref o), .val (.int p1), .val (.int p2), .unset] [(.int (p2 >>> ((1 : Int32) &&& 31))), (.long (p2.toInt64)), (.long (2147483639 : Int64))]))
    refine own_go (fun tt kk => XS.i2l X1.here hx rfl (hb hby d8_19) rfl kk) ?_
    show own_Go p e below _ (T1.setTop (mkF m 20 #[.val (.ref o), .val (.int p1), .val (.int p2), .unset] [(.long ((p2 >>> ((1 : Int32) &&& 31)).toInt64)), (.long (p2.toInt64)), (.long (2147483639 : Int64))]))
    refine own_go (fun tt kk => XS.ladd X1.here hx rfl (hb hby d8_20) rfl kk) ?_
    show own_Go p e below _ (T1.setTop (mkF m 21 #[.val (.ref o), .val (.int p1), .val (.int p2), .unset] [(.long ((p2.toInt64) + ((p2 >>> ((1 : Int32) &&& 31)).toInt64))), (.long (2147483639 : Int64))]))
    obtain ⟨v2, L2, T2, X2, qq2, st2⟩ := own_callS X1 hx hZ hown (hw _ (List.mem_of_getElem? (i := 52) rfl)) (hw _ (List.mem_of_getElem? (i := 53) rfl)) (hw _ (List.mem_of_getElem? (i := 34) rfl)) (hw _ (List.mem_of_getElem? (i := 54) rfl)) (by decide) (rmMinJ l Z a0 hw [] (2147483639 : Int64) ((p2.toInt64) + ((p2 >>> ((1 : Int32) &&& 31)).toInt64)) h0) e1 (pc := 21) (Ls := #[.val (.ref o), .val (.int p1), .val (.int p2), .unset]) (argsL := [(.long (2147483639 : Int64)), (.long ((p2.toInt64) + ((p2 >>> ((1 : Int32) &&& 31)).toInt64)))]) (rest := []) rfl (by rw [hml]; rfl) pd_2 rfl rfl (hb hby d8_21) 0 (Nat.le_of_eq rfl) (by decide) (by decide) (by decide) (by decide)
    obtain ⟨z2, rfl, hz2, hh2, rfl⟩ := qq2
    refine own_go st2 ?_
    show own_Go p e below _ (T2.setTop (mkF m 24 #[.val (.ref o), .val (.int p1), .val (.int p2), .unset] [(.long z2)]))
    have s7 : z2.toInt = p2.toInt + p2.toInt / 2 := by rcases hz2 with ⟨rfl, _⟩ | ⟨rfl, _⟩ <;> omega
    clear hz2 s45 s1 s2 s3 s6
    have s8 := c_l2i z2
    have s9 := rng32 z2.toInt32
    have s71 : 1 ≤ z2.toInt ∧ z2.toInt ≤ 7 := by omega
    have s72 : z2.toInt32.toInt = z2.toInt := by omega
    clear s8 s9
    obtain ⟨Rm, hRm⟩ : ∃ M : Nat, z2.toInt32.toInt = M := ⟨z2.toInt32.toInt.toNat, by omega⟩
    have hRm2 : cnt q + 1 ≤ Rm ∧ Rm ≤ 7 := by omega
    refine own_go (fun tt kk => XS.l2i X2.here hx rfl (hb hby d8_24) rfl kk) ?_
    show own_Go p e below _ (T2.setTop (mkF m 25 #[.val (.ref o), .val (.int p1), .val (.int p2), .unset] [(.int (z2.toInt32))]))
    refine own_go (fun tt kk => XS.istoreN X2.here hx rfl (hb hby d8_25) rfl (l' := #[.val (.ref o), .val (.int p1), .val (.int p2), .val (.int (z2.toInt32))]) rfl kk) ?_
    show own_Go p e below _ (T2.setTop (mkF m 26 #[.val (.ref o), .val (.int p1), .val (.int p2), .val (.int (z2.toInt32))] []))
    obtain ⟨rv, hrv⟩ : ∃ z, z = z2.toInt32 := ⟨_, rfl⟩
    rw [← hrv] at hRm ⊢
    show own_Go p e below _ (T2.setTop (mkF m 26 #[.val (.ref o), .val (.int p1), .val (.int p2), .val (.int rv)] []))
    refine own_go (fun tt kk => XS.aloadN X2.here hx rfl (hb hby d8_26) rfl rfl kk) ?_
    show own_Go p e below _ (T2.setTop (mkF m 27 #[.val (.ref o), .val (.int p1), .val (.int p2), .val (.int rv)] [(.ref o)]))
    obtain ⟨T3, X3, e3, st3⟩ := getF X2 hx hZ hown (host := "") (Or.inl (hw _ (List.mem_of_getElem? (i := 55) rfl))) Via.refl hh2 F_U_1 (g := (mkF m 27 #[.val (.ref o), .val (.int p1), .val (.int p2), .val (.int rv)] [(.ref o)])) rfl rfl (hb hby d8_27)
    refine own_go st3 ?_
    show own_Go p e below _ (T3.setTop (mkF m 30 #[.val (.ref o), .val (.int p1), .val (.int p2), .val (.int rv)] [(.int U)]))
    refine own_go (fun tt kk => XS.i2l X3.here hx rfl (hb hby d8_30) rfl kk) ?_
    show own_Go p e below _ (T3.setTop (mkF m 31 #[.val (.ref o), .val (.int p1), .val (.int p2), .val (.int rv)] [(.long (U.toInt64))]))
    refine own_go (fun tt kk => XS.iloadN X3.here hx rfl (hb hby d8_31) rfl kk) ?_
    show own_Go p e below _ (T3.setTop (mkF m 32 #[.val (.ref o), .val (.int p1), .val (.int p2), .val (.int rv)] [(.int rv), (.long (U.toInt64))]))
    refine own_go (fun tt kk => XS.i2l X3.here hx rfl (hb hby d8_32) rfl kk) ?_
    show own_Go p e below _ (T3.setTop (mkF m 33 #[.val (.ref o), .val (.int p1), .val (.int p2), .val (.int rv)] [(.long (rv.toInt64)), (.long (U.toInt64))]))
    refine own_go (fun tt kk => XS.ladd X3.here hx rfl (hb hby d8_33) rfl kk) ?_
    show own_Go p e below _ (T3.setTop (mkF m 34 #[.val (.ref o), .val (.int p1), .val (.int p2), .val (.int rv)] [(.long ((U.toInt64) + (rv.toInt64)))]))
    refine own_go (fun tt kk => XS.aloadN X3.here hx rfl (hb hby d8_34) rfl rfl kk) ?_
    show own_Go p e below _ (T3.setTop (mkF m 35 #[.val (.ref o), .val (.int p1), .val (.int p2), .val (.int rv)] [(.ref o), (.long ((U.toInt64) + (rv.toInt64)))]))
    obtain ⟨T4, X4, e4, st4⟩ := getF X3 hx hZ hown (host := "") (Or.inl (hw _ (List.mem_of_getElem? (i := 17) rfl))) Via.refl e3 F_a_1 (g := (mkF m 35 #[.val (.ref o), .val (.int p1), .val (.int p2), .val (.int rv)] [(.ref o), (.long ((U.toInt64) + (rv.toInt64)))])) rfl rfl (hb hby d8_35)
    refine own_go st4 ?_
    show own_Go p e below _ (T4.setTop (mkF m 38 #[.val (.ref o), .val (.int p1), .val (.int p2), .val (.int rv)] [(.ref aA), (.long ((U.toInt64) + (rv.toInt64)))]))
    refine own_go (own_alen X4 hx hZ e4 A_a_1 (pc := 38) (Ls := #[.val (.ref o), .val (.int p1), .val (.int p2), .val (.int rv)]) (rest := [(.long ((U.toInt64) + (rv.toInt64)))]) (hb hby d8_38)) ?_
    show own_Go p e below _ (T4.setTop (mkF m 39 #[.val (.ref o), .val (.int p1), .val (.int p2), .val (.int rv)] [(.int (Nat.toInt32 64)), (.long ((U.toInt64) + (rv.toInt64)))]))
    refine own_go (fun tt kk => XS.i2l X4.here hx rfl (hb hby d8_39) rfl kk) ?_
    show own_Go p e below _ (T4.setTop (mkF m 40 #[.val (.ref o), .val (.int p1), .val (.int p2), .val (.int rv)] [(.long ((Nat.toInt32 64).toInt64)), (.long ((U.toInt64) + (rv.toInt64)))]))
    refine own_go (fun tt kk => XS.lcmp X4.here hx rfl (hb hby d8_40) rfl kk) ?_
    show own_Go p e below _ (T4.setTop (mkF m 41 #[.val (.ref o), .val (.int p1), .val (.int p2), .val (.int rv)] [(.int (lcmpW ((U.toInt64) + (rv.toInt64)) ((Nat.toInt32 64).toInt64)))]))
    have t1 := c_i2l U
    have t2 := c_i2l rv
    have t3 := c_i2l (Nat.toInt32 64)
    have t4 : (Nat.toInt32 64).toInt = 64 := rfl
    have t5 := c_ladd U.toInt64 rv.toInt64
    have t6 := rng64 (U.toInt64 + rv.toInt64)
    refine own_go (fun tt kk => XS.ifYes X4.here hx rfl (pc0 := 41) (pc' := 51) rfl (hb hby d8_41) rfl ((if0 _ _).trans (flt (fun q => (own_nlt64 (x := ((Nat.toInt32 64).toInt64)) (y := ((U.toInt64) + (rv.toInt64))) (i := ((Nat.toInt32 64).toInt64).toInt) (j := ((U.toInt64) + (rv.toInt64)).toInt) rfl rfl (by omega)) ((lw_gt ((U.toInt64) + (rv.toInt64)) ((Nat.toInt32 64).toInt64)).mp q))).2.2.2) (by decide) (by decide) kk) ?_
    show own_Go p e below _ (T4.setTop (mkF m 51 #[.val (.ref o), .val (.int p1), .val (.int p2), .val (.int rv)] []))
    refine own_go (fun tt kk => XS.aloadN X4.here hx rfl (hb hby d8_51) rfl rfl kk) ?_
    show own_Go p e below _ (T4.setTop (mkF m 52 #[.val (.ref o), .val (.int p1), .val (.int p2), .val (.int rv)] [(.ref o)]))
    obtain ⟨T5, X5, e5, st5⟩ := getF X4 hx hZ hown (host := "") (Or.inl (hw _ (List.mem_of_getElem? (i := 17) rfl))) Via.refl e4 F_a_1 (g := (mkF m 52 #[.val (.ref o), .val (.int p1), .val (.int p2), .val (.int rv)] [(.ref o)])) rfl rfl (hb hby d8_52)
    refine own_go st5 ?_
    show own_Go p e below _ (T5.setTop (mkF m 55 #[.val (.ref o), .val (.int p1), .val (.int p2), .val (.int rv)] [(.ref aA)]))
    refine own_go (fun tt kk => XS.aloadN X5.here hx rfl (hb hby d8_55) rfl rfl kk) ?_
    show own_Go p e below _ (T5.setTop (mkF m 56 #[.val (.ref o), .val (.int p1), .val (.int p2), .val (.int rv)] [(.ref o), (.ref aA)]))
    obtain ⟨T6, X6, e6, st6⟩ := getF X5 hx hZ hown (host := "") (Or.inl (hw _ (List.mem_of_getElem? (i := 11) rfl))) Via.refl e5 F_s_1 (g := (mkF m 56 #[.val (.ref o), .val (.int p1), .val (.int p2), .val (.int rv)] [(.ref o), (.ref aA)])) rfl rfl (hb hby d8_56)
    refine own_go st6 ?_
    show own_Go p e below _ (T6.setTop (mkF m 59 #[.val (.ref o), .val (.int p1), .val (.int p2), .val (.int rv)] [(.ref aS), (.ref aA)]))
    refine own_go (fun tt kk => XS.iloadN X6.here hx rfl (hb hby d8_59) rfl kk) ?_
    show own_Go p e below _ (T6.setTop (mkF m 60 #[.val (.ref o), .val (.int p1), .val (.int p2), .val (.int rv)] [(.int p1), (.ref aS), (.ref aA)]))
    refine own_go (own_iaload X6 hx hZ e6 A_s_1 (j := p1) hp hq (pc := 60) (Ls := #[.val (.ref o), .val (.int p1), .val (.int p2), .val (.int rv)]) (rest := [(.ref aA)]) (hb hby d8_60)) ?_
    show own_Go p e below _ (T6.setTop (mkF m 61 #[.val (.ref o), .val (.int p1), .val (.int p2), .val (.int rv)] [(.int (st q)), (.ref aA)]))
    refine own_go (fun tt kk => XS.aloadN X6.here hx rfl (hb hby d8_61) rfl rfl kk) ?_
    show own_Go p e below _ (T6.setTop (mkF m 62 #[.val (.ref o), .val (.int p1), .val (.int p2), .val (.int rv)] [(.ref o), (.int (st q)), (.ref aA)]))
    obtain ⟨T7, X7, e7, st7⟩ := getF X6 hx hZ hown (host := "") (Or.inl (hw _ (List.mem_of_getElem? (i := 17) rfl))) Via.refl e6 F_a_1 (g := (mkF m 62 #[.val (.ref o), .val (.int p1), .val (.int p2), .val (.int rv)] [(.ref o), (.int (st q)), (.ref aA)])) rfl rfl (hb hby d8_62)
    refine own_go st7 ?_
    show own_Go p e below _ (T7.setTop (mkF m 65 #[.val (.ref o), .val (.int p1), .val (.int p2), .val (.int rv)] [(.ref aA), (.int (st q)), (.ref aA)]))
    refine own_go (fun tt kk => XS.aloadN X7.here hx rfl (hb hby d8_65) rfl rfl kk) ?_
    show own_Go p e below _ (T7.setTop (mkF m 66 #[.val (.ref o), .val (.int p1), .val (.int p2), .val (.int rv)] [(.ref o), (.ref aA), (.int (st q)), (.ref aA)]))
    obtain ⟨T8, X8, e8, st8⟩ := getF X7 hx hZ hown (host := "") (Or.inl (hw _ (List.mem_of_getElem? (i := 55) rfl))) Via.refl e7 F_U_1 (g := (mkF m 66 #[.val (.ref o), .val (.int p1), .val (.int p2), .val (.int rv)] [(.ref o), (.ref aA), (.int (st q)), (.ref aA)])) rfl rfl (hb hby d8_66)
    refine own_go st8 ?_
    show own_Go p e below _ (T8.setTop (mkF m 69 #[.val (.ref o), .val (.int p1), .val (.int p2), .val (.int rv)] [(.int U), (.ref aA), (.int (st q)), (.ref aA)]))
    refine own_go (fun tt kk => XS.aloadN X8.here hx rfl (hb hby d8_69) rfl rfl kk) ?_
    show own_Go p e below _ (T8.setTop (mkF m 70 #[.val (.ref o), .val (.int p1), .val (.int p2), .val (.int rv)] [(.ref o), (.int U), (.ref aA), (.int (st q)), (.ref aA)]))
    obtain ⟨T9, X9, e9, st9⟩ := getF X8 hx hZ hown (host := "") (Or.inl (hw _ (List.mem_of_getElem? (i := 13) rfl))) Via.refl e8 F_c_1 (g := (mkF m 70 #[.val (.ref o), .val (.int p1), .val (.int p2), .val (.int rv)] [(.ref o), (.int U), (.ref aA), (.int (st q)), (.ref aA)])) rfl rfl (hb hby d8_70)
    refine own_go st9 ?_
    show own_Go p e below _ (T9.setTop (mkF m 73 #[.val (.ref o), .val (.int p1), .val (.int p2), .val (.int rv)] [(.ref aC), (.int U), (.ref aA), (.int (st q)), (.ref aA)]))
    refine own_go (fun tt kk => XS.iloadN X9.here hx rfl (hb hby d8_73) rfl kk) ?_
    show own_Go p e below _ (T9.setTop (mkF m 74 #[.val (.ref o), .val (.int p1), .val (.int p2), .val (.int rv)] [(.int p1), (.ref aC), (.int U), (.ref aA), (.int (st q)), (.ref aA)]))
    refine own_go (own_iaload X9 hx hZ e9 A_c_1 (j := p1) hp hq (pc := 74) (Ls := #[.val (.ref o), .val (.int p1), .val (.int p2), .val (.int rv)]) (rest := [(.int U), (.ref aA), (.int (st q)), (.ref aA)]) (hb hby d8_74)) ?_
    show own_Go p e below _ (T9.setTop (mkF m 75 #[.val (.ref o), .val (.int p1), .val (.int p2), .val (.int rv)] [(.int (ct q)), (.int U), (.ref aA), (.int (st q)), (.ref aA)]))
    obtain ⟨T10, h10, L10, X10, e10, N10, K10, A10, st10⟩ := own_arraycopy X9 hx hZ hown (hw _ (List.mem_of_getElem? (i := 57) rfl)) (hw _ (List.mem_of_getElem? (i := 46) rfl)) (hw _ (List.mem_of_getElem? (i := 44) rfl)) (hw _ (List.mem_of_getElem? (i := 45) rfl)) e9 (sp := (st q)) (dp := U) (nn := (ct q)) A_a_1 A_a_1 i1 hU i2 (by omega) (by omega) (Fr.app (Fr.nil n0) (Fr.nil n0)) g_a_1 (pc := 75) (Ls := #[.val (.ref o), .val (.int p1), .val (.int p2), .val (.int rv)]) (by rw [hml]; rfl) (rest := []) (hb hby d8_75) (by decide) 0 (Nat.le_of_eq rfl) (by decide)
    refine own_go st10 ?_
    show own_Go p e below _ (T10.setTop (mkF m 78 #[.val (.ref o), .val (.int p1), .val (.int p2), .val (.int rv)] []))
    have B := A.k_a K10 A10
    obtain ⟨E0_2, ⟨F_s_2, F_c_2, F_r_2, F_a_2, F_b_2, F_U_2, F_W_2⟩, ⟨A_s_2, A_c_2, A_r_2, A_a_2, A_b_2⟩, -, ⟨g_o_2, g_s_2, g_c_2, g_r_2, g_a_2, g_b_2⟩⟩ := id B
    refine own_go (fun tt kk => XS.aloadN X10.here hx rfl (hb hby d8_78) rfl rfl kk) ?_
    show own_Go p e below _ (T10.setTop (mkF m 79 #[.val (.ref o), .val (.int p1), .val (.int p2), .val (.int rv)] [(.ref o)]))
    obtain ⟨T11, X11, e11, st11⟩ := getF X10 hx hZ hown (host := "") (Or.inl (hw _ (List.mem_of_getElem? (i := 19) rfl))) Via.refl e10 F_b_2 (g := (mkF m 79 #[.val (.ref o), .val (.int p1), .val (.int p2), .val (.int rv)] [(.ref o)])) rfl rfl (hb hby d8_79)
    refine own_go st11 ?_
    show own_Go p e below _ (T11.setTop (mkF m 82 #[.val (.ref o), .val (.int p1), .val (.int p2), .val (.int rv)] [(.ref aB)]))
    refine own_go (fun tt kk => XS.aloadN X11.here hx rfl (hb hby d8_82) rfl rfl kk) ?_
    show own_Go p e below _ (T11.setTop (mkF m 83 #[.val (.ref o), .val (.int p1), .val (.int p2), .val (.int rv)] [(.ref o), (.ref aB)]))
    obtain ⟨T12, X12, e12, st12⟩ := getF X11 hx hZ hown (host := "") (Or.inl (hw _ (List.mem_of_getElem? (i := 11) rfl))) Via.refl e11 F_s_2 (g := (mkF m 83 #[.val (.ref o), .val (.int p1), .val (.int p2), .val (.int rv)] [(.ref o), (.ref aB)])) rfl rfl (hb hby d8_83)
    refine own_go st12 ?_
    show own_Go p e below _ (T12.setTop (mkF m 86 #[.val (.ref o), .val (.int p1), .val (.int p2), .val (.int rv)] [(.ref aS), (.ref aB)]))
    refine own_go (fun tt kk => XS.iloadN X12.here hx rfl (hb hby d8_86) rfl kk) ?_
    show own_Go p e below _ (T12.setTop (mkF m 87 #[.val (.ref o), .val (.int p1), .val (.int p2), .val (.int rv)] [(.int p1), (.ref aS), (.ref aB)]))
    refine own_go (own_iaload X12 hx hZ e12 A_s_2 (j := p1) hp hq (pc := 87) (Ls := #[.val (.ref o), .val (.int p1), .val (.int p2), .val (.int rv)]) (rest := [(.ref aB)]) (hb hby d8_87)) ?_
    show own_Go p e below _ (T12.setTop (mkF m 88 #[.val (.ref o), .val (.int p1), .val (.int p2), .val (.int rv)] [(.int (st q)), (.ref aB)]))
    refine own_go (fun tt kk => XS.aloadN X12.here hx rfl (hb hby d8_88) rfl rfl kk) ?_
    show own_Go p e below _ (T12.setTop (mkF m 89 #[.val (.ref o), .val (.int p1), .val (.int p2), .val (.int rv)] [(.ref o), (.int (st q)), (.ref aB)]))
    obtain ⟨T13, X13, e13, st13⟩ := getF X12 hx hZ hown (host := "") (Or.inl (hw _ (List.mem_of_getElem? (i := 19) rfl))) Via.refl e12 F_b_2 (g := (mkF m 89 #[.val (.ref o), .val (.int p1), .val (.int p2), .val (.int rv)] [(.ref o), (.int (st q)), (.ref aB)])) rfl rfl (hb hby d8_89)
    refine own_go st13 ?_
    show own_Go p e below _ (T13.setTop (mkF m 92 #[.val (.ref o), .val (.int p1), .val (.int p2), .val (.int rv)] [(.ref aB), (.int (st q)), (.ref aB)]))
    refine own_go (fun tt kk => XS.aloadN X13.here hx rfl (hb hby d8_92) rfl rfl kk) ?_
    show own_Go p e below _ (T13.setTop (mkF m 93 #[.val (.ref o), .val (.int p1), .val (.int p2), .val (.int rv)] [(.ref o), (.ref aB), (.int (st q)), (.ref aB)]))
    obtain ⟨T14, X14, e14, st14⟩ := getF X13 hx hZ hown (host := "") (Or.inl (hw _ (List.mem_of_getElem? (i := 55) rfl))) Via.refl e13 F_U_2 (g := (mkF m 93 #[.val (.ref o), .val (.int p1), .val (.int p2), .val (.int rv)] [(.ref o), (.ref aB), (.int (st q)), (.ref aB)])) rfl rfl (hb hby d8_93)
    refine own_go st14 ?_
    show own_Go p e below _ (T14.setTop (mkF m 96 #[.val (.ref o), .val (.int p1), .val (.int p2), .val (.int rv)] [(.int U), (.ref aB), (.int (st q)), (.ref aB)]))
    refine own_go (fun tt kk => XS.aloadN X14.here hx rfl (hb hby d8_96) rfl rfl kk) ?_
    show own_Go p e below _ (T14.setTop (mkF m 97 #[.val (.ref o), .val (.int p1), .val (.int p2), .val (.int rv)] [(.ref o), (.int U), (.ref aB), (.int (st q)), (.ref aB)]))
    obtain ⟨T15, X15, e15, st15⟩ := getF X14 hx hZ hown (host := "") (Or.inl (hw _ (List.mem_of_getElem? (i := 13) rfl))) Via.refl e14 F_c_2 (g := (mkF m 97 #[.val (.ref o), .val (.int p1), .val (.int p2), .val (.int rv)] [(.ref o), (.int U), (.ref aB), (.int (st q)), (.ref aB)])) rfl rfl (hb hby d8_97)
    refine own_go st15 ?_
    show own_Go p e below _ (T15.setTop (mkF m 100 #[.val (.ref o), .val (.int p1), .val (.int p2), .val (.int rv)] [(.ref aC), (.int U), (.ref aB), (.int (st q)), (.ref aB)]))
    refine own_go (fun tt kk => XS.iloadN X15.here hx rfl (hb hby d8_100) rfl kk) ?_
    show own_Go p e below _ (T15.setTop (mkF m 101 #[.val (.ref o), .val (.int p1), .val (.int p2), .val (.int rv)] [(.int p1), (.ref aC), (.int U), (.ref aB), (.int (st q)), (.ref aB)]))
    refine own_go (own_iaload X15 hx hZ e15 A_c_2 (j := p1) hp hq (pc := 101) (Ls := #[.val (.ref o), .val (.int p1), .val (.int p2), .val (.int rv)]) (rest := [(.int U), (.ref aB), (.int (st q)), (.ref aB)]) (hb hby d8_101)) ?_
    show own_Go p e below _ (T15.setTop (mkF m 102 #[.val (.ref o), .val (.int p1), .val (.int p2), .val (.int rv)] [(.int (ct q)), (.int U), (.ref aB), (.int (st q)), (.ref aB)]))
    obtain ⟨T16, h16, L16, X16, e16, N16, K16, A16, st16⟩ := own_arraycopy X15 hx hZ hown (hw _ (List.mem_of_getElem? (i := 57) rfl)) (hw _ (List.mem_of_getElem? (i := 46) rfl)) (hw _ (List.mem_of_getElem? (i := 44) rfl)) (hw _ (List.mem_of_getElem? (i := 45) rfl)) e15 (sp := (st q)) (dp := U) (nn := (ct q)) A_b_2 A_b_2 i1 hU i2 (by omega) (by omega) N10 g_b_1 (pc := 102) (Ls := #[.val (.ref o), .val (.int p1), .val (.int p2), .val (.int rv)]) (by rw [hml]; rfl) (rest := []) (hb hby d8_102) (by decide) 0 (Nat.le_of_eq rfl) (by decide)
    refine own_go st16 ?_
    show own_Go p e below _ (T16.setTop (mkF m 105 #[.val (.ref o), .val (.int p1), .val (.int p2), .val (.int rv)] []))
    have C := B.k_b K16 A16
    obtain ⟨E0_3, ⟨F_s_3, F_c_3, F_r_3, F_a_3, F_b_3, F_U_3, F_W_3⟩, ⟨A_s_3, A_c_3, A_r_3, A_a_3, A_b_3⟩, -, ⟨g_o_3, g_s_3, g_c_3, g_r_3, g_a_3, g_b_3⟩⟩ := id C
    refine own_go (fun tt kk => XS.aloadN X16.here hx rfl (hb hby d8_105) rfl rfl kk) ?_
    show own_Go p e below _ (T16.setTop (mkF m 106 #[.val (.ref o), .val (.int p1), .val (.int p2), .val (.int rv)] [(.ref o)]))
    obtain ⟨T17, X17, e17, st17⟩ := getF X16 hx hZ hown (host := "") (Or.inl (hw _ (List.mem_of_getElem? (i := 11) rfl))) Via.refl e16 F_s_3 (g := (mkF m 106 #[.val (.ref o), .val (.int p1), .val (.int p2), .val (.int rv)] [(.ref o)])) rfl rfl (hb hby d8_106)
    refine own_go st17 ?_
    show own_Go p e below _ (T17.setTop (mkF m 109 #[.val (.ref o), .val (.int p1), .val (.int p2), .val (.int rv)] [(.ref aS)]))
    refine own_go (fun tt kk => XS.iloadN X17.here hx rfl (hb hby d8_109) rfl kk) ?_
    show own_Go p e below _ (T17.setTop (mkF m 110 #[.val (.ref o), .val (.int p1), .val (.int p2), .val (.int rv)] [(.int p1), (.ref aS)]))
    refine own_go (fun tt kk => XS.aloadN X17.here hx rfl (hb hby d8_110) rfl rfl kk) ?_
    show own_Go p e below _ (T17.setTop (mkF m 111 #[.val (.ref o), .val (.int p1), .val (.int p2), .val (.int rv)] [(.ref o), (.int p1), (.ref aS)]))
    obtain ⟨T18, X18, e18, st18⟩ := getF X17 hx hZ hown (host := "") (Or.inl (hw _ (List.mem_of_getElem? (i := 55) rfl))) Via.refl e17 F_U_3 (g := (mkF m 111 #[.val (.ref o), .val (.int p1), .val (.int p2), .val (.int rv)] [(.ref o), (.int p1), (.ref aS)])) rfl rfl (hb hby d8_111)
    refine own_go st18 ?_
    show own_Go p e below _ (T18.setTop (mkF m 114 #[.val (.ref o), .val (.int p1), .val (.int p2), .val (.int rv)] [(.int U), (.int p1), (.ref aS)]))
    obtain ⟨T19, h19, X19, e19, W19, st19⟩ := own_iastore X18 hx hZ e18 A_s_3 (j := p1) (x := U) hp hq (pc := 114) (Ls := #[.val (.ref o), .val (.int p1), .val (.int p2), .val (.int rv)]) (rest := []) (hb hby d8_114)
    refine own_go st19 ?_
    show own_Go p e below _ (T19.setTop (mkF m 115 #[.val (.ref o), .val (.int p1), .val (.int p2), .val (.int rv)] []))
    have D := C.w_s W19
    obtain ⟨E0_4, ⟨F_s_4, F_c_4, F_r_4, F_a_4, F_b_4, F_U_4, F_W_4⟩, ⟨A_s_4, A_c_4, A_r_4, A_a_4, A_b_4⟩, -, ⟨g_o_4, g_s_4, g_c_4, g_r_4, g_a_4, g_b_4⟩⟩ := id D
    refine own_go (fun tt kk => XS.aloadN X19.here hx rfl (hb hby d8_115) rfl rfl kk) ?_
    show own_Go p e below _ (T19.setTop (mkF m 116 #[.val (.ref o), .val (.int p1), .val (.int p2), .val (.int rv)] [(.ref o)]))
    obtain ⟨T20, X20, e20, st20⟩ := getF X19 hx hZ hown (host := "") (Or.inl (hw _ (List.mem_of_getElem? (i := 15) rfl))) Via.refl e19 F_r_4 (g := (mkF m 116 #[.val (.ref o), .val (.int p1), .val (.int p2), .val (.int rv)] [(.ref o)])) rfl rfl (hb hby d8_116)
    refine own_go st20 ?_
    show own_Go p e below _ (T20.setTop (mkF m 119 #[.val (.ref o), .val (.int p1), .val (.int p2), .val (.int rv)] [(.ref aR)]))
    refine own_go (fun tt kk => XS.iloadN X20.here hx rfl (hb hby d8_119) rfl kk) ?_
    show own_Go p e below _ (T20.setTop (mkF m 120 #[.val (.ref o), .val (.int p1), .val (.int p2), .val (.int rv)] [(.int p1), (.ref aR)]))
    refine own_go (fun tt kk => XS.iloadN X20.here hx rfl (hb hby d8_120) rfl kk) ?_
    show own_Go p e below _ (T20.setTop (mkF m 121 #[.val (.ref o), .val (.int p1), .val (.int p2), .val (.int rv)] [(.int rv), (.int p1), (.ref aR)]))
    obtain ⟨T21, h21, X21, e21, W21, st21⟩ := own_iastore X20 hx hZ e20 A_r_4 (j := p1) (x := rv) hp hq (pc := 121) (Ls := #[.val (.ref o), .val (.int p1), .val (.int p2), .val (.int rv)]) (rest := []) (hb hby d8_121)
    refine own_go st21 ?_
    show own_Go p e below _ (T21.setTop (mkF m 122 #[.val (.ref o), .val (.int p1), .val (.int p2), .val (.int rv)] []))
    have G := D.w_r W21
    obtain ⟨E0_5, ⟨F_s_5, F_c_5, F_r_5, F_a_5, F_b_5, F_U_5, F_W_5⟩, ⟨A_s_5, A_c_5, A_r_5, A_a_5, A_b_5⟩, -, ⟨g_o_5, g_s_5, g_c_5, g_r_5, g_a_5, g_b_5⟩⟩ := id G
    refine own_go (fun tt kk => XS.aloadN X21.here hx rfl (hb hby d8_122) rfl rfl kk) ?_
    show own_Go p e below _ (T21.setTop (mkF m 123 #[.val (.ref o), .val (.int p1), .val (.int p2), .val (.int rv)] [(.ref o)]))
    refine own_go (fun tt kk => XS.dup X21.here hx rfl (hb hby d8_123) rfl rfl kk) ?_
    show own_Go p e below _ (T21.setTop (mkF m 124 #[.val (.ref o), .val (.int p1), .val (.int p2), .val (.int rv)] [(.ref o), (.ref o)]))
    obtain ⟨T22, X22, e22, st22⟩ := getF X21 hx hZ hown (host := "") (Or.inl (hw _ (List.mem_of_getElem? (i := 55) rfl))) Via.refl e21 F_U_5 (g := (mkF m 124 #[.val (.ref o), .val (.int p1), .val (.int p2), .val (.int rv)] [(.ref o), (.ref o)])) rfl rfl (hb hby d8_124)
    refine own_go st22 ?_
    show own_Go p e below _ (T22.setTop (mkF m 127 #[.val (.ref o), .val (.int p1), .val (.int p2), .val (.int rv)] [(.int U), (.ref o)]))
    refine own_go (fun tt kk => XS.iloadN X22.here hx rfl (hb hby d8_127) rfl kk) ?_
    show own_Go p e below _ (T22.setTop (mkF m 128 #[.val (.ref o), .val (.int p1), .val (.int p2), .val (.int rv)] [(.int rv), (.int U), (.ref o)]))
    refine own_go (fun tt kk => XS.iadd X22.here hx rfl (hb hby d8_128) rfl kk) ?_
    show own_Go p e below _ (T22.setTop (mkF m 129 #[.val (.ref o), .val (.int p1), .val (.int p2), .val (.int rv)] [(.int (U + rv)), (.ref o)]))
    obtain ⟨T23, h23, X23, e23, W23, st23⟩ := putF X22 hx hZ hown (host := "") (Or.inl (hw _ (List.mem_of_getElem? (i := 55) rfl))) Via.refl e22 F_U_5 E0_5 (Or.inl (hw _ (List.mem_of_getElem? (i := 56) rfl))) (hw _ (List.mem_of_getElem? (i := 2) rfl)) (ty := .int) (by decide) rfl rfl (g := (mkF m 129 #[.val (.ref o), .val (.int p1), .val (.int p2), .val (.int rv)] [(.int (U + rv)), (.ref o)])) rfl rfl (hb hby d8_129)
    refine own_go st23 ?_
    show own_Go p e below _ (T23.setTop (mkF m 132 #[.val (.ref o), .val (.int p1), .val (.int p2), .val (.int rv)] []))
    have J := G.f_U hw W23
    have I' := I.move (R := Rm) hq hU hRm (by omega) (fun _ => rfl) (fun _ => rfl)
    have t7 := c_iadd U rv
    have t8 := rng32 (U + rv)
    exact own_retV X23 hx hlk hret (hb hby d8_132) ⟨rfl, ⟨_, _, _, _, U + rv, _, _, u + Rm, by rw [e23]; exact J, I', by omega, by omega, by rw [own_upd_at]; omega⟩, Fr.snoc X23 (Fr.snoc X21 (Fr.snoc X19 N16 g_s_1) g_r_1) g_o_1⟩ (by decide) (by decide)
  · refine own_go (fun tt kk => XS.icmpNo X1.here hx rfl (hb hby d8_7) rfl (flt (own_nlt32 (x := (rm q)) (y := p2) (i := (rm q).toInt) (j := p2.toInt) rfl rfl hc7)).2.2.1 kk) ?_
    show own_Go p e below _ (T1.setTop (mkF m 10 #[.val (.ref o), .val (.int p1), .val (.int p2), .unset] []))
    exact own_retV X1 hx hlk hret (hb hby d8_10) ⟨rfl, ⟨st, rm, ac, nb, U, sN, rN, u, by rw [e1]; exact A, I, hU, by omega, by omega⟩, Fr.nil n0⟩ (by decide) (by decide)
set_option maxRecDepth 65536 in
set_option maxHeartbeats 40000000 in
theorem rmAdd (l : Launch) (Z : State) (a0 : Array Value) (hw : ∀ d ∈ tables_1, d.before a0 Z = true) (ws : List Jvm.Cond) (o : Addr) (cnt : Nat → Nat) (LA LB : Nat → Nat → Int32) (u : Nat) (p1 p2 p3 : Int32) (q n0 : Nat) (h0 : Heap) (EA : own_EL Z n0 h0 o cnt LA LB u) (hp : p1.toInt = q) (hq8 : q < 8) (hc : cnt q ≤ 4) (hu : u + 7 ≤ 64) :
    own_Met l Z ws (⟨"com/example/guarantor/guarantor/ag/EdgeLists", "add", "(III)V"⟩ : MethodName) prog_8_method_6_code 5 none ({ frames := 3, cells := 3, slots := 48, locals := 108 } : Room) #[(.ref o), (.int p1), (.int p2), (.int p3)] h0 (fun v h L => v = none ∧ (∃ u', u' ≤ u + 7 ∧ own_EL Z n0 h o (own_upd cnt q (cnt q + 1)) (own_put LA q (cnt q) p2) (own_put LB q (cnt q) p3) u') ∧ Fr n0 L) := by
  refine own_met pn_3 ?_
  intro p e s m below meth c s₁ hx hby hml hown hnm hret hlk hZ X0 e0
  refine own_entry (ef_3 m o p1 p2 p3) ?_
  show own_Go p e below _ (s₁.setTop (mkF m 0 #[.val (.ref o), .val (.int p1), .val (.int p2), .val (.int p3), .unset] []))
  obtain ⟨aS, aC, aR, aA, aB, N, st, ct, rm, ac, nb, U, W, sN, rN, A, I, hU⟩ := EA
  have o32 : (1 : Int32).toInt = 1 := rfl
  refine own_go (fun tt kk => XS.aloadN X0.here hx rfl (hb hby d3_0) rfl rfl kk) ?_
  show own_Go p e below _ (s₁.setTop (mkF m 1 #[.val (.ref o), .val (.int p1), .val (.int p2), .val (.int p3), .unset] [(.ref o)]))
  refine own_go (fun tt kk => XS.iloadN X0.here hx rfl (hb hby d3_1) rfl kk) ?_
  show own_Go p e below _ (s₁.setTop (mkF m 2 #[.val (.ref o), .val (.int p1), .val (.int p2), .val (.int p3), .unset] [(.int p1), (.ref o)]))
  obtain ⟨v1, L1, T1, X1, qq1, st1⟩ := own_callP X0 hx hZ hown (hw _ (List.mem_of_getElem? (i := 26) rfl)) (hw _ (List.mem_of_getElem? (i := 27) rfl)) (hw _ (List.mem_of_getElem? (i := 28) rfl)) (hw _ (List.mem_of_getElem? (i := 2) rfl)) (hw _ (List.mem_of_getElem? (i := 29) rfl)) (hw _ (List.mem_of_getElem? (i := 3) rfl)) (by decide) A.1 (rmFit l Z a0 hw [] o aS aC aR aA aB N st ct rm ac nb U W p1 q n0 h0 A hp hq8 I.1) e0 (pc := 2) (Ls := #[.val (.ref o), .val (.int p1), .val (.int p2), .val (.int p3), .unset]) (argsL := [(.int p1)]) (rest := []) rfl (by rw [hml]; rfl) pd_3 rfl rfl (hb hby d3_2) 0 (Nat.le_of_eq rfl) (by decide) (by decide) (by decide) (by decide)
  obtain ⟨rfl, ⟨bS, bC, bR, N', st', ct', rm', W', B, hq, hNN, hN14, hs1, hs2⟩, gh, N1⟩ := qq1
  refine own_go st1 ?_
  show own_Go p e below _ (T1.setTop (mkF m 5 #[.val (.ref o), .val (.int p1), .val (.int p2), .val (.int p3), .unset] []))
  have I1 := I.grow hNN hN14 hs1 hs2
  obtain ⟨E0_1, ⟨F_s_1, F_c_1, F_r_1, F_a_1, F_b_1, F_U_1, F_W_1⟩, ⟨A_s_1, A_c_1, A_r_1, A_a_1, A_b_1⟩, -, ⟨g_o_1, g_s_1, g_c_1, g_r_1, g_a_1, g_b_1⟩⟩ := id B
  obtain ⟨j1, j2, j3, j4, j5, j6⟩ := I1.2.1 q hq
  refine own_go (fun tt kk => XS.aloadN X1.here hx rfl (hb hby d3_5) rfl rfl kk) ?_
  show own_Go p e below _ (T1.setTop (mkF m 6 #[.val (.ref o), .val (.int p1), .val (.int p2), .val (.int p3), .unset] [(.ref o)]))
  refine own_go (fun tt kk => XS.iloadN X1.here hx rfl (hb hby d3_6) rfl kk) ?_
  show own_Go p e below _ (T1.setTop (mkF m 7 #[.val (.ref o), .val (.int p1), .val (.int p2), .val (.int p3), .unset] [(.int p1), (.ref o)]))
  refine own_go (fun tt kk => XS.aloadN X1.here hx rfl (hb hby d3_7) rfl rfl kk) ?_
  show own_Go p e below _ (T1.setTop (mkF m 8 #[.val (.ref o), .val (.int p1), .val (.int p2), .val (.int p3), .unset] [(.ref o), (.int p1), (.ref o)]))
  obtain ⟨T2, X2, e2, st2⟩ := getF X1 hx hZ hown (host := "") (Or.inl (hw _ (List.mem_of_getElem? (i := 13) rfl))) Via.refl (rfl : T1.heap = _) F_c_1 (g := (mkF m 8 #[.val (.ref o), .val (.int p1), .val (.int p2), .val (.int p3), .unset] [(.ref o), (.int p1), (.ref o)])) rfl rfl (hb hby d3_8)
  refine own_go st2 ?_
  show own_Go p e below _ (T2.setTop (mkF m 11 #[.val (.ref o), .val (.int p1), .val (.int p2), .val (.int p3), .unset] [(.ref bC), (.int p1), (.ref o)]))
  refine own_go (fun tt kk => XS.iloadN X2.here hx rfl (hb hby d3_11) rfl kk) ?_
  show own_Go p e below _ (T2.setTop (mkF m 12 #[.val (.ref o), .val (.int p1), .val (.int p2), .val (.int p3), .unset] [(.int p1), (.ref bC), (.int p1), (.ref o)]))
  refine own_go (own_iaload X2 hx hZ e2 A_c_1 (j := p1) hp hq (pc := 12) (Ls := #[.val (.ref o), .val (.int p1), .val (.int p2), .val (.int p3), .unset]) (rest := [(.int p1), (.ref o)]) (hb hby d3_12)) ?_
  show own_Go p e below _ (T2.setTop (mkF m 13 #[.val (.ref o), .val (.int p1), .val (.int p2), .val (.int p3), .unset] [(.int (ct' q)), (.int p1), (.ref o)]))
  refine own_go (fun tt kk => XS.iconst X2.here hx rfl (hb hby d3_13) kk) ?_
  show own_Go p e below _ (T2.setTop (mkF m 14 #[.val (.ref o), .val (.int p1), .val (.int p2), .val (.int p3), .unset] [(.int (1 : Int32)), (.int (ct' q)), (.int p1), (.ref o)]))
  refine own_go (fun tt kk => XS.iadd X2.here hx rfl (hb hby d3_14) rfl kk) ?_
  show own_Go p e below _ (T2.setTop (mkF m 15 #[.val (.ref o), .val (.int p1), .val (.int p2), .val (.int p3), .unset] [(.int ((ct' q) + (1 : Int32))), (.int p1), (.ref o)]))
  have t1 := c_iadd (ct' q) 1
  have t2 := rng32 (ct' q + 1)
  have t3 : (ct' q + 1).toInt = ((cnt q + 1 : Nat) : Int) := by omega
  obtain ⟨v3, L3, T3, X3, qq3, st3⟩ := own_callP X2 hx hZ hown (hw _ (List.mem_of_getElem? (i := 47) rfl)) (hw _ (List.mem_of_getElem? (i := 48) rfl)) (hw _ (List.mem_of_getElem? (i := 49) rfl)) (hw _ (List.mem_of_getElem? (i := 2) rfl)) (hw _ (List.mem_of_getElem? (i := 50) rfl)) (hw _ (List.mem_of_getElem? (i := 3) rfl)) (by decide) E0_1 (rmRes l Z a0 hw [] o bS bC bR aA aB N' st' ct' rm' ac nb U W' _ _ cnt u LA LB p1 (ct' q + 1) q n0 T1.heap B I1 hU hu hp hq hc t3) e2 (pc := 15) (Ls := #[.val (.ref o), .val (.int p1), .val (.int p2), .val (.int p3), .unset]) (argsL := [(.int p1), (.int ((ct' q) + (1 : Int32)))]) (rest := []) rfl (by rw [hml]; rfl) pd_4 rfl rfl (hb hby d3_15) 0 (Nat.le_of_eq rfl) (by decide) (by decide) (by decide) (by decide)
  obtain ⟨rfl, ⟨st2, rm2, ac2, nb2, U2, sN2, rN2, u2, C, I2, hU2, hu2, hr2⟩, N3⟩ := qq3
  refine own_go st3 ?_
  show own_Go p e below _ (T3.setTop (mkF m 18 #[.val (.ref o), .val (.int p1), .val (.int p2), .val (.int p3), .unset] []))
  obtain ⟨E0_2, ⟨F_s_2, F_c_2, F_r_2, F_a_2, F_b_2, F_U_2, F_W_2⟩, ⟨A_s_2, A_c_2, A_r_2, A_a_2, A_b_2⟩, -, ⟨g_o_2, g_s_2, g_c_2, g_r_2, g_a_2, g_b_2⟩⟩ := id C
  obtain ⟨k1, k2, k3, k4, k5, k6⟩ := I2.2.1 q hq
  refine own_go (fun tt kk => XS.aloadN X3.here hx rfl (hb hby d3_18) rfl rfl kk) ?_
  show own_Go p e below _ (T3.setTop (mkF m 19 #[.val (.ref o), .val (.int p1), .val (.int p2), .val (.int p3), .unset] [(.ref o)]))
  obtain ⟨T4, X4, e4, st4⟩ := getF X3 hx hZ hown (host := "") (Or.inl (hw _ (List.mem_of_getElem? (i := 11) rfl))) Via.refl (rfl : T3.heap = _) F_s_2 (g := (mkF m 19 #[.val (.ref o), .val (.int p1), .val (.int p2), .val (.int p3), .unset] [(.ref o)])) rfl rfl (hb hby d3_19)
  refine own_go st4 ?_
  show own_Go p e below _ (T4.setTop (mkF m 22 #[.val (.ref o), .val (.int p1), .val (.int p2), .val (.int p3), .unset] [(.ref bS)]))
  refine own_go (fun tt kk => XS.iloadN X4.here hx rfl (hb hby d3_22) rfl kk) ?_
  show own_Go p e below _ (T4.setTop (mkF m 23 #[.val (.ref o), .val (.int p1), .val (.int p2), .val (.int p3), .unset] [(.int p1), (.ref bS)]))
  refine own_go (own_iaload X4 hx hZ e4 A_s_2 (j := p1) hp hq (pc := 23) (Ls := #[.val (.ref o), .val (.int p1), .val (.int p2), .val (.int p3), .unset]) (rest := []) (hb hby d3_23)) ?_
  show own_Go p e below _ (T4.setTop (mkF m 24 #[.val (.ref o), .val (.int p1), .val (.int p2), .val (.int p3), .unset] [(.int (st2 q))]))
  refine own_go (fun tt kk => XS.aloadN X4.here hx rfl (hb hby d3_24) rfl rfl kk) ?_
  show own_Go p e below _ (T4.setTop (mkF m 25 #[.val (.ref o), .val (.int p1), .val (.int p2), .val (.int p3), .unset] [(.ref o), (.int (st2 q))]))
  obtain ⟨T5, X5, e5, st5⟩ := getF X4 hx hZ hown (host := "") (Or.inl (hw _ (List.mem_of_getElem? (i := 13) rfl))) Via.refl e4 F_c_2 (g := (mkF m 25 #[.val (.ref o), .val (.int p1), .val (.int p2), .val (.int p3), .unset] [(.ref o), (.int (st2 q))])) rfl rfl (hb hby d3_25)
  refine own_go st5 ?_
  show own_Go p e below _ (T5.setTop (mkF m 28 #[.val (.ref o), .val (.int p1), .val (.int p2), .val (.int p3), .unset] [(.ref bC), (.int (st2 q))]))
  refine own_go (fun tt kk => XS.iloadN X5.here hx rfl (hb hby d3_28) rfl kk) ?_
  show own_Go p e below _ (T5.setTop (mkF m 29 #[.val (.ref o), .val (.int p1), .val (.int p2), .val (.int p3), .unset] [(.int p1), (.ref bC), (.int (st2 q))]))
  refine own_go (fun tt kk => own_dup2 X5.here hx rfl (hb hby d3_29) rfl rfl rfl kk) ?_
  show own_Go p e below _ (T5.setTop (mkF m 30 #[.val (.ref o), .val (.int p1), .val (.int p2), .val (.int p3), .unset] [(.int p1), (.ref bC), (.int p1), (.ref bC), (.int (st2 q))]))
  refine own_go (own_iaload X5 hx hZ e5 A_c_2 (j := p1) hp hq (pc := 30) (Ls := #[.val (.ref o), .val (.int p1), .val (.int p2), .val (.int p3), .unset]) (rest := [(.int p1), (.ref bC), (.int (st2 q))]) (hb hby d3_30)) ?_
  show own_Go p e below _ (T5.setTop (mkF m 31 #[.val (.ref o), .val (.int p1), .val (.int p2), .val (.int p3), .unset] [(.int (ct' q)), (.int p1), (.ref bC), (.int (st2 q))]))
  refine own_go (fun tt kk => own_dupX2 X5.here hx rfl (hb hby d3_31) rfl rfl rfl rfl kk) ?_
  show own_Go p e below _ (T5.setTop (mkF m 32 #[.val (.ref o), .val (.int p1), .val (.int p2), .val (.int p3), .unset] [(.int (ct' q)), (.int p1), (.ref bC), (.int (ct' q)), (.int (st2 q))]))
  refine own_go (fun tt kk => XS.iconst X5.here hx rfl (hb hby d3_32) kk) ?_
  show own_Go p e below _ (T5.setTop (mkF m 33 #[.val (.ref o), .val (.int p1), .val (.int p2), .val (.int p3), .unset] [(.int (1 : Int32)), (.int (ct' q)), (.int p1), (.ref bC), (.int (ct' q)), (.int (st2 q))]))
  refine own_go (fun tt kk => XS.iadd X5.here hx rfl (hb hby d3_33) rfl kk) ?_
  show own_Go p e below _ (T5.setTop (mkF m 34 #[.val (.ref o), .val (.int p1), .val (.int p2), .val (.int p3), .unset] [(.int ((ct' q) + (1 : Int32))), (.int p1), (.ref bC), (.int (ct' q)), (.int (st2 q))]))
  obtain ⟨T6, h6, X6, e6, W6, st6⟩ := own_iastore X5 hx hZ e5 A_c_2 (j := p1) (x := ((ct' q) + (1 : Int32))) hp hq (pc := 34) (Ls := #[.val (.ref o), .val (.int p1), .val (.int p2), .val (.int p3), .unset]) (rest := [(.int (ct' q)), (.int (st2 q))]) (hb hby d3_34)
  refine own_go st6 ?_
  show own_Go p e below _ (T6.setTop (mkF m 35 #[.val (.ref o), .val (.int p1), .val (.int p2), .val (.int p3), .unset] [(.int (ct' q)), (.int (st2 q))]))
  have D := C.w_c W6
  obtain ⟨E0_3, ⟨F_s_3, F_c_3, F_r_3, F_a_3, F_b_3, F_U_3, F_W_3⟩, ⟨A_s_3, A_c_3, A_r_3, A_a_3, A_b_3⟩, -, ⟨g_o_3, g_s_3, g_c_3, g_r_3, g_a_3, g_b_3⟩⟩ := id D
  refine own_go (fun tt kk => XS.iadd X6.here hx rfl (hb hby d3_35) rfl kk) ?_
  show own_Go p e below _ (T6.setTop (mkF m 36 #[.val (.ref o), .val (.int p1), .val (.int p2), .val (.int p3), .unset] [(.int ((st2 q) + (ct' q)))]))
  refine own_go (fun tt kk => XS.istore X6.here hx rfl (hb hby d3_36) rfl (l' := #[.val (.ref o), .val (.int p1), .val (.int p2), .val (.int p3), .val (.int ((st2 q) + (ct' q)))]) rfl kk) ?_
  show own_Go p e below _ (T6.setTop (mkF m 38 #[.val (.ref o), .val (.int p1), .val (.int p2), .val (.int p3), .val (.int ((st2 q) + (ct' q)))] []))
  refine own_go (fun tt kk => XS.aloadN X6.here hx rfl (hb hby d3_38) rfl rfl kk) ?_
  show own_Go p e below _ (T6.setTop (mkF m 39 #[.val (.ref o), .val (.int p1), .val (.int p2), .val (.int p3), .val (.int ((st2 q) + (ct' q)))] [(.ref o)]))
  have t4 := c_iadd (st2 q) (ct' q)
  have t5 := rng32 (st2 q + ct' q)
  have t6 : (st2 q + ct' q).toInt = ((sN2 q + cnt q : Nat) : Int) := by omega
  obtain ⟨T7, X7, e7, st7⟩ := getF X6 hx hZ hown (host := "") (Or.inl (hw _ (List.mem_of_getElem? (i := 17) rfl))) Via.refl e6 F_a_3 (g := (mkF m 39 #[.val (.ref o), .val (.int p1), .val (.int p2), .val (.int p3), .val (.int ((st2 q) + (ct' q)))] [(.ref o)])) rfl rfl (hb hby d3_39)
  refine own_go st7 ?_
  show own_Go p e below _ (T7.setTop (mkF m 42 #[.val (.ref o), .val (.int p1), .val (.int p2), .val (.int p3), .val (.int ((st2 q) + (ct' q)))] [(.ref aA)]))
  refine own_go (fun tt kk => XS.iload X7.here hx rfl (hb hby d3_42) rfl kk) ?_
  show own_Go p e below _ (T7.setTop (mkF m 44 #[.val (.ref o), .val (.int p1), .val (.int p2), .val (.int p3), .val (.int ((st2 q) + (ct' q)))] [(.int ((st2 q) + (ct' q))), (.ref aA)]))
  refine own_go (fun tt kk => XS.iloadN X7.here hx rfl (hb hby d3_44) rfl kk) ?_
  show own_Go p e below _ (T7.setTop (mkF m 45 #[.val (.ref o), .val (.int p1), .val (.int p2), .val (.int p3), .val (.int ((st2 q) + (ct' q)))] [(.int p2), (.int ((st2 q) + (ct' q))), (.ref aA)]))
  obtain ⟨T8, h8, X8, e8, W8, st8⟩ := own_iastore X7 hx hZ e7 A_a_3 (j := ((st2 q) + (ct' q))) (x := p2) t6 (by omega) (pc := 45) (Ls := #[.val (.ref o), .val (.int p1), .val (.int p2), .val (.int p3), .val (.int ((st2 q) + (ct' q)))]) (rest := []) (hb hby d3_45)
  refine own_go st8 ?_
  show own_Go p e below _ (T8.setTop (mkF m 46 #[.val (.ref o), .val (.int p1), .val (.int p2), .val (.int p3), .val (.int ((st2 q) + (ct' q)))] []))
  have G := D.w_a W8
  obtain ⟨E0_4, ⟨F_s_4, F_c_4, F_r_4, F_a_4, F_b_4, F_U_4, F_W_4⟩, ⟨A_s_4, A_c_4, A_r_4, A_a_4, A_b_4⟩, -, ⟨g_o_4, g_s_4, g_c_4, g_r_4, g_a_4, g_b_4⟩⟩ := id G
  refine own_go (fun tt kk => XS.aloadN X8.here hx rfl (hb hby d3_46) rfl rfl kk) ?_
  show own_Go p e below _ (T8.setTop (mkF m 47 #[.val (.ref o), .val (.int p1), .val (.int p2), .val (.int p3), .val (.int ((st2 q) + (ct' q)))] [(.ref o)]))
  obtain ⟨T9, X9, e9, st9⟩ := getF X8 hx hZ hown (host := "") (Or.inl (hw _ (List.mem_of_getElem? (i := 19) rfl))) Via.refl e8 F_b_4 (g := (mkF m 47 #[.val (.ref o), .val (.int p1), .val (.int p2), .val (.int p3), .val (.int ((st2 q) + (ct' q)))] [(.ref o)])) rfl rfl (hb hby d3_47)
  refine own_go st9 ?_
  show own_Go p e below _ (T9.setTop (mkF m 50 #[.val (.ref o), .val (.int p1), .val (.int p2), .val (.int p3), .val (.int ((st2 q) + (ct' q)))] [(.ref aB)]))
  refine own_go (fun tt kk => XS.iload X9.here hx rfl (hb hby d3_50) rfl kk) ?_
  show own_Go p e below _ (T9.setTop (mkF m 52 #[.val (.ref o), .val (.int p1), .val (.int p2), .val (.int p3), .val (.int ((st2 q) + (ct' q)))] [(.int ((st2 q) + (ct' q))), (.ref aB)]))
  refine own_go (fun tt kk => XS.iloadN X9.here hx rfl (hb hby d3_52) rfl kk) ?_
  show own_Go p e below _ (T9.setTop (mkF m 53 #[.val (.ref o), .val (.int p1), .val (.int p2), .val (.int p3), .val (.int ((st2 q) + (ct' q)))] [(.int p3), (.int ((st2 q) + (ct' q))), (.ref aB)]))
  obtain ⟨T10, h10, X10, e10, W10, st10⟩ := own_iastore X9 hx hZ e9 A_b_4 (j := ((st2 q) + (ct' q))) (x := p3) t6 (by omega) (pc := 53) (Ls := #[.val (.ref o), .val (.int p1), .val (.int p2), .val (.int p3), .val (.int ((st2 q) + (ct' q)))]) (rest := []) (hb hby d3_53)
  refine own_go st10 ?_
  show own_Go p e below _ (T10.setTop (mkF m 54 #[.val (.ref o), .val (.int p1), .val (.int p2), .val (.int p3), .val (.int ((st2 q) + (ct' q)))] []))
  have J := G.w_b W10
  exact own_retV X10 hx hlk hret (hb hby d3_54) ⟨rfl, ⟨u2, hu2, by rw [e10]; exact ⟨_, _, _, _, _, N', _, _, _, _, _, U2, W', sN2, rN2, J, I2.push hq hr2 t3, hU2⟩⟩, Fr.snoc X10 (Fr.snoc X8 (Fr.snoc X6 (Fr.app (Fr.app (Fr.nil n0) N1) N3) g_c_1) g_a_1) g_b_1⟩ (by decide) (by decide)
set_option maxRecDepth 65536 in
set_option maxHeartbeats 40000000 in
theorem rmStart (l : Launch) (Z : State) (a0 : Array Value) (hw : ∀ d ∈ tables_1, d.before a0 Z = true) (ws : List Jvm.Cond) (o aS aC aR aA aB : Addr) (N : Nat) (st ct rm ac nb : Nat → Int32) (U W : Int32) (p1 : Int32) (q n0 : Nat) (h0 : Heap) (A : own_El Z n0 h0 o aS aC aR aA aB N N N st ct rm ac nb U W) (hp : p1.toInt = q)  :
    own_Met l Z ws (⟨"com/example/guarantor/guarantor/ag/EdgeLists", "start", "(I)I"⟩ : MethodName) prog_8_method_2_code 2 (some .int) ({ frames := 0, cells := 0, slots := 0, locals := 0 } : Room) #[(.ref o), (.int p1)] h0 (fun v h L => ∃ z : Int32, v = some (.int z) ∧ (q < N → z = st q) ∧ (N ≤ q → z = 0) ∧ h = h0 ∧ L = []) := by
  refine own_met pn_10 ?_
  intro p e s m below meth c s₁ hx hby hml hown hnm hret hlk hZ X0 e0
  refine own_entry (ef_10 m o p1) ?_
  show own_Go p e below _ (s₁.setTop (mkF m 0 #[.val (.ref o), .val (.int p1)] []))
  obtain ⟨E0_1, ⟨F_s_1, F_c_1, F_r_1, F_a_1, F_b_1, F_U_1, F_W_1⟩, ⟨A_s_1, A_c_1, A_r_1, A_a_1, A_b_1⟩, -, ⟨g_o_1, g_s_1, g_c_1, g_r_1, g_a_1, g_b_1⟩⟩ := id A
  have hNN : N.toInt32.toInt = N := len_toInt A_s_1.1
  refine own_go (fun tt kk => XS.iloadN X0.here hx rfl (hb hby d10_0) rfl kk) ?_
  show own_Go p e below _ (s₁.setTop (mkF m 1 #[.val (.ref o), .val (.int p1)] [(.int p1)]))
  refine own_go (fun tt kk => XS.aloadN X0.here hx rfl (hb hby d10_1) rfl rfl kk) ?_
  show own_Go p e below _ (s₁.setTop (mkF m 2 #[.val (.ref o), .val (.int p1)] [(.ref o), (.int p1)]))
  obtain ⟨T1, X1, e1, st1⟩ := getF X0 hx hZ hown (host := "") (Or.inl (hw _ (List.mem_of_getElem? (i := 11) rfl))) Via.refl e0 F_s_1 (g := (mkF m 2 #[.val (.ref o), .val (.int p1)] [(.ref o), (.int p1)])) rfl rfl (hb hby d10_2)
  refine own_go st1 ?_
  show own_Go p e below _ (T1.setTop (mkF m 5 #[.val (.ref o), .val (.int p1)] [(.ref aS), (.int p1)]))
  refine own_go (own_alen X1 hx hZ e1 A_s_1 (pc := 5) (Ls := #[.val (.ref o), .val (.int p1)]) (rest := [(.int p1)]) (hb hby d10_5)) ?_
  show own_Go p e below _ (T1.setTop (mkF m 6 #[.val (.ref o), .val (.int p1)] [(.int N.toInt32), (.int p1)]))
  by_cases hc6 : p1.toInt < (N.toInt32).toInt
  · refine own_go (fun tt kk => XS.icmpNo X1.here hx rfl (hb hby d10_6) rfl (tlt (own_lt32 (x := p1) (y := N.toInt32) (i := p1.toInt) (j := (N.toInt32).toInt) rfl rfl hc6)).2.1 kk) ?_
    show own_Go p e below _ (T1.setTop (mkF m 9 #[.val (.ref o), .val (.int p1)] []))
    refine own_go (fun tt kk => XS.aloadN X1.here hx rfl (hb hby d10_9) rfl rfl kk) ?_
    show own_Go p e below _ (T1.setTop (mkF m 10 #[.val (.ref o), .val (.int p1)] [(.ref o)]))
    obtain ⟨T2, X2, e2, st2⟩ := getF X1 hx hZ hown (host := "") (Or.inl (hw _ (List.mem_of_getElem? (i := 11) rfl))) Via.refl e1 F_s_1 (g := (mkF m 10 #[.val (.ref o), .val (.int p1)] [(.ref o)])) rfl rfl (hb hby d10_10)
    refine own_go st2 ?_
    show own_Go p e below _ (T2.setTop (mkF m 13 #[.val (.ref o), .val (.int p1)] [(.ref aS)]))
    refine own_go (fun tt kk => XS.iloadN X2.here hx rfl (hb hby d10_13) rfl kk) ?_
    show own_Go p e below _ (T2.setTop (mkF m 14 #[.val (.ref o), .val (.int p1)] [(.int p1), (.ref aS)]))
    refine own_go (own_iaload X2 hx hZ e2 A_s_1 (j := p1) hp (by omega) (pc := 14) (Ls := #[.val (.ref o), .val (.int p1)]) (rest := []) (hb hby d10_14)) ?_
    show own_Go p e below _ (T2.setTop (mkF m 15 #[.val (.ref o), .val (.int p1)] [(.int (st q))]))
    refine own_go (fun tt kk => XS.goto X2.here hx rfl (pc0 := 15) (pc' := 19) rfl (hb hby d10_15) (by decide) (by decide) kk) ?_
    show own_Go p e below _ (T2.setTop (mkF m 19 #[.val (.ref o), .val (.int p1)] [(.int (st q))]))
    exact own_retI X2 hx hlk hret (hb hby d10_19) ⟨st q, rfl, fun _ => rfl, fun h => absurd h (by omega), e2, rfl⟩ (by decide) (by decide)
  · refine own_go (fun tt kk => XS.icmpYes X1.here hx rfl (pc0 := 6) (pc' := 18) rfl (hb hby d10_6) rfl (flt (own_nlt32 (x := p1) (y := N.toInt32) (i := p1.toInt) (j := (N.toInt32).toInt) rfl rfl hc6)).2.1 (by decide) (by decide) kk) ?_
    show own_Go p e below _ (T1.setTop (mkF m 18 #[.val (.ref o), .val (.int p1)] []))
    refine own_go (fun tt kk => XS.iconst X1.here hx rfl (hb hby d10_18) kk) ?_
    show own_Go p e below _ (T1.setTop (mkF m 19 #[.val (.ref o), .val (.int p1)] [(.int (0 : Int32))]))
    exact own_retI X1 hx hlk hret (hb hby d10_19) ⟨0, rfl, fun h => absurd h (by omega), fun _ => rfl, e1, rfl⟩ (by decide) (by decide)
set_option maxRecDepth 65536 in
set_option maxHeartbeats 40000000 in
theorem rmEnd (l : Launch) (Z : State) (a0 : Array Value) (hw : ∀ d ∈ tables_1, d.before a0 Z = true) (ws : List Jvm.Cond) (o aS aC aR aA aB : Addr) (N : Nat) (st ct rm ac nb : Nat → Int32) (U W : Int32) (p1 : Int32) (q n0 : Nat) (h0 : Heap) (A : own_El Z n0 h0 o aS aC aR aA aB N N N st ct rm ac nb U W) (hp : p1.toInt = q)  :
    own_Met l Z ws (⟨"com/example/guarantor/guarantor/ag/EdgeLists", "end", "(I)I"⟩ : MethodName) prog_8_method_3_code 2 (some .int) ({ frames := 0, cells := 0, slots := 0, locals := 0 } : Room) #[(.ref o), (.int p1)] h0 (fun v h L => ∃ z : Int32, v = some (.int z) ∧ (q < N → z = st q + ct q) ∧ (N ≤ q → z = 0) ∧ h = h0 ∧ L = []) := by
  refine own_met pn_11 ?_
  intro p e s m below meth c s₁ hx hby hml hown hnm hret hlk hZ X0 e0
  refine own_entry (ef_11 m o p1) ?_
  show own_Go p e below _ (s₁.setTop (mkF m 0 #[.val (.ref o), .val (.int p1)] []))
  obtain ⟨E0_1, ⟨F_s_1, F_c_1, F_r_1, F_a_1, F_b_1, F_U_1, F_W_1⟩, ⟨A_s_1, A_c_1, A_r_1, A_a_1, A_b_1⟩, -, ⟨g_o_1, g_s_1, g_c_1, g_r_1, g_a_1, g_b_1⟩⟩ := id A
  have hNN : N.toInt32.toInt = N := len_toInt A_s_1.1
  refine own_go (fun tt kk => XS.iloadN X0.here hx rfl (hb hby d11_0) rfl kk) ?_
  show own_Go p e below _ (s₁.setTop (mkF m 1 #[.val (.ref o), .val (.int p1)] [(.int p1)]))
  refine own_go (fun tt kk => XS.aloadN X0.here hx rfl (hb hby d11_1) rfl rfl kk) ?_
  show own_Go p e below _ (s₁.setTop (mkF m 2 #[.val (.ref o), .val (.int p1)] [(.ref o), (.int p1)]))
  obtain ⟨T1, X1, e1, st1⟩ := getF X0 hx hZ hown (host := "") (Or.inl (hw _ (List.mem_of_getElem? (i := 11) rfl))) Via.refl e0 F_s_1 (g := (mkF m 2 #[.val (.ref o), .val (.int p1)] [(.ref o), (.int p1)])) rfl rfl (hb hby d11_2)
  refine own_go st1 ?_
  show own_Go p e below _ (T1.setTop (mkF m 5 #[.val (.ref o), .val (.int p1)] [(.ref aS), (.int p1)]))
  refine own_go (own_alen X1 hx hZ e1 A_s_1 (pc := 5) (Ls := #[.val (.ref o), .val (.int p1)]) (rest := [(.int p1)]) (hb hby d11_5)) ?_
  show own_Go p e below _ (T1.setTop (mkF m 6 #[.val (.ref o), .val (.int p1)] [(.int N.toInt32), (.int p1)]))
  by_cases hc6 : p1.toInt < (N.toInt32).toInt
  · refine own_go (fun tt kk => XS.icmpNo X1.here hx rfl (hb hby d11_6) rfl (tlt (own_lt32 (x := p1) (y := N.toInt32) (i := p1.toInt) (j := (N.toInt32).toInt) rfl rfl hc6)).2.1 kk) ?_
    show own_Go p e below _ (T1.setTop (mkF m 9 #[.val (.ref o), .val (.int p1)] []))
    refine own_go (fun tt kk => XS.aloadN X1.here hx rfl (hb hby d11_9) rfl rfl kk) ?_
    show own_Go p e below _ (T1.setTop (mkF m 10 #[.val (.ref o), .val (.int p1)] [(.ref o)]))
    obtain ⟨T2, X2, e2, st2⟩ := getF X1 hx hZ hown (host := "") (Or.inl (hw _ (List.mem_of_getElem? (i := 11) rfl))) Via.refl e1 F_s_1 (g := (mkF m 10 #[.val (.ref o), .val (.int p1)] [(.ref o)])) rfl rfl (hb hby d11_10)
    refine own_go st2 ?_
    show own_Go p e below _ (T2.setTop (mkF m 13 #[.val (.ref o), .val (.int p1)] [(.ref aS)]))
    refine own_go (fun tt kk => XS.iloadN X2.here hx rfl (hb hby d11_13) rfl kk) ?_
    show own_Go p e below _ (T2.setTop (mkF m 14 #[.val (.ref o), .val (.int p1)] [(.int p1), (.ref aS)]))
    refine own_go (own_iaload X2 hx hZ e2 A_s_1 (j := p1) hp (by omega) (pc := 14) (Ls := #[.val (.ref o), .val (.int p1)]) (rest := []) (hb hby d11_14)) ?_
    show own_Go p e below _ (T2.setTop (mkF m 15 #[.val (.ref o), .val (.int p1)] [(.int (st q))]))
    refine own_go (fun tt kk => XS.aloadN X2.here hx rfl (hb hby d11_15) rfl rfl kk) ?_
    show own_Go p e below _ (T2.setTop (mkF m 16 #[.val (.ref o), .val (.int p1)] [(.ref o), (.int (st q))]))
    obtain ⟨T3, X3, e3, st3⟩ := getF X2 hx hZ hown (host := "") (Or.inl (hw _ (List.mem_of_getElem? (i := 13) rfl))) Via.refl e2 F_c_1 (g := (mkF m 16 #[.val (.ref o), .val (.int p1)] [(.ref o), (.int (st q))])) rfl rfl (hb hby d11_16)
    refine own_go st3 ?_
    show own_Go p e below _ (T3.setTop (mkF m 19 #[.val (.ref o), .val (.int p1)] [(.ref aC), (.int (st q))]))
    refine own_go (fun tt kk => XS.iloadN X3.here hx rfl (hb hby d11_19) rfl kk) ?_
    show own_Go p e below _ (T3.setTop (mkF m 20 #[.val (.ref o), .val (.int p1)] [(.int p1), (.ref aC), (.int (st q))]))
    refine own_go (own_iaload X3 hx hZ e3 A_c_1 (j := p1) hp (by omega) (pc := 20) (Ls := #[.val (.ref o), .val (.int p1)]) (rest := [(.int (st q))]) (hb hby d11_20)) ?_
    show own_Go p e below _ (T3.setTop (mkF m 21 #[.val (.ref o), .val (.int p1)] [(.int (ct q)), (.int (st q))]))
    refine own_go (fun tt kk => XS.iadd X3.here hx rfl (hb hby d11_21) rfl kk) ?_
    show own_Go p e below _ (T3.setTop (mkF m 22 #[.val (.ref o), .val (.int p1)] [(.int ((st q) + (ct q)))]))
    refine own_go (fun tt kk => XS.goto X3.here hx rfl (pc0 := 22) (pc' := 26) rfl (hb hby d11_22) (by decide) (by decide) kk) ?_
    show own_Go p e below _ (T3.setTop (mkF m 26 #[.val (.ref o), .val (.int p1)] [(.int ((st q) + (ct q)))]))
    exact own_retI X3 hx hlk hret (hb hby d11_26) ⟨st q + ct q, rfl, fun _ => rfl, fun h => absurd h (by omega), e3, rfl⟩ (by decide) (by decide)
  · refine own_go (fun tt kk => XS.icmpYes X1.here hx rfl (pc0 := 6) (pc' := 25) rfl (hb hby d11_6) rfl (flt (own_nlt32 (x := p1) (y := N.toInt32) (i := p1.toInt) (j := (N.toInt32).toInt) rfl rfl hc6)).2.1 (by decide) (by decide) kk) ?_
    show own_Go p e below _ (T1.setTop (mkF m 25 #[.val (.ref o), .val (.int p1)] []))
    refine own_go (fun tt kk => XS.iconst X1.here hx rfl (hb hby d11_25) kk) ?_
    show own_Go p e below _ (T1.setTop (mkF m 26 #[.val (.ref o), .val (.int p1)] [(.int (0 : Int32))]))
    exact own_retI X1 hx hlk hret (hb hby d11_26) ⟨0, rfl, fun h => absurd h (by omega), fun _ => rfl, e1, rfl⟩ (by decide) (by decide)
set_option maxRecDepth 65536 in
set_option maxHeartbeats 40000000 in
theorem rmAct (l : Launch) (Z : State) (a0 : Array Value) (hw : ∀ d ∈ tables_1, d.before a0 Z = true) (ws : List Jvm.Cond) (o aS aC aR aA aB : Addr) (N : Nat) (st ct rm ac nb : Nat → Int32) (U W : Int32) (p1 : Int32) (q n0 : Nat) (h0 : Heap) (A : own_El Z n0 h0 o aS aC aR aA aB N N N st ct rm ac nb U W) (hp : p1.toInt = q) (hq : q < 64) :
    own_Met l Z ws (⟨"com/example/guarantor/guarantor/ag/EdgeLists", "action", "(I)I"⟩ : MethodName) prog_8_method_4_code 2 (some .int) ({ frames := 0, cells := 0, slots := 0, locals := 0 } : Room) #[(.ref o), (.int p1)] h0 (fun v h L => v = some (.int (ac q)) ∧ h = h0 ∧ L = []) := by
  refine own_met pn_12 ?_
  intro p e s m below meth c s₁ hx hby hml hown hnm hret hlk hZ X0 e0
  refine own_entry (ef_12 m o p1) ?_
  show own_Go p e below _ (s₁.setTop (mkF m 0 #[.val (.ref o), .val (.int p1)] []))
  obtain ⟨E0_1, ⟨F_s_1, F_c_1, F_r_1, F_a_1, F_b_1, F_U_1, F_W_1⟩, ⟨A_s_1, A_c_1, A_r_1, A_a_1, A_b_1⟩, -, ⟨g_o_1, g_s_1, g_c_1, g_r_1, g_a_1, g_b_1⟩⟩ := id A
  have hNN : N.toInt32.toInt = N := len_toInt A_s_1.1
  refine own_go (fun tt kk => XS.aloadN X0.here hx rfl (hb hby d12_0) rfl rfl kk) ?_
  show own_Go p e below _ (s₁.setTop (mkF m 1 #[.val (.ref o), .val (.int p1)] [(.ref o)]))
  obtain ⟨T1, X1, e1, st1⟩ := getF X0 hx hZ hown (host := "") (Or.inl (hw _ (List.mem_of_getElem? (i := 17) rfl))) Via.refl e0 F_a_1 (g := (mkF m 1 #[.val (.ref o), .val (.int p1)] [(.ref o)])) rfl rfl (hb hby d12_1)
  refine own_go st1 ?_
  show own_Go p e below _ (T1.setTop (mkF m 4 #[.val (.ref o), .val (.int p1)] [(.ref aA)]))
  refine own_go (fun tt kk => XS.iloadN X1.here hx rfl (hb hby d12_4) rfl kk) ?_
  show own_Go p e below _ (T1.setTop (mkF m 5 #[.val (.ref o), .val (.int p1)] [(.int p1), (.ref aA)]))
  refine own_go (own_iaload X1 hx hZ e1 A_a_1 (j := p1) hp hq (pc := 5) (Ls := #[.val (.ref o), .val (.int p1)]) (rest := []) (hb hby d12_5)) ?_
  show own_Go p e below _ (T1.setTop (mkF m 6 #[.val (.ref o), .val (.int p1)] [(.int (ac q))]))
  exact own_retI X1 hx hlk hret (hb hby d12_6) ⟨rfl, e1, rfl⟩ (by decide) (by decide)
set_option maxRecDepth 65536 in
set_option maxHeartbeats 40000000 in
theorem rmRem (l : Launch) (Z : State) (a0 : Array Value) (hw : ∀ d ∈ tables_1, d.before a0 Z = true) (ws : List Jvm.Cond) (o : Addr) (cnt : Nat → Nat) (LA LB : Nat → Nat → Int32) (u : Nat) (p1 p2 p3 : Int32) (q n0 : Nat) (h0 : Heap) (EA : own_EL Z n0 h0 o cnt LA LB u) (hp : p1.toInt = q) (hc : 0 < cnt q) (hu : u ≤ 64) (hA : LA q 0 = p2) (hB : LB q 0 = p3) :
    own_Met l Z ws (⟨"com/example/guarantor/guarantor/ag/EdgeLists", "remove", "(III)V"⟩ : MethodName) prog_8_method_7_code 6 none ({ frames := 1, cells := 0, slots := 0, locals := 30 } : Room) #[(.ref o), (.int p1), (.int p2), (.int p3)] h0 (fun v h L => v = none ∧ (∃ LA' LB', own_EL Z n0 h o (own_upd cnt q (cnt q - 1)) LA' LB' u) ∧ Fr n0 L) := by
  refine own_met pn_13 ?_
  intro p e s m below meth c s₁ hx hby hml hown hnm hret hlk hZ X0 e0
  refine own_entry (ef_13 m o p1 p2 p3) ?_
  show own_Go p e below _ (s₁.setTop (mkF m 0 #[.val (.ref o), .val (.int p1), .val (.int p2), .val (.int p3), .unset, .unset] []))
  obtain ⟨aS, aC, aR, aA, aB, N, st, ct, rm, ac, nb, U, W, sN, rN, A, I, hU⟩ := EA
  have o32 : (1 : Int32).toInt = 1 := rfl
  have hq : q < N := by
    rcases Nat.lt_or_ge q N with h | h
    · exact h
    · have := I.2.2.1 q h; omega
  obtain ⟨E0_1, ⟨F_s_1, F_c_1, F_r_1, F_a_1, F_b_1, F_U_1, F_W_1⟩, ⟨A_s_1, A_c_1, A_r_1, A_a_1, A_b_1⟩, -, ⟨g_o_1, g_s_1, g_c_1, g_r_1, g_a_1, g_b_1⟩⟩ := id A
  obtain ⟨i1, i2, i3, i4, i5, i6⟩ := I.2.1 q hq
  obtain ⟨x1, x2⟩ := i6 0 hc
  rw [hA] at x1
  rw [hB] at x2
  rw [Nat.add_zero] at x1 x2
  refine own_go (fun tt kk => XS.aloadN X0.here hx rfl (hb hby d13_0) rfl rfl kk) ?_
  show own_Go p e below _ (s₁.setTop (mkF m 1 #[.val (.ref o), .val (.int p1), .val (.int p2), .val (.int p3), .unset, .unset] [(.ref o)]))
  refine own_go (fun tt kk => XS.iloadN X0.here hx rfl (hb hby d13_1) rfl kk) ?_
  show own_Go p e below _ (s₁.setTop (mkF m 2 #[.val (.ref o), .val (.int p1), .val (.int p2), .val (.int p3), .unset, .unset] [(.int p1), (.ref o)]))
  obtain ⟨v1, L1, T1, X1, qq1, st1⟩ := own_callV X0 hx hZ hown (hw _ (List.mem_of_getElem? (i := 78) rfl)) (hw _ (List.mem_of_getElem? (i := 64) rfl)) (hw _ (List.mem_of_getElem? (i := 66) rfl)) (hw _ (List.mem_of_getElem? (i := 65) rfl)) (hw _ (List.mem_of_getElem? (i := 67) rfl)) (hw _ (List.mem_of_getElem? (i := 3) rfl)) (by decide) E0_1 (rmEnd l Z a0 hw [] o aS aC aR aA aB N st ct rm ac nb U W p1 q n0 h0 A hp) e0 (pc := 2) (Ls := #[.val (.ref o), .val (.int p1), .val (.int p2), .val (.int p3), .unset, .unset]) (argsL := [(.int p1)]) (rest := []) rfl (by rw [hml]; rfl) pd_5 rfl rfl (hb hby d13_2) 0 (Nat.le_of_eq rfl) (by decide) (by decide) (by decide) (by decide)
  obtain ⟨z1, rfl, ze1, -, hh1, rfl⟩ := qq1
  refine own_go st1 ?_
  show own_Go p e below _ (T1.setTop (mkF m 5 #[.val (.ref o), .val (.int p1), .val (.int p2), .val (.int p3), .unset, .unset] [(.int z1)]))
  obtain rfl := ze1 hq
  show own_Go p e below _ (T1.setTop (mkF m 5 #[.val (.ref o), .val (.int p1), .val (.int p2), .val (.int p3), .unset, .unset] [(.int (st q + ct q))]))
  refine own_go (fun tt kk => XS.iconst X1.here hx rfl (hb hby d13_5) kk) ?_
  show own_Go p e below _ (T1.setTop (mkF m 6 #[.val (.ref o), .val (.int p1), .val (.int p2), .val (.int p3), .unset, .unset] [(.int (1 : Int32)), (.int (st q + ct q))]))
  refine own_go (fun tt kk => XS.isub X1.here hx rfl (hb hby d13_6) rfl kk) ?_
  show own_Go p e below _ (T1.setTop (mkF m 7 #[.val (.ref o), .val (.int p1), .val (.int p2), .val (.int p3), .unset, .unset] [(.int ((st q + ct q) - (1 : Int32)))]))
  refine own_go (fun tt kk => XS.istore X1.here hx rfl (hb hby d13_7) rfl (l' := #[.val (.ref o), .val (.int p1), .val (.int p2), .val (.int p3), .val (.int ((st q + ct q) - (1 : Int32))), .unset]) rfl kk) ?_
  show own_Go p e below _ (T1.setTop (mkF m 9 #[.val (.ref o), .val (.int p1), .val (.int p2), .val (.int p3), .val (.int ((st q + ct q) - (1 : Int32))), .unset] []))
  refine own_go (fun tt kk => XS.aloadN X1.here hx rfl (hb hby d13_9) rfl rfl kk) ?_
  show own_Go p e below _ (T1.setTop (mkF m 10 #[.val (.ref o), .val (.int p1), .val (.int p2), .val (.int p3), .val (.int ((st q + ct q) - (1 : Int32))), .unset] [(.ref o)]))
  refine own_go (fun tt kk => XS.iloadN X1.here hx rfl (hb hby d13_10) rfl kk) ?_
  show own_Go p e below _ (T1.setTop (mkF m 11 #[.val (.ref o), .val (.int p1), .val (.int p2), .val (.int p3), .val (.int ((st q + ct q) - (1 : Int32))), .unset] [(.int p1), (.ref o)]))
  obtain ⟨v2, L2, T2, X2, qq2, st2⟩ := own_callV X1 hx hZ hown (hw _ (List.mem_of_getElem? (i := 79) rfl)) (hw _ (List.mem_of_getElem? (i := 59) rfl)) (hw _ (List.mem_of_getElem? (i := 61) rfl)) (hw _ (List.mem_of_getElem? (i := 60) rfl)) (hw _ (List.mem_of_getElem? (i := 62) rfl)) (hw _ (List.mem_of_getElem? (i := 3) rfl)) (by decide) E0_1 (rmStart l Z a0 hw [] o aS aC aR aA aB N st ct rm ac nb U W p1 q n0 h0 A hp) hh1 (pc := 11) (Ls := #[.val (.ref o), .val (.int p1), .val (.int p2), .val (.int p3), .val (.int ((st q + ct q) - (1 : Int32))), .unset]) (argsL := [(.int p1)]) (rest := []) rfl (by rw [hml]; rfl) pd_5 rfl rfl (hb hby d13_11) 0 (Nat.le_of_eq rfl) (by decide) (by decide) (by decide) (by decide)
  obtain ⟨z2, rfl, ze2, -, hh2, rfl⟩ := qq2
  refine own_go st2 ?_
  show own_Go p e below _ (T2.setTop (mkF m 14 #[.val (.ref o), .val (.int p1), .val (.int p2), .val (.int p3), .val (.int ((st q + ct q) - (1 : Int32))), .unset] [(.int z2)]))
  obtain rfl := ze2 hq
  show own_Go p e below _ (T2.setTop (mkF m 14 #[.val (.ref o), .val (.int p1), .val (.int p2), .val (.int p3), .val (.int ((st q + ct q) - (1 : Int32))), .unset] [(.int (st q))]))
  have t1 := c_iadd (st q) (ct q)
  have t2 := rng32 (st q + ct q)
  have t3 := c_isub (st q + ct q) 1
  have t4 := rng32 (st q + ct q - 1)
  have t5 : (st q + ct q - 1).toInt = ((sN q + (cnt q - 1) : Nat) : Int) := by omega
  have t6 := c_isub (ct q) 1
  have t7 := rng32 (ct q - 1)
  have t8 : (ct q - 1).toInt = ((cnt q - 1 : Nat) : Int) := by omega
  refine own_go (fun tt kk => XS.istore X2.here hx rfl (hb hby d13_14) rfl (l' := #[.val (.ref o), .val (.int p1), .val (.int p2), .val (.int p3), .val (.int ((st q + ct q) - (1 : Int32))), .val (.int (st q))]) rfl kk) ?_
  show own_Go p e below _ (T2.setTop (mkF m 16 #[.val (.ref o), .val (.int p1), .val (.int p2), .val (.int p3), .val (.int ((st q + ct q) - (1 : Int32))), .val (.int (st q))] []))
  refine own_go (fun tt kk => XS.iload X2.here hx rfl (hb hby d13_16) rfl kk) ?_
  show own_Go p e below _ (T2.setTop (mkF m 18 #[.val (.ref o), .val (.int p1), .val (.int p2), .val (.int p3), .val (.int ((st q + ct q) - (1 : Int32))), .val (.int (st q))] [(.int (st q))]))
  refine own_go (fun tt kk => XS.iload X2.here hx rfl (hb hby d13_18) rfl kk) ?_
  show own_Go p e below _ (T2.setTop (mkF m 20 #[.val (.ref o), .val (.int p1), .val (.int p2), .val (.int p3), .val (.int ((st q + ct q) - (1 : Int32))), .val (.int (st q))] [(.int ((st q + ct q) - (1 : Int32))), (.int (st q))]))
  refine own_go (fun tt kk => XS.icmpNo X2.here hx rfl (hb hby d13_20) rfl (flt (own_nlt32 (x := ((st q + ct q) - (1 : Int32))) (y := (st q)) (i := ((st q + ct q) - (1 : Int32)).toInt) (j := (st q).toInt) rfl rfl (by omega))).2.2.1 kk) ?_
  show own_Go p e below _ (T2.setTop (mkF m 23 #[.val (.ref o), .val (.int p1), .val (.int p2), .val (.int p3), .val (.int ((st q + ct q) - (1 : Int32))), .val (.int (st q))] []))
  refine own_go (fun tt kk => XS.aloadN X2.here hx rfl (hb hby d13_23) rfl rfl kk) ?_
  show own_Go p e below _ (T2.setTop (mkF m 24 #[.val (.ref o), .val (.int p1), .val (.int p2), .val (.int p3), .val (.int ((st q + ct q) - (1 : Int32))), .val (.int (st q))] [(.ref o)]))
  obtain ⟨T3, X3, e3, st3⟩ := getF X2 hx hZ hown (host := "") (Or.inl (hw _ (List.mem_of_getElem? (i := 17) rfl))) Via.refl hh2 F_a_1 (g := (mkF m 24 #[.val (.ref o), .val (.int p1), .val (.int p2), .val (.int p3), .val (.int ((st q + ct q) - (1 : Int32))), .val (.int (st q))] [(.ref o)])) rfl rfl (hb hby d13_24)
  refine own_go st3 ?_
  show own_Go p e below _ (T3.setTop (mkF m 27 #[.val (.ref o), .val (.int p1), .val (.int p2), .val (.int p3), .val (.int ((st q + ct q) - (1 : Int32))), .val (.int (st q))] [(.ref aA)]))
  refine own_go (fun tt kk => XS.iload X3.here hx rfl (hb hby d13_27) rfl kk) ?_
  show own_Go p e below _ (T3.setTop (mkF m 29 #[.val (.ref o), .val (.int p1), .val (.int p2), .val (.int p3), .val (.int ((st q + ct q) - (1 : Int32))), .val (.int (st q))] [(.int (st q)), (.ref aA)]))
  refine own_go (own_iaload X3 hx hZ e3 A_a_1 (j := (st q)) i1 (by omega) (pc := 29) (Ls := #[.val (.ref o), .val (.int p1), .val (.int p2), .val (.int p3), .val (.int ((st q + ct q) - (1 : Int32))), .val (.int (st q))]) (rest := []) (hb hby d13_29)) ?_
  show own_Go p e below _ (T3.setTop (mkF m 30 #[.val (.ref o), .val (.int p1), .val (.int p2), .val (.int p3), .val (.int ((st q + ct q) - (1 : Int32))), .val (.int (st q))] [(.int (ac (sN q)))]))
  refine own_go (fun tt kk => XS.iloadN X3.here hx rfl (hb hby d13_30) rfl kk) ?_
  show own_Go p e below _ (T3.setTop (mkF m 31 #[.val (.ref o), .val (.int p1), .val (.int p2), .val (.int p3), .val (.int ((st q + ct q) - (1 : Int32))), .val (.int (st q))] [(.int p2), (.int (ac (sN q)))]))
  refine own_go (fun tt kk => XS.icmpNo X3.here hx rfl (hb hby d13_31) rfl (teq (own_eq32 (x := (ac (sN q))) (y := p2) (i := (ac (sN q)).toInt) (j := p2.toInt) rfl rfl (by rw [x1]))).2 kk) ?_
  show own_Go p e below _ (T3.setTop (mkF m 34 #[.val (.ref o), .val (.int p1), .val (.int p2), .val (.int p3), .val (.int ((st q + ct q) - (1 : Int32))), .val (.int (st q))] []))
  refine own_go (fun tt kk => XS.aloadN X3.here hx rfl (hb hby d13_34) rfl rfl kk) ?_
  show own_Go p e below _ (T3.setTop (mkF m 35 #[.val (.ref o), .val (.int p1), .val (.int p2), .val (.int p3), .val (.int ((st q + ct q) - (1 : Int32))), .val (.int (st q))] [(.ref o)]))
  obtain ⟨T4, X4, e4, st4⟩ := getF X3 hx hZ hown (host := "") (Or.inl (hw _ (List.mem_of_getElem? (i := 19) rfl))) Via.refl e3 F_b_1 (g := (mkF m 35 #[.val (.ref o), .val (.int p1), .val (.int p2), .val (.int p3), .val (.int ((st q + ct q) - (1 : Int32))), .val (.int (st q))] [(.ref o)])) rfl rfl (hb hby d13_35)
  refine own_go st4 ?_
  show own_Go p e below _ (T4.setTop (mkF m 38 #[.val (.ref o), .val (.int p1), .val (.int p2), .val (.int p3), .val (.int ((st q + ct q) - (1 : Int32))), .val (.int (st q))] [(.ref aB)]))
  refine own_go (fun tt kk => XS.iload X4.here hx rfl (hb hby d13_38) rfl kk) ?_
  show own_Go p e below _ (T4.setTop (mkF m 40 #[.val (.ref o), .val (.int p1), .val (.int p2), .val (.int p3), .val (.int ((st q + ct q) - (1 : Int32))), .val (.int (st q))] [(.int (st q)), (.ref aB)]))
  refine own_go (own_iaload X4 hx hZ e4 A_b_1 (j := (st q)) i1 (by omega) (pc := 40) (Ls := #[.val (.ref o), .val (.int p1), .val (.int p2), .val (.int p3), .val (.int ((st q + ct q) - (1 : Int32))), .val (.int (st q))]) (rest := []) (hb hby d13_40)) ?_
  show own_Go p e below _ (T4.setTop (mkF m 41 #[.val (.ref o), .val (.int p1), .val (.int p2), .val (.int p3), .val (.int ((st q + ct q) - (1 : Int32))), .val (.int (st q))] [(.int (nb (sN q)))]))
  refine own_go (fun tt kk => XS.iloadN X4.here hx rfl (hb hby d13_41) rfl kk) ?_
  show own_Go p e below _ (T4.setTop (mkF m 42 #[.val (.ref o), .val (.int p1), .val (.int p2), .val (.int p3), .val (.int ((st q + ct q) - (1 : Int32))), .val (.int (st q))] [(.int p3), (.int (nb (sN q)))]))
  refine own_go (fun tt kk => XS.icmpNo X4.here hx rfl (hb hby d13_42) rfl (teq (own_eq32 (x := (nb (sN q))) (y := p3) (i := (nb (sN q)).toInt) (j := p3.toInt) rfl rfl (by rw [x2]))).2 kk) ?_
  show own_Go p e below _ (T4.setTop (mkF m 45 #[.val (.ref o), .val (.int p1), .val (.int p2), .val (.int p3), .val (.int ((st q + ct q) - (1 : Int32))), .val (.int (st q))] []))
  refine own_go (fun tt kk => XS.aloadN X4.here hx rfl (hb hby d13_45) rfl rfl kk) ?_
  show own_Go p e below _ (T4.setTop (mkF m 46 #[.val (.ref o), .val (.int p1), .val (.int p2), .val (.int p3), .val (.int ((st q + ct q) - (1 : Int32))), .val (.int (st q))] [(.ref o)]))
  obtain ⟨T5, X5, e5, st5⟩ := getF X4 hx hZ hown (host := "") (Or.inl (hw _ (List.mem_of_getElem? (i := 17) rfl))) Via.refl e4 F_a_1 (g := (mkF m 46 #[.val (.ref o), .val (.int p1), .val (.int p2), .val (.int p3), .val (.int ((st q + ct q) - (1 : Int32))), .val (.int (st q))] [(.ref o)])) rfl rfl (hb hby d13_46)
  refine own_go st5 ?_
  show own_Go p e below _ (T5.setTop (mkF m 49 #[.val (.ref o), .val (.int p1), .val (.int p2), .val (.int p3), .val (.int ((st q + ct q) - (1 : Int32))), .val (.int (st q))] [(.ref aA)]))
  refine own_go (fun tt kk => XS.iload X5.here hx rfl (hb hby d13_49) rfl kk) ?_
  show own_Go p e below _ (T5.setTop (mkF m 51 #[.val (.ref o), .val (.int p1), .val (.int p2), .val (.int p3), .val (.int ((st q + ct q) - (1 : Int32))), .val (.int (st q))] [(.int (st q)), (.ref aA)]))
  refine own_go (fun tt kk => XS.aloadN X5.here hx rfl (hb hby d13_51) rfl rfl kk) ?_
  show own_Go p e below _ (T5.setTop (mkF m 52 #[.val (.ref o), .val (.int p1), .val (.int p2), .val (.int p3), .val (.int ((st q + ct q) - (1 : Int32))), .val (.int (st q))] [(.ref o), (.int (st q)), (.ref aA)]))
  obtain ⟨T6, X6, e6, st6⟩ := getF X5 hx hZ hown (host := "") (Or.inl (hw _ (List.mem_of_getElem? (i := 17) rfl))) Via.refl e5 F_a_1 (g := (mkF m 52 #[.val (.ref o), .val (.int p1), .val (.int p2), .val (.int p3), .val (.int ((st q + ct q) - (1 : Int32))), .val (.int (st q))] [(.ref o), (.int (st q)), (.ref aA)])) rfl rfl (hb hby d13_52)
  refine own_go st6 ?_
  show own_Go p e below _ (T6.setTop (mkF m 55 #[.val (.ref o), .val (.int p1), .val (.int p2), .val (.int p3), .val (.int ((st q + ct q) - (1 : Int32))), .val (.int (st q))] [(.ref aA), (.int (st q)), (.ref aA)]))
  refine own_go (fun tt kk => XS.iload X6.here hx rfl (hb hby d13_55) rfl kk) ?_
  show own_Go p e below _ (T6.setTop (mkF m 57 #[.val (.ref o), .val (.int p1), .val (.int p2), .val (.int p3), .val (.int ((st q + ct q) - (1 : Int32))), .val (.int (st q))] [(.int ((st q + ct q) - (1 : Int32))), (.ref aA), (.int (st q)), (.ref aA)]))
  refine own_go (own_iaload X6 hx hZ e6 A_a_1 (j := ((st q + ct q) - (1 : Int32))) t5 (by omega) (pc := 57) (Ls := #[.val (.ref o), .val (.int p1), .val (.int p2), .val (.int p3), .val (.int ((st q + ct q) - (1 : Int32))), .val (.int (st q))]) (rest := [(.int (st q)), (.ref aA)]) (hb hby d13_57)) ?_
  show own_Go p e below _ (T6.setTop (mkF m 58 #[.val (.ref o), .val (.int p1), .val (.int p2), .val (.int p3), .val (.int ((st q + ct q) - (1 : Int32))), .val (.int (st q))] [(.int (ac (sN q + (cnt q - 1)))), (.int (st q)), (.ref aA)]))
  obtain ⟨T7, h7, X7, e7, W7, st7⟩ := own_iastore X6 hx hZ e6 A_a_1 (j := (st q)) (x := (ac (sN q + (cnt q - 1)))) i1 (by omega) (pc := 58) (Ls := #[.val (.ref o), .val (.int p1), .val (.int p2), .val (.int p3), .val (.int ((st q + ct q) - (1 : Int32))), .val (.int (st q))]) (rest := []) (hb hby d13_58)
  refine own_go st7 ?_
  show own_Go p e below _ (T7.setTop (mkF m 59 #[.val (.ref o), .val (.int p1), .val (.int p2), .val (.int p3), .val (.int ((st q + ct q) - (1 : Int32))), .val (.int (st q))] []))
  have B := A.w_a W7
  obtain ⟨E0_2, ⟨F_s_2, F_c_2, F_r_2, F_a_2, F_b_2, F_U_2, F_W_2⟩, ⟨A_s_2, A_c_2, A_r_2, A_a_2, A_b_2⟩, -, ⟨g_o_2, g_s_2, g_c_2, g_r_2, g_a_2, g_b_2⟩⟩ := id B
  refine own_go (fun tt kk => XS.aloadN X7.here hx rfl (hb hby d13_59) rfl rfl kk) ?_
  show own_Go p e below _ (T7.setTop (mkF m 60 #[.val (.ref o), .val (.int p1), .val (.int p2), .val (.int p3), .val (.int ((st q + ct q) - (1 : Int32))), .val (.int (st q))] [(.ref o)]))
  obtain ⟨T8, X8, e8, st8⟩ := getF X7 hx hZ hown (host := "") (Or.inl (hw _ (List.mem_of_getElem? (i := 19) rfl))) Via.refl e7 F_b_2 (g := (mkF m 60 #[.val (.ref o), .val (.int p1), .val (.int p2), .val (.int p3), .val (.int ((st q + ct q) - (1 : Int32))), .val (.int (st q))] [(.ref o)])) rfl rfl (hb hby d13_60)
  refine own_go st8 ?_
  show own_Go p e below _ (T8.setTop (mkF m 63 #[.val (.ref o), .val (.int p1), .val (.int p2), .val (.int p3), .val (.int ((st q + ct q) - (1 : Int32))), .val (.int (st q))] [(.ref aB)]))
  refine own_go (fun tt kk => XS.iload X8.here hx rfl (hb hby d13_63) rfl kk) ?_
  show own_Go p e below _ (T8.setTop (mkF m 65 #[.val (.ref o), .val (.int p1), .val (.int p2), .val (.int p3), .val (.int ((st q + ct q) - (1 : Int32))), .val (.int (st q))] [(.int (st q)), (.ref aB)]))
  refine own_go (fun tt kk => XS.aloadN X8.here hx rfl (hb hby d13_65) rfl rfl kk) ?_
  show own_Go p e below _ (T8.setTop (mkF m 66 #[.val (.ref o), .val (.int p1), .val (.int p2), .val (.int p3), .val (.int ((st q + ct q) - (1 : Int32))), .val (.int (st q))] [(.ref o), (.int (st q)), (.ref aB)]))
  obtain ⟨T9, X9, e9, st9⟩ := getF X8 hx hZ hown (host := "") (Or.inl (hw _ (List.mem_of_getElem? (i := 19) rfl))) Via.refl e8 F_b_2 (g := (mkF m 66 #[.val (.ref o), .val (.int p1), .val (.int p2), .val (.int p3), .val (.int ((st q + ct q) - (1 : Int32))), .val (.int (st q))] [(.ref o), (.int (st q)), (.ref aB)])) rfl rfl (hb hby d13_66)
  refine own_go st9 ?_
  show own_Go p e below _ (T9.setTop (mkF m 69 #[.val (.ref o), .val (.int p1), .val (.int p2), .val (.int p3), .val (.int ((st q + ct q) - (1 : Int32))), .val (.int (st q))] [(.ref aB), (.int (st q)), (.ref aB)]))
  refine own_go (fun tt kk => XS.iload X9.here hx rfl (hb hby d13_69) rfl kk) ?_
  show own_Go p e below _ (T9.setTop (mkF m 71 #[.val (.ref o), .val (.int p1), .val (.int p2), .val (.int p3), .val (.int ((st q + ct q) - (1 : Int32))), .val (.int (st q))] [(.int ((st q + ct q) - (1 : Int32))), (.ref aB), (.int (st q)), (.ref aB)]))
  refine own_go (own_iaload X9 hx hZ e9 A_b_2 (j := ((st q + ct q) - (1 : Int32))) t5 (by omega) (pc := 71) (Ls := #[.val (.ref o), .val (.int p1), .val (.int p2), .val (.int p3), .val (.int ((st q + ct q) - (1 : Int32))), .val (.int (st q))]) (rest := [(.int (st q)), (.ref aB)]) (hb hby d13_71)) ?_
  show own_Go p e below _ (T9.setTop (mkF m 72 #[.val (.ref o), .val (.int p1), .val (.int p2), .val (.int p3), .val (.int ((st q + ct q) - (1 : Int32))), .val (.int (st q))] [(.int (nb (sN q + (cnt q - 1)))), (.int (st q)), (.ref aB)]))
  obtain ⟨T10, h10, X10, e10, W10, st10⟩ := own_iastore X9 hx hZ e9 A_b_2 (j := (st q)) (x := (nb (sN q + (cnt q - 1)))) i1 (by omega) (pc := 72) (Ls := #[.val (.ref o), .val (.int p1), .val (.int p2), .val (.int p3), .val (.int ((st q + ct q) - (1 : Int32))), .val (.int (st q))]) (rest := []) (hb hby d13_72)
  refine own_go st10 ?_
  show own_Go p e below _ (T10.setTop (mkF m 73 #[.val (.ref o), .val (.int p1), .val (.int p2), .val (.int p3), .val (.int ((st q + ct q) - (1 : Int32))), .val (.int (st q))] []))
  have C := B.w_b W10
  obtain ⟨E0_3, ⟨F_s_3, F_c_3, F_r_3, F_a_3, F_b_3, F_U_3, F_W_3⟩, ⟨A_s_3, A_c_3, A_r_3, A_a_3, A_b_3⟩, -, ⟨g_o_3, g_s_3, g_c_3, g_r_3, g_a_3, g_b_3⟩⟩ := id C
  refine own_go (fun tt kk => XS.aloadN X10.here hx rfl (hb hby d13_73) rfl rfl kk) ?_
  show own_Go p e below _ (T10.setTop (mkF m 74 #[.val (.ref o), .val (.int p1), .val (.int p2), .val (.int p3), .val (.int ((st q + ct q) - (1 : Int32))), .val (.int (st q))] [(.ref o)]))
  obtain ⟨T11, X11, e11, st11⟩ := getF X10 hx hZ hown (host := "") (Or.inl (hw _ (List.mem_of_getElem? (i := 13) rfl))) Via.refl e10 F_c_3 (g := (mkF m 74 #[.val (.ref o), .val (.int p1), .val (.int p2), .val (.int p3), .val (.int ((st q + ct q) - (1 : Int32))), .val (.int (st q))] [(.ref o)])) rfl rfl (hb hby d13_74)
  refine own_go st11 ?_
  show own_Go p e below _ (T11.setTop (mkF m 77 #[.val (.ref o), .val (.int p1), .val (.int p2), .val (.int p3), .val (.int ((st q + ct q) - (1 : Int32))), .val (.int (st q))] [(.ref aC)]))
  refine own_go (fun tt kk => XS.iloadN X11.here hx rfl (hb hby d13_77) rfl kk) ?_
  show own_Go p e below _ (T11.setTop (mkF m 78 #[.val (.ref o), .val (.int p1), .val (.int p2), .val (.int p3), .val (.int ((st q + ct q) - (1 : Int32))), .val (.int (st q))] [(.int p1), (.ref aC)]))
  refine own_go (fun tt kk => own_dup2 X11.here hx rfl (hb hby d13_78) rfl rfl rfl kk) ?_
  show own_Go p e below _ (T11.setTop (mkF m 79 #[.val (.ref o), .val (.int p1), .val (.int p2), .val (.int p3), .val (.int ((st q + ct q) - (1 : Int32))), .val (.int (st q))] [(.int p1), (.ref aC), (.int p1), (.ref aC)]))
  refine own_go (own_iaload X11 hx hZ e11 A_c_3 (j := p1) hp hq (pc := 79) (Ls := #[.val (.ref o), .val (.int p1), .val (.int p2), .val (.int p3), .val (.int ((st q + ct q) - (1 : Int32))), .val (.int (st q))]) (rest := [(.int p1), (.ref aC)]) (hb hby d13_79)) ?_
  show own_Go p e below _ (T11.setTop (mkF m 80 #[.val (.ref o), .val (.int p1), .val (.int p2), .val (.int p3), .val (.int ((st q + ct q) - (1 : Int32))), .val (.int (st q))] [(.int (ct q)), (.int p1), (.ref aC)]))
  refine own_go (fun tt kk => XS.iconst X11.here hx rfl (hb hby d13_80) kk) ?_
  show own_Go p e below _ (T11.setTop (mkF m 81 #[.val (.ref o), .val (.int p1), .val (.int p2), .val (.int p3), .val (.int ((st q + ct q) - (1 : Int32))), .val (.int (st q))] [(.int (1 : Int32)), (.int (ct q)), (.int p1), (.ref aC)]))
  refine own_go (fun tt kk => XS.isub X11.here hx rfl (hb hby d13_81) rfl kk) ?_
  show own_Go p e below _ (T11.setTop (mkF m 82 #[.val (.ref o), .val (.int p1), .val (.int p2), .val (.int p3), .val (.int ((st q + ct q) - (1 : Int32))), .val (.int (st q))] [(.int ((ct q) - (1 : Int32))), (.int p1), (.ref aC)]))
  obtain ⟨T12, h12, X12, e12, W12, st12⟩ := own_iastore X11 hx hZ e11 A_c_3 (j := p1) (x := ((ct q) - (1 : Int32))) hp hq (pc := 82) (Ls := #[.val (.ref o), .val (.int p1), .val (.int p2), .val (.int p3), .val (.int ((st q + ct q) - (1 : Int32))), .val (.int (st q))]) (rest := []) (hb hby d13_82)
  refine own_go st12 ?_
  show own_Go p e below _ (T12.setTop (mkF m 83 #[.val (.ref o), .val (.int p1), .val (.int p2), .val (.int p3), .val (.int ((st q + ct q) - (1 : Int32))), .val (.int (st q))] []))
  have D := C.w_c W12
  exact own_retV X12 hx hlk hret (hb hby d13_83) ⟨rfl, ⟨_, _, by rw [e12]; exact ⟨_, _, _, _, _, N, _, _, _, _, _, U, W, sN, rN, D, I.drop hq t8, hU⟩⟩, Fr.snoc X12 (Fr.snoc X10 (Fr.snoc X7 (Fr.app (Fr.app (Fr.nil n0) (Fr.nil n0)) (Fr.nil n0)) g_a_1) g_b_1) g_c_1⟩ (by decide) (by decide)
set_option maxRecDepth 65536 in
set_option maxHeartbeats 40000000 in
theorem rm0 (l : Launch) (Z : State) (a0 : Array Value) (hw : ∀ d ∈ tables_1, d.before a0 Z = true) (ws : List Jvm.Cond) (p1 p2 p3 p4 p5 p6 : Int32) (h0 : Heap)  :
    own_Met l Z ws x code maxLocals ret room_1 #[(.int p1), (.int p2), (.int p3), (.int p4), (.int p5), (.int p6)] h0 (fun v h L => v = some (.int 1) ∧ Fr h0.size L) := by
  refine own_met pn_0 ?_
  intro p e s m below meth c s₁ hx hby hml hown hnm hret hlk hZ X0 e0
  refine own_entry (ef_0 m p1 p2 p3 p4 p5 p6) ?_
  show own_Go p e below _ (s₁.setTop (mkF m 0 #[.val (.int p1), .val (.int p2), .val (.int p3), .val (.int p4), .val (.int p5), .val (.int p6), .unset, .unset, .unset, .unset, .unset, .unset, .unset, .unset, .unset, .unset, .unset, .unset] []))
  refine own_go (fun tt kk => XS.iloadN X0.here hx rfl (hb hby at_0) rfl kk) ?_
  show own_Go p e below _ (s₁.setTop (mkF m 1 #[.val (.int p1), .val (.int p2), .val (.int p3), .val (.int p4), .val (.int p5), .val (.int p6), .unset, .unset, .unset, .unset, .unset, .unset, .unset, .unset, .unset, .unset, .unset, .unset] [(.int p1)]))
  refine own_go (fun tt kk => XS.bipush X0.here hx rfl (hb hby at_1) kk) ?_
  show own_Go p e below _ (s₁.setTop (mkF m 3 #[.val (.int p1), .val (.int p2), .val (.int p3), .val (.int p4), .val (.int p5), .val (.int p6), .unset, .unset, .unset, .unset, .unset, .unset, .unset, .unset, .unset, .unset, .unset, .unset] [(.int (7 : Int32)), (.int p1)]))
  refine own_go (fun tt kk => XS.iand X0.here hx rfl (hb hby at_3) rfl kk) ?_
  show own_Go p e below _ (s₁.setTop (mkF m 4 #[.val (.int p1), .val (.int p2), .val (.int p3), .val (.int p4), .val (.int p5), .val (.int p6), .unset, .unset, .unset, .unset, .unset, .unset, .unset, .unset, .unset, .unset, .unset, .unset] [(.int (p1 &&& (7 : Int32)))]))
  refine own_go (fun tt kk => XS.istore X0.here hx rfl (hb hby at_4) rfl (l' := #[.val (.int p1), .val (.int p2), .val (.int p3), .val (.int p4), .val (.int p5), .val (.int p6), .val (.int (p1 &&& (7 : Int32))), .unset, .unset, .unset, .unset, .unset, .unset, .unset, .unset, .unset, .unset, .unset]) rfl kk) ?_
  show own_Go p e below _ (s₁.setTop (mkF m 6 #[.val (.int p1), .val (.int p2), .val (.int p3), .val (.int p4), .val (.int p5), .val (.int p6), .val (.int (p1 &&& (7 : Int32))), .unset, .unset, .unset, .unset, .unset, .unset, .unset, .unset, .unset, .unset, .unset] []))
  refine own_go (fun tt kk => XS.iloadN X0.here hx rfl (hb hby at_6) rfl kk) ?_
  show own_Go p e below _ (s₁.setTop (mkF m 7 #[.val (.int p1), .val (.int p2), .val (.int p3), .val (.int p4), .val (.int p5), .val (.int p6), .val (.int (p1 &&& (7 : Int32))), .unset, .unset, .unset, .unset, .unset, .unset, .unset, .unset, .unset, .unset, .unset] [(.int p2)]))
  refine own_go (fun tt kk => XS.bipush X0.here hx rfl (hb hby at_7) kk) ?_
  show own_Go p e below _ (s₁.setTop (mkF m 9 #[.val (.int p1), .val (.int p2), .val (.int p3), .val (.int p4), .val (.int p5), .val (.int p6), .val (.int (p1 &&& (7 : Int32))), .unset, .unset, .unset, .unset, .unset, .unset, .unset, .unset, .unset, .unset, .unset] [(.int (7 : Int32)), (.int p2)]))
  refine own_go (fun tt kk => XS.iand X0.here hx rfl (hb hby at_9) rfl kk) ?_
  show own_Go p e below _ (s₁.setTop (mkF m 10 #[.val (.int p1), .val (.int p2), .val (.int p3), .val (.int p4), .val (.int p5), .val (.int p6), .val (.int (p1 &&& (7 : Int32))), .unset, .unset, .unset, .unset, .unset, .unset, .unset, .unset, .unset, .unset, .unset] [(.int (p2 &&& (7 : Int32)))]))
  refine own_go (fun tt kk => XS.istore X0.here hx rfl (hb hby at_10) rfl (l' := #[.val (.int p1), .val (.int p2), .val (.int p3), .val (.int p4), .val (.int p5), .val (.int p6), .val (.int (p1 &&& (7 : Int32))), .val (.int (p2 &&& (7 : Int32))), .unset, .unset, .unset, .unset, .unset, .unset, .unset, .unset, .unset, .unset]) rfl kk) ?_
  show own_Go p e below _ (s₁.setTop (mkF m 12 #[.val (.int p1), .val (.int p2), .val (.int p3), .val (.int p4), .val (.int p5), .val (.int p6), .val (.int (p1 &&& (7 : Int32))), .val (.int (p2 &&& (7 : Int32))), .unset, .unset, .unset, .unset, .unset, .unset, .unset, .unset, .unset, .unset] []))
  refine own_go (fun tt kk => XS.iloadN X0.here hx rfl (hb hby at_12) rfl kk) ?_
  show own_Go p e below _ (s₁.setTop (mkF m 13 #[.val (.int p1), .val (.int p2), .val (.int p3), .val (.int p4), .val (.int p5), .val (.int p6), .val (.int (p1 &&& (7 : Int32))), .val (.int (p2 &&& (7 : Int32))), .unset, .unset, .unset, .unset, .unset, .unset, .unset, .unset, .unset, .unset] [(.int p3)]))
  refine own_go (fun tt kk => XS.iconst X0.here hx rfl (hb hby at_13) kk) ?_
  show own_Go p e below _ (s₁.setTop (mkF m 14 #[.val (.int p1), .val (.int p2), .val (.int p3), .val (.int p4), .val (.int p5), .val (.int p6), .val (.int (p1 &&& (7 : Int32))), .val (.int (p2 &&& (7 : Int32))), .unset, .unset, .unset, .unset, .unset, .unset, .unset, .unset, .unset, .unset] [(.int (3 : Int32)), (.int p3)]))
  refine own_go (fun tt kk => XS.iand X0.here hx rfl (hb hby at_14) rfl kk) ?_
  show own_Go p e below _ (s₁.setTop (mkF m 15 #[.val (.int p1), .val (.int p2), .val (.int p3), .val (.int p4), .val (.int p5), .val (.int p6), .val (.int (p1 &&& (7 : Int32))), .val (.int (p2 &&& (7 : Int32))), .unset, .unset, .unset, .unset, .unset, .unset, .unset, .unset, .unset, .unset] [(.int (p3 &&& (3 : Int32)))]))
  refine own_go (fun tt kk => XS.istore X0.here hx rfl (hb hby at_15) rfl (l' := #[.val (.int p1), .val (.int p2), .val (.int p3), .val (.int p4), .val (.int p5), .val (.int p6), .val (.int (p1 &&& (7 : Int32))), .val (.int (p2 &&& (7 : Int32))), .val (.int (p3 &&& (3 : Int32))), .unset, .unset, .unset, .unset, .unset, .unset, .unset, .unset, .unset]) rfl kk) ?_
  show own_Go p e below _ (s₁.setTop (mkF m 17 #[.val (.int p1), .val (.int p2), .val (.int p3), .val (.int p4), .val (.int p5), .val (.int p6), .val (.int (p1 &&& (7 : Int32))), .val (.int (p2 &&& (7 : Int32))), .val (.int (p3 &&& (3 : Int32))), .unset, .unset, .unset, .unset, .unset, .unset, .unset, .unset, .unset] []))
  refine own_go (fun tt kk => XS.iloadN X0.here hx rfl (hb hby at_17) rfl kk) ?_
  show own_Go p e below _ (s₁.setTop (mkF m 18 #[.val (.int p1), .val (.int p2), .val (.int p3), .val (.int p4), .val (.int p5), .val (.int p6), .val (.int (p1 &&& (7 : Int32))), .val (.int (p2 &&& (7 : Int32))), .val (.int (p3 &&& (3 : Int32))), .unset, .unset, .unset, .unset, .unset, .unset, .unset, .unset, .unset] [(.int p4)]))
  refine own_go (X0.ldcInt hx hown (mvT hZ (hw _ (List.mem_of_getElem? (i := 0) rfl))) (g := (mkF m 18 #[.val (.int p1), .val (.int p2), .val (.int p3), .val (.int p4), .val (.int p5), .val (.int p6), .val (.int (p1 &&& (7 : Int32))), .val (.int (p2 &&& (7 : Int32))), .val (.int (p3 &&& (3 : Int32))), .unset, .unset, .unset, .unset, .unset, .unset, .unset, .unset, .unset] [(.int p4)])) rfl (hb hby at_18)) ?_
  show own_Go p e below _ (s₁.setTop (mkF m 20 #[.val (.int p1), .val (.int p2), .val (.int p3), .val (.int p4), .val (.int p5), .val (.int p6), .val (.int (p1 &&& (7 : Int32))), .val (.int (p2 &&& (7 : Int32))), .val (.int (p3 &&& (3 : Int32))), .unset, .unset, .unset, .unset, .unset, .unset, .unset, .unset, .unset] [(.int (2147483647 : Int32)), (.int p4)]))
  refine own_go (fun tt kk => XS.iand X0.here hx rfl (hb hby at_20) rfl kk) ?_
  show own_Go p e below _ (s₁.setTop (mkF m 21 #[.val (.int p1), .val (.int p2), .val (.int p3), .val (.int p4), .val (.int p5), .val (.int p6), .val (.int (p1 &&& (7 : Int32))), .val (.int (p2 &&& (7 : Int32))), .val (.int (p3 &&& (3 : Int32))), .unset, .unset, .unset, .unset, .unset, .unset, .unset, .unset, .unset] [(.int (p4 &&& (2147483647 : Int32)))]))
  refine own_go (fun tt kk => XS.iconst X0.here hx rfl (hb hby at_21) kk) ?_
  show own_Go p e below _ (s₁.setTop (mkF m 22 #[.val (.int p1), .val (.int p2), .val (.int p3), .val (.int p4), .val (.int p5), .val (.int p6), .val (.int (p1 &&& (7 : Int32))), .val (.int (p2 &&& (7 : Int32))), .val (.int (p3 &&& (3 : Int32))), .unset, .unset, .unset, .unset, .unset, .unset, .unset, .unset, .unset] [(.int (3 : Int32)), (.int (p4 &&& (2147483647 : Int32)))]))
  refine own_go (fun tt kk => iremM X0 hx rfl (hb hby at_22) rfl (by decide) kk) ?_
  show own_Go p e below _ (s₁.setTop (mkF m 23 #[.val (.int p1), .val (.int p2), .val (.int p3), .val (.int p4), .val (.int p5), .val (.int p6), .val (.int (p1 &&& (7 : Int32))), .val (.int (p2 &&& (7 : Int32))), .val (.int (p3 &&& (3 : Int32))), .unset, .unset, .unset, .unset, .unset, .unset, .unset, .unset, .unset] [(.int ((p4 &&& (2147483647 : Int32)) % (3 : Int32)))]))
  refine own_go (fun tt kk => XS.istore X0.here hx rfl (hb hby at_23) rfl (l' := #[.val (.int p1), .val (.int p2), .val (.int p3), .val (.int p4), .val (.int p5), .val (.int p6), .val (.int (p1 &&& (7 : Int32))), .val (.int (p2 &&& (7 : Int32))), .val (.int (p3 &&& (3 : Int32))), .val (.int ((p4 &&& (2147483647 : Int32)) % (3 : Int32))), .unset, .unset, .unset, .unset, .unset, .unset, .unset, .unset]) rfl kk) ?_
  show own_Go p e below _ (s₁.setTop (mkF m 25 #[.val (.int p1), .val (.int p2), .val (.int p3), .val (.int p4), .val (.int p5), .val (.int p6), .val (.int (p1 &&& (7 : Int32))), .val (.int (p2 &&& (7 : Int32))), .val (.int (p3 &&& (3 : Int32))), .val (.int ((p4 &&& (2147483647 : Int32)) % (3 : Int32))), .unset, .unset, .unset, .unset, .unset, .unset, .unset, .unset] []))
  refine own_go (fun tt kk => XS.iload X0.here hx rfl (hb hby at_25) rfl kk) ?_
  show own_Go p e below _ (s₁.setTop (mkF m 27 #[.val (.int p1), .val (.int p2), .val (.int p3), .val (.int p4), .val (.int p5), .val (.int p6), .val (.int (p1 &&& (7 : Int32))), .val (.int (p2 &&& (7 : Int32))), .val (.int (p3 &&& (3 : Int32))), .val (.int ((p4 &&& (2147483647 : Int32)) % (3 : Int32))), .unset, .unset, .unset, .unset, .unset, .unset, .unset, .unset] [(.int p5)]))
  refine own_go (fun tt kk => XS.bipush X0.here hx rfl (hb hby at_27) kk) ?_
  show own_Go p e below _ (s₁.setTop (mkF m 29 #[.val (.int p1), .val (.int p2), .val (.int p3), .val (.int p4), .val (.int p5), .val (.int p6), .val (.int (p1 &&& (7 : Int32))), .val (.int (p2 &&& (7 : Int32))), .val (.int (p3 &&& (3 : Int32))), .val (.int ((p4 &&& (2147483647 : Int32)) % (3 : Int32))), .unset, .unset, .unset, .unset, .unset, .unset, .unset, .unset] [(.int (15 : Int32)), (.int p5)]))
  refine own_go (fun tt kk => XS.iand X0.here hx rfl (hb hby at_29) rfl kk) ?_
  show own_Go p e below _ (s₁.setTop (mkF m 30 #[.val (.int p1), .val (.int p2), .val (.int p3), .val (.int p4), .val (.int p5), .val (.int p6), .val (.int (p1 &&& (7 : Int32))), .val (.int (p2 &&& (7 : Int32))), .val (.int (p3 &&& (3 : Int32))), .val (.int ((p4 &&& (2147483647 : Int32)) % (3 : Int32))), .unset, .unset, .unset, .unset, .unset, .unset, .unset, .unset] [(.int (p5 &&& (15 : Int32)))]))
  refine own_go (fun tt kk => XS.istore X0.here hx rfl (hb hby at_30) rfl (l' := #[.val (.int p1), .val (.int p2), .val (.int p3), .val (.int p4), .val (.int p5), .val (.int p6), .val (.int (p1 &&& (7 : Int32))), .val (.int (p2 &&& (7 : Int32))), .val (.int (p3 &&& (3 : Int32))), .val (.int ((p4 &&& (2147483647 : Int32)) % (3 : Int32))), .val (.int (p5 &&& (15 : Int32))), .unset, .unset, .unset, .unset, .unset, .unset, .unset]) rfl kk) ?_
  show own_Go p e below _ (s₁.setTop (mkF m 32 #[.val (.int p1), .val (.int p2), .val (.int p3), .val (.int p4), .val (.int p5), .val (.int p6), .val (.int (p1 &&& (7 : Int32))), .val (.int (p2 &&& (7 : Int32))), .val (.int (p3 &&& (3 : Int32))), .val (.int ((p4 &&& (2147483647 : Int32)) % (3 : Int32))), .val (.int (p5 &&& (15 : Int32))), .unset, .unset, .unset, .unset, .unset, .unset, .unset] []))
  have B1 : (p1 &&& 7).toInt = p1.toInt % 8 := c_mask _ _ 3 (by decide) (by decide)
  have B2 : (p2 &&& 7).toInt = p2.toInt % 8 := c_mask _ _ 3 (by decide) (by decide)
  have B3 : (p3 &&& 3).toInt = p3.toInt % 4 := c_mask _ _ 2 (by decide) (by decide)
  have B4 : (p4 &&& 2147483647).toInt = p4.toInt % 2147483648 := c_mask _ _ 31 (by decide) (by decide)
  have B5 := (c_irem (p4 &&& 2147483647) 3 3 rfl).1 (by omega)
  have B6 : (p5 &&& 15).toInt = p5.toInt % 16 := c_mask _ _ 4 (by decide) (by decide)
  obtain ⟨s1, hs1, hs1'⟩ : ∃ s : Nat, (p1 &&& (7 : Int32)).toInt = s ∧ s < 8 := ⟨(p1.toInt % 8).toNat, by omega, by omega⟩
  obtain ⟨x1, e_x1⟩ : ∃ z, z = (p1 &&& (7 : Int32)) := ⟨_, rfl⟩
  rw [← e_x1] at hs1 ⊢
  obtain ⟨s2, hs2, hs2'⟩ : ∃ s : Nat, (p2 &&& (7 : Int32)).toInt = s ∧ s < 8 := ⟨(p2.toInt % 8).toNat, by omega, by omega⟩
  obtain ⟨x2, e_x2⟩ : ∃ z, z = (p2 &&& (7 : Int32)) := ⟨_, rfl⟩
  rw [← e_x2] at hs2 ⊢
  obtain ⟨n1, hn1, hn1'⟩ : ∃ s : Nat, (p3 &&& (3 : Int32)).toInt = s ∧ s < 4 := ⟨(p3.toInt % 4).toNat, by omega, by omega⟩
  obtain ⟨y1, e_y1⟩ : ∃ z, z = (p3 &&& (3 : Int32)) := ⟨_, rfl⟩
  rw [← e_y1] at hn1 ⊢
  obtain ⟨n2, hn2, hn2'⟩ : ∃ s : Nat, ((p4 &&& (2147483647 : Int32)) % (3 : Int32)).toInt = s ∧ s < 3 := ⟨(p4.toInt % 2147483648 % 3).toNat, by omega, by omega⟩
  obtain ⟨y2, e_y2⟩ : ∃ z, z = ((p4 &&& (2147483647 : Int32)) % (3 : Int32)) := ⟨_, rfl⟩
  rw [← e_y2] at hn2 ⊢
  obtain ⟨q, hq, hq'⟩ : ∃ s : Nat, (p5 &&& (15 : Int32)).toInt = s ∧ s < 16 := ⟨(p5.toInt % 16).toNat, by omega, by omega⟩
  obtain ⟨xq, e_xq⟩ : ∃ z, z = (p5 &&& (15 : Int32)) := ⟨_, rfl⟩
  rw [← e_xq] at hq ⊢
  show own_Go p e below _ (s₁.setTop (mkF m 32 #[.val (.int p1), .val (.int p2), .val (.int p3), .val (.int p4), .val (.int p5), .val (.int p6), .val (.int x1), .val (.int x2), .val (.int y1), .val (.int y2), .val (.int xq), .unset, .unset, .unset, .unset, .unset, .unset, .unset] []))
  suffices main : ∀ dv : Int32, (dv = 0 ∨ (dv = 1 ∧ 0 < n1)) → own_Go p e below (own_End below s (fun v h L => v = some (.int 1) ∧ Fr h0.size L) room_1.cells room_1.slots) (s₁.setTop (mkF m 50 #[.val (.int p1), .val (.int p2), .val (.int p3), .val (.int p4), .val (.int p5), .val (.int p6), .val (.int x1), .val (.int x2), .val (.int y1), .val (.int y2), .val (.int xq), .unset, .unset, .unset, .unset, .unset, .unset, .unset] [(.int dv)])) by
    refine own_go (fun tt kk => XS.iloadN X0.here hx rfl (hb hby at_32) rfl kk) ?_
    show own_Go p e below _ (s₁.setTop (mkF m 33 #[.val (.int p1), .val (.int p2), .val (.int p3), .val (.int p4), .val (.int p5), .val (.int p6), .val (.int x1), .val (.int x2), .val (.int y1), .val (.int y2), .val (.int xq), .unset, .unset, .unset, .unset, .unset, .unset, .unset] [(.int p3)]))
    refine own_go (fun tt kk => XS.iconst X0.here hx rfl (hb hby at_33) kk) ?_
    show own_Go p e below _ (s₁.setTop (mkF m 34 #[.val (.int p1), .val (.int p2), .val (.int p3), .val (.int p4), .val (.int p5), .val (.int p6), .val (.int x1), .val (.int x2), .val (.int y1), .val (.int y2), .val (.int xq), .unset, .unset, .unset, .unset, .unset, .unset, .unset] [(.int (2 : Int32)), (.int p3)]))
    refine own_go (fun tt kk => XS.ishr X0.here hx rfl (hb hby at_34) rfl kk) ?_
    show own_Go p e below _ (s₁.setTop (mkF m 35 #[.val (.int p1), .val (.int p2), .val (.int p3), .val (.int p4), .val (.int p5), .val (.int p6), .val (.int x1), .val (.int x2), .val (.int y1), .val (.int y2), .val (.int xq), .unset, .unset, .unset, .unset, .unset, .unset, .unset] [(.int (p3 >>> ((2 : Int32) &&& 31)))]))
    refine own_go (fun tt kk => XS.iconst X0.here hx rfl (hb hby at_35) kk) ?_
    show own_Go p e below _ (s₁.setTop (mkF m 36 #[.val (.int p1), .val (.int p2), .val (.int p3), .val (.int p4), .val (.int p5), .val (.int p6), .val (.int x1), .val (.int x2), .val (.int y1), .val (.int y2), .val (.int xq), .unset, .unset, .unset, .unset, .unset, .unset, .unset] [(.int (1 : Int32)), (.int (p3 >>> ((2 : Int32) &&& 31)))]))
    refine own_go (fun tt kk => XS.iand X0.here hx rfl (hb hby at_36) rfl kk) ?_
    show own_Go p e below _ (s₁.setTop (mkF m 37 #[.val (.int p1), .val (.int p2), .val (.int p3), .val (.int p4), .val (.int p5), .val (.int p6), .val (.int x1), .val (.int x2), .val (.int y1), .val (.int y2), .val (.int xq), .unset, .unset, .unset, .unset, .unset, .unset, .unset] [(.int ((p3 >>> ((2 : Int32) &&& 31)) &&& (1 : Int32)))]))
    by_cases hc37 : ((p3 >>> ((2 : Int32) &&& 31)) &&& (1 : Int32)).toInt = 0
    · refine own_go (fun tt kk => XS.ifYes X0.here hx rfl (pc0 := 37) (pc' := 49) rfl (hb hby at_37) rfl ((if0 _ _).trans (teq (own_eq32 (x := ((p3 >>> ((2 : Int32) &&& 31)) &&& (1 : Int32))) (y := (0 : Int32)) (i := ((p3 >>> ((2 : Int32) &&& 31)) &&& (1 : Int32)).toInt) (j := 0) rfl rfl hc37)).1) (by decide) (by decide) kk) ?_
      show own_Go p e below _ (s₁.setTop (mkF m 49 #[.val (.int p1), .val (.int p2), .val (.int p3), .val (.int p4), .val (.int p5), .val (.int p6), .val (.int x1), .val (.int x2), .val (.int y1), .val (.int y2), .val (.int xq), .unset, .unset, .unset, .unset, .unset, .unset, .unset] []))
      refine own_go (fun tt kk => XS.iconst X0.here hx rfl (hb hby at_49) kk) ?_
      show own_Go p e below _ (s₁.setTop (mkF m 50 #[.val (.int p1), .val (.int p2), .val (.int p3), .val (.int p4), .val (.int p5), .val (.int p6), .val (.int x1), .val (.int x2), .val (.int y1), .val (.int y2), .val (.int xq), .unset, .unset, .unset, .unset, .unset, .unset, .unset] [(.int (0 : Int32))]))
      exact main 0 (Or.inl rfl)
    · refine own_go (fun tt kk => XS.ifNo X0.here hx rfl (hb hby at_37) rfl ((if0 _ _).trans (feq (own_neq32 (x := ((p3 >>> ((2 : Int32) &&& 31)) &&& (1 : Int32))) (y := (0 : Int32)) (i := ((p3 >>> ((2 : Int32) &&& 31)) &&& (1 : Int32)).toInt) (j := 0) rfl rfl hc37)).1) kk) ?_
      show own_Go p e below _ (s₁.setTop (mkF m 40 #[.val (.int p1), .val (.int p2), .val (.int p3), .val (.int p4), .val (.int p5), .val (.int p6), .val (.int x1), .val (.int x2), .val (.int y1), .val (.int y2), .val (.int xq), .unset, .unset, .unset, .unset, .unset, .unset, .unset] []))
      refine own_go (fun tt kk => XS.iload X0.here hx rfl (hb hby at_40) rfl kk) ?_
      show own_Go p e below _ (s₁.setTop (mkF m 42 #[.val (.int p1), .val (.int p2), .val (.int p3), .val (.int p4), .val (.int p5), .val (.int p6), .val (.int x1), .val (.int x2), .val (.int y1), .val (.int y2), .val (.int xq), .unset, .unset, .unset, .unset, .unset, .unset, .unset] [(.int y1)]))
      by_cases hc42 : 0 < y1.toInt
      · refine own_go (fun tt kk => XS.ifNo X0.here hx rfl (hb hby at_42) rfl ((if0 _ _).trans (tlt (own_lt32 (x := (0 : Int32)) (y := y1) (i := 0) (j := y1.toInt) rfl rfl hc42)).2.2.2) kk) ?_
        show own_Go p e below _ (s₁.setTop (mkF m 45 #[.val (.int p1), .val (.int p2), .val (.int p3), .val (.int p4), .val (.int p5), .val (.int p6), .val (.int x1), .val (.int x2), .val (.int y1), .val (.int y2), .val (.int xq), .unset, .unset, .unset, .unset, .unset, .unset, .unset] []))
        refine own_go (fun tt kk => XS.iconst X0.here hx rfl (hb hby at_45) kk) ?_
        show own_Go p e below _ (s₁.setTop (mkF m 46 #[.val (.int p1), .val (.int p2), .val (.int p3), .val (.int p4), .val (.int p5), .val (.int p6), .val (.int x1), .val (.int x2), .val (.int y1), .val (.int y2), .val (.int xq), .unset, .unset, .unset, .unset, .unset, .unset, .unset] [(.int (1 : Int32))]))
        refine own_go (fun tt kk => XS.goto X0.here hx rfl (pc0 := 46) (pc' := 50) rfl (hb hby at_46) (by decide) (by decide) kk) ?_
        show own_Go p e below _ (s₁.setTop (mkF m 50 #[.val (.int p1), .val (.int p2), .val (.int p3), .val (.int p4), .val (.int p5), .val (.int p6), .val (.int x1), .val (.int x2), .val (.int y1), .val (.int y2), .val (.int xq), .unset, .unset, .unset, .unset, .unset, .unset, .unset] [(.int (1 : Int32))]))
        exact main 1 (Or.inr ⟨rfl, by omega⟩)
      · refine own_go (fun tt kk => XS.ifYes X0.here hx rfl (pc0 := 42) (pc' := 49) rfl (hb hby at_42) rfl ((if0 _ _).trans (flt (own_nlt32 (x := (0 : Int32)) (y := y1) (i := 0) (j := y1.toInt) rfl rfl hc42)).2.2.2) (by decide) (by decide) kk) ?_
        show own_Go p e below _ (s₁.setTop (mkF m 49 #[.val (.int p1), .val (.int p2), .val (.int p3), .val (.int p4), .val (.int p5), .val (.int p6), .val (.int x1), .val (.int x2), .val (.int y1), .val (.int y2), .val (.int xq), .unset, .unset, .unset, .unset, .unset, .unset, .unset] []))
        refine own_go (fun tt kk => XS.iconst X0.here hx rfl (hb hby at_49) kk) ?_
        show own_Go p e below _ (s₁.setTop (mkF m 50 #[.val (.int p1), .val (.int p2), .val (.int p3), .val (.int p4), .val (.int p5), .val (.int p6), .val (.int x1), .val (.int x2), .val (.int y1), .val (.int y2), .val (.int xq), .unset, .unset, .unset, .unset, .unset, .unset, .unset] [(.int (0 : Int32))]))
        exact main 0 (Or.inl rfl)
  intro dv hdv
  have hdv2 : dv.toInt = 0 ∨ (dv.toInt = 1 ∧ 0 < n1) := by rcases hdv with rfl | ⟨rfl, h⟩; exact Or.inl rfl; exact Or.inr ⟨rfl, h⟩
  show own_Go p e below _ (s₁.setTop (mkF m 50 #[.val (.int p1), .val (.int p2), .val (.int p3), .val (.int p4), .val (.int p5), .val (.int p6), .val (.int x1), .val (.int x2), .val (.int y1), .val (.int y2), .val (.int xq), .unset, .unset, .unset, .unset, .unset, .unset, .unset] [(.int dv)]))
  refine own_go (fun tt kk => XS.istore X0.here hx rfl (hb hby at_50) rfl (l' := #[.val (.int p1), .val (.int p2), .val (.int p3), .val (.int p4), .val (.int p5), .val (.int p6), .val (.int x1), .val (.int x2), .val (.int y1), .val (.int y2), .val (.int xq), .val (.int dv), .unset, .unset, .unset, .unset, .unset, .unset]) rfl kk) ?_
  show own_Go p e below _ (s₁.setTop (mkF m 52 #[.val (.int p1), .val (.int p2), .val (.int p3), .val (.int p4), .val (.int p5), .val (.int p6), .val (.int x1), .val (.int x2), .val (.int y1), .val (.int y2), .val (.int xq), .val (.int dv), .unset, .unset, .unset, .unset, .unset, .unset] []))
  obtain ⟨T1, h1, X1, e1, E1, A1, D1, -, st1⟩ := newO X0 hx hZ hown (hw _ (List.mem_of_getElem? (i := 1) rfl)) (hw _ (List.mem_of_getElem? (i := 2) rfl)) (hw _ (List.mem_of_getElem? (i := 3) rfl)) e0 (g := (mkF m 52 #[.val (.int p1), .val (.int p2), .val (.int p3), .val (.int p4), .val (.int p5), .val (.int p6), .val (.int x1), .val (.int x2), .val (.int y1), .val (.int y2), .val (.int xq), .val (.int dv), .unset, .unset, .unset, .unset, .unset, .unset] [])) rfl (hb hby at_52) (by decide) (by decide)
  obtain ⟨o, qe1⟩ : ∃ z, z = h0.size := ⟨_, rfl⟩
  rw [← qe1] at A1 D1 st1
  have F1_starts : Fld Z h1 o "com/example/guarantor/guarantor/ag/EdgeLists" "starts" "[I" .null := D1 (Or.inl (hw _ (List.mem_of_getElem? (i := 12) rfl))) (ty := (.array .int)) (by decide)
  have F1_counts : Fld Z h1 o "com/example/guarantor/guarantor/ag/EdgeLists" "counts" "[I" .null := D1 (Or.inl (hw _ (List.mem_of_getElem? (i := 14) rfl))) (ty := (.array .int)) (by decide)
  have F1_rooms : Fld Z h1 o "com/example/guarantor/guarantor/ag/EdgeLists" "rooms" "[I" .null := D1 (Or.inl (hw _ (List.mem_of_getElem? (i := 16) rfl))) (ty := (.array .int)) (by decide)
  have F1_actions : Fld Z h1 o "com/example/guarantor/guarantor/ag/EdgeLists" "actions" "[I" .null := D1 (Or.inl (hw _ (List.mem_of_getElem? (i := 18) rfl))) (ty := (.array .int)) (by decide)
  have F1_neighbours : Fld Z h1 o "com/example/guarantor/guarantor/ag/EdgeLists" "neighbours" "[I" .null := D1 (Or.inl (hw _ (List.mem_of_getElem? (i := 20) rfl))) (ty := (.array .int)) (by decide)
  have F1_used : Fld Z h1 o "com/example/guarantor/guarantor/ag/EdgeLists" "used" "I" (.int (0 : Int32)) := D1 (Or.inl (hw _ (List.mem_of_getElem? (i := 56) rfl))) (ty := .int) (by decide)
  have F1_stateCount : Fld Z h1 o "com/example/guarantor/guarantor/ag/EdgeLists" "stateCount" "I" (.int (0 : Int32)) := D1 (Or.inl (hw _ (List.mem_of_getElem? (i := 31) rfl))) (ty := .int) (by decide)
  refine own_go st1 ?_
  show own_Go p e below _ (T1.setTop (mkF m 55 #[.val (.int p1), .val (.int p2), .val (.int p3), .val (.int p4), .val (.int p5), .val (.int p6), .val (.int x1), .val (.int x2), .val (.int y1), .val (.int y2), .val (.int xq), .val (.int dv), .unset, .unset, .unset, .unset, .unset, .unset] [(.ref o)]))
  have go : h0.size ≤ o := Nat.le_of_eq qe1.symm
  have zz : h0.size ≤ h1.size := E1.1
  refine own_go (fun tt kk => XS.dup X1.here hx rfl (hb hby at_55) rfl rfl kk) ?_
  show own_Go p e below _ (T1.setTop (mkF m 56 #[.val (.int p1), .val (.int p2), .val (.int p3), .val (.int p4), .val (.int p5), .val (.int p6), .val (.int x1), .val (.int x2), .val (.int y1), .val (.int y2), .val (.int xq), .val (.int dv), .unset, .unset, .unset, .unset, .unset, .unset] [(.ref o), (.ref o)]))
  obtain ⟨v2, L2, T2, X2, qq2, st2⟩ := own_callI X1 hx hZ rfl hown (hw _ (List.mem_of_getElem? (i := 4) rfl)) (hw _ (List.mem_of_getElem? (i := 5) rfl)) (hw _ (List.mem_of_getElem? (i := 6) rfl)) (hw _ (List.mem_of_getElem? (i := 3) rfl)) (by decide) (rmInit l Z a0 hw [] o h0.size h1 A1 F1_starts F1_counts F1_rooms F1_actions F1_neighbours F1_used F1_stateCount go zz) e1 (pc := 56) (Ls := #[.val (.int p1), .val (.int p2), .val (.int p3), .val (.int p4), .val (.int p5), .val (.int p6), .val (.int x1), .val (.int x2), .val (.int y1), .val (.int y2), .val (.int xq), .val (.int dv), .unset, .unset, .unset, .unset, .unset, .unset]) (argsL := []) (rest := [(.ref o)]) rfl (by rw [hml]; rfl) pd_6 rfl rfl (hb hby at_56) 1 (Nat.le_of_eq rfl) (by decide) (by decide) (by decide) (by decide)
  obtain ⟨rfl, ⟨aS, aC, aR, aA, aB, EL0⟩, N2⟩ := qq2
  refine own_go st2 ?_
  show own_Go p e below _ (T2.setTop (mkF m 59 #[.val (.int p1), .val (.int p2), .val (.int p3), .val (.int p4), .val (.int p5), .val (.int p6), .val (.int x1), .val (.int x2), .val (.int y1), .val (.int y2), .val (.int xq), .val (.int dv), .unset, .unset, .unset, .unset, .unset, .unset] [(.ref o)]))
  refine own_go (fun tt kk => XS.astore X2.here hx rfl (hb hby at_59) rfl rfl (l' := #[.val (.int p1), .val (.int p2), .val (.int p3), .val (.int p4), .val (.int p5), .val (.int p6), .val (.int x1), .val (.int x2), .val (.int y1), .val (.int y2), .val (.int xq), .val (.int dv), .val (.ref o), .unset, .unset, .unset, .unset, .unset]) rfl kk) ?_
  show own_Go p e below _ (T2.setTop (mkF m 61 #[.val (.int p1), .val (.int p2), .val (.int p3), .val (.int p4), .val (.int p5), .val (.int p6), .val (.int x1), .val (.int x2), .val (.int y1), .val (.int y2), .val (.int xq), .val (.int dv), .val (.ref o), .unset, .unset, .unset, .unset, .unset] []))
  have J209 : ∀ ev : Int32, ∀ (T : State) (h : Heap) (locs : List Loc) (cnt : Nat → Nat) (LA LB : Nat → Nat → Int32) (u : Nat), Stand p l e room_1 s m #[(.int p1), (.int p2), (.int p3), (.int p4), (.int p5), (.int p6)] below meth c T locs 21 375 → T.heap = h → own_EL Z h0.size h o cnt LA LB u → u ≤ 64 → ev.toInt = cnt q → (dv.toInt = 0 → 0 < cnt q → LA q 0 = (if q = s1 ∧ 0 < n1 then p6 else p6 + 3) ∧ LA q (cnt q - 1) = (if q = s2 ∧ 0 < n2 then p6 + 2 + y2 else p6 + y1 - 1)) → Fr h0.size locs → own_Go p e below (own_End below s (fun v h L => v = some (.int 1) ∧ Fr h0.size L) room_1.cells room_1.slots) (T.setTop (mkF m 209 #[.val (.int p1), .val (.int p2), .val (.int p3), .val (.int p4), .val (.int p5), .val (.int p6), .val (.int x1), .val (.int x2), .val (.int y1), .val (.int y2), .val (.int xq), .val (.int dv), .val (.ref o), .val (.int ev), .unset, .unset, .unset, .unset] [])) := by
    intro ev T h locs cnt LA LB u X e1 EA hu hev hco Nl
    obtain ⟨aS, aC, aR, aA, aB, N, st, ct, rm, ac, nb, U, W, sN, rN, A, I, hU⟩ := EA
    have o32 : (1 : Int32).toInt = 1 := rfl
    have z32 : (0 : Int32).toInt = 0 := rfl
    show own_Go p e below _ (T.setTop (mkF m 209 #[.val (.int p1), .val (.int p2), .val (.int p3), .val (.int p4), .val (.int p5), .val (.int p6), .val (.int x1), .val (.int x2), .val (.int y1), .val (.int y2), .val (.int xq), .val (.int dv), .val (.ref o), .val (.int ev), .unset, .unset, .unset, .unset] []))
    refine own_go (fun tt kk => XS.aload X.here hx rfl (hb hby at_209) rfl rfl kk) ?_
    show own_Go p e below _ (T.setTop (mkF m 211 #[.val (.int p1), .val (.int p2), .val (.int p3), .val (.int p4), .val (.int p5), .val (.int p6), .val (.int x1), .val (.int x2), .val (.int y1), .val (.int y2), .val (.int xq), .val (.int dv), .val (.ref o), .val (.int ev), .unset, .unset, .unset, .unset] [(.ref o)]))
    refine own_go (fun tt kk => XS.iload X.here hx rfl (hb hby at_211) rfl kk) ?_
    show own_Go p e below _ (T.setTop (mkF m 213 #[.val (.int p1), .val (.int p2), .val (.int p3), .val (.int p4), .val (.int p5), .val (.int p6), .val (.int x1), .val (.int x2), .val (.int y1), .val (.int y2), .val (.int xq), .val (.int dv), .val (.ref o), .val (.int ev), .unset, .unset, .unset, .unset] [(.int xq), (.ref o)]))
    obtain ⟨v3, L3, T3, X3, qq3, st3⟩ := own_callV X hx hZ hown (hw _ (List.mem_of_getElem? (i := 58) rfl)) (hw _ (List.mem_of_getElem? (i := 59) rfl)) (hw _ (List.mem_of_getElem? (i := 61) rfl)) (hw _ (List.mem_of_getElem? (i := 60) rfl)) (hw _ (List.mem_of_getElem? (i := 62) rfl)) (hw _ (List.mem_of_getElem? (i := 3) rfl)) (by decide) A.1 (rmStart l Z a0 hw [] o aS aC aR aA aB N st ct rm ac nb U W xq q h0.size h A hq) e1 (pc := 213) (Ls := #[.val (.int p1), .val (.int p2), .val (.int p3), .val (.int p4), .val (.int p5), .val (.int p6), .val (.int x1), .val (.int x2), .val (.int y1), .val (.int y2), .val (.int xq), .val (.int dv), .val (.ref o), .val (.int ev), .unset, .unset, .unset, .unset]) (argsL := [(.int xq)]) (rest := []) rfl (by rw [hml]; rfl) pd_5 rfl rfl (hb hby at_213) 0 (Nat.le_of_eq rfl) (by decide) (by decide) (by decide) (by decide)
    obtain ⟨z3, rfl, ya3, yb3, hh3, rfl⟩ := qq3
    refine own_go st3 ?_
    show own_Go p e below _ (T3.setTop (mkF m 216 #[.val (.int p1), .val (.int p2), .val (.int p3), .val (.int p4), .val (.int p5), .val (.int p6), .val (.int x1), .val (.int x2), .val (.int y1), .val (.int y2), .val (.int xq), .val (.int dv), .val (.ref o), .val (.int ev), .unset, .unset, .unset, .unset] [(.int z3)]))
    refine own_go (fun tt kk => XS.istore X3.here hx rfl (hb hby at_216) rfl (l' := #[.val (.int p1), .val (.int p2), .val (.int p3), .val (.int p4), .val (.int p5), .val (.int p6), .val (.int x1), .val (.int x2), .val (.int y1), .val (.int y2), .val (.int xq), .val (.int dv), .val (.ref o), .val (.int ev), .val (.int z3), .unset, .unset, .unset]) rfl kk) ?_
    show own_Go p e below _ (T3.setTop (mkF m 218 #[.val (.int p1), .val (.int p2), .val (.int p3), .val (.int p4), .val (.int p5), .val (.int p6), .val (.int x1), .val (.int x2), .val (.int y1), .val (.int y2), .val (.int xq), .val (.int dv), .val (.ref o), .val (.int ev), .val (.int z3), .unset, .unset, .unset] []))
    refine own_go (fun tt kk => XS.aload X3.here hx rfl (hb hby at_218) rfl rfl kk) ?_
    show own_Go p e below _ (T3.setTop (mkF m 220 #[.val (.int p1), .val (.int p2), .val (.int p3), .val (.int p4), .val (.int p5), .val (.int p6), .val (.int x1), .val (.int x2), .val (.int y1), .val (.int y2), .val (.int xq), .val (.int dv), .val (.ref o), .val (.int ev), .val (.int z3), .unset, .unset, .unset] [(.ref o)]))
    refine own_go (fun tt kk => XS.iload X3.here hx rfl (hb hby at_220) rfl kk) ?_
    show own_Go p e below _ (T3.setTop (mkF m 222 #[.val (.int p1), .val (.int p2), .val (.int p3), .val (.int p4), .val (.int p5), .val (.int p6), .val (.int x1), .val (.int x2), .val (.int y1), .val (.int y2), .val (.int xq), .val (.int dv), .val (.ref o), .val (.int ev), .val (.int z3), .unset, .unset, .unset] [(.int xq), (.ref o)]))
    obtain ⟨v4, L4, T4, X4, qq4, st4⟩ := own_callV X3 hx hZ hown (hw _ (List.mem_of_getElem? (i := 63) rfl)) (hw _ (List.mem_of_getElem? (i := 64) rfl)) (hw _ (List.mem_of_getElem? (i := 66) rfl)) (hw _ (List.mem_of_getElem? (i := 65) rfl)) (hw _ (List.mem_of_getElem? (i := 67) rfl)) (hw _ (List.mem_of_getElem? (i := 3) rfl)) (by decide) A.1 (rmEnd l Z a0 hw [] o aS aC aR aA aB N st ct rm ac nb U W xq q h0.size h A hq) hh3 (pc := 222) (Ls := #[.val (.int p1), .val (.int p2), .val (.int p3), .val (.int p4), .val (.int p5), .val (.int p6), .val (.int x1), .val (.int x2), .val (.int y1), .val (.int y2), .val (.int xq), .val (.int dv), .val (.ref o), .val (.int ev), .val (.int z3), .unset, .unset, .unset]) (argsL := [(.int xq)]) (rest := []) rfl (by rw [hml]; rfl) pd_5 rfl rfl (hb hby at_222) 0 (Nat.le_of_eq rfl) (by decide) (by decide) (by decide) (by decide)
    obtain ⟨z4, rfl, ya4, yb4, hh4, rfl⟩ := qq4
    refine own_go st4 ?_
    show own_Go p e below _ (T4.setTop (mkF m 225 #[.val (.int p1), .val (.int p2), .val (.int p3), .val (.int p4), .val (.int p5), .val (.int p6), .val (.int x1), .val (.int x2), .val (.int y1), .val (.int y2), .val (.int xq), .val (.int dv), .val (.ref o), .val (.int ev), .val (.int z3), .unset, .unset, .unset] [(.int z4)]))
    obtain ⟨sv, w1, w2, w3⟩ : ∃ sv : Nat, z3.toInt = sv ∧ z4.toInt = ((sv + cnt q : Nat) : Int) ∧ (0 < cnt q → sv + cnt q ≤ u ∧ ∀ k, k < cnt q → ac (sv + k) = LA q k) := by
      rcases Nat.lt_or_ge q N with r | r
      · obtain ⟨i1, i2, i3, i4, i5, i6⟩ := I.2.1 q r
        refine ⟨sN q, by rw [ya3 r]; exact i1, ?_, fun _ => ⟨by omega, fun k hk => (i6 k hk).1⟩⟩
        rw [ya4 r]
        have t1 := c_iadd (st q) (ct q); have t2 := rng32 (st q + ct q)
        omega
      · have i3 := I.2.2.1 q r
        exact ⟨0, by rw [yb3 r]; rfl, by rw [yb4 r, i3]; rfl, fun h => by omega⟩
    have t1 := c_isub z4 z3
    have t2 := rng32 (z4 - z3)
    have t3 := c_isub z4 1
    have t4 := rng32 (z4 - 1)
    have t5 := rng32 z4
    refine own_go (fun tt kk => XS.istore X4.here hx rfl (hb hby at_225) rfl (l' := #[.val (.int p1), .val (.int p2), .val (.int p3), .val (.int p4), .val (.int p5), .val (.int p6), .val (.int x1), .val (.int x2), .val (.int y1), .val (.int y2), .val (.int xq), .val (.int dv), .val (.ref o), .val (.int ev), .val (.int z3), .val (.int z4), .unset, .unset]) rfl kk) ?_
    show own_Go p e below _ (T4.setTop (mkF m 227 #[.val (.int p1), .val (.int p2), .val (.int p3), .val (.int p4), .val (.int p5), .val (.int p6), .val (.int x1), .val (.int x2), .val (.int y1), .val (.int y2), .val (.int xq), .val (.int dv), .val (.ref o), .val (.int ev), .val (.int z3), .val (.int z4), .unset, .unset] []))
    refine own_go (fun tt kk => XS.iload X4.here hx rfl (hb hby at_227) rfl kk) ?_
    show own_Go p e below _ (T4.setTop (mkF m 229 #[.val (.int p1), .val (.int p2), .val (.int p3), .val (.int p4), .val (.int p5), .val (.int p6), .val (.int x1), .val (.int x2), .val (.int y1), .val (.int y2), .val (.int xq), .val (.int dv), .val (.ref o), .val (.int ev), .val (.int z3), .val (.int z4), .unset, .unset] [(.int z3)]))
    refine own_go (fun tt kk => XS.ifNo X4.here hx rfl (hb hby at_229) rfl ((if0 _ _).trans (flt (own_nlt32 (x := z3) (y := (0 : Int32)) (i := z3.toInt) (j := 0) rfl rfl (by omega))).1) kk) ?_
    show own_Go p e below _ (T4.setTop (mkF m 232 #[.val (.int p1), .val (.int p2), .val (.int p3), .val (.int p4), .val (.int p5), .val (.int p6), .val (.int x1), .val (.int x2), .val (.int y1), .val (.int y2), .val (.int xq), .val (.int dv), .val (.ref o), .val (.int ev), .val (.int z3), .val (.int z4), .unset, .unset] []))
    refine own_go (fun tt kk => XS.iload X4.here hx rfl (hb hby at_232) rfl kk) ?_
    show own_Go p e below _ (T4.setTop (mkF m 234 #[.val (.int p1), .val (.int p2), .val (.int p3), .val (.int p4), .val (.int p5), .val (.int p6), .val (.int x1), .val (.int x2), .val (.int y1), .val (.int y2), .val (.int xq), .val (.int dv), .val (.ref o), .val (.int ev), .val (.int z3), .val (.int z4), .unset, .unset] [(.int z4)]))
    refine own_go (fun tt kk => XS.iload X4.here hx rfl (hb hby at_234) rfl kk) ?_
    show own_Go p e below _ (T4.setTop (mkF m 236 #[.val (.int p1), .val (.int p2), .val (.int p3), .val (.int p4), .val (.int p5), .val (.int p6), .val (.int x1), .val (.int x2), .val (.int y1), .val (.int y2), .val (.int xq), .val (.int dv), .val (.ref o), .val (.int ev), .val (.int z3), .val (.int z4), .unset, .unset] [(.int z3), (.int z4)]))
    refine own_go (fun tt kk => XS.isub X4.here hx rfl (hb hby at_236) rfl kk) ?_
    show own_Go p e below _ (T4.setTop (mkF m 237 #[.val (.int p1), .val (.int p2), .val (.int p3), .val (.int p4), .val (.int p5), .val (.int p6), .val (.int x1), .val (.int x2), .val (.int y1), .val (.int y2), .val (.int xq), .val (.int dv), .val (.ref o), .val (.int ev), .val (.int z3), .val (.int z4), .unset, .unset] [(.int (z4 - z3))]))
    refine own_go (fun tt kk => XS.iload X4.here hx rfl (hb hby at_237) rfl kk) ?_
    show own_Go p e below _ (T4.setTop (mkF m 239 #[.val (.int p1), .val (.int p2), .val (.int p3), .val (.int p4), .val (.int p5), .val (.int p6), .val (.int x1), .val (.int x2), .val (.int y1), .val (.int y2), .val (.int xq), .val (.int dv), .val (.ref o), .val (.int ev), .val (.int z3), .val (.int z4), .unset, .unset] [(.int ev), (.int (z4 - z3))]))
    refine own_go (fun tt kk => XS.icmpYes X4.here hx rfl (pc0 := 239) (pc' := 244) rfl (hb hby at_239) rfl (teq (own_eq32 (x := (z4 - z3)) (y := ev) (i := (z4 - z3).toInt) (j := ev.toInt) rfl rfl (by omega))).1 (by decide) (by decide) kk) ?_
    show own_Go p e below _ (T4.setTop (mkF m 244 #[.val (.int p1), .val (.int p2), .val (.int p3), .val (.int p4), .val (.int p5), .val (.int p6), .val (.int x1), .val (.int x2), .val (.int y1), .val (.int y2), .val (.int xq), .val (.int dv), .val (.ref o), .val (.int ev), .val (.int z3), .val (.int z4), .unset, .unset] []))
    refine own_go (fun tt kk => XS.iload X4.here hx rfl (hb hby at_244) rfl kk) ?_
    show own_Go p e below _ (T4.setTop (mkF m 246 #[.val (.int p1), .val (.int p2), .val (.int p3), .val (.int p4), .val (.int p5), .val (.int p6), .val (.int x1), .val (.int x2), .val (.int y1), .val (.int y2), .val (.int xq), .val (.int dv), .val (.ref o), .val (.int ev), .val (.int z3), .val (.int z4), .unset, .unset] [(.int dv)]))
    by_cases hc246 : dv.toInt = 0
    · refine own_go (fun tt kk => XS.ifNo X4.here hx rfl (hb hby at_246) rfl ((if0 _ _).trans (teq (own_eq32 (x := dv) (y := (0 : Int32)) (i := dv.toInt) (j := 0) rfl rfl hc246)).2) kk) ?_
      show own_Go p e below _ (T4.setTop (mkF m 249 #[.val (.int p1), .val (.int p2), .val (.int p3), .val (.int p4), .val (.int p5), .val (.int p6), .val (.int x1), .val (.int x2), .val (.int y1), .val (.int y2), .val (.int xq), .val (.int dv), .val (.ref o), .val (.int ev), .val (.int z3), .val (.int z4), .unset, .unset] []))
      refine own_go (fun tt kk => XS.iload X4.here hx rfl (hb hby at_249) rfl kk) ?_
      show own_Go p e below _ (T4.setTop (mkF m 251 #[.val (.int p1), .val (.int p2), .val (.int p3), .val (.int p4), .val (.int p5), .val (.int p6), .val (.int x1), .val (.int x2), .val (.int y1), .val (.int y2), .val (.int xq), .val (.int dv), .val (.ref o), .val (.int ev), .val (.int z3), .val (.int z4), .unset, .unset] [(.int ev)]))
      by_cases hc251 : ev.toInt = 0
      · refine own_go (fun tt kk => XS.ifNo X4.here hx rfl (hb hby at_251) rfl ((if0 _ _).trans (teq (own_eq32 (x := ev) (y := (0 : Int32)) (i := ev.toInt) (j := 0) rfl rfl hc251)).2) kk) ?_
        show own_Go p e below _ (T4.setTop (mkF m 254 #[.val (.int p1), .val (.int p2), .val (.int p3), .val (.int p4), .val (.int p5), .val (.int p6), .val (.int x1), .val (.int x2), .val (.int y1), .val (.int y2), .val (.int xq), .val (.int dv), .val (.ref o), .val (.int ev), .val (.int z3), .val (.int z4), .unset, .unset] []))
        refine own_go (fun tt kk => XS.iconst X4.here hx rfl (hb hby at_254) kk) ?_
        show own_Go p e below _ (T4.setTop (mkF m 255 #[.val (.int p1), .val (.int p2), .val (.int p3), .val (.int p4), .val (.int p5), .val (.int p6), .val (.int x1), .val (.int x2), .val (.int y1), .val (.int y2), .val (.int xq), .val (.int dv), .val (.ref o), .val (.int ev), .val (.int z3), .val (.int z4), .unset, .unset] [(.int (1 : Int32))]))
        exact own_retZ X4 hx hlk hret (by decide) (hb hby at_255) ⟨rfl, (Fr.app (Fr.app Nl (Fr.nil _)) (Fr.nil _))⟩ (by decide) (by decide)
      · refine own_go (fun tt kk => XS.ifYes X4.here hx rfl (pc0 := 251) (pc' := 256) rfl (hb hby at_251) rfl ((if0 _ _).trans (feq (own_neq32 (x := ev) (y := (0 : Int32)) (i := ev.toInt) (j := 0) rfl rfl hc251)).2) (by decide) (by decide) kk) ?_
        show own_Go p e below _ (T4.setTop (mkF m 256 #[.val (.int p1), .val (.int p2), .val (.int p3), .val (.int p4), .val (.int p5), .val (.int p6), .val (.int x1), .val (.int x2), .val (.int y1), .val (.int y2), .val (.int xq), .val (.int dv), .val (.ref o), .val (.int ev), .val (.int z3), .val (.int z4), .unset, .unset] []))
        have hpos : 0 < cnt q := by omega
        obtain ⟨v1, v2⟩ := w3 hpos
        obtain ⟨C1, C2⟩ := hco hc246 hpos
        rw [← v2 0 hpos, Nat.add_zero] at C1
        rw [← v2 (cnt q - 1) (by omega)] at C2
        have t6 : (z4 - 1).toInt = ((sv + (cnt q - 1) : Nat) : Int) := by omega
        refine own_go (fun tt kk => XS.iload X4.here hx rfl (hb hby at_256) rfl kk) ?_
        show own_Go p e below _ (T4.setTop (mkF m 258 #[.val (.int p1), .val (.int p2), .val (.int p3), .val (.int p4), .val (.int p5), .val (.int p6), .val (.int x1), .val (.int x2), .val (.int y1), .val (.int y2), .val (.int xq), .val (.int dv), .val (.ref o), .val (.int ev), .val (.int z3), .val (.int z4), .unset, .unset] [(.int xq)]))
        refine own_go (fun tt kk => XS.iload X4.here hx rfl (hb hby at_258) rfl kk) ?_
        show own_Go p e below _ (T4.setTop (mkF m 260 #[.val (.int p1), .val (.int p2), .val (.int p3), .val (.int p4), .val (.int p5), .val (.int p6), .val (.int x1), .val (.int x2), .val (.int y1), .val (.int y2), .val (.int xq), .val (.int dv), .val (.ref o), .val (.int ev), .val (.int z3), .val (.int z4), .unset, .unset] [(.int x1), (.int xq)]))
        by_cases hc260 : xq.toInt = x1.toInt
        · refine own_go (fun tt kk => XS.icmpNo X4.here hx rfl (hb hby at_260) rfl (teq (own_eq32 (x := xq) (y := x1) (i := xq.toInt) (j := x1.toInt) rfl rfl hc260)).2 kk) ?_
          show own_Go p e below _ (T4.setTop (mkF m 263 #[.val (.int p1), .val (.int p2), .val (.int p3), .val (.int p4), .val (.int p5), .val (.int p6), .val (.int x1), .val (.int x2), .val (.int y1), .val (.int y2), .val (.int xq), .val (.int dv), .val (.ref o), .val (.int ev), .val (.int z3), .val (.int z4), .unset, .unset] []))
          refine own_go (fun tt kk => XS.iload X4.here hx rfl (hb hby at_263) rfl kk) ?_
          show own_Go p e below _ (T4.setTop (mkF m 265 #[.val (.int p1), .val (.int p2), .val (.int p3), .val (.int p4), .val (.int p5), .val (.int p6), .val (.int x1), .val (.int x2), .val (.int y1), .val (.int y2), .val (.int xq), .val (.int dv), .val (.ref o), .val (.int ev), .val (.int z3), .val (.int z4), .unset, .unset] [(.int y1)]))
          by_cases hc265 : 0 < y1.toInt
          · refine own_go (fun tt kk => XS.ifNo X4.here hx rfl (hb hby at_265) rfl ((if0 _ _).trans (tlt (own_lt32 (x := (0 : Int32)) (y := y1) (i := 0) (j := y1.toInt) rfl rfl hc265)).2.2.2) kk) ?_
            show own_Go p e below _ (T4.setTop (mkF m 268 #[.val (.int p1), .val (.int p2), .val (.int p3), .val (.int p4), .val (.int p5), .val (.int p6), .val (.int x1), .val (.int x2), .val (.int y1), .val (.int y2), .val (.int xq), .val (.int dv), .val (.ref o), .val (.int ev), .val (.int z3), .val (.int z4), .unset, .unset] []))
            rw [if_pos ⟨by omega, by omega⟩] at C1
            refine own_go (fun tt kk => XS.iload X4.here hx rfl (hb hby at_268) rfl kk) ?_
            show own_Go p e below _ (T4.setTop (mkF m 270 #[.val (.int p1), .val (.int p2), .val (.int p3), .val (.int p4), .val (.int p5), .val (.int p6), .val (.int x1), .val (.int x2), .val (.int y1), .val (.int y2), .val (.int xq), .val (.int dv), .val (.ref o), .val (.int ev), .val (.int z3), .val (.int z4), .unset, .unset] [(.int p6)]))
            refine own_go (fun tt kk => XS.goto X4.here hx rfl (pc0 := 270) (pc' := 277) rfl (hb hby at_270) (by decide) (by decide) kk) ?_
            show own_Go p e below _ (T4.setTop (mkF m 277 #[.val (.int p1), .val (.int p2), .val (.int p3), .val (.int p4), .val (.int p5), .val (.int p6), .val (.int x1), .val (.int x2), .val (.int y1), .val (.int y2), .val (.int xq), .val (.int dv), .val (.ref o), .val (.int ev), .val (.int z3), .val (.int z4), .unset, .unset] [(.int p6)]))
            refine own_go (fun tt kk => XS.istore X4.here hx rfl (hb hby at_277) rfl (l' := #[.val (.int p1), .val (.int p2), .val (.int p3), .val (.int p4), .val (.int p5), .val (.int p6), .val (.int x1), .val (.int x2), .val (.int y1), .val (.int y2), .val (.int xq), .val (.int dv), .val (.ref o), .val (.int ev), .val (.int z3), .val (.int z4), .val (.int p6), .unset]) rfl kk) ?_
            show own_Go p e below _ (T4.setTop (mkF m 279 #[.val (.int p1), .val (.int p2), .val (.int p3), .val (.int p4), .val (.int p5), .val (.int p6), .val (.int x1), .val (.int x2), .val (.int y1), .val (.int y2), .val (.int xq), .val (.int dv), .val (.ref o), .val (.int ev), .val (.int z3), .val (.int z4), .val (.int p6), .unset] []))
            refine own_go (fun tt kk => XS.iload X4.here hx rfl (hb hby at_279) rfl kk) ?_
            show own_Go p e below _ (T4.setTop (mkF m 281 #[.val (.int p1), .val (.int p2), .val (.int p3), .val (.int p4), .val (.int p5), .val (.int p6), .val (.int x1), .val (.int x2), .val (.int y1), .val (.int y2), .val (.int xq), .val (.int dv), .val (.ref o), .val (.int ev), .val (.int z3), .val (.int z4), .val (.int p6), .unset] [(.int xq)]))
            refine own_go (fun tt kk => XS.iload X4.here hx rfl (hb hby at_281) rfl kk) ?_
            show own_Go p e below _ (T4.setTop (mkF m 283 #[.val (.int p1), .val (.int p2), .val (.int p3), .val (.int p4), .val (.int p5), .val (.int p6), .val (.int x1), .val (.int x2), .val (.int y1), .val (.int y2), .val (.int xq), .val (.int dv), .val (.ref o), .val (.int ev), .val (.int z3), .val (.int z4), .val (.int p6), .unset] [(.int x2), (.int xq)]))
            by_cases hc283 : xq.toInt = x2.toInt
            · refine own_go (fun tt kk => XS.icmpNo X4.here hx rfl (hb hby at_283) rfl (teq (own_eq32 (x := xq) (y := x2) (i := xq.toInt) (j := x2.toInt) rfl rfl hc283)).2 kk) ?_
              show own_Go p e below _ (T4.setTop (mkF m 286 #[.val (.int p1), .val (.int p2), .val (.int p3), .val (.int p4), .val (.int p5), .val (.int p6), .val (.int x1), .val (.int x2), .val (.int y1), .val (.int y2), .val (.int xq), .val (.int dv), .val (.ref o), .val (.int ev), .val (.int z3), .val (.int z4), .val (.int p6), .unset] []))
              refine own_go (fun tt kk => XS.iload X4.here hx rfl (hb hby at_286) rfl kk) ?_
              show own_Go p e below _ (T4.setTop (mkF m 288 #[.val (.int p1), .val (.int p2), .val (.int p3), .val (.int p4), .val (.int p5), .val (.int p6), .val (.int x1), .val (.int x2), .val (.int y1), .val (.int y2), .val (.int xq), .val (.int dv), .val (.ref o), .val (.int ev), .val (.int z3), .val (.int z4), .val (.int p6), .unset] [(.int y2)]))
              by_cases hc288 : 0 < y2.toInt
              · refine own_go (fun tt kk => XS.ifNo X4.here hx rfl (hb hby at_288) rfl ((if0 _ _).trans (tlt (own_lt32 (x := (0 : Int32)) (y := y2) (i := 0) (j := y2.toInt) rfl rfl hc288)).2.2.2) kk) ?_
                show own_Go p e below _ (T4.setTop (mkF m 291 #[.val (.int p1), .val (.int p2), .val (.int p3), .val (.int p4), .val (.int p5), .val (.int p6), .val (.int x1), .val (.int x2), .val (.int y1), .val (.int y2), .val (.int xq), .val (.int dv), .val (.ref o), .val (.int ev), .val (.int z3), .val (.int z4), .val (.int p6), .unset] []))
                rw [if_pos ⟨by omega, by omega⟩] at C2
                refine own_go (fun tt kk => XS.iload X4.here hx rfl (hb hby at_291) rfl kk) ?_
                show own_Go p e below _ (T4.setTop (mkF m 293 #[.val (.int p1), .val (.int p2), .val (.int p3), .val (.int p4), .val (.int p5), .val (.int p6), .val (.int x1), .val (.int x2), .val (.int y1), .val (.int y2), .val (.int xq), .val (.int dv), .val (.ref o), .val (.int ev), .val (.int z3), .val (.int z4), .val (.int p6), .unset] [(.int p6)]))
                refine own_go (fun tt kk => XS.iconst X4.here hx rfl (hb hby at_293) kk) ?_
                show own_Go p e below _ (T4.setTop (mkF m 294 #[.val (.int p1), .val (.int p2), .val (.int p3), .val (.int p4), .val (.int p5), .val (.int p6), .val (.int x1), .val (.int x2), .val (.int y1), .val (.int y2), .val (.int xq), .val (.int dv), .val (.ref o), .val (.int ev), .val (.int z3), .val (.int z4), .val (.int p6), .unset] [(.int (2 : Int32)), (.int p6)]))
                refine own_go (fun tt kk => XS.iadd X4.here hx rfl (hb hby at_294) rfl kk) ?_
                show own_Go p e below _ (T4.setTop (mkF m 295 #[.val (.int p1), .val (.int p2), .val (.int p3), .val (.int p4), .val (.int p5), .val (.int p6), .val (.int x1), .val (.int x2), .val (.int y1), .val (.int y2), .val (.int xq), .val (.int dv), .val (.ref o), .val (.int ev), .val (.int z3), .val (.int z4), .val (.int p6), .unset] [(.int (p6 + (2 : Int32)))]))
                refine own_go (fun tt kk => XS.iload X4.here hx rfl (hb hby at_295) rfl kk) ?_
                show own_Go p e below _ (T4.setTop (mkF m 297 #[.val (.int p1), .val (.int p2), .val (.int p3), .val (.int p4), .val (.int p5), .val (.int p6), .val (.int x1), .val (.int x2), .val (.int y1), .val (.int y2), .val (.int xq), .val (.int dv), .val (.ref o), .val (.int ev), .val (.int z3), .val (.int z4), .val (.int p6), .unset] [(.int y2), (.int (p6 + (2 : Int32)))]))
                refine own_go (fun tt kk => XS.iadd X4.here hx rfl (hb hby at_297) rfl kk) ?_
                show own_Go p e below _ (T4.setTop (mkF m 298 #[.val (.int p1), .val (.int p2), .val (.int p3), .val (.int p4), .val (.int p5), .val (.int p6), .val (.int x1), .val (.int x2), .val (.int y1), .val (.int y2), .val (.int xq), .val (.int dv), .val (.ref o), .val (.int ev), .val (.int z3), .val (.int z4), .val (.int p6), .unset] [(.int ((p6 + (2 : Int32)) + y2))]))
                refine own_go (fun tt kk => XS.goto X4.here hx rfl (pc0 := 298) (pc' := 308) rfl (hb hby at_298) (by decide) (by decide) kk) ?_
                show own_Go p e below _ (T4.setTop (mkF m 308 #[.val (.int p1), .val (.int p2), .val (.int p3), .val (.int p4), .val (.int p5), .val (.int p6), .val (.int x1), .val (.int x2), .val (.int y1), .val (.int y2), .val (.int xq), .val (.int dv), .val (.ref o), .val (.int ev), .val (.int z3), .val (.int z4), .val (.int p6), .unset] [(.int ((p6 + (2 : Int32)) + y2))]))
                refine own_go (fun tt kk => XS.istore X4.here hx rfl (hb hby at_308) rfl (l' := #[.val (.int p1), .val (.int p2), .val (.int p3), .val (.int p4), .val (.int p5), .val (.int p6), .val (.int x1), .val (.int x2), .val (.int y1), .val (.int y2), .val (.int xq), .val (.int dv), .val (.ref o), .val (.int ev), .val (.int z3), .val (.int z4), .val (.int p6), .val (.int ((p6 + (2 : Int32)) + y2))]) rfl kk) ?_
                show own_Go p e below _ (T4.setTop (mkF m 310 #[.val (.int p1), .val (.int p2), .val (.int p3), .val (.int p4), .val (.int p5), .val (.int p6), .val (.int x1), .val (.int x2), .val (.int y1), .val (.int y2), .val (.int xq), .val (.int dv), .val (.ref o), .val (.int ev), .val (.int z3), .val (.int z4), .val (.int p6), .val (.int ((p6 + (2 : Int32)) + y2))] []))
                refine own_go (fun tt kk => XS.aload X4.here hx rfl (hb hby at_310) rfl rfl kk) ?_
                show own_Go p e below _ (T4.setTop (mkF m 312 #[.val (.int p1), .val (.int p2), .val (.int p3), .val (.int p4), .val (.int p5), .val (.int p6), .val (.int x1), .val (.int x2), .val (.int y1), .val (.int y2), .val (.int xq), .val (.int dv), .val (.ref o), .val (.int ev), .val (.int z3), .val (.int z4), .val (.int p6), .val (.int ((p6 + (2 : Int32)) + y2))] [(.ref o)]))
                refine own_go (fun tt kk => XS.iload X4.here hx rfl (hb hby at_312) rfl kk) ?_
                show own_Go p e below _ (T4.setTop (mkF m 314 #[.val (.int p1), .val (.int p2), .val (.int p3), .val (.int p4), .val (.int p5), .val (.int p6), .val (.int x1), .val (.int x2), .val (.int y1), .val (.int y2), .val (.int xq), .val (.int dv), .val (.ref o), .val (.int ev), .val (.int z3), .val (.int z4), .val (.int p6), .val (.int ((p6 + (2 : Int32)) + y2))] [(.int z3), (.ref o)]))
                obtain ⟨v5, L5, T5, X5, qq5, st5⟩ := own_callV X4 hx hZ hown (hw _ (List.mem_of_getElem? (i := 68) rfl)) (hw _ (List.mem_of_getElem? (i := 69) rfl)) (hw _ (List.mem_of_getElem? (i := 71) rfl)) (hw _ (List.mem_of_getElem? (i := 70) rfl)) (hw _ (List.mem_of_getElem? (i := 72) rfl)) (hw _ (List.mem_of_getElem? (i := 3) rfl)) (by decide) A.1 (rmAct l Z a0 hw [] o aS aC aR aA aB N st ct rm ac nb U W z3 sv h0.size h A w1 (by omega)) hh4 (pc := 314) (Ls := #[.val (.int p1), .val (.int p2), .val (.int p3), .val (.int p4), .val (.int p5), .val (.int p6), .val (.int x1), .val (.int x2), .val (.int y1), .val (.int y2), .val (.int xq), .val (.int dv), .val (.ref o), .val (.int ev), .val (.int z3), .val (.int z4), .val (.int p6), .val (.int ((p6 + (2 : Int32)) + y2))]) (argsL := [(.int z3)]) (rest := []) rfl (by rw [hml]; rfl) pd_5 rfl rfl (hb hby at_314) 0 (Nat.le_of_eq rfl) (by decide) (by decide) (by decide) (by decide)
                obtain ⟨rfl, hh5, rfl⟩ := qq5
                refine own_go st5 ?_
                show own_Go p e below _ (T5.setTop (mkF m 317 #[.val (.int p1), .val (.int p2), .val (.int p3), .val (.int p4), .val (.int p5), .val (.int p6), .val (.int x1), .val (.int x2), .val (.int y1), .val (.int y2), .val (.int xq), .val (.int dv), .val (.ref o), .val (.int ev), .val (.int z3), .val (.int z4), .val (.int p6), .val (.int ((p6 + (2 : Int32)) + y2))] [(.int (ac sv))]))
                refine own_go (fun tt kk => XS.iload X5.here hx rfl (hb hby at_317) rfl kk) ?_
                show own_Go p e below _ (T5.setTop (mkF m 319 #[.val (.int p1), .val (.int p2), .val (.int p3), .val (.int p4), .val (.int p5), .val (.int p6), .val (.int x1), .val (.int x2), .val (.int y1), .val (.int y2), .val (.int xq), .val (.int dv), .val (.ref o), .val (.int ev), .val (.int z3), .val (.int z4), .val (.int p6), .val (.int ((p6 + (2 : Int32)) + y2))] [(.int p6), (.int (ac sv))]))
                refine own_go (fun tt kk => XS.icmpNo X5.here hx rfl (hb hby at_319) rfl (teq (own_eq32 (x := (ac sv)) (y := p6) (i := (ac sv).toInt) (j := p6.toInt) rfl rfl (by rw [C1]))).2 kk) ?_
                show own_Go p e below _ (T5.setTop (mkF m 322 #[.val (.int p1), .val (.int p2), .val (.int p3), .val (.int p4), .val (.int p5), .val (.int p6), .val (.int x1), .val (.int x2), .val (.int y1), .val (.int y2), .val (.int xq), .val (.int dv), .val (.ref o), .val (.int ev), .val (.int z3), .val (.int z4), .val (.int p6), .val (.int ((p6 + (2 : Int32)) + y2))] []))
                refine own_go (fun tt kk => XS.aload X5.here hx rfl (hb hby at_322) rfl rfl kk) ?_
                show own_Go p e below _ (T5.setTop (mkF m 324 #[.val (.int p1), .val (.int p2), .val (.int p3), .val (.int p4), .val (.int p5), .val (.int p6), .val (.int x1), .val (.int x2), .val (.int y1), .val (.int y2), .val (.int xq), .val (.int dv), .val (.ref o), .val (.int ev), .val (.int z3), .val (.int z4), .val (.int p6), .val (.int ((p6 + (2 : Int32)) + y2))] [(.ref o)]))
                refine own_go (fun tt kk => XS.iload X5.here hx rfl (hb hby at_324) rfl kk) ?_
                show own_Go p e below _ (T5.setTop (mkF m 326 #[.val (.int p1), .val (.int p2), .val (.int p3), .val (.int p4), .val (.int p5), .val (.int p6), .val (.int x1), .val (.int x2), .val (.int y1), .val (.int y2), .val (.int xq), .val (.int dv), .val (.ref o), .val (.int ev), .val (.int z3), .val (.int z4), .val (.int p6), .val (.int ((p6 + (2 : Int32)) + y2))] [(.int z4), (.ref o)]))
                refine own_go (fun tt kk => XS.iconst X5.here hx rfl (hb hby at_326) kk) ?_
                show own_Go p e below _ (T5.setTop (mkF m 327 #[.val (.int p1), .val (.int p2), .val (.int p3), .val (.int p4), .val (.int p5), .val (.int p6), .val (.int x1), .val (.int x2), .val (.int y1), .val (.int y2), .val (.int xq), .val (.int dv), .val (.ref o), .val (.int ev), .val (.int z3), .val (.int z4), .val (.int p6), .val (.int ((p6 + (2 : Int32)) + y2))] [(.int (1 : Int32)), (.int z4), (.ref o)]))
                refine own_go (fun tt kk => XS.isub X5.here hx rfl (hb hby at_327) rfl kk) ?_
                show own_Go p e below _ (T5.setTop (mkF m 328 #[.val (.int p1), .val (.int p2), .val (.int p3), .val (.int p4), .val (.int p5), .val (.int p6), .val (.int x1), .val (.int x2), .val (.int y1), .val (.int y2), .val (.int xq), .val (.int dv), .val (.ref o), .val (.int ev), .val (.int z3), .val (.int z4), .val (.int p6), .val (.int ((p6 + (2 : Int32)) + y2))] [(.int (z4 - (1 : Int32))), (.ref o)]))
                obtain ⟨v6, L6, T6, X6, qq6, st6⟩ := own_callV X5 hx hZ hown (hw _ (List.mem_of_getElem? (i := 68) rfl)) (hw _ (List.mem_of_getElem? (i := 69) rfl)) (hw _ (List.mem_of_getElem? (i := 71) rfl)) (hw _ (List.mem_of_getElem? (i := 70) rfl)) (hw _ (List.mem_of_getElem? (i := 72) rfl)) (hw _ (List.mem_of_getElem? (i := 3) rfl)) (by decide) A.1 (rmAct l Z a0 hw [] o aS aC aR aA aB N st ct rm ac nb U W (z4 - 1) (sv + (cnt q - 1)) h0.size h A t6 (by omega)) hh5 (pc := 328) (Ls := #[.val (.int p1), .val (.int p2), .val (.int p3), .val (.int p4), .val (.int p5), .val (.int p6), .val (.int x1), .val (.int x2), .val (.int y1), .val (.int y2), .val (.int xq), .val (.int dv), .val (.ref o), .val (.int ev), .val (.int z3), .val (.int z4), .val (.int p6), .val (.int ((p6 + (2 : Int32)) + y2))]) (argsL := [(.int (z4 - (1 : Int32)))]) (rest := []) rfl (by rw [hml]; rfl) pd_5 rfl rfl (hb hby at_328) 0 (Nat.le_of_eq rfl) (by decide) (by decide) (by decide) (by decide)
                obtain ⟨rfl, hh6, rfl⟩ := qq6
                refine own_go st6 ?_
                show own_Go p e below _ (T6.setTop (mkF m 331 #[.val (.int p1), .val (.int p2), .val (.int p3), .val (.int p4), .val (.int p5), .val (.int p6), .val (.int x1), .val (.int x2), .val (.int y1), .val (.int y2), .val (.int xq), .val (.int dv), .val (.ref o), .val (.int ev), .val (.int z3), .val (.int z4), .val (.int p6), .val (.int ((p6 + (2 : Int32)) + y2))] [(.int (ac (sv + (cnt q - 1))))]))
                refine own_go (fun tt kk => XS.iload X6.here hx rfl (hb hby at_331) rfl kk) ?_
                show own_Go p e below _ (T6.setTop (mkF m 333 #[.val (.int p1), .val (.int p2), .val (.int p3), .val (.int p4), .val (.int p5), .val (.int p6), .val (.int x1), .val (.int x2), .val (.int y1), .val (.int y2), .val (.int xq), .val (.int dv), .val (.ref o), .val (.int ev), .val (.int z3), .val (.int z4), .val (.int p6), .val (.int ((p6 + (2 : Int32)) + y2))] [(.int ((p6 + (2 : Int32)) + y2)), (.int (ac (sv + (cnt q - 1))))]))
                refine own_go (fun tt kk => XS.icmpNo X6.here hx rfl (hb hby at_333) rfl (teq (own_eq32 (x := (ac (sv + (cnt q - 1)))) (y := ((p6 + (2 : Int32)) + y2)) (i := (ac (sv + (cnt q - 1))).toInt) (j := ((p6 + (2 : Int32)) + y2).toInt) rfl rfl (by rw [C2]))).2 kk) ?_
                show own_Go p e below _ (T6.setTop (mkF m 336 #[.val (.int p1), .val (.int p2), .val (.int p3), .val (.int p4), .val (.int p5), .val (.int p6), .val (.int x1), .val (.int x2), .val (.int y1), .val (.int y2), .val (.int xq), .val (.int dv), .val (.ref o), .val (.int ev), .val (.int z3), .val (.int z4), .val (.int p6), .val (.int ((p6 + (2 : Int32)) + y2))] []))
                refine own_go (fun tt kk => XS.iconst X6.here hx rfl (hb hby at_336) kk) ?_
                show own_Go p e below _ (T6.setTop (mkF m 337 #[.val (.int p1), .val (.int p2), .val (.int p3), .val (.int p4), .val (.int p5), .val (.int p6), .val (.int x1), .val (.int x2), .val (.int y1), .val (.int y2), .val (.int xq), .val (.int dv), .val (.ref o), .val (.int ev), .val (.int z3), .val (.int z4), .val (.int p6), .val (.int ((p6 + (2 : Int32)) + y2))] [(.int (1 : Int32))]))
                refine own_go (fun tt kk => XS.goto X6.here hx rfl (pc0 := 337) (pc' := 341) rfl (hb hby at_337) (by decide) (by decide) kk) ?_
                show own_Go p e below _ (T6.setTop (mkF m 341 #[.val (.int p1), .val (.int p2), .val (.int p3), .val (.int p4), .val (.int p5), .val (.int p6), .val (.int x1), .val (.int x2), .val (.int y1), .val (.int y2), .val (.int xq), .val (.int dv), .val (.ref o), .val (.int ev), .val (.int z3), .val (.int z4), .val (.int p6), .val (.int ((p6 + (2 : Int32)) + y2))] [(.int (1 : Int32))]))
                exact own_retZ X6 hx hlk hret (by decide) (hb hby at_341) ⟨rfl, (Fr.app (Fr.app (Fr.app (Fr.app Nl (Fr.nil _)) (Fr.nil _)) (Fr.nil _)) (Fr.nil _))⟩ (by decide) (by decide)
              · refine own_go (fun tt kk => XS.ifYes X4.here hx rfl (pc0 := 288) (pc' := 301) rfl (hb hby at_288) rfl ((if0 _ _).trans (flt (own_nlt32 (x := (0 : Int32)) (y := y2) (i := 0) (j := y2.toInt) rfl rfl hc288)).2.2.2) (by decide) (by decide) kk) ?_
                show own_Go p e below _ (T4.setTop (mkF m 301 #[.val (.int p1), .val (.int p2), .val (.int p3), .val (.int p4), .val (.int p5), .val (.int p6), .val (.int x1), .val (.int x2), .val (.int y1), .val (.int y2), .val (.int xq), .val (.int dv), .val (.ref o), .val (.int ev), .val (.int z3), .val (.int z4), .val (.int p6), .unset] []))
                rw [if_neg (by omega)] at C2
                refine own_go (fun tt kk => XS.iload X4.here hx rfl (hb hby at_301) rfl kk) ?_
                show own_Go p e below _ (T4.setTop (mkF m 303 #[.val (.int p1), .val (.int p2), .val (.int p3), .val (.int p4), .val (.int p5), .val (.int p6), .val (.int x1), .val (.int x2), .val (.int y1), .val (.int y2), .val (.int xq), .val (.int dv), .val (.ref o), .val (.int ev), .val (.int z3), .val (.int z4), .val (.int p6), .unset] [(.int p6)]))
                refine own_go (fun tt kk => XS.iload X4.here hx rfl (hb hby at_303) rfl kk) ?_
                show own_Go p e below _ (T4.setTop (mkF m 305 #[.val (.int p1), .val (.int p2), .val (.int p3), .val (.int p4), .val (.int p5), .val (.int p6), .val (.int x1), .val (.int x2), .val (.int y1), .val (.int y2), .val (.int xq), .val (.int dv), .val (.ref o), .val (.int ev), .val (.int z3), .val (.int z4), .val (.int p6), .unset] [(.int y1), (.int p6)]))
                refine own_go (fun tt kk => XS.iadd X4.here hx rfl (hb hby at_305) rfl kk) ?_
                show own_Go p e below _ (T4.setTop (mkF m 306 #[.val (.int p1), .val (.int p2), .val (.int p3), .val (.int p4), .val (.int p5), .val (.int p6), .val (.int x1), .val (.int x2), .val (.int y1), .val (.int y2), .val (.int xq), .val (.int dv), .val (.ref o), .val (.int ev), .val (.int z3), .val (.int z4), .val (.int p6), .unset] [(.int (p6 + y1))]))
                refine own_go (fun tt kk => XS.iconst X4.here hx rfl (hb hby at_306) kk) ?_
                show own_Go p e below _ (T4.setTop (mkF m 307 #[.val (.int p1), .val (.int p2), .val (.int p3), .val (.int p4), .val (.int p5), .val (.int p6), .val (.int x1), .val (.int x2), .val (.int y1), .val (.int y2), .val (.int xq), .val (.int dv), .val (.ref o), .val (.int ev), .val (.int z3), .val (.int z4), .val (.int p6), .unset] [(.int (1 : Int32)), (.int (p6 + y1))]))
                refine own_go (fun tt kk => XS.isub X4.here hx rfl (hb hby at_307) rfl kk) ?_
                show own_Go p e below _ (T4.setTop (mkF m 308 #[.val (.int p1), .val (.int p2), .val (.int p3), .val (.int p4), .val (.int p5), .val (.int p6), .val (.int x1), .val (.int x2), .val (.int y1), .val (.int y2), .val (.int xq), .val (.int dv), .val (.ref o), .val (.int ev), .val (.int z3), .val (.int z4), .val (.int p6), .unset] [(.int ((p6 + y1) - (1 : Int32)))]))
                refine own_go (fun tt kk => XS.istore X4.here hx rfl (hb hby at_308) rfl (l' := #[.val (.int p1), .val (.int p2), .val (.int p3), .val (.int p4), .val (.int p5), .val (.int p6), .val (.int x1), .val (.int x2), .val (.int y1), .val (.int y2), .val (.int xq), .val (.int dv), .val (.ref o), .val (.int ev), .val (.int z3), .val (.int z4), .val (.int p6), .val (.int ((p6 + y1) - (1 : Int32)))]) rfl kk) ?_
                show own_Go p e below _ (T4.setTop (mkF m 310 #[.val (.int p1), .val (.int p2), .val (.int p3), .val (.int p4), .val (.int p5), .val (.int p6), .val (.int x1), .val (.int x2), .val (.int y1), .val (.int y2), .val (.int xq), .val (.int dv), .val (.ref o), .val (.int ev), .val (.int z3), .val (.int z4), .val (.int p6), .val (.int ((p6 + y1) - (1 : Int32)))] []))
                refine own_go (fun tt kk => XS.aload X4.here hx rfl (hb hby at_310) rfl rfl kk) ?_
                show own_Go p e below _ (T4.setTop (mkF m 312 #[.val (.int p1), .val (.int p2), .val (.int p3), .val (.int p4), .val (.int p5), .val (.int p6), .val (.int x1), .val (.int x2), .val (.int y1), .val (.int y2), .val (.int xq), .val (.int dv), .val (.ref o), .val (.int ev), .val (.int z3), .val (.int z4), .val (.int p6), .val (.int ((p6 + y1) - (1 : Int32)))] [(.ref o)]))
                refine own_go (fun tt kk => XS.iload X4.here hx rfl (hb hby at_312) rfl kk) ?_
                show own_Go p e below _ (T4.setTop (mkF m 314 #[.val (.int p1), .val (.int p2), .val (.int p3), .val (.int p4), .val (.int p5), .val (.int p6), .val (.int x1), .val (.int x2), .val (.int y1), .val (.int y2), .val (.int xq), .val (.int dv), .val (.ref o), .val (.int ev), .val (.int z3), .val (.int z4), .val (.int p6), .val (.int ((p6 + y1) - (1 : Int32)))] [(.int z3), (.ref o)]))
                obtain ⟨v7, L7, T7, X7, qq7, st7⟩ := own_callV X4 hx hZ hown (hw _ (List.mem_of_getElem? (i := 68) rfl)) (hw _ (List.mem_of_getElem? (i := 69) rfl)) (hw _ (List.mem_of_getElem? (i := 71) rfl)) (hw _ (List.mem_of_getElem? (i := 70) rfl)) (hw _ (List.mem_of_getElem? (i := 72) rfl)) (hw _ (List.mem_of_getElem? (i := 3) rfl)) (by decide) A.1 (rmAct l Z a0 hw [] o aS aC aR aA aB N st ct rm ac nb U W z3 sv h0.size h A w1 (by omega)) hh4 (pc := 314) (Ls := #[.val (.int p1), .val (.int p2), .val (.int p3), .val (.int p4), .val (.int p5), .val (.int p6), .val (.int x1), .val (.int x2), .val (.int y1), .val (.int y2), .val (.int xq), .val (.int dv), .val (.ref o), .val (.int ev), .val (.int z3), .val (.int z4), .val (.int p6), .val (.int ((p6 + y1) - (1 : Int32)))]) (argsL := [(.int z3)]) (rest := []) rfl (by rw [hml]; rfl) pd_5 rfl rfl (hb hby at_314) 0 (Nat.le_of_eq rfl) (by decide) (by decide) (by decide) (by decide)
                obtain ⟨rfl, hh7, rfl⟩ := qq7
                refine own_go st7 ?_
                show own_Go p e below _ (T7.setTop (mkF m 317 #[.val (.int p1), .val (.int p2), .val (.int p3), .val (.int p4), .val (.int p5), .val (.int p6), .val (.int x1), .val (.int x2), .val (.int y1), .val (.int y2), .val (.int xq), .val (.int dv), .val (.ref o), .val (.int ev), .val (.int z3), .val (.int z4), .val (.int p6), .val (.int ((p6 + y1) - (1 : Int32)))] [(.int (ac sv))]))
                refine own_go (fun tt kk => XS.iload X7.here hx rfl (hb hby at_317) rfl kk) ?_
                show own_Go p e below _ (T7.setTop (mkF m 319 #[.val (.int p1), .val (.int p2), .val (.int p3), .val (.int p4), .val (.int p5), .val (.int p6), .val (.int x1), .val (.int x2), .val (.int y1), .val (.int y2), .val (.int xq), .val (.int dv), .val (.ref o), .val (.int ev), .val (.int z3), .val (.int z4), .val (.int p6), .val (.int ((p6 + y1) - (1 : Int32)))] [(.int p6), (.int (ac sv))]))
                refine own_go (fun tt kk => XS.icmpNo X7.here hx rfl (hb hby at_319) rfl (teq (own_eq32 (x := (ac sv)) (y := p6) (i := (ac sv).toInt) (j := p6.toInt) rfl rfl (by rw [C1]))).2 kk) ?_
                show own_Go p e below _ (T7.setTop (mkF m 322 #[.val (.int p1), .val (.int p2), .val (.int p3), .val (.int p4), .val (.int p5), .val (.int p6), .val (.int x1), .val (.int x2), .val (.int y1), .val (.int y2), .val (.int xq), .val (.int dv), .val (.ref o), .val (.int ev), .val (.int z3), .val (.int z4), .val (.int p6), .val (.int ((p6 + y1) - (1 : Int32)))] []))
                refine own_go (fun tt kk => XS.aload X7.here hx rfl (hb hby at_322) rfl rfl kk) ?_
                show own_Go p e below _ (T7.setTop (mkF m 324 #[.val (.int p1), .val (.int p2), .val (.int p3), .val (.int p4), .val (.int p5), .val (.int p6), .val (.int x1), .val (.int x2), .val (.int y1), .val (.int y2), .val (.int xq), .val (.int dv), .val (.ref o), .val (.int ev), .val (.int z3), .val (.int z4), .val (.int p6), .val (.int ((p6 + y1) - (1 : Int32)))] [(.ref o)]))
                refine own_go (fun tt kk => XS.iload X7.here hx rfl (hb hby at_324) rfl kk) ?_
                show own_Go p e below _ (T7.setTop (mkF m 326 #[.val (.int p1), .val (.int p2), .val (.int p3), .val (.int p4), .val (.int p5), .val (.int p6), .val (.int x1), .val (.int x2), .val (.int y1), .val (.int y2), .val (.int xq), .val (.int dv), .val (.ref o), .val (.int ev), .val (.int z3), .val (.int z4), .val (.int p6), .val (.int ((p6 + y1) - (1 : Int32)))] [(.int z4), (.ref o)]))
                refine own_go (fun tt kk => XS.iconst X7.here hx rfl (hb hby at_326) kk) ?_
                show own_Go p e below _ (T7.setTop (mkF m 327 #[.val (.int p1), .val (.int p2), .val (.int p3), .val (.int p4), .val (.int p5), .val (.int p6), .val (.int x1), .val (.int x2), .val (.int y1), .val (.int y2), .val (.int xq), .val (.int dv), .val (.ref o), .val (.int ev), .val (.int z3), .val (.int z4), .val (.int p6), .val (.int ((p6 + y1) - (1 : Int32)))] [(.int (1 : Int32)), (.int z4), (.ref o)]))
                refine own_go (fun tt kk => XS.isub X7.here hx rfl (hb hby at_327) rfl kk) ?_
                show own_Go p e below _ (T7.setTop (mkF m 328 #[.val (.int p1), .val (.int p2), .val (.int p3), .val (.int p4), .val (.int p5), .val (.int p6), .val (.int x1), .val (.int x2), .val (.int y1), .val (.int y2), .val (.int xq), .val (.int dv), .val (.ref o), .val (.int ev), .val (.int z3), .val (.int z4), .val (.int p6), .val (.int ((p6 + y1) - (1 : Int32)))] [(.int (z4 - (1 : Int32))), (.ref o)]))
                obtain ⟨v8, L8, T8, X8, qq8, st8⟩ := own_callV X7 hx hZ hown (hw _ (List.mem_of_getElem? (i := 68) rfl)) (hw _ (List.mem_of_getElem? (i := 69) rfl)) (hw _ (List.mem_of_getElem? (i := 71) rfl)) (hw _ (List.mem_of_getElem? (i := 70) rfl)) (hw _ (List.mem_of_getElem? (i := 72) rfl)) (hw _ (List.mem_of_getElem? (i := 3) rfl)) (by decide) A.1 (rmAct l Z a0 hw [] o aS aC aR aA aB N st ct rm ac nb U W (z4 - 1) (sv + (cnt q - 1)) h0.size h A t6 (by omega)) hh7 (pc := 328) (Ls := #[.val (.int p1), .val (.int p2), .val (.int p3), .val (.int p4), .val (.int p5), .val (.int p6), .val (.int x1), .val (.int x2), .val (.int y1), .val (.int y2), .val (.int xq), .val (.int dv), .val (.ref o), .val (.int ev), .val (.int z3), .val (.int z4), .val (.int p6), .val (.int ((p6 + y1) - (1 : Int32)))]) (argsL := [(.int (z4 - (1 : Int32)))]) (rest := []) rfl (by rw [hml]; rfl) pd_5 rfl rfl (hb hby at_328) 0 (Nat.le_of_eq rfl) (by decide) (by decide) (by decide) (by decide)
                obtain ⟨rfl, hh8, rfl⟩ := qq8
                refine own_go st8 ?_
                show own_Go p e below _ (T8.setTop (mkF m 331 #[.val (.int p1), .val (.int p2), .val (.int p3), .val (.int p4), .val (.int p5), .val (.int p6), .val (.int x1), .val (.int x2), .val (.int y1), .val (.int y2), .val (.int xq), .val (.int dv), .val (.ref o), .val (.int ev), .val (.int z3), .val (.int z4), .val (.int p6), .val (.int ((p6 + y1) - (1 : Int32)))] [(.int (ac (sv + (cnt q - 1))))]))
                refine own_go (fun tt kk => XS.iload X8.here hx rfl (hb hby at_331) rfl kk) ?_
                show own_Go p e below _ (T8.setTop (mkF m 333 #[.val (.int p1), .val (.int p2), .val (.int p3), .val (.int p4), .val (.int p5), .val (.int p6), .val (.int x1), .val (.int x2), .val (.int y1), .val (.int y2), .val (.int xq), .val (.int dv), .val (.ref o), .val (.int ev), .val (.int z3), .val (.int z4), .val (.int p6), .val (.int ((p6 + y1) - (1 : Int32)))] [(.int ((p6 + y1) - (1 : Int32))), (.int (ac (sv + (cnt q - 1))))]))
                refine own_go (fun tt kk => XS.icmpNo X8.here hx rfl (hb hby at_333) rfl (teq (own_eq32 (x := (ac (sv + (cnt q - 1)))) (y := ((p6 + y1) - (1 : Int32))) (i := (ac (sv + (cnt q - 1))).toInt) (j := ((p6 + y1) - (1 : Int32)).toInt) rfl rfl (by rw [C2]))).2 kk) ?_
                show own_Go p e below _ (T8.setTop (mkF m 336 #[.val (.int p1), .val (.int p2), .val (.int p3), .val (.int p4), .val (.int p5), .val (.int p6), .val (.int x1), .val (.int x2), .val (.int y1), .val (.int y2), .val (.int xq), .val (.int dv), .val (.ref o), .val (.int ev), .val (.int z3), .val (.int z4), .val (.int p6), .val (.int ((p6 + y1) - (1 : Int32)))] []))
                refine own_go (fun tt kk => XS.iconst X8.here hx rfl (hb hby at_336) kk) ?_
                show own_Go p e below _ (T8.setTop (mkF m 337 #[.val (.int p1), .val (.int p2), .val (.int p3), .val (.int p4), .val (.int p5), .val (.int p6), .val (.int x1), .val (.int x2), .val (.int y1), .val (.int y2), .val (.int xq), .val (.int dv), .val (.ref o), .val (.int ev), .val (.int z3), .val (.int z4), .val (.int p6), .val (.int ((p6 + y1) - (1 : Int32)))] [(.int (1 : Int32))]))
                refine own_go (fun tt kk => XS.goto X8.here hx rfl (pc0 := 337) (pc' := 341) rfl (hb hby at_337) (by decide) (by decide) kk) ?_
                show own_Go p e below _ (T8.setTop (mkF m 341 #[.val (.int p1), .val (.int p2), .val (.int p3), .val (.int p4), .val (.int p5), .val (.int p6), .val (.int x1), .val (.int x2), .val (.int y1), .val (.int y2), .val (.int xq), .val (.int dv), .val (.ref o), .val (.int ev), .val (.int z3), .val (.int z4), .val (.int p6), .val (.int ((p6 + y1) - (1 : Int32)))] [(.int (1 : Int32))]))
                exact own_retZ X8 hx hlk hret (by decide) (hb hby at_341) ⟨rfl, (Fr.app (Fr.app (Fr.app (Fr.app Nl (Fr.nil _)) (Fr.nil _)) (Fr.nil _)) (Fr.nil _))⟩ (by decide) (by decide)
            · refine own_go (fun tt kk => XS.icmpYes X4.here hx rfl (pc0 := 283) (pc' := 301) rfl (hb hby at_283) rfl (feq (own_neq32 (x := xq) (y := x2) (i := xq.toInt) (j := x2.toInt) rfl rfl hc283)).2 (by decide) (by decide) kk) ?_
              show own_Go p e below _ (T4.setTop (mkF m 301 #[.val (.int p1), .val (.int p2), .val (.int p3), .val (.int p4), .val (.int p5), .val (.int p6), .val (.int x1), .val (.int x2), .val (.int y1), .val (.int y2), .val (.int xq), .val (.int dv), .val (.ref o), .val (.int ev), .val (.int z3), .val (.int z4), .val (.int p6), .unset] []))
              rw [if_neg (by omega)] at C2
              refine own_go (fun tt kk => XS.iload X4.here hx rfl (hb hby at_301) rfl kk) ?_
              show own_Go p e below _ (T4.setTop (mkF m 303 #[.val (.int p1), .val (.int p2), .val (.int p3), .val (.int p4), .val (.int p5), .val (.int p6), .val (.int x1), .val (.int x2), .val (.int y1), .val (.int y2), .val (.int xq), .val (.int dv), .val (.ref o), .val (.int ev), .val (.int z3), .val (.int z4), .val (.int p6), .unset] [(.int p6)]))
              refine own_go (fun tt kk => XS.iload X4.here hx rfl (hb hby at_303) rfl kk) ?_
              show own_Go p e below _ (T4.setTop (mkF m 305 #[.val (.int p1), .val (.int p2), .val (.int p3), .val (.int p4), .val (.int p5), .val (.int p6), .val (.int x1), .val (.int x2), .val (.int y1), .val (.int y2), .val (.int xq), .val (.int dv), .val (.ref o), .val (.int ev), .val (.int z3), .val (.int z4), .val (.int p6), .unset] [(.int y1), (.int p6)]))
              refine own_go (fun tt kk => XS.iadd X4.here hx rfl (hb hby at_305) rfl kk) ?_
              show own_Go p e below _ (T4.setTop (mkF m 306 #[.val (.int p1), .val (.int p2), .val (.int p3), .val (.int p4), .val (.int p5), .val (.int p6), .val (.int x1), .val (.int x2), .val (.int y1), .val (.int y2), .val (.int xq), .val (.int dv), .val (.ref o), .val (.int ev), .val (.int z3), .val (.int z4), .val (.int p6), .unset] [(.int (p6 + y1))]))
              refine own_go (fun tt kk => XS.iconst X4.here hx rfl (hb hby at_306) kk) ?_
              show own_Go p e below _ (T4.setTop (mkF m 307 #[.val (.int p1), .val (.int p2), .val (.int p3), .val (.int p4), .val (.int p5), .val (.int p6), .val (.int x1), .val (.int x2), .val (.int y1), .val (.int y2), .val (.int xq), .val (.int dv), .val (.ref o), .val (.int ev), .val (.int z3), .val (.int z4), .val (.int p6), .unset] [(.int (1 : Int32)), (.int (p6 + y1))]))
              refine own_go (fun tt kk => XS.isub X4.here hx rfl (hb hby at_307) rfl kk) ?_
              show own_Go p e below _ (T4.setTop (mkF m 308 #[.val (.int p1), .val (.int p2), .val (.int p3), .val (.int p4), .val (.int p5), .val (.int p6), .val (.int x1), .val (.int x2), .val (.int y1), .val (.int y2), .val (.int xq), .val (.int dv), .val (.ref o), .val (.int ev), .val (.int z3), .val (.int z4), .val (.int p6), .unset] [(.int ((p6 + y1) - (1 : Int32)))]))
              refine own_go (fun tt kk => XS.istore X4.here hx rfl (hb hby at_308) rfl (l' := #[.val (.int p1), .val (.int p2), .val (.int p3), .val (.int p4), .val (.int p5), .val (.int p6), .val (.int x1), .val (.int x2), .val (.int y1), .val (.int y2), .val (.int xq), .val (.int dv), .val (.ref o), .val (.int ev), .val (.int z3), .val (.int z4), .val (.int p6), .val (.int ((p6 + y1) - (1 : Int32)))]) rfl kk) ?_
              show own_Go p e below _ (T4.setTop (mkF m 310 #[.val (.int p1), .val (.int p2), .val (.int p3), .val (.int p4), .val (.int p5), .val (.int p6), .val (.int x1), .val (.int x2), .val (.int y1), .val (.int y2), .val (.int xq), .val (.int dv), .val (.ref o), .val (.int ev), .val (.int z3), .val (.int z4), .val (.int p6), .val (.int ((p6 + y1) - (1 : Int32)))] []))
              refine own_go (fun tt kk => XS.aload X4.here hx rfl (hb hby at_310) rfl rfl kk) ?_
              show own_Go p e below _ (T4.setTop (mkF m 312 #[.val (.int p1), .val (.int p2), .val (.int p3), .val (.int p4), .val (.int p5), .val (.int p6), .val (.int x1), .val (.int x2), .val (.int y1), .val (.int y2), .val (.int xq), .val (.int dv), .val (.ref o), .val (.int ev), .val (.int z3), .val (.int z4), .val (.int p6), .val (.int ((p6 + y1) - (1 : Int32)))] [(.ref o)]))
              refine own_go (fun tt kk => XS.iload X4.here hx rfl (hb hby at_312) rfl kk) ?_
              show own_Go p e below _ (T4.setTop (mkF m 314 #[.val (.int p1), .val (.int p2), .val (.int p3), .val (.int p4), .val (.int p5), .val (.int p6), .val (.int x1), .val (.int x2), .val (.int y1), .val (.int y2), .val (.int xq), .val (.int dv), .val (.ref o), .val (.int ev), .val (.int z3), .val (.int z4), .val (.int p6), .val (.int ((p6 + y1) - (1 : Int32)))] [(.int z3), (.ref o)]))
              obtain ⟨v9, L9, T9, X9, qq9, st9⟩ := own_callV X4 hx hZ hown (hw _ (List.mem_of_getElem? (i := 68) rfl)) (hw _ (List.mem_of_getElem? (i := 69) rfl)) (hw _ (List.mem_of_getElem? (i := 71) rfl)) (hw _ (List.mem_of_getElem? (i := 70) rfl)) (hw _ (List.mem_of_getElem? (i := 72) rfl)) (hw _ (List.mem_of_getElem? (i := 3) rfl)) (by decide) A.1 (rmAct l Z a0 hw [] o aS aC aR aA aB N st ct rm ac nb U W z3 sv h0.size h A w1 (by omega)) hh4 (pc := 314) (Ls := #[.val (.int p1), .val (.int p2), .val (.int p3), .val (.int p4), .val (.int p5), .val (.int p6), .val (.int x1), .val (.int x2), .val (.int y1), .val (.int y2), .val (.int xq), .val (.int dv), .val (.ref o), .val (.int ev), .val (.int z3), .val (.int z4), .val (.int p6), .val (.int ((p6 + y1) - (1 : Int32)))]) (argsL := [(.int z3)]) (rest := []) rfl (by rw [hml]; rfl) pd_5 rfl rfl (hb hby at_314) 0 (Nat.le_of_eq rfl) (by decide) (by decide) (by decide) (by decide)
              obtain ⟨rfl, hh9, rfl⟩ := qq9
              refine own_go st9 ?_
              show own_Go p e below _ (T9.setTop (mkF m 317 #[.val (.int p1), .val (.int p2), .val (.int p3), .val (.int p4), .val (.int p5), .val (.int p6), .val (.int x1), .val (.int x2), .val (.int y1), .val (.int y2), .val (.int xq), .val (.int dv), .val (.ref o), .val (.int ev), .val (.int z3), .val (.int z4), .val (.int p6), .val (.int ((p6 + y1) - (1 : Int32)))] [(.int (ac sv))]))
              refine own_go (fun tt kk => XS.iload X9.here hx rfl (hb hby at_317) rfl kk) ?_
              show own_Go p e below _ (T9.setTop (mkF m 319 #[.val (.int p1), .val (.int p2), .val (.int p3), .val (.int p4), .val (.int p5), .val (.int p6), .val (.int x1), .val (.int x2), .val (.int y1), .val (.int y2), .val (.int xq), .val (.int dv), .val (.ref o), .val (.int ev), .val (.int z3), .val (.int z4), .val (.int p6), .val (.int ((p6 + y1) - (1 : Int32)))] [(.int p6), (.int (ac sv))]))
              refine own_go (fun tt kk => XS.icmpNo X9.here hx rfl (hb hby at_319) rfl (teq (own_eq32 (x := (ac sv)) (y := p6) (i := (ac sv).toInt) (j := p6.toInt) rfl rfl (by rw [C1]))).2 kk) ?_
              show own_Go p e below _ (T9.setTop (mkF m 322 #[.val (.int p1), .val (.int p2), .val (.int p3), .val (.int p4), .val (.int p5), .val (.int p6), .val (.int x1), .val (.int x2), .val (.int y1), .val (.int y2), .val (.int xq), .val (.int dv), .val (.ref o), .val (.int ev), .val (.int z3), .val (.int z4), .val (.int p6), .val (.int ((p6 + y1) - (1 : Int32)))] []))
              refine own_go (fun tt kk => XS.aload X9.here hx rfl (hb hby at_322) rfl rfl kk) ?_
              show own_Go p e below _ (T9.setTop (mkF m 324 #[.val (.int p1), .val (.int p2), .val (.int p3), .val (.int p4), .val (.int p5), .val (.int p6), .val (.int x1), .val (.int x2), .val (.int y1), .val (.int y2), .val (.int xq), .val (.int dv), .val (.ref o), .val (.int ev), .val (.int z3), .val (.int z4), .val (.int p6), .val (.int ((p6 + y1) - (1 : Int32)))] [(.ref o)]))
              refine own_go (fun tt kk => XS.iload X9.here hx rfl (hb hby at_324) rfl kk) ?_
              show own_Go p e below _ (T9.setTop (mkF m 326 #[.val (.int p1), .val (.int p2), .val (.int p3), .val (.int p4), .val (.int p5), .val (.int p6), .val (.int x1), .val (.int x2), .val (.int y1), .val (.int y2), .val (.int xq), .val (.int dv), .val (.ref o), .val (.int ev), .val (.int z3), .val (.int z4), .val (.int p6), .val (.int ((p6 + y1) - (1 : Int32)))] [(.int z4), (.ref o)]))
              refine own_go (fun tt kk => XS.iconst X9.here hx rfl (hb hby at_326) kk) ?_
              show own_Go p e below _ (T9.setTop (mkF m 327 #[.val (.int p1), .val (.int p2), .val (.int p3), .val (.int p4), .val (.int p5), .val (.int p6), .val (.int x1), .val (.int x2), .val (.int y1), .val (.int y2), .val (.int xq), .val (.int dv), .val (.ref o), .val (.int ev), .val (.int z3), .val (.int z4), .val (.int p6), .val (.int ((p6 + y1) - (1 : Int32)))] [(.int (1 : Int32)), (.int z4), (.ref o)]))
              refine own_go (fun tt kk => XS.isub X9.here hx rfl (hb hby at_327) rfl kk) ?_
              show own_Go p e below _ (T9.setTop (mkF m 328 #[.val (.int p1), .val (.int p2), .val (.int p3), .val (.int p4), .val (.int p5), .val (.int p6), .val (.int x1), .val (.int x2), .val (.int y1), .val (.int y2), .val (.int xq), .val (.int dv), .val (.ref o), .val (.int ev), .val (.int z3), .val (.int z4), .val (.int p6), .val (.int ((p6 + y1) - (1 : Int32)))] [(.int (z4 - (1 : Int32))), (.ref o)]))
              obtain ⟨v10, L10, T10, X10, qq10, st10⟩ := own_callV X9 hx hZ hown (hw _ (List.mem_of_getElem? (i := 68) rfl)) (hw _ (List.mem_of_getElem? (i := 69) rfl)) (hw _ (List.mem_of_getElem? (i := 71) rfl)) (hw _ (List.mem_of_getElem? (i := 70) rfl)) (hw _ (List.mem_of_getElem? (i := 72) rfl)) (hw _ (List.mem_of_getElem? (i := 3) rfl)) (by decide) A.1 (rmAct l Z a0 hw [] o aS aC aR aA aB N st ct rm ac nb U W (z4 - 1) (sv + (cnt q - 1)) h0.size h A t6 (by omega)) hh9 (pc := 328) (Ls := #[.val (.int p1), .val (.int p2), .val (.int p3), .val (.int p4), .val (.int p5), .val (.int p6), .val (.int x1), .val (.int x2), .val (.int y1), .val (.int y2), .val (.int xq), .val (.int dv), .val (.ref o), .val (.int ev), .val (.int z3), .val (.int z4), .val (.int p6), .val (.int ((p6 + y1) - (1 : Int32)))]) (argsL := [(.int (z4 - (1 : Int32)))]) (rest := []) rfl (by rw [hml]; rfl) pd_5 rfl rfl (hb hby at_328) 0 (Nat.le_of_eq rfl) (by decide) (by decide) (by decide) (by decide)
              obtain ⟨rfl, hh10, rfl⟩ := qq10
              refine own_go st10 ?_
              show own_Go p e below _ (T10.setTop (mkF m 331 #[.val (.int p1), .val (.int p2), .val (.int p3), .val (.int p4), .val (.int p5), .val (.int p6), .val (.int x1), .val (.int x2), .val (.int y1), .val (.int y2), .val (.int xq), .val (.int dv), .val (.ref o), .val (.int ev), .val (.int z3), .val (.int z4), .val (.int p6), .val (.int ((p6 + y1) - (1 : Int32)))] [(.int (ac (sv + (cnt q - 1))))]))
              refine own_go (fun tt kk => XS.iload X10.here hx rfl (hb hby at_331) rfl kk) ?_
              show own_Go p e below _ (T10.setTop (mkF m 333 #[.val (.int p1), .val (.int p2), .val (.int p3), .val (.int p4), .val (.int p5), .val (.int p6), .val (.int x1), .val (.int x2), .val (.int y1), .val (.int y2), .val (.int xq), .val (.int dv), .val (.ref o), .val (.int ev), .val (.int z3), .val (.int z4), .val (.int p6), .val (.int ((p6 + y1) - (1 : Int32)))] [(.int ((p6 + y1) - (1 : Int32))), (.int (ac (sv + (cnt q - 1))))]))
              refine own_go (fun tt kk => XS.icmpNo X10.here hx rfl (hb hby at_333) rfl (teq (own_eq32 (x := (ac (sv + (cnt q - 1)))) (y := ((p6 + y1) - (1 : Int32))) (i := (ac (sv + (cnt q - 1))).toInt) (j := ((p6 + y1) - (1 : Int32)).toInt) rfl rfl (by rw [C2]))).2 kk) ?_
              show own_Go p e below _ (T10.setTop (mkF m 336 #[.val (.int p1), .val (.int p2), .val (.int p3), .val (.int p4), .val (.int p5), .val (.int p6), .val (.int x1), .val (.int x2), .val (.int y1), .val (.int y2), .val (.int xq), .val (.int dv), .val (.ref o), .val (.int ev), .val (.int z3), .val (.int z4), .val (.int p6), .val (.int ((p6 + y1) - (1 : Int32)))] []))
              refine own_go (fun tt kk => XS.iconst X10.here hx rfl (hb hby at_336) kk) ?_
              show own_Go p e below _ (T10.setTop (mkF m 337 #[.val (.int p1), .val (.int p2), .val (.int p3), .val (.int p4), .val (.int p5), .val (.int p6), .val (.int x1), .val (.int x2), .val (.int y1), .val (.int y2), .val (.int xq), .val (.int dv), .val (.ref o), .val (.int ev), .val (.int z3), .val (.int z4), .val (.int p6), .val (.int ((p6 + y1) - (1 : Int32)))] [(.int (1 : Int32))]))
              refine own_go (fun tt kk => XS.goto X10.here hx rfl (pc0 := 337) (pc' := 341) rfl (hb hby at_337) (by decide) (by decide) kk) ?_
              show own_Go p e below _ (T10.setTop (mkF m 341 #[.val (.int p1), .val (.int p2), .val (.int p3), .val (.int p4), .val (.int p5), .val (.int p6), .val (.int x1), .val (.int x2), .val (.int y1), .val (.int y2), .val (.int xq), .val (.int dv), .val (.ref o), .val (.int ev), .val (.int z3), .val (.int z4), .val (.int p6), .val (.int ((p6 + y1) - (1 : Int32)))] [(.int (1 : Int32))]))
              exact own_retZ X10 hx hlk hret (by decide) (hb hby at_341) ⟨rfl, (Fr.app (Fr.app (Fr.app (Fr.app Nl (Fr.nil _)) (Fr.nil _)) (Fr.nil _)) (Fr.nil _))⟩ (by decide) (by decide)
          · refine own_go (fun tt kk => XS.ifYes X4.here hx rfl (pc0 := 265) (pc' := 273) rfl (hb hby at_265) rfl ((if0 _ _).trans (flt (own_nlt32 (x := (0 : Int32)) (y := y1) (i := 0) (j := y1.toInt) rfl rfl hc265)).2.2.2) (by decide) (by decide) kk) ?_
            show own_Go p e below _ (T4.setTop (mkF m 273 #[.val (.int p1), .val (.int p2), .val (.int p3), .val (.int p4), .val (.int p5), .val (.int p6), .val (.int x1), .val (.int x2), .val (.int y1), .val (.int y2), .val (.int xq), .val (.int dv), .val (.ref o), .val (.int ev), .val (.int z3), .val (.int z4), .unset, .unset] []))
            rw [if_neg (by omega)] at C1
            refine own_go (fun tt kk => XS.iload X4.here hx rfl (hb hby at_273) rfl kk) ?_
            show own_Go p e below _ (T4.setTop (mkF m 275 #[.val (.int p1), .val (.int p2), .val (.int p3), .val (.int p4), .val (.int p5), .val (.int p6), .val (.int x1), .val (.int x2), .val (.int y1), .val (.int y2), .val (.int xq), .val (.int dv), .val (.ref o), .val (.int ev), .val (.int z3), .val (.int z4), .unset, .unset] [(.int p6)]))
            refine own_go (fun tt kk => XS.iconst X4.here hx rfl (hb hby at_275) kk) ?_
            show own_Go p e below _ (T4.setTop (mkF m 276 #[.val (.int p1), .val (.int p2), .val (.int p3), .val (.int p4), .val (.int p5), .val (.int p6), .val (.int x1), .val (.int x2), .val (.int y1), .val (.int y2), .val (.int xq), .val (.int dv), .val (.ref o), .val (.int ev), .val (.int z3), .val (.int z4), .unset, .unset] [(.int (3 : Int32)), (.int p6)]))
            refine own_go (fun tt kk => XS.iadd X4.here hx rfl (hb hby at_276) rfl kk) ?_
            show own_Go p e below _ (T4.setTop (mkF m 277 #[.val (.int p1), .val (.int p2), .val (.int p3), .val (.int p4), .val (.int p5), .val (.int p6), .val (.int x1), .val (.int x2), .val (.int y1), .val (.int y2), .val (.int xq), .val (.int dv), .val (.ref o), .val (.int ev), .val (.int z3), .val (.int z4), .unset, .unset] [(.int (p6 + (3 : Int32)))]))
            refine own_go (fun tt kk => XS.istore X4.here hx rfl (hb hby at_277) rfl (l' := #[.val (.int p1), .val (.int p2), .val (.int p3), .val (.int p4), .val (.int p5), .val (.int p6), .val (.int x1), .val (.int x2), .val (.int y1), .val (.int y2), .val (.int xq), .val (.int dv), .val (.ref o), .val (.int ev), .val (.int z3), .val (.int z4), .val (.int (p6 + (3 : Int32))), .unset]) rfl kk) ?_
            show own_Go p e below _ (T4.setTop (mkF m 279 #[.val (.int p1), .val (.int p2), .val (.int p3), .val (.int p4), .val (.int p5), .val (.int p6), .val (.int x1), .val (.int x2), .val (.int y1), .val (.int y2), .val (.int xq), .val (.int dv), .val (.ref o), .val (.int ev), .val (.int z3), .val (.int z4), .val (.int (p6 + (3 : Int32))), .unset] []))
            refine own_go (fun tt kk => XS.iload X4.here hx rfl (hb hby at_279) rfl kk) ?_
            show own_Go p e below _ (T4.setTop (mkF m 281 #[.val (.int p1), .val (.int p2), .val (.int p3), .val (.int p4), .val (.int p5), .val (.int p6), .val (.int x1), .val (.int x2), .val (.int y1), .val (.int y2), .val (.int xq), .val (.int dv), .val (.ref o), .val (.int ev), .val (.int z3), .val (.int z4), .val (.int (p6 + (3 : Int32))), .unset] [(.int xq)]))
            refine own_go (fun tt kk => XS.iload X4.here hx rfl (hb hby at_281) rfl kk) ?_
            show own_Go p e below _ (T4.setTop (mkF m 283 #[.val (.int p1), .val (.int p2), .val (.int p3), .val (.int p4), .val (.int p5), .val (.int p6), .val (.int x1), .val (.int x2), .val (.int y1), .val (.int y2), .val (.int xq), .val (.int dv), .val (.ref o), .val (.int ev), .val (.int z3), .val (.int z4), .val (.int (p6 + (3 : Int32))), .unset] [(.int x2), (.int xq)]))
            by_cases hc283 : xq.toInt = x2.toInt
            · refine own_go (fun tt kk => XS.icmpNo X4.here hx rfl (hb hby at_283) rfl (teq (own_eq32 (x := xq) (y := x2) (i := xq.toInt) (j := x2.toInt) rfl rfl hc283)).2 kk) ?_
              show own_Go p e below _ (T4.setTop (mkF m 286 #[.val (.int p1), .val (.int p2), .val (.int p3), .val (.int p4), .val (.int p5), .val (.int p6), .val (.int x1), .val (.int x2), .val (.int y1), .val (.int y2), .val (.int xq), .val (.int dv), .val (.ref o), .val (.int ev), .val (.int z3), .val (.int z4), .val (.int (p6 + (3 : Int32))), .unset] []))
              refine own_go (fun tt kk => XS.iload X4.here hx rfl (hb hby at_286) rfl kk) ?_
              show own_Go p e below _ (T4.setTop (mkF m 288 #[.val (.int p1), .val (.int p2), .val (.int p3), .val (.int p4), .val (.int p5), .val (.int p6), .val (.int x1), .val (.int x2), .val (.int y1), .val (.int y2), .val (.int xq), .val (.int dv), .val (.ref o), .val (.int ev), .val (.int z3), .val (.int z4), .val (.int (p6 + (3 : Int32))), .unset] [(.int y2)]))
              by_cases hc288 : 0 < y2.toInt
              · refine own_go (fun tt kk => XS.ifNo X4.here hx rfl (hb hby at_288) rfl ((if0 _ _).trans (tlt (own_lt32 (x := (0 : Int32)) (y := y2) (i := 0) (j := y2.toInt) rfl rfl hc288)).2.2.2) kk) ?_
                show own_Go p e below _ (T4.setTop (mkF m 291 #[.val (.int p1), .val (.int p2), .val (.int p3), .val (.int p4), .val (.int p5), .val (.int p6), .val (.int x1), .val (.int x2), .val (.int y1), .val (.int y2), .val (.int xq), .val (.int dv), .val (.ref o), .val (.int ev), .val (.int z3), .val (.int z4), .val (.int (p6 + (3 : Int32))), .unset] []))
                rw [if_pos ⟨by omega, by omega⟩] at C2
                refine own_go (fun tt kk => XS.iload X4.here hx rfl (hb hby at_291) rfl kk) ?_
                show own_Go p e below _ (T4.setTop (mkF m 293 #[.val (.int p1), .val (.int p2), .val (.int p3), .val (.int p4), .val (.int p5), .val (.int p6), .val (.int x1), .val (.int x2), .val (.int y1), .val (.int y2), .val (.int xq), .val (.int dv), .val (.ref o), .val (.int ev), .val (.int z3), .val (.int z4), .val (.int (p6 + (3 : Int32))), .unset] [(.int p6)]))
                refine own_go (fun tt kk => XS.iconst X4.here hx rfl (hb hby at_293) kk) ?_
                show own_Go p e below _ (T4.setTop (mkF m 294 #[.val (.int p1), .val (.int p2), .val (.int p3), .val (.int p4), .val (.int p5), .val (.int p6), .val (.int x1), .val (.int x2), .val (.int y1), .val (.int y2), .val (.int xq), .val (.int dv), .val (.ref o), .val (.int ev), .val (.int z3), .val (.int z4), .val (.int (p6 + (3 : Int32))), .unset] [(.int (2 : Int32)), (.int p6)]))
                refine own_go (fun tt kk => XS.iadd X4.here hx rfl (hb hby at_294) rfl kk) ?_
                show own_Go p e below _ (T4.setTop (mkF m 295 #[.val (.int p1), .val (.int p2), .val (.int p3), .val (.int p4), .val (.int p5), .val (.int p6), .val (.int x1), .val (.int x2), .val (.int y1), .val (.int y2), .val (.int xq), .val (.int dv), .val (.ref o), .val (.int ev), .val (.int z3), .val (.int z4), .val (.int (p6 + (3 : Int32))), .unset] [(.int (p6 + (2 : Int32)))]))
                refine own_go (fun tt kk => XS.iload X4.here hx rfl (hb hby at_295) rfl kk) ?_
                show own_Go p e below _ (T4.setTop (mkF m 297 #[.val (.int p1), .val (.int p2), .val (.int p3), .val (.int p4), .val (.int p5), .val (.int p6), .val (.int x1), .val (.int x2), .val (.int y1), .val (.int y2), .val (.int xq), .val (.int dv), .val (.ref o), .val (.int ev), .val (.int z3), .val (.int z4), .val (.int (p6 + (3 : Int32))), .unset] [(.int y2), (.int (p6 + (2 : Int32)))]))
                refine own_go (fun tt kk => XS.iadd X4.here hx rfl (hb hby at_297) rfl kk) ?_
                show own_Go p e below _ (T4.setTop (mkF m 298 #[.val (.int p1), .val (.int p2), .val (.int p3), .val (.int p4), .val (.int p5), .val (.int p6), .val (.int x1), .val (.int x2), .val (.int y1), .val (.int y2), .val (.int xq), .val (.int dv), .val (.ref o), .val (.int ev), .val (.int z3), .val (.int z4), .val (.int (p6 + (3 : Int32))), .unset] [(.int ((p6 + (2 : Int32)) + y2))]))
                refine own_go (fun tt kk => XS.goto X4.here hx rfl (pc0 := 298) (pc' := 308) rfl (hb hby at_298) (by decide) (by decide) kk) ?_
                show own_Go p e below _ (T4.setTop (mkF m 308 #[.val (.int p1), .val (.int p2), .val (.int p3), .val (.int p4), .val (.int p5), .val (.int p6), .val (.int x1), .val (.int x2), .val (.int y1), .val (.int y2), .val (.int xq), .val (.int dv), .val (.ref o), .val (.int ev), .val (.int z3), .val (.int z4), .val (.int (p6 + (3 : Int32))), .unset] [(.int ((p6 + (2 : Int32)) + y2))]))
                refine own_go (fun tt kk => XS.istore X4.here hx rfl (hb hby at_308) rfl (l' := #[.val (.int p1), .val (.int p2), .val (.int p3), .val (.int p4), .val (.int p5), .val (.int p6), .val (.int x1), .val (.int x2), .val (.int y1), .val (.int y2), .val (.int xq), .val (.int dv), .val (.ref o), .val (.int ev), .val (.int z3), .val (.int z4), .val (.int (p6 + (3 : Int32))), .val (.int ((p6 + (2 : Int32)) + y2))]) rfl kk) ?_
                show own_Go p e below _ (T4.setTop (mkF m 310 #[.val (.int p1), .val (.int p2), .val (.int p3), .val (.int p4), .val (.int p5), .val (.int p6), .val (.int x1), .val (.int x2), .val (.int y1), .val (.int y2), .val (.int xq), .val (.int dv), .val (.ref o), .val (.int ev), .val (.int z3), .val (.int z4), .val (.int (p6 + (3 : Int32))), .val (.int ((p6 + (2 : Int32)) + y2))] []))
                refine own_go (fun tt kk => XS.aload X4.here hx rfl (hb hby at_310) rfl rfl kk) ?_
                show own_Go p e below _ (T4.setTop (mkF m 312 #[.val (.int p1), .val (.int p2), .val (.int p3), .val (.int p4), .val (.int p5), .val (.int p6), .val (.int x1), .val (.int x2), .val (.int y1), .val (.int y2), .val (.int xq), .val (.int dv), .val (.ref o), .val (.int ev), .val (.int z3), .val (.int z4), .val (.int (p6 + (3 : Int32))), .val (.int ((p6 + (2 : Int32)) + y2))] [(.ref o)]))
                refine own_go (fun tt kk => XS.iload X4.here hx rfl (hb hby at_312) rfl kk) ?_
                show own_Go p e below _ (T4.setTop (mkF m 314 #[.val (.int p1), .val (.int p2), .val (.int p3), .val (.int p4), .val (.int p5), .val (.int p6), .val (.int x1), .val (.int x2), .val (.int y1), .val (.int y2), .val (.int xq), .val (.int dv), .val (.ref o), .val (.int ev), .val (.int z3), .val (.int z4), .val (.int (p6 + (3 : Int32))), .val (.int ((p6 + (2 : Int32)) + y2))] [(.int z3), (.ref o)]))
                obtain ⟨v11, L11, T11, X11, qq11, st11⟩ := own_callV X4 hx hZ hown (hw _ (List.mem_of_getElem? (i := 68) rfl)) (hw _ (List.mem_of_getElem? (i := 69) rfl)) (hw _ (List.mem_of_getElem? (i := 71) rfl)) (hw _ (List.mem_of_getElem? (i := 70) rfl)) (hw _ (List.mem_of_getElem? (i := 72) rfl)) (hw _ (List.mem_of_getElem? (i := 3) rfl)) (by decide) A.1 (rmAct l Z a0 hw [] o aS aC aR aA aB N st ct rm ac nb U W z3 sv h0.size h A w1 (by omega)) hh4 (pc := 314) (Ls := #[.val (.int p1), .val (.int p2), .val (.int p3), .val (.int p4), .val (.int p5), .val (.int p6), .val (.int x1), .val (.int x2), .val (.int y1), .val (.int y2), .val (.int xq), .val (.int dv), .val (.ref o), .val (.int ev), .val (.int z3), .val (.int z4), .val (.int (p6 + (3 : Int32))), .val (.int ((p6 + (2 : Int32)) + y2))]) (argsL := [(.int z3)]) (rest := []) rfl (by rw [hml]; rfl) pd_5 rfl rfl (hb hby at_314) 0 (Nat.le_of_eq rfl) (by decide) (by decide) (by decide) (by decide)
                obtain ⟨rfl, hh11, rfl⟩ := qq11
                refine own_go st11 ?_
                show own_Go p e below _ (T11.setTop (mkF m 317 #[.val (.int p1), .val (.int p2), .val (.int p3), .val (.int p4), .val (.int p5), .val (.int p6), .val (.int x1), .val (.int x2), .val (.int y1), .val (.int y2), .val (.int xq), .val (.int dv), .val (.ref o), .val (.int ev), .val (.int z3), .val (.int z4), .val (.int (p6 + (3 : Int32))), .val (.int ((p6 + (2 : Int32)) + y2))] [(.int (ac sv))]))
                refine own_go (fun tt kk => XS.iload X11.here hx rfl (hb hby at_317) rfl kk) ?_
                show own_Go p e below _ (T11.setTop (mkF m 319 #[.val (.int p1), .val (.int p2), .val (.int p3), .val (.int p4), .val (.int p5), .val (.int p6), .val (.int x1), .val (.int x2), .val (.int y1), .val (.int y2), .val (.int xq), .val (.int dv), .val (.ref o), .val (.int ev), .val (.int z3), .val (.int z4), .val (.int (p6 + (3 : Int32))), .val (.int ((p6 + (2 : Int32)) + y2))] [(.int (p6 + (3 : Int32))), (.int (ac sv))]))
                refine own_go (fun tt kk => XS.icmpNo X11.here hx rfl (hb hby at_319) rfl (teq (own_eq32 (x := (ac sv)) (y := (p6 + (3 : Int32))) (i := (ac sv).toInt) (j := (p6 + (3 : Int32)).toInt) rfl rfl (by rw [C1]))).2 kk) ?_
                show own_Go p e below _ (T11.setTop (mkF m 322 #[.val (.int p1), .val (.int p2), .val (.int p3), .val (.int p4), .val (.int p5), .val (.int p6), .val (.int x1), .val (.int x2), .val (.int y1), .val (.int y2), .val (.int xq), .val (.int dv), .val (.ref o), .val (.int ev), .val (.int z3), .val (.int z4), .val (.int (p6 + (3 : Int32))), .val (.int ((p6 + (2 : Int32)) + y2))] []))
                refine own_go (fun tt kk => XS.aload X11.here hx rfl (hb hby at_322) rfl rfl kk) ?_
                show own_Go p e below _ (T11.setTop (mkF m 324 #[.val (.int p1), .val (.int p2), .val (.int p3), .val (.int p4), .val (.int p5), .val (.int p6), .val (.int x1), .val (.int x2), .val (.int y1), .val (.int y2), .val (.int xq), .val (.int dv), .val (.ref o), .val (.int ev), .val (.int z3), .val (.int z4), .val (.int (p6 + (3 : Int32))), .val (.int ((p6 + (2 : Int32)) + y2))] [(.ref o)]))
                refine own_go (fun tt kk => XS.iload X11.here hx rfl (hb hby at_324) rfl kk) ?_
                show own_Go p e below _ (T11.setTop (mkF m 326 #[.val (.int p1), .val (.int p2), .val (.int p3), .val (.int p4), .val (.int p5), .val (.int p6), .val (.int x1), .val (.int x2), .val (.int y1), .val (.int y2), .val (.int xq), .val (.int dv), .val (.ref o), .val (.int ev), .val (.int z3), .val (.int z4), .val (.int (p6 + (3 : Int32))), .val (.int ((p6 + (2 : Int32)) + y2))] [(.int z4), (.ref o)]))
                refine own_go (fun tt kk => XS.iconst X11.here hx rfl (hb hby at_326) kk) ?_
                show own_Go p e below _ (T11.setTop (mkF m 327 #[.val (.int p1), .val (.int p2), .val (.int p3), .val (.int p4), .val (.int p5), .val (.int p6), .val (.int x1), .val (.int x2), .val (.int y1), .val (.int y2), .val (.int xq), .val (.int dv), .val (.ref o), .val (.int ev), .val (.int z3), .val (.int z4), .val (.int (p6 + (3 : Int32))), .val (.int ((p6 + (2 : Int32)) + y2))] [(.int (1 : Int32)), (.int z4), (.ref o)]))
                refine own_go (fun tt kk => XS.isub X11.here hx rfl (hb hby at_327) rfl kk) ?_
                show own_Go p e below _ (T11.setTop (mkF m 328 #[.val (.int p1), .val (.int p2), .val (.int p3), .val (.int p4), .val (.int p5), .val (.int p6), .val (.int x1), .val (.int x2), .val (.int y1), .val (.int y2), .val (.int xq), .val (.int dv), .val (.ref o), .val (.int ev), .val (.int z3), .val (.int z4), .val (.int (p6 + (3 : Int32))), .val (.int ((p6 + (2 : Int32)) + y2))] [(.int (z4 - (1 : Int32))), (.ref o)]))
                obtain ⟨v12, L12, T12, X12, qq12, st12⟩ := own_callV X11 hx hZ hown (hw _ (List.mem_of_getElem? (i := 68) rfl)) (hw _ (List.mem_of_getElem? (i := 69) rfl)) (hw _ (List.mem_of_getElem? (i := 71) rfl)) (hw _ (List.mem_of_getElem? (i := 70) rfl)) (hw _ (List.mem_of_getElem? (i := 72) rfl)) (hw _ (List.mem_of_getElem? (i := 3) rfl)) (by decide) A.1 (rmAct l Z a0 hw [] o aS aC aR aA aB N st ct rm ac nb U W (z4 - 1) (sv + (cnt q - 1)) h0.size h A t6 (by omega)) hh11 (pc := 328) (Ls := #[.val (.int p1), .val (.int p2), .val (.int p3), .val (.int p4), .val (.int p5), .val (.int p6), .val (.int x1), .val (.int x2), .val (.int y1), .val (.int y2), .val (.int xq), .val (.int dv), .val (.ref o), .val (.int ev), .val (.int z3), .val (.int z4), .val (.int (p6 + (3 : Int32))), .val (.int ((p6 + (2 : Int32)) + y2))]) (argsL := [(.int (z4 - (1 : Int32)))]) (rest := []) rfl (by rw [hml]; rfl) pd_5 rfl rfl (hb hby at_328) 0 (Nat.le_of_eq rfl) (by decide) (by decide) (by decide) (by decide)
                obtain ⟨rfl, hh12, rfl⟩ := qq12
                refine own_go st12 ?_
                show own_Go p e below _ (T12.setTop (mkF m 331 #[.val (.int p1), .val (.int p2), .val (.int p3), .val (.int p4), .val (.int p5), .val (.int p6), .val (.int x1), .val (.int x2), .val (.int y1), .val (.int y2), .val (.int xq), .val (.int dv), .val (.ref o), .val (.int ev), .val (.int z3), .val (.int z4), .val (.int (p6 + (3 : Int32))), .val (.int ((p6 + (2 : Int32)) + y2))] [(.int (ac (sv + (cnt q - 1))))]))
                refine own_go (fun tt kk => XS.iload X12.here hx rfl (hb hby at_331) rfl kk) ?_
                show own_Go p e below _ (T12.setTop (mkF m 333 #[.val (.int p1), .val (.int p2), .val (.int p3), .val (.int p4), .val (.int p5), .val (.int p6), .val (.int x1), .val (.int x2), .val (.int y1), .val (.int y2), .val (.int xq), .val (.int dv), .val (.ref o), .val (.int ev), .val (.int z3), .val (.int z4), .val (.int (p6 + (3 : Int32))), .val (.int ((p6 + (2 : Int32)) + y2))] [(.int ((p6 + (2 : Int32)) + y2)), (.int (ac (sv + (cnt q - 1))))]))
                refine own_go (fun tt kk => XS.icmpNo X12.here hx rfl (hb hby at_333) rfl (teq (own_eq32 (x := (ac (sv + (cnt q - 1)))) (y := ((p6 + (2 : Int32)) + y2)) (i := (ac (sv + (cnt q - 1))).toInt) (j := ((p6 + (2 : Int32)) + y2).toInt) rfl rfl (by rw [C2]))).2 kk) ?_
                show own_Go p e below _ (T12.setTop (mkF m 336 #[.val (.int p1), .val (.int p2), .val (.int p3), .val (.int p4), .val (.int p5), .val (.int p6), .val (.int x1), .val (.int x2), .val (.int y1), .val (.int y2), .val (.int xq), .val (.int dv), .val (.ref o), .val (.int ev), .val (.int z3), .val (.int z4), .val (.int (p6 + (3 : Int32))), .val (.int ((p6 + (2 : Int32)) + y2))] []))
                refine own_go (fun tt kk => XS.iconst X12.here hx rfl (hb hby at_336) kk) ?_
                show own_Go p e below _ (T12.setTop (mkF m 337 #[.val (.int p1), .val (.int p2), .val (.int p3), .val (.int p4), .val (.int p5), .val (.int p6), .val (.int x1), .val (.int x2), .val (.int y1), .val (.int y2), .val (.int xq), .val (.int dv), .val (.ref o), .val (.int ev), .val (.int z3), .val (.int z4), .val (.int (p6 + (3 : Int32))), .val (.int ((p6 + (2 : Int32)) + y2))] [(.int (1 : Int32))]))
                refine own_go (fun tt kk => XS.goto X12.here hx rfl (pc0 := 337) (pc' := 341) rfl (hb hby at_337) (by decide) (by decide) kk) ?_
                show own_Go p e below _ (T12.setTop (mkF m 341 #[.val (.int p1), .val (.int p2), .val (.int p3), .val (.int p4), .val (.int p5), .val (.int p6), .val (.int x1), .val (.int x2), .val (.int y1), .val (.int y2), .val (.int xq), .val (.int dv), .val (.ref o), .val (.int ev), .val (.int z3), .val (.int z4), .val (.int (p6 + (3 : Int32))), .val (.int ((p6 + (2 : Int32)) + y2))] [(.int (1 : Int32))]))
                exact own_retZ X12 hx hlk hret (by decide) (hb hby at_341) ⟨rfl, (Fr.app (Fr.app (Fr.app (Fr.app Nl (Fr.nil _)) (Fr.nil _)) (Fr.nil _)) (Fr.nil _))⟩ (by decide) (by decide)
              · refine own_go (fun tt kk => XS.ifYes X4.here hx rfl (pc0 := 288) (pc' := 301) rfl (hb hby at_288) rfl ((if0 _ _).trans (flt (own_nlt32 (x := (0 : Int32)) (y := y2) (i := 0) (j := y2.toInt) rfl rfl hc288)).2.2.2) (by decide) (by decide) kk) ?_
                show own_Go p e below _ (T4.setTop (mkF m 301 #[.val (.int p1), .val (.int p2), .val (.int p3), .val (.int p4), .val (.int p5), .val (.int p6), .val (.int x1), .val (.int x2), .val (.int y1), .val (.int y2), .val (.int xq), .val (.int dv), .val (.ref o), .val (.int ev), .val (.int z3), .val (.int z4), .val (.int (p6 + (3 : Int32))), .unset] []))
                rw [if_neg (by omega)] at C2
                refine own_go (fun tt kk => XS.iload X4.here hx rfl (hb hby at_301) rfl kk) ?_
                show own_Go p e below _ (T4.setTop (mkF m 303 #[.val (.int p1), .val (.int p2), .val (.int p3), .val (.int p4), .val (.int p5), .val (.int p6), .val (.int x1), .val (.int x2), .val (.int y1), .val (.int y2), .val (.int xq), .val (.int dv), .val (.ref o), .val (.int ev), .val (.int z3), .val (.int z4), .val (.int (p6 + (3 : Int32))), .unset] [(.int p6)]))
                refine own_go (fun tt kk => XS.iload X4.here hx rfl (hb hby at_303) rfl kk) ?_
                show own_Go p e below _ (T4.setTop (mkF m 305 #[.val (.int p1), .val (.int p2), .val (.int p3), .val (.int p4), .val (.int p5), .val (.int p6), .val (.int x1), .val (.int x2), .val (.int y1), .val (.int y2), .val (.int xq), .val (.int dv), .val (.ref o), .val (.int ev), .val (.int z3), .val (.int z4), .val (.int (p6 + (3 : Int32))), .unset] [(.int y1), (.int p6)]))
                refine own_go (fun tt kk => XS.iadd X4.here hx rfl (hb hby at_305) rfl kk) ?_
                show own_Go p e below _ (T4.setTop (mkF m 306 #[.val (.int p1), .val (.int p2), .val (.int p3), .val (.int p4), .val (.int p5), .val (.int p6), .val (.int x1), .val (.int x2), .val (.int y1), .val (.int y2), .val (.int xq), .val (.int dv), .val (.ref o), .val (.int ev), .val (.int z3), .val (.int z4), .val (.int (p6 + (3 : Int32))), .unset] [(.int (p6 + y1))]))
                refine own_go (fun tt kk => XS.iconst X4.here hx rfl (hb hby at_306) kk) ?_
                show own_Go p e below _ (T4.setTop (mkF m 307 #[.val (.int p1), .val (.int p2), .val (.int p3), .val (.int p4), .val (.int p5), .val (.int p6), .val (.int x1), .val (.int x2), .val (.int y1), .val (.int y2), .val (.int xq), .val (.int dv), .val (.ref o), .val (.int ev), .val (.int z3), .val (.int z4), .val (.int (p6 + (3 : Int32))), .unset] [(.int (1 : Int32)), (.int (p6 + y1))]))
                refine own_go (fun tt kk => XS.isub X4.here hx rfl (hb hby at_307) rfl kk) ?_
                show own_Go p e below _ (T4.setTop (mkF m 308 #[.val (.int p1), .val (.int p2), .val (.int p3), .val (.int p4), .val (.int p5), .val (.int p6), .val (.int x1), .val (.int x2), .val (.int y1), .val (.int y2), .val (.int xq), .val (.int dv), .val (.ref o), .val (.int ev), .val (.int z3), .val (.int z4), .val (.int (p6 + (3 : Int32))), .unset] [(.int ((p6 + y1) - (1 : Int32)))]))
                refine own_go (fun tt kk => XS.istore X4.here hx rfl (hb hby at_308) rfl (l' := #[.val (.int p1), .val (.int p2), .val (.int p3), .val (.int p4), .val (.int p5), .val (.int p6), .val (.int x1), .val (.int x2), .val (.int y1), .val (.int y2), .val (.int xq), .val (.int dv), .val (.ref o), .val (.int ev), .val (.int z3), .val (.int z4), .val (.int (p6 + (3 : Int32))), .val (.int ((p6 + y1) - (1 : Int32)))]) rfl kk) ?_
                show own_Go p e below _ (T4.setTop (mkF m 310 #[.val (.int p1), .val (.int p2), .val (.int p3), .val (.int p4), .val (.int p5), .val (.int p6), .val (.int x1), .val (.int x2), .val (.int y1), .val (.int y2), .val (.int xq), .val (.int dv), .val (.ref o), .val (.int ev), .val (.int z3), .val (.int z4), .val (.int (p6 + (3 : Int32))), .val (.int ((p6 + y1) - (1 : Int32)))] []))
                refine own_go (fun tt kk => XS.aload X4.here hx rfl (hb hby at_310) rfl rfl kk) ?_
                show own_Go p e below _ (T4.setTop (mkF m 312 #[.val (.int p1), .val (.int p2), .val (.int p3), .val (.int p4), .val (.int p5), .val (.int p6), .val (.int x1), .val (.int x2), .val (.int y1), .val (.int y2), .val (.int xq), .val (.int dv), .val (.ref o), .val (.int ev), .val (.int z3), .val (.int z4), .val (.int (p6 + (3 : Int32))), .val (.int ((p6 + y1) - (1 : Int32)))] [(.ref o)]))
                refine own_go (fun tt kk => XS.iload X4.here hx rfl (hb hby at_312) rfl kk) ?_
                show own_Go p e below _ (T4.setTop (mkF m 314 #[.val (.int p1), .val (.int p2), .val (.int p3), .val (.int p4), .val (.int p5), .val (.int p6), .val (.int x1), .val (.int x2), .val (.int y1), .val (.int y2), .val (.int xq), .val (.int dv), .val (.ref o), .val (.int ev), .val (.int z3), .val (.int z4), .val (.int (p6 + (3 : Int32))), .val (.int ((p6 + y1) - (1 : Int32)))] [(.int z3), (.ref o)]))
                obtain ⟨v13, L13, T13, X13, qq13, st13⟩ := own_callV X4 hx hZ hown (hw _ (List.mem_of_getElem? (i := 68) rfl)) (hw _ (List.mem_of_getElem? (i := 69) rfl)) (hw _ (List.mem_of_getElem? (i := 71) rfl)) (hw _ (List.mem_of_getElem? (i := 70) rfl)) (hw _ (List.mem_of_getElem? (i := 72) rfl)) (hw _ (List.mem_of_getElem? (i := 3) rfl)) (by decide) A.1 (rmAct l Z a0 hw [] o aS aC aR aA aB N st ct rm ac nb U W z3 sv h0.size h A w1 (by omega)) hh4 (pc := 314) (Ls := #[.val (.int p1), .val (.int p2), .val (.int p3), .val (.int p4), .val (.int p5), .val (.int p6), .val (.int x1), .val (.int x2), .val (.int y1), .val (.int y2), .val (.int xq), .val (.int dv), .val (.ref o), .val (.int ev), .val (.int z3), .val (.int z4), .val (.int (p6 + (3 : Int32))), .val (.int ((p6 + y1) - (1 : Int32)))]) (argsL := [(.int z3)]) (rest := []) rfl (by rw [hml]; rfl) pd_5 rfl rfl (hb hby at_314) 0 (Nat.le_of_eq rfl) (by decide) (by decide) (by decide) (by decide)
                obtain ⟨rfl, hh13, rfl⟩ := qq13
                refine own_go st13 ?_
                show own_Go p e below _ (T13.setTop (mkF m 317 #[.val (.int p1), .val (.int p2), .val (.int p3), .val (.int p4), .val (.int p5), .val (.int p6), .val (.int x1), .val (.int x2), .val (.int y1), .val (.int y2), .val (.int xq), .val (.int dv), .val (.ref o), .val (.int ev), .val (.int z3), .val (.int z4), .val (.int (p6 + (3 : Int32))), .val (.int ((p6 + y1) - (1 : Int32)))] [(.int (ac sv))]))
                refine own_go (fun tt kk => XS.iload X13.here hx rfl (hb hby at_317) rfl kk) ?_
                show own_Go p e below _ (T13.setTop (mkF m 319 #[.val (.int p1), .val (.int p2), .val (.int p3), .val (.int p4), .val (.int p5), .val (.int p6), .val (.int x1), .val (.int x2), .val (.int y1), .val (.int y2), .val (.int xq), .val (.int dv), .val (.ref o), .val (.int ev), .val (.int z3), .val (.int z4), .val (.int (p6 + (3 : Int32))), .val (.int ((p6 + y1) - (1 : Int32)))] [(.int (p6 + (3 : Int32))), (.int (ac sv))]))
                refine own_go (fun tt kk => XS.icmpNo X13.here hx rfl (hb hby at_319) rfl (teq (own_eq32 (x := (ac sv)) (y := (p6 + (3 : Int32))) (i := (ac sv).toInt) (j := (p6 + (3 : Int32)).toInt) rfl rfl (by rw [C1]))).2 kk) ?_
                show own_Go p e below _ (T13.setTop (mkF m 322 #[.val (.int p1), .val (.int p2), .val (.int p3), .val (.int p4), .val (.int p5), .val (.int p6), .val (.int x1), .val (.int x2), .val (.int y1), .val (.int y2), .val (.int xq), .val (.int dv), .val (.ref o), .val (.int ev), .val (.int z3), .val (.int z4), .val (.int (p6 + (3 : Int32))), .val (.int ((p6 + y1) - (1 : Int32)))] []))
                refine own_go (fun tt kk => XS.aload X13.here hx rfl (hb hby at_322) rfl rfl kk) ?_
                show own_Go p e below _ (T13.setTop (mkF m 324 #[.val (.int p1), .val (.int p2), .val (.int p3), .val (.int p4), .val (.int p5), .val (.int p6), .val (.int x1), .val (.int x2), .val (.int y1), .val (.int y2), .val (.int xq), .val (.int dv), .val (.ref o), .val (.int ev), .val (.int z3), .val (.int z4), .val (.int (p6 + (3 : Int32))), .val (.int ((p6 + y1) - (1 : Int32)))] [(.ref o)]))
                refine own_go (fun tt kk => XS.iload X13.here hx rfl (hb hby at_324) rfl kk) ?_
                show own_Go p e below _ (T13.setTop (mkF m 326 #[.val (.int p1), .val (.int p2), .val (.int p3), .val (.int p4), .val (.int p5), .val (.int p6), .val (.int x1), .val (.int x2), .val (.int y1), .val (.int y2), .val (.int xq), .val (.int dv), .val (.ref o), .val (.int ev), .val (.int z3), .val (.int z4), .val (.int (p6 + (3 : Int32))), .val (.int ((p6 + y1) - (1 : Int32)))] [(.int z4), (.ref o)]))
                refine own_go (fun tt kk => XS.iconst X13.here hx rfl (hb hby at_326) kk) ?_
                show own_Go p e below _ (T13.setTop (mkF m 327 #[.val (.int p1), .val (.int p2), .val (.int p3), .val (.int p4), .val (.int p5), .val (.int p6), .val (.int x1), .val (.int x2), .val (.int y1), .val (.int y2), .val (.int xq), .val (.int dv), .val (.ref o), .val (.int ev), .val (.int z3), .val (.int z4), .val (.int (p6 + (3 : Int32))), .val (.int ((p6 + y1) - (1 : Int32)))] [(.int (1 : Int32)), (.int z4), (.ref o)]))
                refine own_go (fun tt kk => XS.isub X13.here hx rfl (hb hby at_327) rfl kk) ?_
                show own_Go p e below _ (T13.setTop (mkF m 328 #[.val (.int p1), .val (.int p2), .val (.int p3), .val (.int p4), .val (.int p5), .val (.int p6), .val (.int x1), .val (.int x2), .val (.int y1), .val (.int y2), .val (.int xq), .val (.int dv), .val (.ref o), .val (.int ev), .val (.int z3), .val (.int z4), .val (.int (p6 + (3 : Int32))), .val (.int ((p6 + y1) - (1 : Int32)))] [(.int (z4 - (1 : Int32))), (.ref o)]))
                obtain ⟨v14, L14, T14, X14, qq14, st14⟩ := own_callV X13 hx hZ hown (hw _ (List.mem_of_getElem? (i := 68) rfl)) (hw _ (List.mem_of_getElem? (i := 69) rfl)) (hw _ (List.mem_of_getElem? (i := 71) rfl)) (hw _ (List.mem_of_getElem? (i := 70) rfl)) (hw _ (List.mem_of_getElem? (i := 72) rfl)) (hw _ (List.mem_of_getElem? (i := 3) rfl)) (by decide) A.1 (rmAct l Z a0 hw [] o aS aC aR aA aB N st ct rm ac nb U W (z4 - 1) (sv + (cnt q - 1)) h0.size h A t6 (by omega)) hh13 (pc := 328) (Ls := #[.val (.int p1), .val (.int p2), .val (.int p3), .val (.int p4), .val (.int p5), .val (.int p6), .val (.int x1), .val (.int x2), .val (.int y1), .val (.int y2), .val (.int xq), .val (.int dv), .val (.ref o), .val (.int ev), .val (.int z3), .val (.int z4), .val (.int (p6 + (3 : Int32))), .val (.int ((p6 + y1) - (1 : Int32)))]) (argsL := [(.int (z4 - (1 : Int32)))]) (rest := []) rfl (by rw [hml]; rfl) pd_5 rfl rfl (hb hby at_328) 0 (Nat.le_of_eq rfl) (by decide) (by decide) (by decide) (by decide)
                obtain ⟨rfl, hh14, rfl⟩ := qq14
                refine own_go st14 ?_
                show own_Go p e below _ (T14.setTop (mkF m 331 #[.val (.int p1), .val (.int p2), .val (.int p3), .val (.int p4), .val (.int p5), .val (.int p6), .val (.int x1), .val (.int x2), .val (.int y1), .val (.int y2), .val (.int xq), .val (.int dv), .val (.ref o), .val (.int ev), .val (.int z3), .val (.int z4), .val (.int (p6 + (3 : Int32))), .val (.int ((p6 + y1) - (1 : Int32)))] [(.int (ac (sv + (cnt q - 1))))]))
                refine own_go (fun tt kk => XS.iload X14.here hx rfl (hb hby at_331) rfl kk) ?_
                show own_Go p e below _ (T14.setTop (mkF m 333 #[.val (.int p1), .val (.int p2), .val (.int p3), .val (.int p4), .val (.int p5), .val (.int p6), .val (.int x1), .val (.int x2), .val (.int y1), .val (.int y2), .val (.int xq), .val (.int dv), .val (.ref o), .val (.int ev), .val (.int z3), .val (.int z4), .val (.int (p6 + (3 : Int32))), .val (.int ((p6 + y1) - (1 : Int32)))] [(.int ((p6 + y1) - (1 : Int32))), (.int (ac (sv + (cnt q - 1))))]))
                refine own_go (fun tt kk => XS.icmpNo X14.here hx rfl (hb hby at_333) rfl (teq (own_eq32 (x := (ac (sv + (cnt q - 1)))) (y := ((p6 + y1) - (1 : Int32))) (i := (ac (sv + (cnt q - 1))).toInt) (j := ((p6 + y1) - (1 : Int32)).toInt) rfl rfl (by rw [C2]))).2 kk) ?_
                show own_Go p e below _ (T14.setTop (mkF m 336 #[.val (.int p1), .val (.int p2), .val (.int p3), .val (.int p4), .val (.int p5), .val (.int p6), .val (.int x1), .val (.int x2), .val (.int y1), .val (.int y2), .val (.int xq), .val (.int dv), .val (.ref o), .val (.int ev), .val (.int z3), .val (.int z4), .val (.int (p6 + (3 : Int32))), .val (.int ((p6 + y1) - (1 : Int32)))] []))
                refine own_go (fun tt kk => XS.iconst X14.here hx rfl (hb hby at_336) kk) ?_
                show own_Go p e below _ (T14.setTop (mkF m 337 #[.val (.int p1), .val (.int p2), .val (.int p3), .val (.int p4), .val (.int p5), .val (.int p6), .val (.int x1), .val (.int x2), .val (.int y1), .val (.int y2), .val (.int xq), .val (.int dv), .val (.ref o), .val (.int ev), .val (.int z3), .val (.int z4), .val (.int (p6 + (3 : Int32))), .val (.int ((p6 + y1) - (1 : Int32)))] [(.int (1 : Int32))]))
                refine own_go (fun tt kk => XS.goto X14.here hx rfl (pc0 := 337) (pc' := 341) rfl (hb hby at_337) (by decide) (by decide) kk) ?_
                show own_Go p e below _ (T14.setTop (mkF m 341 #[.val (.int p1), .val (.int p2), .val (.int p3), .val (.int p4), .val (.int p5), .val (.int p6), .val (.int x1), .val (.int x2), .val (.int y1), .val (.int y2), .val (.int xq), .val (.int dv), .val (.ref o), .val (.int ev), .val (.int z3), .val (.int z4), .val (.int (p6 + (3 : Int32))), .val (.int ((p6 + y1) - (1 : Int32)))] [(.int (1 : Int32))]))
                exact own_retZ X14 hx hlk hret (by decide) (hb hby at_341) ⟨rfl, (Fr.app (Fr.app (Fr.app (Fr.app Nl (Fr.nil _)) (Fr.nil _)) (Fr.nil _)) (Fr.nil _))⟩ (by decide) (by decide)
            · refine own_go (fun tt kk => XS.icmpYes X4.here hx rfl (pc0 := 283) (pc' := 301) rfl (hb hby at_283) rfl (feq (own_neq32 (x := xq) (y := x2) (i := xq.toInt) (j := x2.toInt) rfl rfl hc283)).2 (by decide) (by decide) kk) ?_
              show own_Go p e below _ (T4.setTop (mkF m 301 #[.val (.int p1), .val (.int p2), .val (.int p3), .val (.int p4), .val (.int p5), .val (.int p6), .val (.int x1), .val (.int x2), .val (.int y1), .val (.int y2), .val (.int xq), .val (.int dv), .val (.ref o), .val (.int ev), .val (.int z3), .val (.int z4), .val (.int (p6 + (3 : Int32))), .unset] []))
              rw [if_neg (by omega)] at C2
              refine own_go (fun tt kk => XS.iload X4.here hx rfl (hb hby at_301) rfl kk) ?_
              show own_Go p e below _ (T4.setTop (mkF m 303 #[.val (.int p1), .val (.int p2), .val (.int p3), .val (.int p4), .val (.int p5), .val (.int p6), .val (.int x1), .val (.int x2), .val (.int y1), .val (.int y2), .val (.int xq), .val (.int dv), .val (.ref o), .val (.int ev), .val (.int z3), .val (.int z4), .val (.int (p6 + (3 : Int32))), .unset] [(.int p6)]))
              refine own_go (fun tt kk => XS.iload X4.here hx rfl (hb hby at_303) rfl kk) ?_
              show own_Go p e below _ (T4.setTop (mkF m 305 #[.val (.int p1), .val (.int p2), .val (.int p3), .val (.int p4), .val (.int p5), .val (.int p6), .val (.int x1), .val (.int x2), .val (.int y1), .val (.int y2), .val (.int xq), .val (.int dv), .val (.ref o), .val (.int ev), .val (.int z3), .val (.int z4), .val (.int (p6 + (3 : Int32))), .unset] [(.int y1), (.int p6)]))
              refine own_go (fun tt kk => XS.iadd X4.here hx rfl (hb hby at_305) rfl kk) ?_
              show own_Go p e below _ (T4.setTop (mkF m 306 #[.val (.int p1), .val (.int p2), .val (.int p3), .val (.int p4), .val (.int p5), .val (.int p6), .val (.int x1), .val (.int x2), .val (.int y1), .val (.int y2), .val (.int xq), .val (.int dv), .val (.ref o), .val (.int ev), .val (.int z3), .val (.int z4), .val (.int (p6 + (3 : Int32))), .unset] [(.int (p6 + y1))]))
              refine own_go (fun tt kk => XS.iconst X4.here hx rfl (hb hby at_306) kk) ?_
              show own_Go p e below _ (T4.setTop (mkF m 307 #[.val (.int p1), .val (.int p2), .val (.int p3), .val (.int p4), .val (.int p5), .val (.int p6), .val (.int x1), .val (.int x2), .val (.int y1), .val (.int y2), .val (.int xq), .val (.int dv), .val (.ref o), .val (.int ev), .val (.int z3), .val (.int z4), .val (.int (p6 + (3 : Int32))), .unset] [(.int (1 : Int32)), (.int (p6 + y1))]))
              refine own_go (fun tt kk => XS.isub X4.here hx rfl (hb hby at_307) rfl kk) ?_
              show own_Go p e below _ (T4.setTop (mkF m 308 #[.val (.int p1), .val (.int p2), .val (.int p3), .val (.int p4), .val (.int p5), .val (.int p6), .val (.int x1), .val (.int x2), .val (.int y1), .val (.int y2), .val (.int xq), .val (.int dv), .val (.ref o), .val (.int ev), .val (.int z3), .val (.int z4), .val (.int (p6 + (3 : Int32))), .unset] [(.int ((p6 + y1) - (1 : Int32)))]))
              refine own_go (fun tt kk => XS.istore X4.here hx rfl (hb hby at_308) rfl (l' := #[.val (.int p1), .val (.int p2), .val (.int p3), .val (.int p4), .val (.int p5), .val (.int p6), .val (.int x1), .val (.int x2), .val (.int y1), .val (.int y2), .val (.int xq), .val (.int dv), .val (.ref o), .val (.int ev), .val (.int z3), .val (.int z4), .val (.int (p6 + (3 : Int32))), .val (.int ((p6 + y1) - (1 : Int32)))]) rfl kk) ?_
              show own_Go p e below _ (T4.setTop (mkF m 310 #[.val (.int p1), .val (.int p2), .val (.int p3), .val (.int p4), .val (.int p5), .val (.int p6), .val (.int x1), .val (.int x2), .val (.int y1), .val (.int y2), .val (.int xq), .val (.int dv), .val (.ref o), .val (.int ev), .val (.int z3), .val (.int z4), .val (.int (p6 + (3 : Int32))), .val (.int ((p6 + y1) - (1 : Int32)))] []))
              refine own_go (fun tt kk => XS.aload X4.here hx rfl (hb hby at_310) rfl rfl kk) ?_
              show own_Go p e below _ (T4.setTop (mkF m 312 #[.val (.int p1), .val (.int p2), .val (.int p3), .val (.int p4), .val (.int p5), .val (.int p6), .val (.int x1), .val (.int x2), .val (.int y1), .val (.int y2), .val (.int xq), .val (.int dv), .val (.ref o), .val (.int ev), .val (.int z3), .val (.int z4), .val (.int (p6 + (3 : Int32))), .val (.int ((p6 + y1) - (1 : Int32)))] [(.ref o)]))
              refine own_go (fun tt kk => XS.iload X4.here hx rfl (hb hby at_312) rfl kk) ?_
              show own_Go p e below _ (T4.setTop (mkF m 314 #[.val (.int p1), .val (.int p2), .val (.int p3), .val (.int p4), .val (.int p5), .val (.int p6), .val (.int x1), .val (.int x2), .val (.int y1), .val (.int y2), .val (.int xq), .val (.int dv), .val (.ref o), .val (.int ev), .val (.int z3), .val (.int z4), .val (.int (p6 + (3 : Int32))), .val (.int ((p6 + y1) - (1 : Int32)))] [(.int z3), (.ref o)]))
              obtain ⟨v15, L15, T15, X15, qq15, st15⟩ := own_callV X4 hx hZ hown (hw _ (List.mem_of_getElem? (i := 68) rfl)) (hw _ (List.mem_of_getElem? (i := 69) rfl)) (hw _ (List.mem_of_getElem? (i := 71) rfl)) (hw _ (List.mem_of_getElem? (i := 70) rfl)) (hw _ (List.mem_of_getElem? (i := 72) rfl)) (hw _ (List.mem_of_getElem? (i := 3) rfl)) (by decide) A.1 (rmAct l Z a0 hw [] o aS aC aR aA aB N st ct rm ac nb U W z3 sv h0.size h A w1 (by omega)) hh4 (pc := 314) (Ls := #[.val (.int p1), .val (.int p2), .val (.int p3), .val (.int p4), .val (.int p5), .val (.int p6), .val (.int x1), .val (.int x2), .val (.int y1), .val (.int y2), .val (.int xq), .val (.int dv), .val (.ref o), .val (.int ev), .val (.int z3), .val (.int z4), .val (.int (p6 + (3 : Int32))), .val (.int ((p6 + y1) - (1 : Int32)))]) (argsL := [(.int z3)]) (rest := []) rfl (by rw [hml]; rfl) pd_5 rfl rfl (hb hby at_314) 0 (Nat.le_of_eq rfl) (by decide) (by decide) (by decide) (by decide)
              obtain ⟨rfl, hh15, rfl⟩ := qq15
              refine own_go st15 ?_
              show own_Go p e below _ (T15.setTop (mkF m 317 #[.val (.int p1), .val (.int p2), .val (.int p3), .val (.int p4), .val (.int p5), .val (.int p6), .val (.int x1), .val (.int x2), .val (.int y1), .val (.int y2), .val (.int xq), .val (.int dv), .val (.ref o), .val (.int ev), .val (.int z3), .val (.int z4), .val (.int (p6 + (3 : Int32))), .val (.int ((p6 + y1) - (1 : Int32)))] [(.int (ac sv))]))
              refine own_go (fun tt kk => XS.iload X15.here hx rfl (hb hby at_317) rfl kk) ?_
              show own_Go p e below _ (T15.setTop (mkF m 319 #[.val (.int p1), .val (.int p2), .val (.int p3), .val (.int p4), .val (.int p5), .val (.int p6), .val (.int x1), .val (.int x2), .val (.int y1), .val (.int y2), .val (.int xq), .val (.int dv), .val (.ref o), .val (.int ev), .val (.int z3), .val (.int z4), .val (.int (p6 + (3 : Int32))), .val (.int ((p6 + y1) - (1 : Int32)))] [(.int (p6 + (3 : Int32))), (.int (ac sv))]))
              refine own_go (fun tt kk => XS.icmpNo X15.here hx rfl (hb hby at_319) rfl (teq (own_eq32 (x := (ac sv)) (y := (p6 + (3 : Int32))) (i := (ac sv).toInt) (j := (p6 + (3 : Int32)).toInt) rfl rfl (by rw [C1]))).2 kk) ?_
              show own_Go p e below _ (T15.setTop (mkF m 322 #[.val (.int p1), .val (.int p2), .val (.int p3), .val (.int p4), .val (.int p5), .val (.int p6), .val (.int x1), .val (.int x2), .val (.int y1), .val (.int y2), .val (.int xq), .val (.int dv), .val (.ref o), .val (.int ev), .val (.int z3), .val (.int z4), .val (.int (p6 + (3 : Int32))), .val (.int ((p6 + y1) - (1 : Int32)))] []))
              refine own_go (fun tt kk => XS.aload X15.here hx rfl (hb hby at_322) rfl rfl kk) ?_
              show own_Go p e below _ (T15.setTop (mkF m 324 #[.val (.int p1), .val (.int p2), .val (.int p3), .val (.int p4), .val (.int p5), .val (.int p6), .val (.int x1), .val (.int x2), .val (.int y1), .val (.int y2), .val (.int xq), .val (.int dv), .val (.ref o), .val (.int ev), .val (.int z3), .val (.int z4), .val (.int (p6 + (3 : Int32))), .val (.int ((p6 + y1) - (1 : Int32)))] [(.ref o)]))
              refine own_go (fun tt kk => XS.iload X15.here hx rfl (hb hby at_324) rfl kk) ?_
              show own_Go p e below _ (T15.setTop (mkF m 326 #[.val (.int p1), .val (.int p2), .val (.int p3), .val (.int p4), .val (.int p5), .val (.int p6), .val (.int x1), .val (.int x2), .val (.int y1), .val (.int y2), .val (.int xq), .val (.int dv), .val (.ref o), .val (.int ev), .val (.int z3), .val (.int z4), .val (.int (p6 + (3 : Int32))), .val (.int ((p6 + y1) - (1 : Int32)))] [(.int z4), (.ref o)]))
              refine own_go (fun tt kk => XS.iconst X15.here hx rfl (hb hby at_326) kk) ?_
              show own_Go p e below _ (T15.setTop (mkF m 327 #[.val (.int p1), .val (.int p2), .val (.int p3), .val (.int p4), .val (.int p5), .val (.int p6), .val (.int x1), .val (.int x2), .val (.int y1), .val (.int y2), .val (.int xq), .val (.int dv), .val (.ref o), .val (.int ev), .val (.int z3), .val (.int z4), .val (.int (p6 + (3 : Int32))), .val (.int ((p6 + y1) - (1 : Int32)))] [(.int (1 : Int32)), (.int z4), (.ref o)]))
              refine own_go (fun tt kk => XS.isub X15.here hx rfl (hb hby at_327) rfl kk) ?_
              show own_Go p e below _ (T15.setTop (mkF m 328 #[.val (.int p1), .val (.int p2), .val (.int p3), .val (.int p4), .val (.int p5), .val (.int p6), .val (.int x1), .val (.int x2), .val (.int y1), .val (.int y2), .val (.int xq), .val (.int dv), .val (.ref o), .val (.int ev), .val (.int z3), .val (.int z4), .val (.int (p6 + (3 : Int32))), .val (.int ((p6 + y1) - (1 : Int32)))] [(.int (z4 - (1 : Int32))), (.ref o)]))
              obtain ⟨v16, L16, T16, X16, qq16, st16⟩ := own_callV X15 hx hZ hown (hw _ (List.mem_of_getElem? (i := 68) rfl)) (hw _ (List.mem_of_getElem? (i := 69) rfl)) (hw _ (List.mem_of_getElem? (i := 71) rfl)) (hw _ (List.mem_of_getElem? (i := 70) rfl)) (hw _ (List.mem_of_getElem? (i := 72) rfl)) (hw _ (List.mem_of_getElem? (i := 3) rfl)) (by decide) A.1 (rmAct l Z a0 hw [] o aS aC aR aA aB N st ct rm ac nb U W (z4 - 1) (sv + (cnt q - 1)) h0.size h A t6 (by omega)) hh15 (pc := 328) (Ls := #[.val (.int p1), .val (.int p2), .val (.int p3), .val (.int p4), .val (.int p5), .val (.int p6), .val (.int x1), .val (.int x2), .val (.int y1), .val (.int y2), .val (.int xq), .val (.int dv), .val (.ref o), .val (.int ev), .val (.int z3), .val (.int z4), .val (.int (p6 + (3 : Int32))), .val (.int ((p6 + y1) - (1 : Int32)))]) (argsL := [(.int (z4 - (1 : Int32)))]) (rest := []) rfl (by rw [hml]; rfl) pd_5 rfl rfl (hb hby at_328) 0 (Nat.le_of_eq rfl) (by decide) (by decide) (by decide) (by decide)
              obtain ⟨rfl, hh16, rfl⟩ := qq16
              refine own_go st16 ?_
              show own_Go p e below _ (T16.setTop (mkF m 331 #[.val (.int p1), .val (.int p2), .val (.int p3), .val (.int p4), .val (.int p5), .val (.int p6), .val (.int x1), .val (.int x2), .val (.int y1), .val (.int y2), .val (.int xq), .val (.int dv), .val (.ref o), .val (.int ev), .val (.int z3), .val (.int z4), .val (.int (p6 + (3 : Int32))), .val (.int ((p6 + y1) - (1 : Int32)))] [(.int (ac (sv + (cnt q - 1))))]))
              refine own_go (fun tt kk => XS.iload X16.here hx rfl (hb hby at_331) rfl kk) ?_
              show own_Go p e below _ (T16.setTop (mkF m 333 #[.val (.int p1), .val (.int p2), .val (.int p3), .val (.int p4), .val (.int p5), .val (.int p6), .val (.int x1), .val (.int x2), .val (.int y1), .val (.int y2), .val (.int xq), .val (.int dv), .val (.ref o), .val (.int ev), .val (.int z3), .val (.int z4), .val (.int (p6 + (3 : Int32))), .val (.int ((p6 + y1) - (1 : Int32)))] [(.int ((p6 + y1) - (1 : Int32))), (.int (ac (sv + (cnt q - 1))))]))
              refine own_go (fun tt kk => XS.icmpNo X16.here hx rfl (hb hby at_333) rfl (teq (own_eq32 (x := (ac (sv + (cnt q - 1)))) (y := ((p6 + y1) - (1 : Int32))) (i := (ac (sv + (cnt q - 1))).toInt) (j := ((p6 + y1) - (1 : Int32)).toInt) rfl rfl (by rw [C2]))).2 kk) ?_
              show own_Go p e below _ (T16.setTop (mkF m 336 #[.val (.int p1), .val (.int p2), .val (.int p3), .val (.int p4), .val (.int p5), .val (.int p6), .val (.int x1), .val (.int x2), .val (.int y1), .val (.int y2), .val (.int xq), .val (.int dv), .val (.ref o), .val (.int ev), .val (.int z3), .val (.int z4), .val (.int (p6 + (3 : Int32))), .val (.int ((p6 + y1) - (1 : Int32)))] []))
              refine own_go (fun tt kk => XS.iconst X16.here hx rfl (hb hby at_336) kk) ?_
              show own_Go p e below _ (T16.setTop (mkF m 337 #[.val (.int p1), .val (.int p2), .val (.int p3), .val (.int p4), .val (.int p5), .val (.int p6), .val (.int x1), .val (.int x2), .val (.int y1), .val (.int y2), .val (.int xq), .val (.int dv), .val (.ref o), .val (.int ev), .val (.int z3), .val (.int z4), .val (.int (p6 + (3 : Int32))), .val (.int ((p6 + y1) - (1 : Int32)))] [(.int (1 : Int32))]))
              refine own_go (fun tt kk => XS.goto X16.here hx rfl (pc0 := 337) (pc' := 341) rfl (hb hby at_337) (by decide) (by decide) kk) ?_
              show own_Go p e below _ (T16.setTop (mkF m 341 #[.val (.int p1), .val (.int p2), .val (.int p3), .val (.int p4), .val (.int p5), .val (.int p6), .val (.int x1), .val (.int x2), .val (.int y1), .val (.int y2), .val (.int xq), .val (.int dv), .val (.ref o), .val (.int ev), .val (.int z3), .val (.int z4), .val (.int (p6 + (3 : Int32))), .val (.int ((p6 + y1) - (1 : Int32)))] [(.int (1 : Int32))]))
              exact own_retZ X16 hx hlk hret (by decide) (hb hby at_341) ⟨rfl, (Fr.app (Fr.app (Fr.app (Fr.app Nl (Fr.nil _)) (Fr.nil _)) (Fr.nil _)) (Fr.nil _))⟩ (by decide) (by decide)
        · refine own_go (fun tt kk => XS.icmpYes X4.here hx rfl (pc0 := 260) (pc' := 273) rfl (hb hby at_260) rfl (feq (own_neq32 (x := xq) (y := x1) (i := xq.toInt) (j := x1.toInt) rfl rfl hc260)).2 (by decide) (by decide) kk) ?_
          show own_Go p e below _ (T4.setTop (mkF m 273 #[.val (.int p1), .val (.int p2), .val (.int p3), .val (.int p4), .val (.int p5), .val (.int p6), .val (.int x1), .val (.int x2), .val (.int y1), .val (.int y2), .val (.int xq), .val (.int dv), .val (.ref o), .val (.int ev), .val (.int z3), .val (.int z4), .unset, .unset] []))
          rw [if_neg (by omega)] at C1
          refine own_go (fun tt kk => XS.iload X4.here hx rfl (hb hby at_273) rfl kk) ?_
          show own_Go p e below _ (T4.setTop (mkF m 275 #[.val (.int p1), .val (.int p2), .val (.int p3), .val (.int p4), .val (.int p5), .val (.int p6), .val (.int x1), .val (.int x2), .val (.int y1), .val (.int y2), .val (.int xq), .val (.int dv), .val (.ref o), .val (.int ev), .val (.int z3), .val (.int z4), .unset, .unset] [(.int p6)]))
          refine own_go (fun tt kk => XS.iconst X4.here hx rfl (hb hby at_275) kk) ?_
          show own_Go p e below _ (T4.setTop (mkF m 276 #[.val (.int p1), .val (.int p2), .val (.int p3), .val (.int p4), .val (.int p5), .val (.int p6), .val (.int x1), .val (.int x2), .val (.int y1), .val (.int y2), .val (.int xq), .val (.int dv), .val (.ref o), .val (.int ev), .val (.int z3), .val (.int z4), .unset, .unset] [(.int (3 : Int32)), (.int p6)]))
          refine own_go (fun tt kk => XS.iadd X4.here hx rfl (hb hby at_276) rfl kk) ?_
          show own_Go p e below _ (T4.setTop (mkF m 277 #[.val (.int p1), .val (.int p2), .val (.int p3), .val (.int p4), .val (.int p5), .val (.int p6), .val (.int x1), .val (.int x2), .val (.int y1), .val (.int y2), .val (.int xq), .val (.int dv), .val (.ref o), .val (.int ev), .val (.int z3), .val (.int z4), .unset, .unset] [(.int (p6 + (3 : Int32)))]))
          refine own_go (fun tt kk => XS.istore X4.here hx rfl (hb hby at_277) rfl (l' := #[.val (.int p1), .val (.int p2), .val (.int p3), .val (.int p4), .val (.int p5), .val (.int p6), .val (.int x1), .val (.int x2), .val (.int y1), .val (.int y2), .val (.int xq), .val (.int dv), .val (.ref o), .val (.int ev), .val (.int z3), .val (.int z4), .val (.int (p6 + (3 : Int32))), .unset]) rfl kk) ?_
          show own_Go p e below _ (T4.setTop (mkF m 279 #[.val (.int p1), .val (.int p2), .val (.int p3), .val (.int p4), .val (.int p5), .val (.int p6), .val (.int x1), .val (.int x2), .val (.int y1), .val (.int y2), .val (.int xq), .val (.int dv), .val (.ref o), .val (.int ev), .val (.int z3), .val (.int z4), .val (.int (p6 + (3 : Int32))), .unset] []))
          refine own_go (fun tt kk => XS.iload X4.here hx rfl (hb hby at_279) rfl kk) ?_
          show own_Go p e below _ (T4.setTop (mkF m 281 #[.val (.int p1), .val (.int p2), .val (.int p3), .val (.int p4), .val (.int p5), .val (.int p6), .val (.int x1), .val (.int x2), .val (.int y1), .val (.int y2), .val (.int xq), .val (.int dv), .val (.ref o), .val (.int ev), .val (.int z3), .val (.int z4), .val (.int (p6 + (3 : Int32))), .unset] [(.int xq)]))
          refine own_go (fun tt kk => XS.iload X4.here hx rfl (hb hby at_281) rfl kk) ?_
          show own_Go p e below _ (T4.setTop (mkF m 283 #[.val (.int p1), .val (.int p2), .val (.int p3), .val (.int p4), .val (.int p5), .val (.int p6), .val (.int x1), .val (.int x2), .val (.int y1), .val (.int y2), .val (.int xq), .val (.int dv), .val (.ref o), .val (.int ev), .val (.int z3), .val (.int z4), .val (.int (p6 + (3 : Int32))), .unset] [(.int x2), (.int xq)]))
          by_cases hc283 : xq.toInt = x2.toInt
          · refine own_go (fun tt kk => XS.icmpNo X4.here hx rfl (hb hby at_283) rfl (teq (own_eq32 (x := xq) (y := x2) (i := xq.toInt) (j := x2.toInt) rfl rfl hc283)).2 kk) ?_
            show own_Go p e below _ (T4.setTop (mkF m 286 #[.val (.int p1), .val (.int p2), .val (.int p3), .val (.int p4), .val (.int p5), .val (.int p6), .val (.int x1), .val (.int x2), .val (.int y1), .val (.int y2), .val (.int xq), .val (.int dv), .val (.ref o), .val (.int ev), .val (.int z3), .val (.int z4), .val (.int (p6 + (3 : Int32))), .unset] []))
            refine own_go (fun tt kk => XS.iload X4.here hx rfl (hb hby at_286) rfl kk) ?_
            show own_Go p e below _ (T4.setTop (mkF m 288 #[.val (.int p1), .val (.int p2), .val (.int p3), .val (.int p4), .val (.int p5), .val (.int p6), .val (.int x1), .val (.int x2), .val (.int y1), .val (.int y2), .val (.int xq), .val (.int dv), .val (.ref o), .val (.int ev), .val (.int z3), .val (.int z4), .val (.int (p6 + (3 : Int32))), .unset] [(.int y2)]))
            by_cases hc288 : 0 < y2.toInt
            · refine own_go (fun tt kk => XS.ifNo X4.here hx rfl (hb hby at_288) rfl ((if0 _ _).trans (tlt (own_lt32 (x := (0 : Int32)) (y := y2) (i := 0) (j := y2.toInt) rfl rfl hc288)).2.2.2) kk) ?_
              show own_Go p e below _ (T4.setTop (mkF m 291 #[.val (.int p1), .val (.int p2), .val (.int p3), .val (.int p4), .val (.int p5), .val (.int p6), .val (.int x1), .val (.int x2), .val (.int y1), .val (.int y2), .val (.int xq), .val (.int dv), .val (.ref o), .val (.int ev), .val (.int z3), .val (.int z4), .val (.int (p6 + (3 : Int32))), .unset] []))
              rw [if_pos ⟨by omega, by omega⟩] at C2
              refine own_go (fun tt kk => XS.iload X4.here hx rfl (hb hby at_291) rfl kk) ?_
              show own_Go p e below _ (T4.setTop (mkF m 293 #[.val (.int p1), .val (.int p2), .val (.int p3), .val (.int p4), .val (.int p5), .val (.int p6), .val (.int x1), .val (.int x2), .val (.int y1), .val (.int y2), .val (.int xq), .val (.int dv), .val (.ref o), .val (.int ev), .val (.int z3), .val (.int z4), .val (.int (p6 + (3 : Int32))), .unset] [(.int p6)]))
              refine own_go (fun tt kk => XS.iconst X4.here hx rfl (hb hby at_293) kk) ?_
              show own_Go p e below _ (T4.setTop (mkF m 294 #[.val (.int p1), .val (.int p2), .val (.int p3), .val (.int p4), .val (.int p5), .val (.int p6), .val (.int x1), .val (.int x2), .val (.int y1), .val (.int y2), .val (.int xq), .val (.int dv), .val (.ref o), .val (.int ev), .val (.int z3), .val (.int z4), .val (.int (p6 + (3 : Int32))), .unset] [(.int (2 : Int32)), (.int p6)]))
              refine own_go (fun tt kk => XS.iadd X4.here hx rfl (hb hby at_294) rfl kk) ?_
              show own_Go p e below _ (T4.setTop (mkF m 295 #[.val (.int p1), .val (.int p2), .val (.int p3), .val (.int p4), .val (.int p5), .val (.int p6), .val (.int x1), .val (.int x2), .val (.int y1), .val (.int y2), .val (.int xq), .val (.int dv), .val (.ref o), .val (.int ev), .val (.int z3), .val (.int z4), .val (.int (p6 + (3 : Int32))), .unset] [(.int (p6 + (2 : Int32)))]))
              refine own_go (fun tt kk => XS.iload X4.here hx rfl (hb hby at_295) rfl kk) ?_
              show own_Go p e below _ (T4.setTop (mkF m 297 #[.val (.int p1), .val (.int p2), .val (.int p3), .val (.int p4), .val (.int p5), .val (.int p6), .val (.int x1), .val (.int x2), .val (.int y1), .val (.int y2), .val (.int xq), .val (.int dv), .val (.ref o), .val (.int ev), .val (.int z3), .val (.int z4), .val (.int (p6 + (3 : Int32))), .unset] [(.int y2), (.int (p6 + (2 : Int32)))]))
              refine own_go (fun tt kk => XS.iadd X4.here hx rfl (hb hby at_297) rfl kk) ?_
              show own_Go p e below _ (T4.setTop (mkF m 298 #[.val (.int p1), .val (.int p2), .val (.int p3), .val (.int p4), .val (.int p5), .val (.int p6), .val (.int x1), .val (.int x2), .val (.int y1), .val (.int y2), .val (.int xq), .val (.int dv), .val (.ref o), .val (.int ev), .val (.int z3), .val (.int z4), .val (.int (p6 + (3 : Int32))), .unset] [(.int ((p6 + (2 : Int32)) + y2))]))
              refine own_go (fun tt kk => XS.goto X4.here hx rfl (pc0 := 298) (pc' := 308) rfl (hb hby at_298) (by decide) (by decide) kk) ?_
              show own_Go p e below _ (T4.setTop (mkF m 308 #[.val (.int p1), .val (.int p2), .val (.int p3), .val (.int p4), .val (.int p5), .val (.int p6), .val (.int x1), .val (.int x2), .val (.int y1), .val (.int y2), .val (.int xq), .val (.int dv), .val (.ref o), .val (.int ev), .val (.int z3), .val (.int z4), .val (.int (p6 + (3 : Int32))), .unset] [(.int ((p6 + (2 : Int32)) + y2))]))
              refine own_go (fun tt kk => XS.istore X4.here hx rfl (hb hby at_308) rfl (l' := #[.val (.int p1), .val (.int p2), .val (.int p3), .val (.int p4), .val (.int p5), .val (.int p6), .val (.int x1), .val (.int x2), .val (.int y1), .val (.int y2), .val (.int xq), .val (.int dv), .val (.ref o), .val (.int ev), .val (.int z3), .val (.int z4), .val (.int (p6 + (3 : Int32))), .val (.int ((p6 + (2 : Int32)) + y2))]) rfl kk) ?_
              show own_Go p e below _ (T4.setTop (mkF m 310 #[.val (.int p1), .val (.int p2), .val (.int p3), .val (.int p4), .val (.int p5), .val (.int p6), .val (.int x1), .val (.int x2), .val (.int y1), .val (.int y2), .val (.int xq), .val (.int dv), .val (.ref o), .val (.int ev), .val (.int z3), .val (.int z4), .val (.int (p6 + (3 : Int32))), .val (.int ((p6 + (2 : Int32)) + y2))] []))
              refine own_go (fun tt kk => XS.aload X4.here hx rfl (hb hby at_310) rfl rfl kk) ?_
              show own_Go p e below _ (T4.setTop (mkF m 312 #[.val (.int p1), .val (.int p2), .val (.int p3), .val (.int p4), .val (.int p5), .val (.int p6), .val (.int x1), .val (.int x2), .val (.int y1), .val (.int y2), .val (.int xq), .val (.int dv), .val (.ref o), .val (.int ev), .val (.int z3), .val (.int z4), .val (.int (p6 + (3 : Int32))), .val (.int ((p6 + (2 : Int32)) + y2))] [(.ref o)]))
              refine own_go (fun tt kk => XS.iload X4.here hx rfl (hb hby at_312) rfl kk) ?_
              show own_Go p e below _ (T4.setTop (mkF m 314 #[.val (.int p1), .val (.int p2), .val (.int p3), .val (.int p4), .val (.int p5), .val (.int p6), .val (.int x1), .val (.int x2), .val (.int y1), .val (.int y2), .val (.int xq), .val (.int dv), .val (.ref o), .val (.int ev), .val (.int z3), .val (.int z4), .val (.int (p6 + (3 : Int32))), .val (.int ((p6 + (2 : Int32)) + y2))] [(.int z3), (.ref o)]))
              obtain ⟨v17, L17, T17, X17, qq17, st17⟩ := own_callV X4 hx hZ hown (hw _ (List.mem_of_getElem? (i := 68) rfl)) (hw _ (List.mem_of_getElem? (i := 69) rfl)) (hw _ (List.mem_of_getElem? (i := 71) rfl)) (hw _ (List.mem_of_getElem? (i := 70) rfl)) (hw _ (List.mem_of_getElem? (i := 72) rfl)) (hw _ (List.mem_of_getElem? (i := 3) rfl)) (by decide) A.1 (rmAct l Z a0 hw [] o aS aC aR aA aB N st ct rm ac nb U W z3 sv h0.size h A w1 (by omega)) hh4 (pc := 314) (Ls := #[.val (.int p1), .val (.int p2), .val (.int p3), .val (.int p4), .val (.int p5), .val (.int p6), .val (.int x1), .val (.int x2), .val (.int y1), .val (.int y2), .val (.int xq), .val (.int dv), .val (.ref o), .val (.int ev), .val (.int z3), .val (.int z4), .val (.int (p6 + (3 : Int32))), .val (.int ((p6 + (2 : Int32)) + y2))]) (argsL := [(.int z3)]) (rest := []) rfl (by rw [hml]; rfl) pd_5 rfl rfl (hb hby at_314) 0 (Nat.le_of_eq rfl) (by decide) (by decide) (by decide) (by decide)
              obtain ⟨rfl, hh17, rfl⟩ := qq17
              refine own_go st17 ?_
              show own_Go p e below _ (T17.setTop (mkF m 317 #[.val (.int p1), .val (.int p2), .val (.int p3), .val (.int p4), .val (.int p5), .val (.int p6), .val (.int x1), .val (.int x2), .val (.int y1), .val (.int y2), .val (.int xq), .val (.int dv), .val (.ref o), .val (.int ev), .val (.int z3), .val (.int z4), .val (.int (p6 + (3 : Int32))), .val (.int ((p6 + (2 : Int32)) + y2))] [(.int (ac sv))]))
              refine own_go (fun tt kk => XS.iload X17.here hx rfl (hb hby at_317) rfl kk) ?_
              show own_Go p e below _ (T17.setTop (mkF m 319 #[.val (.int p1), .val (.int p2), .val (.int p3), .val (.int p4), .val (.int p5), .val (.int p6), .val (.int x1), .val (.int x2), .val (.int y1), .val (.int y2), .val (.int xq), .val (.int dv), .val (.ref o), .val (.int ev), .val (.int z3), .val (.int z4), .val (.int (p6 + (3 : Int32))), .val (.int ((p6 + (2 : Int32)) + y2))] [(.int (p6 + (3 : Int32))), (.int (ac sv))]))
              refine own_go (fun tt kk => XS.icmpNo X17.here hx rfl (hb hby at_319) rfl (teq (own_eq32 (x := (ac sv)) (y := (p6 + (3 : Int32))) (i := (ac sv).toInt) (j := (p6 + (3 : Int32)).toInt) rfl rfl (by rw [C1]))).2 kk) ?_
              show own_Go p e below _ (T17.setTop (mkF m 322 #[.val (.int p1), .val (.int p2), .val (.int p3), .val (.int p4), .val (.int p5), .val (.int p6), .val (.int x1), .val (.int x2), .val (.int y1), .val (.int y2), .val (.int xq), .val (.int dv), .val (.ref o), .val (.int ev), .val (.int z3), .val (.int z4), .val (.int (p6 + (3 : Int32))), .val (.int ((p6 + (2 : Int32)) + y2))] []))
              refine own_go (fun tt kk => XS.aload X17.here hx rfl (hb hby at_322) rfl rfl kk) ?_
              show own_Go p e below _ (T17.setTop (mkF m 324 #[.val (.int p1), .val (.int p2), .val (.int p3), .val (.int p4), .val (.int p5), .val (.int p6), .val (.int x1), .val (.int x2), .val (.int y1), .val (.int y2), .val (.int xq), .val (.int dv), .val (.ref o), .val (.int ev), .val (.int z3), .val (.int z4), .val (.int (p6 + (3 : Int32))), .val (.int ((p6 + (2 : Int32)) + y2))] [(.ref o)]))
              refine own_go (fun tt kk => XS.iload X17.here hx rfl (hb hby at_324) rfl kk) ?_
              show own_Go p e below _ (T17.setTop (mkF m 326 #[.val (.int p1), .val (.int p2), .val (.int p3), .val (.int p4), .val (.int p5), .val (.int p6), .val (.int x1), .val (.int x2), .val (.int y1), .val (.int y2), .val (.int xq), .val (.int dv), .val (.ref o), .val (.int ev), .val (.int z3), .val (.int z4), .val (.int (p6 + (3 : Int32))), .val (.int ((p6 + (2 : Int32)) + y2))] [(.int z4), (.ref o)]))
              refine own_go (fun tt kk => XS.iconst X17.here hx rfl (hb hby at_326) kk) ?_
              show own_Go p e below _ (T17.setTop (mkF m 327 #[.val (.int p1), .val (.int p2), .val (.int p3), .val (.int p4), .val (.int p5), .val (.int p6), .val (.int x1), .val (.int x2), .val (.int y1), .val (.int y2), .val (.int xq), .val (.int dv), .val (.ref o), .val (.int ev), .val (.int z3), .val (.int z4), .val (.int (p6 + (3 : Int32))), .val (.int ((p6 + (2 : Int32)) + y2))] [(.int (1 : Int32)), (.int z4), (.ref o)]))
              refine own_go (fun tt kk => XS.isub X17.here hx rfl (hb hby at_327) rfl kk) ?_
              show own_Go p e below _ (T17.setTop (mkF m 328 #[.val (.int p1), .val (.int p2), .val (.int p3), .val (.int p4), .val (.int p5), .val (.int p6), .val (.int x1), .val (.int x2), .val (.int y1), .val (.int y2), .val (.int xq), .val (.int dv), .val (.ref o), .val (.int ev), .val (.int z3), .val (.int z4), .val (.int (p6 + (3 : Int32))), .val (.int ((p6 + (2 : Int32)) + y2))] [(.int (z4 - (1 : Int32))), (.ref o)]))
              obtain ⟨v18, L18, T18, X18, qq18, st18⟩ := own_callV X17 hx hZ hown (hw _ (List.mem_of_getElem? (i := 68) rfl)) (hw _ (List.mem_of_getElem? (i := 69) rfl)) (hw _ (List.mem_of_getElem? (i := 71) rfl)) (hw _ (List.mem_of_getElem? (i := 70) rfl)) (hw _ (List.mem_of_getElem? (i := 72) rfl)) (hw _ (List.mem_of_getElem? (i := 3) rfl)) (by decide) A.1 (rmAct l Z a0 hw [] o aS aC aR aA aB N st ct rm ac nb U W (z4 - 1) (sv + (cnt q - 1)) h0.size h A t6 (by omega)) hh17 (pc := 328) (Ls := #[.val (.int p1), .val (.int p2), .val (.int p3), .val (.int p4), .val (.int p5), .val (.int p6), .val (.int x1), .val (.int x2), .val (.int y1), .val (.int y2), .val (.int xq), .val (.int dv), .val (.ref o), .val (.int ev), .val (.int z3), .val (.int z4), .val (.int (p6 + (3 : Int32))), .val (.int ((p6 + (2 : Int32)) + y2))]) (argsL := [(.int (z4 - (1 : Int32)))]) (rest := []) rfl (by rw [hml]; rfl) pd_5 rfl rfl (hb hby at_328) 0 (Nat.le_of_eq rfl) (by decide) (by decide) (by decide) (by decide)
              obtain ⟨rfl, hh18, rfl⟩ := qq18
              refine own_go st18 ?_
              show own_Go p e below _ (T18.setTop (mkF m 331 #[.val (.int p1), .val (.int p2), .val (.int p3), .val (.int p4), .val (.int p5), .val (.int p6), .val (.int x1), .val (.int x2), .val (.int y1), .val (.int y2), .val (.int xq), .val (.int dv), .val (.ref o), .val (.int ev), .val (.int z3), .val (.int z4), .val (.int (p6 + (3 : Int32))), .val (.int ((p6 + (2 : Int32)) + y2))] [(.int (ac (sv + (cnt q - 1))))]))
              refine own_go (fun tt kk => XS.iload X18.here hx rfl (hb hby at_331) rfl kk) ?_
              show own_Go p e below _ (T18.setTop (mkF m 333 #[.val (.int p1), .val (.int p2), .val (.int p3), .val (.int p4), .val (.int p5), .val (.int p6), .val (.int x1), .val (.int x2), .val (.int y1), .val (.int y2), .val (.int xq), .val (.int dv), .val (.ref o), .val (.int ev), .val (.int z3), .val (.int z4), .val (.int (p6 + (3 : Int32))), .val (.int ((p6 + (2 : Int32)) + y2))] [(.int ((p6 + (2 : Int32)) + y2)), (.int (ac (sv + (cnt q - 1))))]))
              refine own_go (fun tt kk => XS.icmpNo X18.here hx rfl (hb hby at_333) rfl (teq (own_eq32 (x := (ac (sv + (cnt q - 1)))) (y := ((p6 + (2 : Int32)) + y2)) (i := (ac (sv + (cnt q - 1))).toInt) (j := ((p6 + (2 : Int32)) + y2).toInt) rfl rfl (by rw [C2]))).2 kk) ?_
              show own_Go p e below _ (T18.setTop (mkF m 336 #[.val (.int p1), .val (.int p2), .val (.int p3), .val (.int p4), .val (.int p5), .val (.int p6), .val (.int x1), .val (.int x2), .val (.int y1), .val (.int y2), .val (.int xq), .val (.int dv), .val (.ref o), .val (.int ev), .val (.int z3), .val (.int z4), .val (.int (p6 + (3 : Int32))), .val (.int ((p6 + (2 : Int32)) + y2))] []))
              refine own_go (fun tt kk => XS.iconst X18.here hx rfl (hb hby at_336) kk) ?_
              show own_Go p e below _ (T18.setTop (mkF m 337 #[.val (.int p1), .val (.int p2), .val (.int p3), .val (.int p4), .val (.int p5), .val (.int p6), .val (.int x1), .val (.int x2), .val (.int y1), .val (.int y2), .val (.int xq), .val (.int dv), .val (.ref o), .val (.int ev), .val (.int z3), .val (.int z4), .val (.int (p6 + (3 : Int32))), .val (.int ((p6 + (2 : Int32)) + y2))] [(.int (1 : Int32))]))
              refine own_go (fun tt kk => XS.goto X18.here hx rfl (pc0 := 337) (pc' := 341) rfl (hb hby at_337) (by decide) (by decide) kk) ?_
              show own_Go p e below _ (T18.setTop (mkF m 341 #[.val (.int p1), .val (.int p2), .val (.int p3), .val (.int p4), .val (.int p5), .val (.int p6), .val (.int x1), .val (.int x2), .val (.int y1), .val (.int y2), .val (.int xq), .val (.int dv), .val (.ref o), .val (.int ev), .val (.int z3), .val (.int z4), .val (.int (p6 + (3 : Int32))), .val (.int ((p6 + (2 : Int32)) + y2))] [(.int (1 : Int32))]))
              exact own_retZ X18 hx hlk hret (by decide) (hb hby at_341) ⟨rfl, (Fr.app (Fr.app (Fr.app (Fr.app Nl (Fr.nil _)) (Fr.nil _)) (Fr.nil _)) (Fr.nil _))⟩ (by decide) (by decide)
            · refine own_go (fun tt kk => XS.ifYes X4.here hx rfl (pc0 := 288) (pc' := 301) rfl (hb hby at_288) rfl ((if0 _ _).trans (flt (own_nlt32 (x := (0 : Int32)) (y := y2) (i := 0) (j := y2.toInt) rfl rfl hc288)).2.2.2) (by decide) (by decide) kk) ?_
              show own_Go p e below _ (T4.setTop (mkF m 301 #[.val (.int p1), .val (.int p2), .val (.int p3), .val (.int p4), .val (.int p5), .val (.int p6), .val (.int x1), .val (.int x2), .val (.int y1), .val (.int y2), .val (.int xq), .val (.int dv), .val (.ref o), .val (.int ev), .val (.int z3), .val (.int z4), .val (.int (p6 + (3 : Int32))), .unset] []))
              rw [if_neg (by omega)] at C2
              refine own_go (fun tt kk => XS.iload X4.here hx rfl (hb hby at_301) rfl kk) ?_
              show own_Go p e below _ (T4.setTop (mkF m 303 #[.val (.int p1), .val (.int p2), .val (.int p3), .val (.int p4), .val (.int p5), .val (.int p6), .val (.int x1), .val (.int x2), .val (.int y1), .val (.int y2), .val (.int xq), .val (.int dv), .val (.ref o), .val (.int ev), .val (.int z3), .val (.int z4), .val (.int (p6 + (3 : Int32))), .unset] [(.int p6)]))
              refine own_go (fun tt kk => XS.iload X4.here hx rfl (hb hby at_303) rfl kk) ?_
              show own_Go p e below _ (T4.setTop (mkF m 305 #[.val (.int p1), .val (.int p2), .val (.int p3), .val (.int p4), .val (.int p5), .val (.int p6), .val (.int x1), .val (.int x2), .val (.int y1), .val (.int y2), .val (.int xq), .val (.int dv), .val (.ref o), .val (.int ev), .val (.int z3), .val (.int z4), .val (.int (p6 + (3 : Int32))), .unset] [(.int y1), (.int p6)]))
              refine own_go (fun tt kk => XS.iadd X4.here hx rfl (hb hby at_305) rfl kk) ?_
              show own_Go p e below _ (T4.setTop (mkF m 306 #[.val (.int p1), .val (.int p2), .val (.int p3), .val (.int p4), .val (.int p5), .val (.int p6), .val (.int x1), .val (.int x2), .val (.int y1), .val (.int y2), .val (.int xq), .val (.int dv), .val (.ref o), .val (.int ev), .val (.int z3), .val (.int z4), .val (.int (p6 + (3 : Int32))), .unset] [(.int (p6 + y1))]))
              refine own_go (fun tt kk => XS.iconst X4.here hx rfl (hb hby at_306) kk) ?_
              show own_Go p e below _ (T4.setTop (mkF m 307 #[.val (.int p1), .val (.int p2), .val (.int p3), .val (.int p4), .val (.int p5), .val (.int p6), .val (.int x1), .val (.int x2), .val (.int y1), .val (.int y2), .val (.int xq), .val (.int dv), .val (.ref o), .val (.int ev), .val (.int z3), .val (.int z4), .val (.int (p6 + (3 : Int32))), .unset] [(.int (1 : Int32)), (.int (p6 + y1))]))
              refine own_go (fun tt kk => XS.isub X4.here hx rfl (hb hby at_307) rfl kk) ?_
              show own_Go p e below _ (T4.setTop (mkF m 308 #[.val (.int p1), .val (.int p2), .val (.int p3), .val (.int p4), .val (.int p5), .val (.int p6), .val (.int x1), .val (.int x2), .val (.int y1), .val (.int y2), .val (.int xq), .val (.int dv), .val (.ref o), .val (.int ev), .val (.int z3), .val (.int z4), .val (.int (p6 + (3 : Int32))), .unset] [(.int ((p6 + y1) - (1 : Int32)))]))
              refine own_go (fun tt kk => XS.istore X4.here hx rfl (hb hby at_308) rfl (l' := #[.val (.int p1), .val (.int p2), .val (.int p3), .val (.int p4), .val (.int p5), .val (.int p6), .val (.int x1), .val (.int x2), .val (.int y1), .val (.int y2), .val (.int xq), .val (.int dv), .val (.ref o), .val (.int ev), .val (.int z3), .val (.int z4), .val (.int (p6 + (3 : Int32))), .val (.int ((p6 + y1) - (1 : Int32)))]) rfl kk) ?_
              show own_Go p e below _ (T4.setTop (mkF m 310 #[.val (.int p1), .val (.int p2), .val (.int p3), .val (.int p4), .val (.int p5), .val (.int p6), .val (.int x1), .val (.int x2), .val (.int y1), .val (.int y2), .val (.int xq), .val (.int dv), .val (.ref o), .val (.int ev), .val (.int z3), .val (.int z4), .val (.int (p6 + (3 : Int32))), .val (.int ((p6 + y1) - (1 : Int32)))] []))
              refine own_go (fun tt kk => XS.aload X4.here hx rfl (hb hby at_310) rfl rfl kk) ?_
              show own_Go p e below _ (T4.setTop (mkF m 312 #[.val (.int p1), .val (.int p2), .val (.int p3), .val (.int p4), .val (.int p5), .val (.int p6), .val (.int x1), .val (.int x2), .val (.int y1), .val (.int y2), .val (.int xq), .val (.int dv), .val (.ref o), .val (.int ev), .val (.int z3), .val (.int z4), .val (.int (p6 + (3 : Int32))), .val (.int ((p6 + y1) - (1 : Int32)))] [(.ref o)]))
              refine own_go (fun tt kk => XS.iload X4.here hx rfl (hb hby at_312) rfl kk) ?_
              show own_Go p e below _ (T4.setTop (mkF m 314 #[.val (.int p1), .val (.int p2), .val (.int p3), .val (.int p4), .val (.int p5), .val (.int p6), .val (.int x1), .val (.int x2), .val (.int y1), .val (.int y2), .val (.int xq), .val (.int dv), .val (.ref o), .val (.int ev), .val (.int z3), .val (.int z4), .val (.int (p6 + (3 : Int32))), .val (.int ((p6 + y1) - (1 : Int32)))] [(.int z3), (.ref o)]))
              obtain ⟨v19, L19, T19, X19, qq19, st19⟩ := own_callV X4 hx hZ hown (hw _ (List.mem_of_getElem? (i := 68) rfl)) (hw _ (List.mem_of_getElem? (i := 69) rfl)) (hw _ (List.mem_of_getElem? (i := 71) rfl)) (hw _ (List.mem_of_getElem? (i := 70) rfl)) (hw _ (List.mem_of_getElem? (i := 72) rfl)) (hw _ (List.mem_of_getElem? (i := 3) rfl)) (by decide) A.1 (rmAct l Z a0 hw [] o aS aC aR aA aB N st ct rm ac nb U W z3 sv h0.size h A w1 (by omega)) hh4 (pc := 314) (Ls := #[.val (.int p1), .val (.int p2), .val (.int p3), .val (.int p4), .val (.int p5), .val (.int p6), .val (.int x1), .val (.int x2), .val (.int y1), .val (.int y2), .val (.int xq), .val (.int dv), .val (.ref o), .val (.int ev), .val (.int z3), .val (.int z4), .val (.int (p6 + (3 : Int32))), .val (.int ((p6 + y1) - (1 : Int32)))]) (argsL := [(.int z3)]) (rest := []) rfl (by rw [hml]; rfl) pd_5 rfl rfl (hb hby at_314) 0 (Nat.le_of_eq rfl) (by decide) (by decide) (by decide) (by decide)
              obtain ⟨rfl, hh19, rfl⟩ := qq19
              refine own_go st19 ?_
              show own_Go p e below _ (T19.setTop (mkF m 317 #[.val (.int p1), .val (.int p2), .val (.int p3), .val (.int p4), .val (.int p5), .val (.int p6), .val (.int x1), .val (.int x2), .val (.int y1), .val (.int y2), .val (.int xq), .val (.int dv), .val (.ref o), .val (.int ev), .val (.int z3), .val (.int z4), .val (.int (p6 + (3 : Int32))), .val (.int ((p6 + y1) - (1 : Int32)))] [(.int (ac sv))]))
              refine own_go (fun tt kk => XS.iload X19.here hx rfl (hb hby at_317) rfl kk) ?_
              show own_Go p e below _ (T19.setTop (mkF m 319 #[.val (.int p1), .val (.int p2), .val (.int p3), .val (.int p4), .val (.int p5), .val (.int p6), .val (.int x1), .val (.int x2), .val (.int y1), .val (.int y2), .val (.int xq), .val (.int dv), .val (.ref o), .val (.int ev), .val (.int z3), .val (.int z4), .val (.int (p6 + (3 : Int32))), .val (.int ((p6 + y1) - (1 : Int32)))] [(.int (p6 + (3 : Int32))), (.int (ac sv))]))
              refine own_go (fun tt kk => XS.icmpNo X19.here hx rfl (hb hby at_319) rfl (teq (own_eq32 (x := (ac sv)) (y := (p6 + (3 : Int32))) (i := (ac sv).toInt) (j := (p6 + (3 : Int32)).toInt) rfl rfl (by rw [C1]))).2 kk) ?_
              show own_Go p e below _ (T19.setTop (mkF m 322 #[.val (.int p1), .val (.int p2), .val (.int p3), .val (.int p4), .val (.int p5), .val (.int p6), .val (.int x1), .val (.int x2), .val (.int y1), .val (.int y2), .val (.int xq), .val (.int dv), .val (.ref o), .val (.int ev), .val (.int z3), .val (.int z4), .val (.int (p6 + (3 : Int32))), .val (.int ((p6 + y1) - (1 : Int32)))] []))
              refine own_go (fun tt kk => XS.aload X19.here hx rfl (hb hby at_322) rfl rfl kk) ?_
              show own_Go p e below _ (T19.setTop (mkF m 324 #[.val (.int p1), .val (.int p2), .val (.int p3), .val (.int p4), .val (.int p5), .val (.int p6), .val (.int x1), .val (.int x2), .val (.int y1), .val (.int y2), .val (.int xq), .val (.int dv), .val (.ref o), .val (.int ev), .val (.int z3), .val (.int z4), .val (.int (p6 + (3 : Int32))), .val (.int ((p6 + y1) - (1 : Int32)))] [(.ref o)]))
              refine own_go (fun tt kk => XS.iload X19.here hx rfl (hb hby at_324) rfl kk) ?_
              show own_Go p e below _ (T19.setTop (mkF m 326 #[.val (.int p1), .val (.int p2), .val (.int p3), .val (.int p4), .val (.int p5), .val (.int p6), .val (.int x1), .val (.int x2), .val (.int y1), .val (.int y2), .val (.int xq), .val (.int dv), .val (.ref o), .val (.int ev), .val (.int z3), .val (.int z4), .val (.int (p6 + (3 : Int32))), .val (.int ((p6 + y1) - (1 : Int32)))] [(.int z4), (.ref o)]))
              refine own_go (fun tt kk => XS.iconst X19.here hx rfl (hb hby at_326) kk) ?_
              show own_Go p e below _ (T19.setTop (mkF m 327 #[.val (.int p1), .val (.int p2), .val (.int p3), .val (.int p4), .val (.int p5), .val (.int p6), .val (.int x1), .val (.int x2), .val (.int y1), .val (.int y2), .val (.int xq), .val (.int dv), .val (.ref o), .val (.int ev), .val (.int z3), .val (.int z4), .val (.int (p6 + (3 : Int32))), .val (.int ((p6 + y1) - (1 : Int32)))] [(.int (1 : Int32)), (.int z4), (.ref o)]))
              refine own_go (fun tt kk => XS.isub X19.here hx rfl (hb hby at_327) rfl kk) ?_
              show own_Go p e below _ (T19.setTop (mkF m 328 #[.val (.int p1), .val (.int p2), .val (.int p3), .val (.int p4), .val (.int p5), .val (.int p6), .val (.int x1), .val (.int x2), .val (.int y1), .val (.int y2), .val (.int xq), .val (.int dv), .val (.ref o), .val (.int ev), .val (.int z3), .val (.int z4), .val (.int (p6 + (3 : Int32))), .val (.int ((p6 + y1) - (1 : Int32)))] [(.int (z4 - (1 : Int32))), (.ref o)]))
              obtain ⟨v20, L20, T20, X20, qq20, st20⟩ := own_callV X19 hx hZ hown (hw _ (List.mem_of_getElem? (i := 68) rfl)) (hw _ (List.mem_of_getElem? (i := 69) rfl)) (hw _ (List.mem_of_getElem? (i := 71) rfl)) (hw _ (List.mem_of_getElem? (i := 70) rfl)) (hw _ (List.mem_of_getElem? (i := 72) rfl)) (hw _ (List.mem_of_getElem? (i := 3) rfl)) (by decide) A.1 (rmAct l Z a0 hw [] o aS aC aR aA aB N st ct rm ac nb U W (z4 - 1) (sv + (cnt q - 1)) h0.size h A t6 (by omega)) hh19 (pc := 328) (Ls := #[.val (.int p1), .val (.int p2), .val (.int p3), .val (.int p4), .val (.int p5), .val (.int p6), .val (.int x1), .val (.int x2), .val (.int y1), .val (.int y2), .val (.int xq), .val (.int dv), .val (.ref o), .val (.int ev), .val (.int z3), .val (.int z4), .val (.int (p6 + (3 : Int32))), .val (.int ((p6 + y1) - (1 : Int32)))]) (argsL := [(.int (z4 - (1 : Int32)))]) (rest := []) rfl (by rw [hml]; rfl) pd_5 rfl rfl (hb hby at_328) 0 (Nat.le_of_eq rfl) (by decide) (by decide) (by decide) (by decide)
              obtain ⟨rfl, hh20, rfl⟩ := qq20
              refine own_go st20 ?_
              show own_Go p e below _ (T20.setTop (mkF m 331 #[.val (.int p1), .val (.int p2), .val (.int p3), .val (.int p4), .val (.int p5), .val (.int p6), .val (.int x1), .val (.int x2), .val (.int y1), .val (.int y2), .val (.int xq), .val (.int dv), .val (.ref o), .val (.int ev), .val (.int z3), .val (.int z4), .val (.int (p6 + (3 : Int32))), .val (.int ((p6 + y1) - (1 : Int32)))] [(.int (ac (sv + (cnt q - 1))))]))
              refine own_go (fun tt kk => XS.iload X20.here hx rfl (hb hby at_331) rfl kk) ?_
              show own_Go p e below _ (T20.setTop (mkF m 333 #[.val (.int p1), .val (.int p2), .val (.int p3), .val (.int p4), .val (.int p5), .val (.int p6), .val (.int x1), .val (.int x2), .val (.int y1), .val (.int y2), .val (.int xq), .val (.int dv), .val (.ref o), .val (.int ev), .val (.int z3), .val (.int z4), .val (.int (p6 + (3 : Int32))), .val (.int ((p6 + y1) - (1 : Int32)))] [(.int ((p6 + y1) - (1 : Int32))), (.int (ac (sv + (cnt q - 1))))]))
              refine own_go (fun tt kk => XS.icmpNo X20.here hx rfl (hb hby at_333) rfl (teq (own_eq32 (x := (ac (sv + (cnt q - 1)))) (y := ((p6 + y1) - (1 : Int32))) (i := (ac (sv + (cnt q - 1))).toInt) (j := ((p6 + y1) - (1 : Int32)).toInt) rfl rfl (by rw [C2]))).2 kk) ?_
              show own_Go p e below _ (T20.setTop (mkF m 336 #[.val (.int p1), .val (.int p2), .val (.int p3), .val (.int p4), .val (.int p5), .val (.int p6), .val (.int x1), .val (.int x2), .val (.int y1), .val (.int y2), .val (.int xq), .val (.int dv), .val (.ref o), .val (.int ev), .val (.int z3), .val (.int z4), .val (.int (p6 + (3 : Int32))), .val (.int ((p6 + y1) - (1 : Int32)))] []))
              refine own_go (fun tt kk => XS.iconst X20.here hx rfl (hb hby at_336) kk) ?_
              show own_Go p e below _ (T20.setTop (mkF m 337 #[.val (.int p1), .val (.int p2), .val (.int p3), .val (.int p4), .val (.int p5), .val (.int p6), .val (.int x1), .val (.int x2), .val (.int y1), .val (.int y2), .val (.int xq), .val (.int dv), .val (.ref o), .val (.int ev), .val (.int z3), .val (.int z4), .val (.int (p6 + (3 : Int32))), .val (.int ((p6 + y1) - (1 : Int32)))] [(.int (1 : Int32))]))
              refine own_go (fun tt kk => XS.goto X20.here hx rfl (pc0 := 337) (pc' := 341) rfl (hb hby at_337) (by decide) (by decide) kk) ?_
              show own_Go p e below _ (T20.setTop (mkF m 341 #[.val (.int p1), .val (.int p2), .val (.int p3), .val (.int p4), .val (.int p5), .val (.int p6), .val (.int x1), .val (.int x2), .val (.int y1), .val (.int y2), .val (.int xq), .val (.int dv), .val (.ref o), .val (.int ev), .val (.int z3), .val (.int z4), .val (.int (p6 + (3 : Int32))), .val (.int ((p6 + y1) - (1 : Int32)))] [(.int (1 : Int32))]))
              exact own_retZ X20 hx hlk hret (by decide) (hb hby at_341) ⟨rfl, (Fr.app (Fr.app (Fr.app (Fr.app Nl (Fr.nil _)) (Fr.nil _)) (Fr.nil _)) (Fr.nil _))⟩ (by decide) (by decide)
          · refine own_go (fun tt kk => XS.icmpYes X4.here hx rfl (pc0 := 283) (pc' := 301) rfl (hb hby at_283) rfl (feq (own_neq32 (x := xq) (y := x2) (i := xq.toInt) (j := x2.toInt) rfl rfl hc283)).2 (by decide) (by decide) kk) ?_
            show own_Go p e below _ (T4.setTop (mkF m 301 #[.val (.int p1), .val (.int p2), .val (.int p3), .val (.int p4), .val (.int p5), .val (.int p6), .val (.int x1), .val (.int x2), .val (.int y1), .val (.int y2), .val (.int xq), .val (.int dv), .val (.ref o), .val (.int ev), .val (.int z3), .val (.int z4), .val (.int (p6 + (3 : Int32))), .unset] []))
            rw [if_neg (by omega)] at C2
            refine own_go (fun tt kk => XS.iload X4.here hx rfl (hb hby at_301) rfl kk) ?_
            show own_Go p e below _ (T4.setTop (mkF m 303 #[.val (.int p1), .val (.int p2), .val (.int p3), .val (.int p4), .val (.int p5), .val (.int p6), .val (.int x1), .val (.int x2), .val (.int y1), .val (.int y2), .val (.int xq), .val (.int dv), .val (.ref o), .val (.int ev), .val (.int z3), .val (.int z4), .val (.int (p6 + (3 : Int32))), .unset] [(.int p6)]))
            refine own_go (fun tt kk => XS.iload X4.here hx rfl (hb hby at_303) rfl kk) ?_
            show own_Go p e below _ (T4.setTop (mkF m 305 #[.val (.int p1), .val (.int p2), .val (.int p3), .val (.int p4), .val (.int p5), .val (.int p6), .val (.int x1), .val (.int x2), .val (.int y1), .val (.int y2), .val (.int xq), .val (.int dv), .val (.ref o), .val (.int ev), .val (.int z3), .val (.int z4), .val (.int (p6 + (3 : Int32))), .unset] [(.int y1), (.int p6)]))
            refine own_go (fun tt kk => XS.iadd X4.here hx rfl (hb hby at_305) rfl kk) ?_
            show own_Go p e below _ (T4.setTop (mkF m 306 #[.val (.int p1), .val (.int p2), .val (.int p3), .val (.int p4), .val (.int p5), .val (.int p6), .val (.int x1), .val (.int x2), .val (.int y1), .val (.int y2), .val (.int xq), .val (.int dv), .val (.ref o), .val (.int ev), .val (.int z3), .val (.int z4), .val (.int (p6 + (3 : Int32))), .unset] [(.int (p6 + y1))]))
            refine own_go (fun tt kk => XS.iconst X4.here hx rfl (hb hby at_306) kk) ?_
            show own_Go p e below _ (T4.setTop (mkF m 307 #[.val (.int p1), .val (.int p2), .val (.int p3), .val (.int p4), .val (.int p5), .val (.int p6), .val (.int x1), .val (.int x2), .val (.int y1), .val (.int y2), .val (.int xq), .val (.int dv), .val (.ref o), .val (.int ev), .val (.int z3), .val (.int z4), .val (.int (p6 + (3 : Int32))), .unset] [(.int (1 : Int32)), (.int (p6 + y1))]))
            refine own_go (fun tt kk => XS.isub X4.here hx rfl (hb hby at_307) rfl kk) ?_
            show own_Go p e below _ (T4.setTop (mkF m 308 #[.val (.int p1), .val (.int p2), .val (.int p3), .val (.int p4), .val (.int p5), .val (.int p6), .val (.int x1), .val (.int x2), .val (.int y1), .val (.int y2), .val (.int xq), .val (.int dv), .val (.ref o), .val (.int ev), .val (.int z3), .val (.int z4), .val (.int (p6 + (3 : Int32))), .unset] [(.int ((p6 + y1) - (1 : Int32)))]))
            refine own_go (fun tt kk => XS.istore X4.here hx rfl (hb hby at_308) rfl (l' := #[.val (.int p1), .val (.int p2), .val (.int p3), .val (.int p4), .val (.int p5), .val (.int p6), .val (.int x1), .val (.int x2), .val (.int y1), .val (.int y2), .val (.int xq), .val (.int dv), .val (.ref o), .val (.int ev), .val (.int z3), .val (.int z4), .val (.int (p6 + (3 : Int32))), .val (.int ((p6 + y1) - (1 : Int32)))]) rfl kk) ?_
            show own_Go p e below _ (T4.setTop (mkF m 310 #[.val (.int p1), .val (.int p2), .val (.int p3), .val (.int p4), .val (.int p5), .val (.int p6), .val (.int x1), .val (.int x2), .val (.int y1), .val (.int y2), .val (.int xq), .val (.int dv), .val (.ref o), .val (.int ev), .val (.int z3), .val (.int z4), .val (.int (p6 + (3 : Int32))), .val (.int ((p6 + y1) - (1 : Int32)))] []))
            refine own_go (fun tt kk => XS.aload X4.here hx rfl (hb hby at_310) rfl rfl kk) ?_
            show own_Go p e below _ (T4.setTop (mkF m 312 #[.val (.int p1), .val (.int p2), .val (.int p3), .val (.int p4), .val (.int p5), .val (.int p6), .val (.int x1), .val (.int x2), .val (.int y1), .val (.int y2), .val (.int xq), .val (.int dv), .val (.ref o), .val (.int ev), .val (.int z3), .val (.int z4), .val (.int (p6 + (3 : Int32))), .val (.int ((p6 + y1) - (1 : Int32)))] [(.ref o)]))
            refine own_go (fun tt kk => XS.iload X4.here hx rfl (hb hby at_312) rfl kk) ?_
            show own_Go p e below _ (T4.setTop (mkF m 314 #[.val (.int p1), .val (.int p2), .val (.int p3), .val (.int p4), .val (.int p5), .val (.int p6), .val (.int x1), .val (.int x2), .val (.int y1), .val (.int y2), .val (.int xq), .val (.int dv), .val (.ref o), .val (.int ev), .val (.int z3), .val (.int z4), .val (.int (p6 + (3 : Int32))), .val (.int ((p6 + y1) - (1 : Int32)))] [(.int z3), (.ref o)]))
            obtain ⟨v21, L21, T21, X21, qq21, st21⟩ := own_callV X4 hx hZ hown (hw _ (List.mem_of_getElem? (i := 68) rfl)) (hw _ (List.mem_of_getElem? (i := 69) rfl)) (hw _ (List.mem_of_getElem? (i := 71) rfl)) (hw _ (List.mem_of_getElem? (i := 70) rfl)) (hw _ (List.mem_of_getElem? (i := 72) rfl)) (hw _ (List.mem_of_getElem? (i := 3) rfl)) (by decide) A.1 (rmAct l Z a0 hw [] o aS aC aR aA aB N st ct rm ac nb U W z3 sv h0.size h A w1 (by omega)) hh4 (pc := 314) (Ls := #[.val (.int p1), .val (.int p2), .val (.int p3), .val (.int p4), .val (.int p5), .val (.int p6), .val (.int x1), .val (.int x2), .val (.int y1), .val (.int y2), .val (.int xq), .val (.int dv), .val (.ref o), .val (.int ev), .val (.int z3), .val (.int z4), .val (.int (p6 + (3 : Int32))), .val (.int ((p6 + y1) - (1 : Int32)))]) (argsL := [(.int z3)]) (rest := []) rfl (by rw [hml]; rfl) pd_5 rfl rfl (hb hby at_314) 0 (Nat.le_of_eq rfl) (by decide) (by decide) (by decide) (by decide)
            obtain ⟨rfl, hh21, rfl⟩ := qq21
            refine own_go st21 ?_
            show own_Go p e below _ (T21.setTop (mkF m 317 #[.val (.int p1), .val (.int p2), .val (.int p3), .val (.int p4), .val (.int p5), .val (.int p6), .val (.int x1), .val (.int x2), .val (.int y1), .val (.int y2), .val (.int xq), .val (.int dv), .val (.ref o), .val (.int ev), .val (.int z3), .val (.int z4), .val (.int (p6 + (3 : Int32))), .val (.int ((p6 + y1) - (1 : Int32)))] [(.int (ac sv))]))
            refine own_go (fun tt kk => XS.iload X21.here hx rfl (hb hby at_317) rfl kk) ?_
            show own_Go p e below _ (T21.setTop (mkF m 319 #[.val (.int p1), .val (.int p2), .val (.int p3), .val (.int p4), .val (.int p5), .val (.int p6), .val (.int x1), .val (.int x2), .val (.int y1), .val (.int y2), .val (.int xq), .val (.int dv), .val (.ref o), .val (.int ev), .val (.int z3), .val (.int z4), .val (.int (p6 + (3 : Int32))), .val (.int ((p6 + y1) - (1 : Int32)))] [(.int (p6 + (3 : Int32))), (.int (ac sv))]))
            refine own_go (fun tt kk => XS.icmpNo X21.here hx rfl (hb hby at_319) rfl (teq (own_eq32 (x := (ac sv)) (y := (p6 + (3 : Int32))) (i := (ac sv).toInt) (j := (p6 + (3 : Int32)).toInt) rfl rfl (by rw [C1]))).2 kk) ?_
            show own_Go p e below _ (T21.setTop (mkF m 322 #[.val (.int p1), .val (.int p2), .val (.int p3), .val (.int p4), .val (.int p5), .val (.int p6), .val (.int x1), .val (.int x2), .val (.int y1), .val (.int y2), .val (.int xq), .val (.int dv), .val (.ref o), .val (.int ev), .val (.int z3), .val (.int z4), .val (.int (p6 + (3 : Int32))), .val (.int ((p6 + y1) - (1 : Int32)))] []))
            refine own_go (fun tt kk => XS.aload X21.here hx rfl (hb hby at_322) rfl rfl kk) ?_
            show own_Go p e below _ (T21.setTop (mkF m 324 #[.val (.int p1), .val (.int p2), .val (.int p3), .val (.int p4), .val (.int p5), .val (.int p6), .val (.int x1), .val (.int x2), .val (.int y1), .val (.int y2), .val (.int xq), .val (.int dv), .val (.ref o), .val (.int ev), .val (.int z3), .val (.int z4), .val (.int (p6 + (3 : Int32))), .val (.int ((p6 + y1) - (1 : Int32)))] [(.ref o)]))
            refine own_go (fun tt kk => XS.iload X21.here hx rfl (hb hby at_324) rfl kk) ?_
            show own_Go p e below _ (T21.setTop (mkF m 326 #[.val (.int p1), .val (.int p2), .val (.int p3), .val (.int p4), .val (.int p5), .val (.int p6), .val (.int x1), .val (.int x2), .val (.int y1), .val (.int y2), .val (.int xq), .val (.int dv), .val (.ref o), .val (.int ev), .val (.int z3), .val (.int z4), .val (.int (p6 + (3 : Int32))), .val (.int ((p6 + y1) - (1 : Int32)))] [(.int z4), (.ref o)]))
            refine own_go (fun tt kk => XS.iconst X21.here hx rfl (hb hby at_326) kk) ?_
            show own_Go p e below _ (T21.setTop (mkF m 327 #[.val (.int p1), .val (.int p2), .val (.int p3), .val (.int p4), .val (.int p5), .val (.int p6), .val (.int x1), .val (.int x2), .val (.int y1), .val (.int y2), .val (.int xq), .val (.int dv), .val (.ref o), .val (.int ev), .val (.int z3), .val (.int z4), .val (.int (p6 + (3 : Int32))), .val (.int ((p6 + y1) - (1 : Int32)))] [(.int (1 : Int32)), (.int z4), (.ref o)]))
            refine own_go (fun tt kk => XS.isub X21.here hx rfl (hb hby at_327) rfl kk) ?_
            show own_Go p e below _ (T21.setTop (mkF m 328 #[.val (.int p1), .val (.int p2), .val (.int p3), .val (.int p4), .val (.int p5), .val (.int p6), .val (.int x1), .val (.int x2), .val (.int y1), .val (.int y2), .val (.int xq), .val (.int dv), .val (.ref o), .val (.int ev), .val (.int z3), .val (.int z4), .val (.int (p6 + (3 : Int32))), .val (.int ((p6 + y1) - (1 : Int32)))] [(.int (z4 - (1 : Int32))), (.ref o)]))
            obtain ⟨v22, L22, T22, X22, qq22, st22⟩ := own_callV X21 hx hZ hown (hw _ (List.mem_of_getElem? (i := 68) rfl)) (hw _ (List.mem_of_getElem? (i := 69) rfl)) (hw _ (List.mem_of_getElem? (i := 71) rfl)) (hw _ (List.mem_of_getElem? (i := 70) rfl)) (hw _ (List.mem_of_getElem? (i := 72) rfl)) (hw _ (List.mem_of_getElem? (i := 3) rfl)) (by decide) A.1 (rmAct l Z a0 hw [] o aS aC aR aA aB N st ct rm ac nb U W (z4 - 1) (sv + (cnt q - 1)) h0.size h A t6 (by omega)) hh21 (pc := 328) (Ls := #[.val (.int p1), .val (.int p2), .val (.int p3), .val (.int p4), .val (.int p5), .val (.int p6), .val (.int x1), .val (.int x2), .val (.int y1), .val (.int y2), .val (.int xq), .val (.int dv), .val (.ref o), .val (.int ev), .val (.int z3), .val (.int z4), .val (.int (p6 + (3 : Int32))), .val (.int ((p6 + y1) - (1 : Int32)))]) (argsL := [(.int (z4 - (1 : Int32)))]) (rest := []) rfl (by rw [hml]; rfl) pd_5 rfl rfl (hb hby at_328) 0 (Nat.le_of_eq rfl) (by decide) (by decide) (by decide) (by decide)
            obtain ⟨rfl, hh22, rfl⟩ := qq22
            refine own_go st22 ?_
            show own_Go p e below _ (T22.setTop (mkF m 331 #[.val (.int p1), .val (.int p2), .val (.int p3), .val (.int p4), .val (.int p5), .val (.int p6), .val (.int x1), .val (.int x2), .val (.int y1), .val (.int y2), .val (.int xq), .val (.int dv), .val (.ref o), .val (.int ev), .val (.int z3), .val (.int z4), .val (.int (p6 + (3 : Int32))), .val (.int ((p6 + y1) - (1 : Int32)))] [(.int (ac (sv + (cnt q - 1))))]))
            refine own_go (fun tt kk => XS.iload X22.here hx rfl (hb hby at_331) rfl kk) ?_
            show own_Go p e below _ (T22.setTop (mkF m 333 #[.val (.int p1), .val (.int p2), .val (.int p3), .val (.int p4), .val (.int p5), .val (.int p6), .val (.int x1), .val (.int x2), .val (.int y1), .val (.int y2), .val (.int xq), .val (.int dv), .val (.ref o), .val (.int ev), .val (.int z3), .val (.int z4), .val (.int (p6 + (3 : Int32))), .val (.int ((p6 + y1) - (1 : Int32)))] [(.int ((p6 + y1) - (1 : Int32))), (.int (ac (sv + (cnt q - 1))))]))
            refine own_go (fun tt kk => XS.icmpNo X22.here hx rfl (hb hby at_333) rfl (teq (own_eq32 (x := (ac (sv + (cnt q - 1)))) (y := ((p6 + y1) - (1 : Int32))) (i := (ac (sv + (cnt q - 1))).toInt) (j := ((p6 + y1) - (1 : Int32)).toInt) rfl rfl (by rw [C2]))).2 kk) ?_
            show own_Go p e below _ (T22.setTop (mkF m 336 #[.val (.int p1), .val (.int p2), .val (.int p3), .val (.int p4), .val (.int p5), .val (.int p6), .val (.int x1), .val (.int x2), .val (.int y1), .val (.int y2), .val (.int xq), .val (.int dv), .val (.ref o), .val (.int ev), .val (.int z3), .val (.int z4), .val (.int (p6 + (3 : Int32))), .val (.int ((p6 + y1) - (1 : Int32)))] []))
            refine own_go (fun tt kk => XS.iconst X22.here hx rfl (hb hby at_336) kk) ?_
            show own_Go p e below _ (T22.setTop (mkF m 337 #[.val (.int p1), .val (.int p2), .val (.int p3), .val (.int p4), .val (.int p5), .val (.int p6), .val (.int x1), .val (.int x2), .val (.int y1), .val (.int y2), .val (.int xq), .val (.int dv), .val (.ref o), .val (.int ev), .val (.int z3), .val (.int z4), .val (.int (p6 + (3 : Int32))), .val (.int ((p6 + y1) - (1 : Int32)))] [(.int (1 : Int32))]))
            refine own_go (fun tt kk => XS.goto X22.here hx rfl (pc0 := 337) (pc' := 341) rfl (hb hby at_337) (by decide) (by decide) kk) ?_
            show own_Go p e below _ (T22.setTop (mkF m 341 #[.val (.int p1), .val (.int p2), .val (.int p3), .val (.int p4), .val (.int p5), .val (.int p6), .val (.int x1), .val (.int x2), .val (.int y1), .val (.int y2), .val (.int xq), .val (.int dv), .val (.ref o), .val (.int ev), .val (.int z3), .val (.int z4), .val (.int (p6 + (3 : Int32))), .val (.int ((p6 + y1) - (1 : Int32)))] [(.int (1 : Int32))]))
            exact own_retZ X22 hx hlk hret (by decide) (hb hby at_341) ⟨rfl, (Fr.app (Fr.app (Fr.app (Fr.app Nl (Fr.nil _)) (Fr.nil _)) (Fr.nil _)) (Fr.nil _))⟩ (by decide) (by decide)
    · refine own_go (fun tt kk => XS.ifYes X4.here hx rfl (pc0 := 246) (pc' := 254) rfl (hb hby at_246) rfl ((if0 _ _).trans (feq (own_neq32 (x := dv) (y := (0 : Int32)) (i := dv.toInt) (j := 0) rfl rfl hc246)).2) (by decide) (by decide) kk) ?_
      show own_Go p e below _ (T4.setTop (mkF m 254 #[.val (.int p1), .val (.int p2), .val (.int p3), .val (.int p4), .val (.int p5), .val (.int p6), .val (.int x1), .val (.int x2), .val (.int y1), .val (.int y2), .val (.int xq), .val (.int dv), .val (.ref o), .val (.int ev), .val (.int z3), .val (.int z4), .unset, .unset] []))
      refine own_go (fun tt kk => XS.iconst X4.here hx rfl (hb hby at_254) kk) ?_
      show own_Go p e below _ (T4.setTop (mkF m 255 #[.val (.int p1), .val (.int p2), .val (.int p3), .val (.int p4), .val (.int p5), .val (.int p6), .val (.int x1), .val (.int x2), .val (.int y1), .val (.int y2), .val (.int xq), .val (.int dv), .val (.ref o), .val (.int ev), .val (.int z3), .val (.int z4), .unset, .unset] [(.int (1 : Int32))]))
      exact own_retZ X4 hx hlk hret (by decide) (hb hby at_255) ⟨rfl, (Fr.app (Fr.app Nl (Fr.nil _)) (Fr.nil _))⟩ (by decide) (by decide)
  have J162 : ∀ (T : State) (h : Heap) (locs : List Loc) (cnt : Nat → Nat) (LA LB : Nat → Nat → Int32) (u : Nat), Stand p l e room_1 s m #[(.int p1), (.int p2), (.int p3), (.int p4), (.int p5), (.int p6)] below meth c T locs 21 375 → T.heap = h → own_EL Z h0.size h o cnt LA LB u → u ≤ 64 → (∀ i, cnt i = (if i = s1 then n1 else 0) + (if i = s2 then n2 else 0) - (if dv.toInt = 1 ∧ i = s1 then 1 else 0)) → (dv.toInt = 0 → 0 < cnt q → LA q 0 = (if q = s1 ∧ 0 < n1 then p6 else p6 + 3) ∧ LA q (cnt q - 1) = (if q = s2 ∧ 0 < n2 then p6 + 2 + y2 else p6 + y1 - 1)) → Fr h0.size locs → own_Go p e below (own_End below s (fun v h L => v = some (.int 1) ∧ Fr h0.size L) room_1.cells room_1.slots) (T.setTop (mkF m 162 #[.val (.int p1), .val (.int p2), .val (.int p3), .val (.int p4), .val (.int p5), .val (.int p6), .val (.int x1), .val (.int x2), .val (.int y1), .val (.int y2), .val (.int xq), .val (.int dv), .val (.ref o), .unset, .unset, .unset, .unset, .unset] [])) := by
    intro T h locs cnt LA LB u X e1 EA hu hcn hco Nl
    have hcq := hcn q
    have o32 : (1 : Int32).toInt = 1 := rfl
    have z32 : (0 : Int32).toInt = 0 := rfl
    show own_Go p e below _ (T.setTop (mkF m 162 #[.val (.int p1), .val (.int p2), .val (.int p3), .val (.int p4), .val (.int p5), .val (.int p6), .val (.int x1), .val (.int x2), .val (.int y1), .val (.int y2), .val (.int xq), .val (.int dv), .val (.ref o), .unset, .unset, .unset, .unset, .unset] []))
    refine own_go (fun tt kk => XS.iload X.here hx rfl (hb hby at_162) rfl kk) ?_
    show own_Go p e below _ (T.setTop (mkF m 164 #[.val (.int p1), .val (.int p2), .val (.int p3), .val (.int p4), .val (.int p5), .val (.int p6), .val (.int x1), .val (.int x2), .val (.int y1), .val (.int y2), .val (.int xq), .val (.int dv), .val (.ref o), .unset, .unset, .unset, .unset, .unset] [(.int xq)]))
    refine own_go (fun tt kk => XS.iload X.here hx rfl (hb hby at_164) rfl kk) ?_
    show own_Go p e below _ (T.setTop (mkF m 166 #[.val (.int p1), .val (.int p2), .val (.int p3), .val (.int p4), .val (.int p5), .val (.int p6), .val (.int x1), .val (.int x2), .val (.int y1), .val (.int y2), .val (.int xq), .val (.int dv), .val (.ref o), .unset, .unset, .unset, .unset, .unset] [(.int x1), (.int xq)]))
    by_cases hc166 : xq.toInt = x1.toInt
    · refine own_go (fun tt kk => XS.icmpNo X.here hx rfl (hb hby at_166) rfl (teq (own_eq32 (x := xq) (y := x1) (i := xq.toInt) (j := x1.toInt) rfl rfl hc166)).2 kk) ?_
      show own_Go p e below _ (T.setTop (mkF m 169 #[.val (.int p1), .val (.int p2), .val (.int p3), .val (.int p4), .val (.int p5), .val (.int p6), .val (.int x1), .val (.int x2), .val (.int y1), .val (.int y2), .val (.int xq), .val (.int dv), .val (.ref o), .unset, .unset, .unset, .unset, .unset] []))
      refine own_go (fun tt kk => XS.iload X.here hx rfl (hb hby at_169) rfl kk) ?_
      show own_Go p e below _ (T.setTop (mkF m 171 #[.val (.int p1), .val (.int p2), .val (.int p3), .val (.int p4), .val (.int p5), .val (.int p6), .val (.int x1), .val (.int x2), .val (.int y1), .val (.int y2), .val (.int xq), .val (.int dv), .val (.ref o), .unset, .unset, .unset, .unset, .unset] [(.int y1)]))
      refine own_go (fun tt kk => XS.goto X.here hx rfl (pc0 := 171) (pc' := 175) rfl (hb hby at_171) (by decide) (by decide) kk) ?_
      show own_Go p e below _ (T.setTop (mkF m 175 #[.val (.int p1), .val (.int p2), .val (.int p3), .val (.int p4), .val (.int p5), .val (.int p6), .val (.int x1), .val (.int x2), .val (.int y1), .val (.int y2), .val (.int xq), .val (.int dv), .val (.ref o), .unset, .unset, .unset, .unset, .unset] [(.int y1)]))
      refine own_go (fun tt kk => XS.iload X.here hx rfl (hb hby at_175) rfl kk) ?_
      show own_Go p e below _ (T.setTop (mkF m 177 #[.val (.int p1), .val (.int p2), .val (.int p3), .val (.int p4), .val (.int p5), .val (.int p6), .val (.int x1), .val (.int x2), .val (.int y1), .val (.int y2), .val (.int xq), .val (.int dv), .val (.ref o), .unset, .unset, .unset, .unset, .unset] [(.int xq), (.int y1)]))
      refine own_go (fun tt kk => XS.iload X.here hx rfl (hb hby at_177) rfl kk) ?_
      show own_Go p e below _ (T.setTop (mkF m 179 #[.val (.int p1), .val (.int p2), .val (.int p3), .val (.int p4), .val (.int p5), .val (.int p6), .val (.int x1), .val (.int x2), .val (.int y1), .val (.int y2), .val (.int xq), .val (.int dv), .val (.ref o), .unset, .unset, .unset, .unset, .unset] [(.int x2), (.int xq), (.int y1)]))
      by_cases hc179 : xq.toInt = x2.toInt
      · refine own_go (fun tt kk => XS.icmpNo X.here hx rfl (hb hby at_179) rfl (teq (own_eq32 (x := xq) (y := x2) (i := xq.toInt) (j := x2.toInt) rfl rfl hc179)).2 kk) ?_
        show own_Go p e below _ (T.setTop (mkF m 182 #[.val (.int p1), .val (.int p2), .val (.int p3), .val (.int p4), .val (.int p5), .val (.int p6), .val (.int x1), .val (.int x2), .val (.int y1), .val (.int y2), .val (.int xq), .val (.int dv), .val (.ref o), .unset, .unset, .unset, .unset, .unset] [(.int y1)]))
        refine own_go (fun tt kk => XS.iload X.here hx rfl (hb hby at_182) rfl kk) ?_
        show own_Go p e below _ (T.setTop (mkF m 184 #[.val (.int p1), .val (.int p2), .val (.int p3), .val (.int p4), .val (.int p5), .val (.int p6), .val (.int x1), .val (.int x2), .val (.int y1), .val (.int y2), .val (.int xq), .val (.int dv), .val (.ref o), .unset, .unset, .unset, .unset, .unset] [(.int y2), (.int y1)]))
        refine own_go (fun tt kk => XS.goto X.here hx rfl (pc0 := 184) (pc' := 188) rfl (hb hby at_184) (by decide) (by decide) kk) ?_
        show own_Go p e below _ (T.setTop (mkF m 188 #[.val (.int p1), .val (.int p2), .val (.int p3), .val (.int p4), .val (.int p5), .val (.int p6), .val (.int x1), .val (.int x2), .val (.int y1), .val (.int y2), .val (.int xq), .val (.int dv), .val (.ref o), .unset, .unset, .unset, .unset, .unset] [(.int y2), (.int y1)]))
        refine own_go (fun tt kk => XS.iadd X.here hx rfl (hb hby at_188) rfl kk) ?_
        show own_Go p e below _ (T.setTop (mkF m 189 #[.val (.int p1), .val (.int p2), .val (.int p3), .val (.int p4), .val (.int p5), .val (.int p6), .val (.int x1), .val (.int x2), .val (.int y1), .val (.int y2), .val (.int xq), .val (.int dv), .val (.ref o), .unset, .unset, .unset, .unset, .unset] [(.int (y1 + y2))]))
        refine own_go (fun tt kk => XS.iload X.here hx rfl (hb hby at_189) rfl kk) ?_
        show own_Go p e below _ (T.setTop (mkF m 191 #[.val (.int p1), .val (.int p2), .val (.int p3), .val (.int p4), .val (.int p5), .val (.int p6), .val (.int x1), .val (.int x2), .val (.int y1), .val (.int y2), .val (.int xq), .val (.int dv), .val (.ref o), .unset, .unset, .unset, .unset, .unset] [(.int dv), (.int (y1 + y2))]))
        by_cases hc191 : dv.toInt = 0
        · refine own_go (fun tt kk => XS.ifYes X.here hx rfl (pc0 := 191) (pc' := 205) rfl (hb hby at_191) rfl ((if0 _ _).trans (teq (own_eq32 (x := dv) (y := (0 : Int32)) (i := dv.toInt) (j := 0) rfl rfl hc191)).1) (by decide) (by decide) kk) ?_
          show own_Go p e below _ (T.setTop (mkF m 205 #[.val (.int p1), .val (.int p2), .val (.int p3), .val (.int p4), .val (.int p5), .val (.int p6), .val (.int x1), .val (.int x2), .val (.int y1), .val (.int y2), .val (.int xq), .val (.int dv), .val (.ref o), .unset, .unset, .unset, .unset, .unset] [(.int (y1 + y2))]))
          refine own_go (fun tt kk => XS.iconst X.here hx rfl (hb hby at_205) kk) ?_
          show own_Go p e below _ (T.setTop (mkF m 206 #[.val (.int p1), .val (.int p2), .val (.int p3), .val (.int p4), .val (.int p5), .val (.int p6), .val (.int x1), .val (.int x2), .val (.int y1), .val (.int y2), .val (.int xq), .val (.int dv), .val (.ref o), .unset, .unset, .unset, .unset, .unset] [(.int (0 : Int32)), (.int (y1 + y2))]))
          refine own_go (fun tt kk => XS.isub X.here hx rfl (hb hby at_206) rfl kk) ?_
          show own_Go p e below _ (T.setTop (mkF m 207 #[.val (.int p1), .val (.int p2), .val (.int p3), .val (.int p4), .val (.int p5), .val (.int p6), .val (.int x1), .val (.int x2), .val (.int y1), .val (.int y2), .val (.int xq), .val (.int dv), .val (.ref o), .unset, .unset, .unset, .unset, .unset] [(.int ((y1 + y2) - (0 : Int32)))]))
          refine own_go (fun tt kk => XS.istore X.here hx rfl (hb hby at_207) rfl (l' := #[.val (.int p1), .val (.int p2), .val (.int p3), .val (.int p4), .val (.int p5), .val (.int p6), .val (.int x1), .val (.int x2), .val (.int y1), .val (.int y2), .val (.int xq), .val (.int dv), .val (.ref o), .val (.int ((y1 + y2) - (0 : Int32))), .unset, .unset, .unset, .unset]) rfl kk) ?_
          show own_Go p e below _ (T.setTop (mkF m 209 #[.val (.int p1), .val (.int p2), .val (.int p3), .val (.int p4), .val (.int p5), .val (.int p6), .val (.int x1), .val (.int x2), .val (.int y1), .val (.int y2), .val (.int xq), .val (.int dv), .val (.ref o), .val (.int ((y1 + y2) - (0 : Int32))), .unset, .unset, .unset, .unset] []))
          have u1 := c_iadd y1 y2
          have u2 := rng32 (y1 + y2)
          have u3 := c_isub (y1 + y2) (0 : Int32)
          have u4 := rng32 ((y1 + y2) - (0 : Int32))
          exact J209 _ _ h locs cnt LA LB u X e1 EA hu (by (repeat' split at hcq) <;> omega) hco Nl
        · refine own_go (fun tt kk => XS.ifNo X.here hx rfl (hb hby at_191) rfl ((if0 _ _).trans (feq (own_neq32 (x := dv) (y := (0 : Int32)) (i := dv.toInt) (j := 0) rfl rfl hc191)).1) kk) ?_
          show own_Go p e below _ (T.setTop (mkF m 194 #[.val (.int p1), .val (.int p2), .val (.int p3), .val (.int p4), .val (.int p5), .val (.int p6), .val (.int x1), .val (.int x2), .val (.int y1), .val (.int y2), .val (.int xq), .val (.int dv), .val (.ref o), .unset, .unset, .unset, .unset, .unset] [(.int (y1 + y2))]))
          refine own_go (fun tt kk => XS.iload X.here hx rfl (hb hby at_194) rfl kk) ?_
          show own_Go p e below _ (T.setTop (mkF m 196 #[.val (.int p1), .val (.int p2), .val (.int p3), .val (.int p4), .val (.int p5), .val (.int p6), .val (.int x1), .val (.int x2), .val (.int y1), .val (.int y2), .val (.int xq), .val (.int dv), .val (.ref o), .unset, .unset, .unset, .unset, .unset] [(.int xq), (.int (y1 + y2))]))
          refine own_go (fun tt kk => XS.iload X.here hx rfl (hb hby at_196) rfl kk) ?_
          show own_Go p e below _ (T.setTop (mkF m 198 #[.val (.int p1), .val (.int p2), .val (.int p3), .val (.int p4), .val (.int p5), .val (.int p6), .val (.int x1), .val (.int x2), .val (.int y1), .val (.int y2), .val (.int xq), .val (.int dv), .val (.ref o), .unset, .unset, .unset, .unset, .unset] [(.int x1), (.int xq), (.int (y1 + y2))]))
          by_cases hc198 : xq.toInt = x1.toInt
          · refine own_go (fun tt kk => XS.icmpNo X.here hx rfl (hb hby at_198) rfl (teq (own_eq32 (x := xq) (y := x1) (i := xq.toInt) (j := x1.toInt) rfl rfl hc198)).2 kk) ?_
            show own_Go p e below _ (T.setTop (mkF m 201 #[.val (.int p1), .val (.int p2), .val (.int p3), .val (.int p4), .val (.int p5), .val (.int p6), .val (.int x1), .val (.int x2), .val (.int y1), .val (.int y2), .val (.int xq), .val (.int dv), .val (.ref o), .unset, .unset, .unset, .unset, .unset] [(.int (y1 + y2))]))
            refine own_go (fun tt kk => XS.iconst X.here hx rfl (hb hby at_201) kk) ?_
            show own_Go p e below _ (T.setTop (mkF m 202 #[.val (.int p1), .val (.int p2), .val (.int p3), .val (.int p4), .val (.int p5), .val (.int p6), .val (.int x1), .val (.int x2), .val (.int y1), .val (.int y2), .val (.int xq), .val (.int dv), .val (.ref o), .unset, .unset, .unset, .unset, .unset] [(.int (1 : Int32)), (.int (y1 + y2))]))
            refine own_go (fun tt kk => XS.goto X.here hx rfl (pc0 := 202) (pc' := 206) rfl (hb hby at_202) (by decide) (by decide) kk) ?_
            show own_Go p e below _ (T.setTop (mkF m 206 #[.val (.int p1), .val (.int p2), .val (.int p3), .val (.int p4), .val (.int p5), .val (.int p6), .val (.int x1), .val (.int x2), .val (.int y1), .val (.int y2), .val (.int xq), .val (.int dv), .val (.ref o), .unset, .unset, .unset, .unset, .unset] [(.int (1 : Int32)), (.int (y1 + y2))]))
            refine own_go (fun tt kk => XS.isub X.here hx rfl (hb hby at_206) rfl kk) ?_
            show own_Go p e below _ (T.setTop (mkF m 207 #[.val (.int p1), .val (.int p2), .val (.int p3), .val (.int p4), .val (.int p5), .val (.int p6), .val (.int x1), .val (.int x2), .val (.int y1), .val (.int y2), .val (.int xq), .val (.int dv), .val (.ref o), .unset, .unset, .unset, .unset, .unset] [(.int ((y1 + y2) - (1 : Int32)))]))
            refine own_go (fun tt kk => XS.istore X.here hx rfl (hb hby at_207) rfl (l' := #[.val (.int p1), .val (.int p2), .val (.int p3), .val (.int p4), .val (.int p5), .val (.int p6), .val (.int x1), .val (.int x2), .val (.int y1), .val (.int y2), .val (.int xq), .val (.int dv), .val (.ref o), .val (.int ((y1 + y2) - (1 : Int32))), .unset, .unset, .unset, .unset]) rfl kk) ?_
            show own_Go p e below _ (T.setTop (mkF m 209 #[.val (.int p1), .val (.int p2), .val (.int p3), .val (.int p4), .val (.int p5), .val (.int p6), .val (.int x1), .val (.int x2), .val (.int y1), .val (.int y2), .val (.int xq), .val (.int dv), .val (.ref o), .val (.int ((y1 + y2) - (1 : Int32))), .unset, .unset, .unset, .unset] []))
            have u1 := c_iadd y1 y2
            have u2 := rng32 (y1 + y2)
            have u3 := c_isub (y1 + y2) (1 : Int32)
            have u4 := rng32 ((y1 + y2) - (1 : Int32))
            exact J209 _ _ h locs cnt LA LB u X e1 EA hu (by (repeat' split at hcq) <;> omega) hco Nl
          · refine own_go (fun tt kk => XS.icmpYes X.here hx rfl (pc0 := 198) (pc' := 205) rfl (hb hby at_198) rfl (feq (own_neq32 (x := xq) (y := x1) (i := xq.toInt) (j := x1.toInt) rfl rfl hc198)).2 (by decide) (by decide) kk) ?_
            show own_Go p e below _ (T.setTop (mkF m 205 #[.val (.int p1), .val (.int p2), .val (.int p3), .val (.int p4), .val (.int p5), .val (.int p6), .val (.int x1), .val (.int x2), .val (.int y1), .val (.int y2), .val (.int xq), .val (.int dv), .val (.ref o), .unset, .unset, .unset, .unset, .unset] [(.int (y1 + y2))]))
            refine own_go (fun tt kk => XS.iconst X.here hx rfl (hb hby at_205) kk) ?_
            show own_Go p e below _ (T.setTop (mkF m 206 #[.val (.int p1), .val (.int p2), .val (.int p3), .val (.int p4), .val (.int p5), .val (.int p6), .val (.int x1), .val (.int x2), .val (.int y1), .val (.int y2), .val (.int xq), .val (.int dv), .val (.ref o), .unset, .unset, .unset, .unset, .unset] [(.int (0 : Int32)), (.int (y1 + y2))]))
            refine own_go (fun tt kk => XS.isub X.here hx rfl (hb hby at_206) rfl kk) ?_
            show own_Go p e below _ (T.setTop (mkF m 207 #[.val (.int p1), .val (.int p2), .val (.int p3), .val (.int p4), .val (.int p5), .val (.int p6), .val (.int x1), .val (.int x2), .val (.int y1), .val (.int y2), .val (.int xq), .val (.int dv), .val (.ref o), .unset, .unset, .unset, .unset, .unset] [(.int ((y1 + y2) - (0 : Int32)))]))
            refine own_go (fun tt kk => XS.istore X.here hx rfl (hb hby at_207) rfl (l' := #[.val (.int p1), .val (.int p2), .val (.int p3), .val (.int p4), .val (.int p5), .val (.int p6), .val (.int x1), .val (.int x2), .val (.int y1), .val (.int y2), .val (.int xq), .val (.int dv), .val (.ref o), .val (.int ((y1 + y2) - (0 : Int32))), .unset, .unset, .unset, .unset]) rfl kk) ?_
            show own_Go p e below _ (T.setTop (mkF m 209 #[.val (.int p1), .val (.int p2), .val (.int p3), .val (.int p4), .val (.int p5), .val (.int p6), .val (.int x1), .val (.int x2), .val (.int y1), .val (.int y2), .val (.int xq), .val (.int dv), .val (.ref o), .val (.int ((y1 + y2) - (0 : Int32))), .unset, .unset, .unset, .unset] []))
            have u1 := c_iadd y1 y2
            have u2 := rng32 (y1 + y2)
            have u3 := c_isub (y1 + y2) (0 : Int32)
            have u4 := rng32 ((y1 + y2) - (0 : Int32))
            exact J209 _ _ h locs cnt LA LB u X e1 EA hu (by (repeat' split at hcq) <;> omega) hco Nl
      · refine own_go (fun tt kk => XS.icmpYes X.here hx rfl (pc0 := 179) (pc' := 187) rfl (hb hby at_179) rfl (feq (own_neq32 (x := xq) (y := x2) (i := xq.toInt) (j := x2.toInt) rfl rfl hc179)).2 (by decide) (by decide) kk) ?_
        show own_Go p e below _ (T.setTop (mkF m 187 #[.val (.int p1), .val (.int p2), .val (.int p3), .val (.int p4), .val (.int p5), .val (.int p6), .val (.int x1), .val (.int x2), .val (.int y1), .val (.int y2), .val (.int xq), .val (.int dv), .val (.ref o), .unset, .unset, .unset, .unset, .unset] [(.int y1)]))
        refine own_go (fun tt kk => XS.iconst X.here hx rfl (hb hby at_187) kk) ?_
        show own_Go p e below _ (T.setTop (mkF m 188 #[.val (.int p1), .val (.int p2), .val (.int p3), .val (.int p4), .val (.int p5), .val (.int p6), .val (.int x1), .val (.int x2), .val (.int y1), .val (.int y2), .val (.int xq), .val (.int dv), .val (.ref o), .unset, .unset, .unset, .unset, .unset] [(.int (0 : Int32)), (.int y1)]))
        refine own_go (fun tt kk => XS.iadd X.here hx rfl (hb hby at_188) rfl kk) ?_
        show own_Go p e below _ (T.setTop (mkF m 189 #[.val (.int p1), .val (.int p2), .val (.int p3), .val (.int p4), .val (.int p5), .val (.int p6), .val (.int x1), .val (.int x2), .val (.int y1), .val (.int y2), .val (.int xq), .val (.int dv), .val (.ref o), .unset, .unset, .unset, .unset, .unset] [(.int (y1 + (0 : Int32)))]))
        refine own_go (fun tt kk => XS.iload X.here hx rfl (hb hby at_189) rfl kk) ?_
        show own_Go p e below _ (T.setTop (mkF m 191 #[.val (.int p1), .val (.int p2), .val (.int p3), .val (.int p4), .val (.int p5), .val (.int p6), .val (.int x1), .val (.int x2), .val (.int y1), .val (.int y2), .val (.int xq), .val (.int dv), .val (.ref o), .unset, .unset, .unset, .unset, .unset] [(.int dv), (.int (y1 + (0 : Int32)))]))
        by_cases hc191 : dv.toInt = 0
        · refine own_go (fun tt kk => XS.ifYes X.here hx rfl (pc0 := 191) (pc' := 205) rfl (hb hby at_191) rfl ((if0 _ _).trans (teq (own_eq32 (x := dv) (y := (0 : Int32)) (i := dv.toInt) (j := 0) rfl rfl hc191)).1) (by decide) (by decide) kk) ?_
          show own_Go p e below _ (T.setTop (mkF m 205 #[.val (.int p1), .val (.int p2), .val (.int p3), .val (.int p4), .val (.int p5), .val (.int p6), .val (.int x1), .val (.int x2), .val (.int y1), .val (.int y2), .val (.int xq), .val (.int dv), .val (.ref o), .unset, .unset, .unset, .unset, .unset] [(.int (y1 + (0 : Int32)))]))
          refine own_go (fun tt kk => XS.iconst X.here hx rfl (hb hby at_205) kk) ?_
          show own_Go p e below _ (T.setTop (mkF m 206 #[.val (.int p1), .val (.int p2), .val (.int p3), .val (.int p4), .val (.int p5), .val (.int p6), .val (.int x1), .val (.int x2), .val (.int y1), .val (.int y2), .val (.int xq), .val (.int dv), .val (.ref o), .unset, .unset, .unset, .unset, .unset] [(.int (0 : Int32)), (.int (y1 + (0 : Int32)))]))
          refine own_go (fun tt kk => XS.isub X.here hx rfl (hb hby at_206) rfl kk) ?_
          show own_Go p e below _ (T.setTop (mkF m 207 #[.val (.int p1), .val (.int p2), .val (.int p3), .val (.int p4), .val (.int p5), .val (.int p6), .val (.int x1), .val (.int x2), .val (.int y1), .val (.int y2), .val (.int xq), .val (.int dv), .val (.ref o), .unset, .unset, .unset, .unset, .unset] [(.int ((y1 + (0 : Int32)) - (0 : Int32)))]))
          refine own_go (fun tt kk => XS.istore X.here hx rfl (hb hby at_207) rfl (l' := #[.val (.int p1), .val (.int p2), .val (.int p3), .val (.int p4), .val (.int p5), .val (.int p6), .val (.int x1), .val (.int x2), .val (.int y1), .val (.int y2), .val (.int xq), .val (.int dv), .val (.ref o), .val (.int ((y1 + (0 : Int32)) - (0 : Int32))), .unset, .unset, .unset, .unset]) rfl kk) ?_
          show own_Go p e below _ (T.setTop (mkF m 209 #[.val (.int p1), .val (.int p2), .val (.int p3), .val (.int p4), .val (.int p5), .val (.int p6), .val (.int x1), .val (.int x2), .val (.int y1), .val (.int y2), .val (.int xq), .val (.int dv), .val (.ref o), .val (.int ((y1 + (0 : Int32)) - (0 : Int32))), .unset, .unset, .unset, .unset] []))
          have u1 := c_iadd y1 (0 : Int32)
          have u2 := rng32 (y1 + (0 : Int32))
          have u3 := c_isub (y1 + (0 : Int32)) (0 : Int32)
          have u4 := rng32 ((y1 + (0 : Int32)) - (0 : Int32))
          exact J209 _ _ h locs cnt LA LB u X e1 EA hu (by (repeat' split at hcq) <;> omega) hco Nl
        · refine own_go (fun tt kk => XS.ifNo X.here hx rfl (hb hby at_191) rfl ((if0 _ _).trans (feq (own_neq32 (x := dv) (y := (0 : Int32)) (i := dv.toInt) (j := 0) rfl rfl hc191)).1) kk) ?_
          show own_Go p e below _ (T.setTop (mkF m 194 #[.val (.int p1), .val (.int p2), .val (.int p3), .val (.int p4), .val (.int p5), .val (.int p6), .val (.int x1), .val (.int x2), .val (.int y1), .val (.int y2), .val (.int xq), .val (.int dv), .val (.ref o), .unset, .unset, .unset, .unset, .unset] [(.int (y1 + (0 : Int32)))]))
          refine own_go (fun tt kk => XS.iload X.here hx rfl (hb hby at_194) rfl kk) ?_
          show own_Go p e below _ (T.setTop (mkF m 196 #[.val (.int p1), .val (.int p2), .val (.int p3), .val (.int p4), .val (.int p5), .val (.int p6), .val (.int x1), .val (.int x2), .val (.int y1), .val (.int y2), .val (.int xq), .val (.int dv), .val (.ref o), .unset, .unset, .unset, .unset, .unset] [(.int xq), (.int (y1 + (0 : Int32)))]))
          refine own_go (fun tt kk => XS.iload X.here hx rfl (hb hby at_196) rfl kk) ?_
          show own_Go p e below _ (T.setTop (mkF m 198 #[.val (.int p1), .val (.int p2), .val (.int p3), .val (.int p4), .val (.int p5), .val (.int p6), .val (.int x1), .val (.int x2), .val (.int y1), .val (.int y2), .val (.int xq), .val (.int dv), .val (.ref o), .unset, .unset, .unset, .unset, .unset] [(.int x1), (.int xq), (.int (y1 + (0 : Int32)))]))
          by_cases hc198 : xq.toInt = x1.toInt
          · refine own_go (fun tt kk => XS.icmpNo X.here hx rfl (hb hby at_198) rfl (teq (own_eq32 (x := xq) (y := x1) (i := xq.toInt) (j := x1.toInt) rfl rfl hc198)).2 kk) ?_
            show own_Go p e below _ (T.setTop (mkF m 201 #[.val (.int p1), .val (.int p2), .val (.int p3), .val (.int p4), .val (.int p5), .val (.int p6), .val (.int x1), .val (.int x2), .val (.int y1), .val (.int y2), .val (.int xq), .val (.int dv), .val (.ref o), .unset, .unset, .unset, .unset, .unset] [(.int (y1 + (0 : Int32)))]))
            refine own_go (fun tt kk => XS.iconst X.here hx rfl (hb hby at_201) kk) ?_
            show own_Go p e below _ (T.setTop (mkF m 202 #[.val (.int p1), .val (.int p2), .val (.int p3), .val (.int p4), .val (.int p5), .val (.int p6), .val (.int x1), .val (.int x2), .val (.int y1), .val (.int y2), .val (.int xq), .val (.int dv), .val (.ref o), .unset, .unset, .unset, .unset, .unset] [(.int (1 : Int32)), (.int (y1 + (0 : Int32)))]))
            refine own_go (fun tt kk => XS.goto X.here hx rfl (pc0 := 202) (pc' := 206) rfl (hb hby at_202) (by decide) (by decide) kk) ?_
            show own_Go p e below _ (T.setTop (mkF m 206 #[.val (.int p1), .val (.int p2), .val (.int p3), .val (.int p4), .val (.int p5), .val (.int p6), .val (.int x1), .val (.int x2), .val (.int y1), .val (.int y2), .val (.int xq), .val (.int dv), .val (.ref o), .unset, .unset, .unset, .unset, .unset] [(.int (1 : Int32)), (.int (y1 + (0 : Int32)))]))
            refine own_go (fun tt kk => XS.isub X.here hx rfl (hb hby at_206) rfl kk) ?_
            show own_Go p e below _ (T.setTop (mkF m 207 #[.val (.int p1), .val (.int p2), .val (.int p3), .val (.int p4), .val (.int p5), .val (.int p6), .val (.int x1), .val (.int x2), .val (.int y1), .val (.int y2), .val (.int xq), .val (.int dv), .val (.ref o), .unset, .unset, .unset, .unset, .unset] [(.int ((y1 + (0 : Int32)) - (1 : Int32)))]))
            refine own_go (fun tt kk => XS.istore X.here hx rfl (hb hby at_207) rfl (l' := #[.val (.int p1), .val (.int p2), .val (.int p3), .val (.int p4), .val (.int p5), .val (.int p6), .val (.int x1), .val (.int x2), .val (.int y1), .val (.int y2), .val (.int xq), .val (.int dv), .val (.ref o), .val (.int ((y1 + (0 : Int32)) - (1 : Int32))), .unset, .unset, .unset, .unset]) rfl kk) ?_
            show own_Go p e below _ (T.setTop (mkF m 209 #[.val (.int p1), .val (.int p2), .val (.int p3), .val (.int p4), .val (.int p5), .val (.int p6), .val (.int x1), .val (.int x2), .val (.int y1), .val (.int y2), .val (.int xq), .val (.int dv), .val (.ref o), .val (.int ((y1 + (0 : Int32)) - (1 : Int32))), .unset, .unset, .unset, .unset] []))
            have u1 := c_iadd y1 (0 : Int32)
            have u2 := rng32 (y1 + (0 : Int32))
            have u3 := c_isub (y1 + (0 : Int32)) (1 : Int32)
            have u4 := rng32 ((y1 + (0 : Int32)) - (1 : Int32))
            exact J209 _ _ h locs cnt LA LB u X e1 EA hu (by (repeat' split at hcq) <;> omega) hco Nl
          · refine own_go (fun tt kk => XS.icmpYes X.here hx rfl (pc0 := 198) (pc' := 205) rfl (hb hby at_198) rfl (feq (own_neq32 (x := xq) (y := x1) (i := xq.toInt) (j := x1.toInt) rfl rfl hc198)).2 (by decide) (by decide) kk) ?_
            show own_Go p e below _ (T.setTop (mkF m 205 #[.val (.int p1), .val (.int p2), .val (.int p3), .val (.int p4), .val (.int p5), .val (.int p6), .val (.int x1), .val (.int x2), .val (.int y1), .val (.int y2), .val (.int xq), .val (.int dv), .val (.ref o), .unset, .unset, .unset, .unset, .unset] [(.int (y1 + (0 : Int32)))]))
            refine own_go (fun tt kk => XS.iconst X.here hx rfl (hb hby at_205) kk) ?_
            show own_Go p e below _ (T.setTop (mkF m 206 #[.val (.int p1), .val (.int p2), .val (.int p3), .val (.int p4), .val (.int p5), .val (.int p6), .val (.int x1), .val (.int x2), .val (.int y1), .val (.int y2), .val (.int xq), .val (.int dv), .val (.ref o), .unset, .unset, .unset, .unset, .unset] [(.int (0 : Int32)), (.int (y1 + (0 : Int32)))]))
            refine own_go (fun tt kk => XS.isub X.here hx rfl (hb hby at_206) rfl kk) ?_
            show own_Go p e below _ (T.setTop (mkF m 207 #[.val (.int p1), .val (.int p2), .val (.int p3), .val (.int p4), .val (.int p5), .val (.int p6), .val (.int x1), .val (.int x2), .val (.int y1), .val (.int y2), .val (.int xq), .val (.int dv), .val (.ref o), .unset, .unset, .unset, .unset, .unset] [(.int ((y1 + (0 : Int32)) - (0 : Int32)))]))
            refine own_go (fun tt kk => XS.istore X.here hx rfl (hb hby at_207) rfl (l' := #[.val (.int p1), .val (.int p2), .val (.int p3), .val (.int p4), .val (.int p5), .val (.int p6), .val (.int x1), .val (.int x2), .val (.int y1), .val (.int y2), .val (.int xq), .val (.int dv), .val (.ref o), .val (.int ((y1 + (0 : Int32)) - (0 : Int32))), .unset, .unset, .unset, .unset]) rfl kk) ?_
            show own_Go p e below _ (T.setTop (mkF m 209 #[.val (.int p1), .val (.int p2), .val (.int p3), .val (.int p4), .val (.int p5), .val (.int p6), .val (.int x1), .val (.int x2), .val (.int y1), .val (.int y2), .val (.int xq), .val (.int dv), .val (.ref o), .val (.int ((y1 + (0 : Int32)) - (0 : Int32))), .unset, .unset, .unset, .unset] []))
            have u1 := c_iadd y1 (0 : Int32)
            have u2 := rng32 (y1 + (0 : Int32))
            have u3 := c_isub (y1 + (0 : Int32)) (0 : Int32)
            have u4 := rng32 ((y1 + (0 : Int32)) - (0 : Int32))
            exact J209 _ _ h locs cnt LA LB u X e1 EA hu (by (repeat' split at hcq) <;> omega) hco Nl
    · refine own_go (fun tt kk => XS.icmpYes X.here hx rfl (pc0 := 166) (pc' := 174) rfl (hb hby at_166) rfl (feq (own_neq32 (x := xq) (y := x1) (i := xq.toInt) (j := x1.toInt) rfl rfl hc166)).2 (by decide) (by decide) kk) ?_
      show own_Go p e below _ (T.setTop (mkF m 174 #[.val (.int p1), .val (.int p2), .val (.int p3), .val (.int p4), .val (.int p5), .val (.int p6), .val (.int x1), .val (.int x2), .val (.int y1), .val (.int y2), .val (.int xq), .val (.int dv), .val (.ref o), .unset, .unset, .unset, .unset, .unset] []))
      refine own_go (fun tt kk => XS.iconst X.here hx rfl (hb hby at_174) kk) ?_
      show own_Go p e below _ (T.setTop (mkF m 175 #[.val (.int p1), .val (.int p2), .val (.int p3), .val (.int p4), .val (.int p5), .val (.int p6), .val (.int x1), .val (.int x2), .val (.int y1), .val (.int y2), .val (.int xq), .val (.int dv), .val (.ref o), .unset, .unset, .unset, .unset, .unset] [(.int (0 : Int32))]))
      refine own_go (fun tt kk => XS.iload X.here hx rfl (hb hby at_175) rfl kk) ?_
      show own_Go p e below _ (T.setTop (mkF m 177 #[.val (.int p1), .val (.int p2), .val (.int p3), .val (.int p4), .val (.int p5), .val (.int p6), .val (.int x1), .val (.int x2), .val (.int y1), .val (.int y2), .val (.int xq), .val (.int dv), .val (.ref o), .unset, .unset, .unset, .unset, .unset] [(.int xq), (.int (0 : Int32))]))
      refine own_go (fun tt kk => XS.iload X.here hx rfl (hb hby at_177) rfl kk) ?_
      show own_Go p e below _ (T.setTop (mkF m 179 #[.val (.int p1), .val (.int p2), .val (.int p3), .val (.int p4), .val (.int p5), .val (.int p6), .val (.int x1), .val (.int x2), .val (.int y1), .val (.int y2), .val (.int xq), .val (.int dv), .val (.ref o), .unset, .unset, .unset, .unset, .unset] [(.int x2), (.int xq), (.int (0 : Int32))]))
      by_cases hc179 : xq.toInt = x2.toInt
      · refine own_go (fun tt kk => XS.icmpNo X.here hx rfl (hb hby at_179) rfl (teq (own_eq32 (x := xq) (y := x2) (i := xq.toInt) (j := x2.toInt) rfl rfl hc179)).2 kk) ?_
        show own_Go p e below _ (T.setTop (mkF m 182 #[.val (.int p1), .val (.int p2), .val (.int p3), .val (.int p4), .val (.int p5), .val (.int p6), .val (.int x1), .val (.int x2), .val (.int y1), .val (.int y2), .val (.int xq), .val (.int dv), .val (.ref o), .unset, .unset, .unset, .unset, .unset] [(.int (0 : Int32))]))
        refine own_go (fun tt kk => XS.iload X.here hx rfl (hb hby at_182) rfl kk) ?_
        show own_Go p e below _ (T.setTop (mkF m 184 #[.val (.int p1), .val (.int p2), .val (.int p3), .val (.int p4), .val (.int p5), .val (.int p6), .val (.int x1), .val (.int x2), .val (.int y1), .val (.int y2), .val (.int xq), .val (.int dv), .val (.ref o), .unset, .unset, .unset, .unset, .unset] [(.int y2), (.int (0 : Int32))]))
        refine own_go (fun tt kk => XS.goto X.here hx rfl (pc0 := 184) (pc' := 188) rfl (hb hby at_184) (by decide) (by decide) kk) ?_
        show own_Go p e below _ (T.setTop (mkF m 188 #[.val (.int p1), .val (.int p2), .val (.int p3), .val (.int p4), .val (.int p5), .val (.int p6), .val (.int x1), .val (.int x2), .val (.int y1), .val (.int y2), .val (.int xq), .val (.int dv), .val (.ref o), .unset, .unset, .unset, .unset, .unset] [(.int y2), (.int (0 : Int32))]))
        refine own_go (fun tt kk => XS.iadd X.here hx rfl (hb hby at_188) rfl kk) ?_
        show own_Go p e below _ (T.setTop (mkF m 189 #[.val (.int p1), .val (.int p2), .val (.int p3), .val (.int p4), .val (.int p5), .val (.int p6), .val (.int x1), .val (.int x2), .val (.int y1), .val (.int y2), .val (.int xq), .val (.int dv), .val (.ref o), .unset, .unset, .unset, .unset, .unset] [(.int ((0 : Int32) + y2))]))
        refine own_go (fun tt kk => XS.iload X.here hx rfl (hb hby at_189) rfl kk) ?_
        show own_Go p e below _ (T.setTop (mkF m 191 #[.val (.int p1), .val (.int p2), .val (.int p3), .val (.int p4), .val (.int p5), .val (.int p6), .val (.int x1), .val (.int x2), .val (.int y1), .val (.int y2), .val (.int xq), .val (.int dv), .val (.ref o), .unset, .unset, .unset, .unset, .unset] [(.int dv), (.int ((0 : Int32) + y2))]))
        by_cases hc191 : dv.toInt = 0
        · refine own_go (fun tt kk => XS.ifYes X.here hx rfl (pc0 := 191) (pc' := 205) rfl (hb hby at_191) rfl ((if0 _ _).trans (teq (own_eq32 (x := dv) (y := (0 : Int32)) (i := dv.toInt) (j := 0) rfl rfl hc191)).1) (by decide) (by decide) kk) ?_
          show own_Go p e below _ (T.setTop (mkF m 205 #[.val (.int p1), .val (.int p2), .val (.int p3), .val (.int p4), .val (.int p5), .val (.int p6), .val (.int x1), .val (.int x2), .val (.int y1), .val (.int y2), .val (.int xq), .val (.int dv), .val (.ref o), .unset, .unset, .unset, .unset, .unset] [(.int ((0 : Int32) + y2))]))
          refine own_go (fun tt kk => XS.iconst X.here hx rfl (hb hby at_205) kk) ?_
          show own_Go p e below _ (T.setTop (mkF m 206 #[.val (.int p1), .val (.int p2), .val (.int p3), .val (.int p4), .val (.int p5), .val (.int p6), .val (.int x1), .val (.int x2), .val (.int y1), .val (.int y2), .val (.int xq), .val (.int dv), .val (.ref o), .unset, .unset, .unset, .unset, .unset] [(.int (0 : Int32)), (.int ((0 : Int32) + y2))]))
          refine own_go (fun tt kk => XS.isub X.here hx rfl (hb hby at_206) rfl kk) ?_
          show own_Go p e below _ (T.setTop (mkF m 207 #[.val (.int p1), .val (.int p2), .val (.int p3), .val (.int p4), .val (.int p5), .val (.int p6), .val (.int x1), .val (.int x2), .val (.int y1), .val (.int y2), .val (.int xq), .val (.int dv), .val (.ref o), .unset, .unset, .unset, .unset, .unset] [(.int (((0 : Int32) + y2) - (0 : Int32)))]))
          refine own_go (fun tt kk => XS.istore X.here hx rfl (hb hby at_207) rfl (l' := #[.val (.int p1), .val (.int p2), .val (.int p3), .val (.int p4), .val (.int p5), .val (.int p6), .val (.int x1), .val (.int x2), .val (.int y1), .val (.int y2), .val (.int xq), .val (.int dv), .val (.ref o), .val (.int (((0 : Int32) + y2) - (0 : Int32))), .unset, .unset, .unset, .unset]) rfl kk) ?_
          show own_Go p e below _ (T.setTop (mkF m 209 #[.val (.int p1), .val (.int p2), .val (.int p3), .val (.int p4), .val (.int p5), .val (.int p6), .val (.int x1), .val (.int x2), .val (.int y1), .val (.int y2), .val (.int xq), .val (.int dv), .val (.ref o), .val (.int (((0 : Int32) + y2) - (0 : Int32))), .unset, .unset, .unset, .unset] []))
          have u1 := c_iadd (0 : Int32) y2
          have u2 := rng32 ((0 : Int32) + y2)
          have u3 := c_isub ((0 : Int32) + y2) (0 : Int32)
          have u4 := rng32 (((0 : Int32) + y2) - (0 : Int32))
          exact J209 _ _ h locs cnt LA LB u X e1 EA hu (by (repeat' split at hcq) <;> omega) hco Nl
        · refine own_go (fun tt kk => XS.ifNo X.here hx rfl (hb hby at_191) rfl ((if0 _ _).trans (feq (own_neq32 (x := dv) (y := (0 : Int32)) (i := dv.toInt) (j := 0) rfl rfl hc191)).1) kk) ?_
          show own_Go p e below _ (T.setTop (mkF m 194 #[.val (.int p1), .val (.int p2), .val (.int p3), .val (.int p4), .val (.int p5), .val (.int p6), .val (.int x1), .val (.int x2), .val (.int y1), .val (.int y2), .val (.int xq), .val (.int dv), .val (.ref o), .unset, .unset, .unset, .unset, .unset] [(.int ((0 : Int32) + y2))]))
          refine own_go (fun tt kk => XS.iload X.here hx rfl (hb hby at_194) rfl kk) ?_
          show own_Go p e below _ (T.setTop (mkF m 196 #[.val (.int p1), .val (.int p2), .val (.int p3), .val (.int p4), .val (.int p5), .val (.int p6), .val (.int x1), .val (.int x2), .val (.int y1), .val (.int y2), .val (.int xq), .val (.int dv), .val (.ref o), .unset, .unset, .unset, .unset, .unset] [(.int xq), (.int ((0 : Int32) + y2))]))
          refine own_go (fun tt kk => XS.iload X.here hx rfl (hb hby at_196) rfl kk) ?_
          show own_Go p e below _ (T.setTop (mkF m 198 #[.val (.int p1), .val (.int p2), .val (.int p3), .val (.int p4), .val (.int p5), .val (.int p6), .val (.int x1), .val (.int x2), .val (.int y1), .val (.int y2), .val (.int xq), .val (.int dv), .val (.ref o), .unset, .unset, .unset, .unset, .unset] [(.int x1), (.int xq), (.int ((0 : Int32) + y2))]))
          by_cases hc198 : xq.toInt = x1.toInt
          · refine own_go (fun tt kk => XS.icmpNo X.here hx rfl (hb hby at_198) rfl (teq (own_eq32 (x := xq) (y := x1) (i := xq.toInt) (j := x1.toInt) rfl rfl hc198)).2 kk) ?_
            show own_Go p e below _ (T.setTop (mkF m 201 #[.val (.int p1), .val (.int p2), .val (.int p3), .val (.int p4), .val (.int p5), .val (.int p6), .val (.int x1), .val (.int x2), .val (.int y1), .val (.int y2), .val (.int xq), .val (.int dv), .val (.ref o), .unset, .unset, .unset, .unset, .unset] [(.int ((0 : Int32) + y2))]))
            refine own_go (fun tt kk => XS.iconst X.here hx rfl (hb hby at_201) kk) ?_
            show own_Go p e below _ (T.setTop (mkF m 202 #[.val (.int p1), .val (.int p2), .val (.int p3), .val (.int p4), .val (.int p5), .val (.int p6), .val (.int x1), .val (.int x2), .val (.int y1), .val (.int y2), .val (.int xq), .val (.int dv), .val (.ref o), .unset, .unset, .unset, .unset, .unset] [(.int (1 : Int32)), (.int ((0 : Int32) + y2))]))
            refine own_go (fun tt kk => XS.goto X.here hx rfl (pc0 := 202) (pc' := 206) rfl (hb hby at_202) (by decide) (by decide) kk) ?_
            show own_Go p e below _ (T.setTop (mkF m 206 #[.val (.int p1), .val (.int p2), .val (.int p3), .val (.int p4), .val (.int p5), .val (.int p6), .val (.int x1), .val (.int x2), .val (.int y1), .val (.int y2), .val (.int xq), .val (.int dv), .val (.ref o), .unset, .unset, .unset, .unset, .unset] [(.int (1 : Int32)), (.int ((0 : Int32) + y2))]))
            refine own_go (fun tt kk => XS.isub X.here hx rfl (hb hby at_206) rfl kk) ?_
            show own_Go p e below _ (T.setTop (mkF m 207 #[.val (.int p1), .val (.int p2), .val (.int p3), .val (.int p4), .val (.int p5), .val (.int p6), .val (.int x1), .val (.int x2), .val (.int y1), .val (.int y2), .val (.int xq), .val (.int dv), .val (.ref o), .unset, .unset, .unset, .unset, .unset] [(.int (((0 : Int32) + y2) - (1 : Int32)))]))
            refine own_go (fun tt kk => XS.istore X.here hx rfl (hb hby at_207) rfl (l' := #[.val (.int p1), .val (.int p2), .val (.int p3), .val (.int p4), .val (.int p5), .val (.int p6), .val (.int x1), .val (.int x2), .val (.int y1), .val (.int y2), .val (.int xq), .val (.int dv), .val (.ref o), .val (.int (((0 : Int32) + y2) - (1 : Int32))), .unset, .unset, .unset, .unset]) rfl kk) ?_
            show own_Go p e below _ (T.setTop (mkF m 209 #[.val (.int p1), .val (.int p2), .val (.int p3), .val (.int p4), .val (.int p5), .val (.int p6), .val (.int x1), .val (.int x2), .val (.int y1), .val (.int y2), .val (.int xq), .val (.int dv), .val (.ref o), .val (.int (((0 : Int32) + y2) - (1 : Int32))), .unset, .unset, .unset, .unset] []))
            have u1 := c_iadd (0 : Int32) y2
            have u2 := rng32 ((0 : Int32) + y2)
            have u3 := c_isub ((0 : Int32) + y2) (1 : Int32)
            have u4 := rng32 (((0 : Int32) + y2) - (1 : Int32))
            exact J209 _ _ h locs cnt LA LB u X e1 EA hu (by (repeat' split at hcq) <;> omega) hco Nl
          · refine own_go (fun tt kk => XS.icmpYes X.here hx rfl (pc0 := 198) (pc' := 205) rfl (hb hby at_198) rfl (feq (own_neq32 (x := xq) (y := x1) (i := xq.toInt) (j := x1.toInt) rfl rfl hc198)).2 (by decide) (by decide) kk) ?_
            show own_Go p e below _ (T.setTop (mkF m 205 #[.val (.int p1), .val (.int p2), .val (.int p3), .val (.int p4), .val (.int p5), .val (.int p6), .val (.int x1), .val (.int x2), .val (.int y1), .val (.int y2), .val (.int xq), .val (.int dv), .val (.ref o), .unset, .unset, .unset, .unset, .unset] [(.int ((0 : Int32) + y2))]))
            refine own_go (fun tt kk => XS.iconst X.here hx rfl (hb hby at_205) kk) ?_
            show own_Go p e below _ (T.setTop (mkF m 206 #[.val (.int p1), .val (.int p2), .val (.int p3), .val (.int p4), .val (.int p5), .val (.int p6), .val (.int x1), .val (.int x2), .val (.int y1), .val (.int y2), .val (.int xq), .val (.int dv), .val (.ref o), .unset, .unset, .unset, .unset, .unset] [(.int (0 : Int32)), (.int ((0 : Int32) + y2))]))
            refine own_go (fun tt kk => XS.isub X.here hx rfl (hb hby at_206) rfl kk) ?_
            show own_Go p e below _ (T.setTop (mkF m 207 #[.val (.int p1), .val (.int p2), .val (.int p3), .val (.int p4), .val (.int p5), .val (.int p6), .val (.int x1), .val (.int x2), .val (.int y1), .val (.int y2), .val (.int xq), .val (.int dv), .val (.ref o), .unset, .unset, .unset, .unset, .unset] [(.int (((0 : Int32) + y2) - (0 : Int32)))]))
            refine own_go (fun tt kk => XS.istore X.here hx rfl (hb hby at_207) rfl (l' := #[.val (.int p1), .val (.int p2), .val (.int p3), .val (.int p4), .val (.int p5), .val (.int p6), .val (.int x1), .val (.int x2), .val (.int y1), .val (.int y2), .val (.int xq), .val (.int dv), .val (.ref o), .val (.int (((0 : Int32) + y2) - (0 : Int32))), .unset, .unset, .unset, .unset]) rfl kk) ?_
            show own_Go p e below _ (T.setTop (mkF m 209 #[.val (.int p1), .val (.int p2), .val (.int p3), .val (.int p4), .val (.int p5), .val (.int p6), .val (.int x1), .val (.int x2), .val (.int y1), .val (.int y2), .val (.int xq), .val (.int dv), .val (.ref o), .val (.int (((0 : Int32) + y2) - (0 : Int32))), .unset, .unset, .unset, .unset] []))
            have u1 := c_iadd (0 : Int32) y2
            have u2 := rng32 ((0 : Int32) + y2)
            have u3 := c_isub ((0 : Int32) + y2) (0 : Int32)
            have u4 := rng32 (((0 : Int32) + y2) - (0 : Int32))
            exact J209 _ _ h locs cnt LA LB u X e1 EA hu (by (repeat' split at hcq) <;> omega) hco Nl
      · refine own_go (fun tt kk => XS.icmpYes X.here hx rfl (pc0 := 179) (pc' := 187) rfl (hb hby at_179) rfl (feq (own_neq32 (x := xq) (y := x2) (i := xq.toInt) (j := x2.toInt) rfl rfl hc179)).2 (by decide) (by decide) kk) ?_
        show own_Go p e below _ (T.setTop (mkF m 187 #[.val (.int p1), .val (.int p2), .val (.int p3), .val (.int p4), .val (.int p5), .val (.int p6), .val (.int x1), .val (.int x2), .val (.int y1), .val (.int y2), .val (.int xq), .val (.int dv), .val (.ref o), .unset, .unset, .unset, .unset, .unset] [(.int (0 : Int32))]))
        refine own_go (fun tt kk => XS.iconst X.here hx rfl (hb hby at_187) kk) ?_
        show own_Go p e below _ (T.setTop (mkF m 188 #[.val (.int p1), .val (.int p2), .val (.int p3), .val (.int p4), .val (.int p5), .val (.int p6), .val (.int x1), .val (.int x2), .val (.int y1), .val (.int y2), .val (.int xq), .val (.int dv), .val (.ref o), .unset, .unset, .unset, .unset, .unset] [(.int (0 : Int32)), (.int (0 : Int32))]))
        refine own_go (fun tt kk => XS.iadd X.here hx rfl (hb hby at_188) rfl kk) ?_
        show own_Go p e below _ (T.setTop (mkF m 189 #[.val (.int p1), .val (.int p2), .val (.int p3), .val (.int p4), .val (.int p5), .val (.int p6), .val (.int x1), .val (.int x2), .val (.int y1), .val (.int y2), .val (.int xq), .val (.int dv), .val (.ref o), .unset, .unset, .unset, .unset, .unset] [(.int ((0 : Int32) + (0 : Int32)))]))
        refine own_go (fun tt kk => XS.iload X.here hx rfl (hb hby at_189) rfl kk) ?_
        show own_Go p e below _ (T.setTop (mkF m 191 #[.val (.int p1), .val (.int p2), .val (.int p3), .val (.int p4), .val (.int p5), .val (.int p6), .val (.int x1), .val (.int x2), .val (.int y1), .val (.int y2), .val (.int xq), .val (.int dv), .val (.ref o), .unset, .unset, .unset, .unset, .unset] [(.int dv), (.int ((0 : Int32) + (0 : Int32)))]))
        by_cases hc191 : dv.toInt = 0
        · refine own_go (fun tt kk => XS.ifYes X.here hx rfl (pc0 := 191) (pc' := 205) rfl (hb hby at_191) rfl ((if0 _ _).trans (teq (own_eq32 (x := dv) (y := (0 : Int32)) (i := dv.toInt) (j := 0) rfl rfl hc191)).1) (by decide) (by decide) kk) ?_
          show own_Go p e below _ (T.setTop (mkF m 205 #[.val (.int p1), .val (.int p2), .val (.int p3), .val (.int p4), .val (.int p5), .val (.int p6), .val (.int x1), .val (.int x2), .val (.int y1), .val (.int y2), .val (.int xq), .val (.int dv), .val (.ref o), .unset, .unset, .unset, .unset, .unset] [(.int ((0 : Int32) + (0 : Int32)))]))
          refine own_go (fun tt kk => XS.iconst X.here hx rfl (hb hby at_205) kk) ?_
          show own_Go p e below _ (T.setTop (mkF m 206 #[.val (.int p1), .val (.int p2), .val (.int p3), .val (.int p4), .val (.int p5), .val (.int p6), .val (.int x1), .val (.int x2), .val (.int y1), .val (.int y2), .val (.int xq), .val (.int dv), .val (.ref o), .unset, .unset, .unset, .unset, .unset] [(.int (0 : Int32)), (.int ((0 : Int32) + (0 : Int32)))]))
          refine own_go (fun tt kk => XS.isub X.here hx rfl (hb hby at_206) rfl kk) ?_
          show own_Go p e below _ (T.setTop (mkF m 207 #[.val (.int p1), .val (.int p2), .val (.int p3), .val (.int p4), .val (.int p5), .val (.int p6), .val (.int x1), .val (.int x2), .val (.int y1), .val (.int y2), .val (.int xq), .val (.int dv), .val (.ref o), .unset, .unset, .unset, .unset, .unset] [(.int (((0 : Int32) + (0 : Int32)) - (0 : Int32)))]))
          refine own_go (fun tt kk => XS.istore X.here hx rfl (hb hby at_207) rfl (l' := #[.val (.int p1), .val (.int p2), .val (.int p3), .val (.int p4), .val (.int p5), .val (.int p6), .val (.int x1), .val (.int x2), .val (.int y1), .val (.int y2), .val (.int xq), .val (.int dv), .val (.ref o), .val (.int (((0 : Int32) + (0 : Int32)) - (0 : Int32))), .unset, .unset, .unset, .unset]) rfl kk) ?_
          show own_Go p e below _ (T.setTop (mkF m 209 #[.val (.int p1), .val (.int p2), .val (.int p3), .val (.int p4), .val (.int p5), .val (.int p6), .val (.int x1), .val (.int x2), .val (.int y1), .val (.int y2), .val (.int xq), .val (.int dv), .val (.ref o), .val (.int (((0 : Int32) + (0 : Int32)) - (0 : Int32))), .unset, .unset, .unset, .unset] []))
          have u1 := c_iadd (0 : Int32) (0 : Int32)
          have u2 := rng32 ((0 : Int32) + (0 : Int32))
          have u3 := c_isub ((0 : Int32) + (0 : Int32)) (0 : Int32)
          have u4 := rng32 (((0 : Int32) + (0 : Int32)) - (0 : Int32))
          exact J209 _ _ h locs cnt LA LB u X e1 EA hu (by (repeat' split at hcq) <;> omega) hco Nl
        · refine own_go (fun tt kk => XS.ifNo X.here hx rfl (hb hby at_191) rfl ((if0 _ _).trans (feq (own_neq32 (x := dv) (y := (0 : Int32)) (i := dv.toInt) (j := 0) rfl rfl hc191)).1) kk) ?_
          show own_Go p e below _ (T.setTop (mkF m 194 #[.val (.int p1), .val (.int p2), .val (.int p3), .val (.int p4), .val (.int p5), .val (.int p6), .val (.int x1), .val (.int x2), .val (.int y1), .val (.int y2), .val (.int xq), .val (.int dv), .val (.ref o), .unset, .unset, .unset, .unset, .unset] [(.int ((0 : Int32) + (0 : Int32)))]))
          refine own_go (fun tt kk => XS.iload X.here hx rfl (hb hby at_194) rfl kk) ?_
          show own_Go p e below _ (T.setTop (mkF m 196 #[.val (.int p1), .val (.int p2), .val (.int p3), .val (.int p4), .val (.int p5), .val (.int p6), .val (.int x1), .val (.int x2), .val (.int y1), .val (.int y2), .val (.int xq), .val (.int dv), .val (.ref o), .unset, .unset, .unset, .unset, .unset] [(.int xq), (.int ((0 : Int32) + (0 : Int32)))]))
          refine own_go (fun tt kk => XS.iload X.here hx rfl (hb hby at_196) rfl kk) ?_
          show own_Go p e below _ (T.setTop (mkF m 198 #[.val (.int p1), .val (.int p2), .val (.int p3), .val (.int p4), .val (.int p5), .val (.int p6), .val (.int x1), .val (.int x2), .val (.int y1), .val (.int y2), .val (.int xq), .val (.int dv), .val (.ref o), .unset, .unset, .unset, .unset, .unset] [(.int x1), (.int xq), (.int ((0 : Int32) + (0 : Int32)))]))
          by_cases hc198 : xq.toInt = x1.toInt
          · refine own_go (fun tt kk => XS.icmpNo X.here hx rfl (hb hby at_198) rfl (teq (own_eq32 (x := xq) (y := x1) (i := xq.toInt) (j := x1.toInt) rfl rfl hc198)).2 kk) ?_
            show own_Go p e below _ (T.setTop (mkF m 201 #[.val (.int p1), .val (.int p2), .val (.int p3), .val (.int p4), .val (.int p5), .val (.int p6), .val (.int x1), .val (.int x2), .val (.int y1), .val (.int y2), .val (.int xq), .val (.int dv), .val (.ref o), .unset, .unset, .unset, .unset, .unset] [(.int ((0 : Int32) + (0 : Int32)))]))
            refine own_go (fun tt kk => XS.iconst X.here hx rfl (hb hby at_201) kk) ?_
            show own_Go p e below _ (T.setTop (mkF m 202 #[.val (.int p1), .val (.int p2), .val (.int p3), .val (.int p4), .val (.int p5), .val (.int p6), .val (.int x1), .val (.int x2), .val (.int y1), .val (.int y2), .val (.int xq), .val (.int dv), .val (.ref o), .unset, .unset, .unset, .unset, .unset] [(.int (1 : Int32)), (.int ((0 : Int32) + (0 : Int32)))]))
            refine own_go (fun tt kk => XS.goto X.here hx rfl (pc0 := 202) (pc' := 206) rfl (hb hby at_202) (by decide) (by decide) kk) ?_
            show own_Go p e below _ (T.setTop (mkF m 206 #[.val (.int p1), .val (.int p2), .val (.int p3), .val (.int p4), .val (.int p5), .val (.int p6), .val (.int x1), .val (.int x2), .val (.int y1), .val (.int y2), .val (.int xq), .val (.int dv), .val (.ref o), .unset, .unset, .unset, .unset, .unset] [(.int (1 : Int32)), (.int ((0 : Int32) + (0 : Int32)))]))
            refine own_go (fun tt kk => XS.isub X.here hx rfl (hb hby at_206) rfl kk) ?_
            show own_Go p e below _ (T.setTop (mkF m 207 #[.val (.int p1), .val (.int p2), .val (.int p3), .val (.int p4), .val (.int p5), .val (.int p6), .val (.int x1), .val (.int x2), .val (.int y1), .val (.int y2), .val (.int xq), .val (.int dv), .val (.ref o), .unset, .unset, .unset, .unset, .unset] [(.int (((0 : Int32) + (0 : Int32)) - (1 : Int32)))]))
            refine own_go (fun tt kk => XS.istore X.here hx rfl (hb hby at_207) rfl (l' := #[.val (.int p1), .val (.int p2), .val (.int p3), .val (.int p4), .val (.int p5), .val (.int p6), .val (.int x1), .val (.int x2), .val (.int y1), .val (.int y2), .val (.int xq), .val (.int dv), .val (.ref o), .val (.int (((0 : Int32) + (0 : Int32)) - (1 : Int32))), .unset, .unset, .unset, .unset]) rfl kk) ?_
            show own_Go p e below _ (T.setTop (mkF m 209 #[.val (.int p1), .val (.int p2), .val (.int p3), .val (.int p4), .val (.int p5), .val (.int p6), .val (.int x1), .val (.int x2), .val (.int y1), .val (.int y2), .val (.int xq), .val (.int dv), .val (.ref o), .val (.int (((0 : Int32) + (0 : Int32)) - (1 : Int32))), .unset, .unset, .unset, .unset] []))
            have u1 := c_iadd (0 : Int32) (0 : Int32)
            have u2 := rng32 ((0 : Int32) + (0 : Int32))
            have u3 := c_isub ((0 : Int32) + (0 : Int32)) (1 : Int32)
            have u4 := rng32 (((0 : Int32) + (0 : Int32)) - (1 : Int32))
            exact J209 _ _ h locs cnt LA LB u X e1 EA hu (by (repeat' split at hcq) <;> omega) hco Nl
          · refine own_go (fun tt kk => XS.icmpYes X.here hx rfl (pc0 := 198) (pc' := 205) rfl (hb hby at_198) rfl (feq (own_neq32 (x := xq) (y := x1) (i := xq.toInt) (j := x1.toInt) rfl rfl hc198)).2 (by decide) (by decide) kk) ?_
            show own_Go p e below _ (T.setTop (mkF m 205 #[.val (.int p1), .val (.int p2), .val (.int p3), .val (.int p4), .val (.int p5), .val (.int p6), .val (.int x1), .val (.int x2), .val (.int y1), .val (.int y2), .val (.int xq), .val (.int dv), .val (.ref o), .unset, .unset, .unset, .unset, .unset] [(.int ((0 : Int32) + (0 : Int32)))]))
            refine own_go (fun tt kk => XS.iconst X.here hx rfl (hb hby at_205) kk) ?_
            show own_Go p e below _ (T.setTop (mkF m 206 #[.val (.int p1), .val (.int p2), .val (.int p3), .val (.int p4), .val (.int p5), .val (.int p6), .val (.int x1), .val (.int x2), .val (.int y1), .val (.int y2), .val (.int xq), .val (.int dv), .val (.ref o), .unset, .unset, .unset, .unset, .unset] [(.int (0 : Int32)), (.int ((0 : Int32) + (0 : Int32)))]))
            refine own_go (fun tt kk => XS.isub X.here hx rfl (hb hby at_206) rfl kk) ?_
            show own_Go p e below _ (T.setTop (mkF m 207 #[.val (.int p1), .val (.int p2), .val (.int p3), .val (.int p4), .val (.int p5), .val (.int p6), .val (.int x1), .val (.int x2), .val (.int y1), .val (.int y2), .val (.int xq), .val (.int dv), .val (.ref o), .unset, .unset, .unset, .unset, .unset] [(.int (((0 : Int32) + (0 : Int32)) - (0 : Int32)))]))
            refine own_go (fun tt kk => XS.istore X.here hx rfl (hb hby at_207) rfl (l' := #[.val (.int p1), .val (.int p2), .val (.int p3), .val (.int p4), .val (.int p5), .val (.int p6), .val (.int x1), .val (.int x2), .val (.int y1), .val (.int y2), .val (.int xq), .val (.int dv), .val (.ref o), .val (.int (((0 : Int32) + (0 : Int32)) - (0 : Int32))), .unset, .unset, .unset, .unset]) rfl kk) ?_
            show own_Go p e below _ (T.setTop (mkF m 209 #[.val (.int p1), .val (.int p2), .val (.int p3), .val (.int p4), .val (.int p5), .val (.int p6), .val (.int x1), .val (.int x2), .val (.int y1), .val (.int y2), .val (.int xq), .val (.int dv), .val (.ref o), .val (.int (((0 : Int32) + (0 : Int32)) - (0 : Int32))), .unset, .unset, .unset, .unset] []))
            have u1 := c_iadd (0 : Int32) (0 : Int32)
            have u2 := rng32 ((0 : Int32) + (0 : Int32))
            have u3 := c_isub ((0 : Int32) + (0 : Int32)) (0 : Int32)
            have u4 := rng32 (((0 : Int32) + (0 : Int32)) - (0 : Int32))
            exact J209 _ _ h locs cnt LA LB u X e1 EA hu (by (repeat' split at hcq) <;> omega) hco Nl
  have J147 : ∀ (T : State) (h : Heap) (locs : List Loc) (cnt : Nat → Nat) (LA LB : Nat → Nat → Int32) (u : Nat), Stand p l e room_1 s m #[(.int p1), (.int p2), (.int p3), (.int p4), (.int p5), (.int p6)] below meth c T locs 21 375 → T.heap = h → own_EL Z h0.size h o cnt LA LB u → u ≤ 35 → own_Sg s1 s2 p6 p1 n1 n2 cnt LA LB → Fr h0.size locs → own_Go p e below (own_End below s (fun v h L => v = some (.int 1) ∧ Fr h0.size L) room_1.cells room_1.slots) (T.setTop (mkF m 147 #[.val (.int p1), .val (.int p2), .val (.int p3), .val (.int p4), .val (.int p5), .val (.int p6), .val (.int x1), .val (.int x2), .val (.int y1), .val (.int y2), .val (.int xq), .val (.int dv), .val (.ref o), .unset, .unset, .unset, .unset, .unset] [])) := by
    intro T h locs cnt LA LB u X e1 EA hu hS Nl
    show own_Go p e below _ (T.setTop (mkF m 147 #[.val (.int p1), .val (.int p2), .val (.int p3), .val (.int p4), .val (.int p5), .val (.int p6), .val (.int x1), .val (.int x2), .val (.int y1), .val (.int y2), .val (.int xq), .val (.int dv), .val (.ref o), .unset, .unset, .unset, .unset, .unset] []))
    refine own_go (fun tt kk => XS.iload X.here hx rfl (hb hby at_147) rfl kk) ?_
    show own_Go p e below _ (T.setTop (mkF m 149 #[.val (.int p1), .val (.int p2), .val (.int p3), .val (.int p4), .val (.int p5), .val (.int p6), .val (.int x1), .val (.int x2), .val (.int y1), .val (.int y2), .val (.int xq), .val (.int dv), .val (.ref o), .unset, .unset, .unset, .unset, .unset] [(.int dv)]))
    by_cases hc149 : dv.toInt = 0
    · refine own_go (fun tt kk => XS.ifYes X.here hx rfl (pc0 := 149) (pc' := 162) rfl (hb hby at_149) rfl ((if0 _ _).trans (teq (own_eq32 (x := dv) (y := (0 : Int32)) (i := dv.toInt) (j := 0) rfl rfl hc149)).1) (by decide) (by decide) kk) ?_
      show own_Go p e below _ (T.setTop (mkF m 162 #[.val (.int p1), .val (.int p2), .val (.int p3), .val (.int p4), .val (.int p5), .val (.int p6), .val (.int x1), .val (.int x2), .val (.int y1), .val (.int y2), .val (.int xq), .val (.int dv), .val (.ref o), .unset, .unset, .unset, .unset, .unset] []))
      exact J162 _ h locs cnt LA LB u X e1 EA (by omega) (fun i => (hS.1 i).trans (by rw [if_neg (show ¬ (dv.toInt = 1 ∧ i = s1) by omega), Nat.sub_zero])) (fun _ hp => hS.ends (by omega) (by omega) hn1 hn2 hp) Nl
    · refine own_go (fun tt kk => XS.ifNo X.here hx rfl (hb hby at_149) rfl ((if0 _ _).trans (feq (own_neq32 (x := dv) (y := (0 : Int32)) (i := dv.toInt) (j := 0) rfl rfl hc149)).1) kk) ?_
      show own_Go p e below _ (T.setTop (mkF m 152 #[.val (.int p1), .val (.int p2), .val (.int p3), .val (.int p4), .val (.int p5), .val (.int p6), .val (.int x1), .val (.int x2), .val (.int y1), .val (.int y2), .val (.int xq), .val (.int dv), .val (.ref o), .unset, .unset, .unset, .unset, .unset] []))
      have h1n : 0 < n1 := by omega
      have hd1 : dv.toInt = 1 := by omega
      obtain ⟨r1, r2⟩ := hS.2.1 0 h1n
      have r3 : LA s1 0 = p6 := r1.trans (Int32.add_zero p6)
      have c1 : 0 < cnt s1 := by rw [hS.1 s1, if_pos rfl]; omega
      refine own_go (fun tt kk => XS.aload X.here hx rfl (hb hby at_152) rfl rfl kk) ?_
      show own_Go p e below _ (T.setTop (mkF m 154 #[.val (.int p1), .val (.int p2), .val (.int p3), .val (.int p4), .val (.int p5), .val (.int p6), .val (.int x1), .val (.int x2), .val (.int y1), .val (.int y2), .val (.int xq), .val (.int dv), .val (.ref o), .unset, .unset, .unset, .unset, .unset] [(.ref o)]))
      refine own_go (fun tt kk => XS.iload X.here hx rfl (hb hby at_154) rfl kk) ?_
      show own_Go p e below _ (T.setTop (mkF m 156 #[.val (.int p1), .val (.int p2), .val (.int p3), .val (.int p4), .val (.int p5), .val (.int p6), .val (.int x1), .val (.int x2), .val (.int y1), .val (.int y2), .val (.int xq), .val (.int dv), .val (.ref o), .unset, .unset, .unset, .unset, .unset] [(.int x1), (.ref o)]))
      refine own_go (fun tt kk => XS.iload X.here hx rfl (hb hby at_156) rfl kk) ?_
      show own_Go p e below _ (T.setTop (mkF m 158 #[.val (.int p1), .val (.int p2), .val (.int p3), .val (.int p4), .val (.int p5), .val (.int p6), .val (.int x1), .val (.int x2), .val (.int y1), .val (.int y2), .val (.int xq), .val (.int dv), .val (.ref o), .unset, .unset, .unset, .unset, .unset] [(.int p6), (.int x1), (.ref o)]))
      refine own_go (fun tt kk => XS.iloadN X.here hx rfl (hb hby at_158) rfl kk) ?_
      show own_Go p e below _ (T.setTop (mkF m 159 #[.val (.int p1), .val (.int p2), .val (.int p3), .val (.int p4), .val (.int p5), .val (.int p6), .val (.int x1), .val (.int x2), .val (.int y1), .val (.int y2), .val (.int xq), .val (.int dv), .val (.ref o), .unset, .unset, .unset, .unset, .unset] [(.int p1), (.int p6), (.int x1), (.ref o)]))
      obtain ⟨v23, L23, T23, X23, qq23, st23⟩ := own_callV X hx hZ hown (hw _ (List.mem_of_getElem? (i := 73) rfl)) (hw _ (List.mem_of_getElem? (i := 74) rfl)) (hw _ (List.mem_of_getElem? (i := 76) rfl)) (hw _ (List.mem_of_getElem? (i := 75) rfl)) (hw _ (List.mem_of_getElem? (i := 77) rfl)) (hw _ (List.mem_of_getElem? (i := 3) rfl)) (by decide) (own_EL_exa EA) (rmRem l Z a0 hw [] o cnt LA LB u x1 p6 p1 s1 h0.size h EA hs1 c1 (by omega) r3 r2) e1 (pc := 159) (Ls := #[.val (.int p1), .val (.int p2), .val (.int p3), .val (.int p4), .val (.int p5), .val (.int p6), .val (.int x1), .val (.int x2), .val (.int y1), .val (.int y2), .val (.int xq), .val (.int dv), .val (.ref o), .unset, .unset, .unset, .unset, .unset]) (argsL := [(.int x1), (.int p6), (.int p1)]) (rest := []) rfl (by rw [hml]; rfl) pd_7 rfl rfl (hb hby at_159) 0 (Nat.le_of_eq rfl) (by decide) (by decide) (by decide) (by decide)
      obtain ⟨rfl, ⟨LA', LB', EL'⟩, N23⟩ := qq23
      refine own_go st23 ?_
      show own_Go p e below _ (T23.setTop (mkF m 162 #[.val (.int p1), .val (.int p2), .val (.int p3), .val (.int p4), .val (.int p5), .val (.int p6), .val (.int x1), .val (.int x2), .val (.int y1), .val (.int y2), .val (.int xq), .val (.int dv), .val (.ref o), .unset, .unset, .unset, .unset, .unset] []))
      exact J162 _ _ _ _ _ _ u X23 rfl EL' (by omega) (fun i => by
        unfold own_upd
        by_cases r : i = s1
        · rw [if_pos r, r, hS.1 s1, if_pos (show dv.toInt = 1 ∧ s1 = s1 from ⟨hd1, rfl⟩)]
        · rw [if_neg r, hS.1 i, if_neg (show ¬ (dv.toInt = 1 ∧ i = s1) from fun z => r z.2), Nat.sub_zero]) (fun z => by omega) (Fr.app Nl N23)
  have J129 : ∀ (T : State) (h : Heap) (locs : List Loc) (cnt : Nat → Nat) (LA LB : Nat → Nat → Int32) (u : Nat), Stand p l e room_1 s m #[(.int p1), (.int p2), (.int p3), (.int p4), (.int p5), (.int p6)] below meth c T locs 18 327 → T.heap = h → own_EL Z h0.size h o cnt LA LB u → u ≤ 28 → own_Sg s1 s2 p6 p1 (n1) (min n2 1) cnt LA LB → Fr h0.size locs → own_Go p e below (own_End below s (fun v h L => v = some (.int 1) ∧ Fr h0.size L) room_1.cells room_1.slots) (T.setTop (mkF m 129 #[.val (.int p1), .val (.int p2), .val (.int p3), .val (.int p4), .val (.int p5), .val (.int p6), .val (.int x1), .val (.int x2), .val (.int y1), .val (.int y2), .val (.int xq), .val (.int dv), .val (.ref o), .unset, .unset, .unset, .unset, .unset] [])) := by
    intro T h locs cnt LA LB u X e1 EA hu hS Nl
    show own_Go p e below _ (T.setTop (mkF m 129 #[.val (.int p1), .val (.int p2), .val (.int p3), .val (.int p4), .val (.int p5), .val (.int p6), .val (.int x1), .val (.int x2), .val (.int y1), .val (.int y2), .val (.int xq), .val (.int dv), .val (.ref o), .unset, .unset, .unset, .unset, .unset] []))
    have hcx := hS.1 s2
    refine own_go (fun tt kk => XS.iload X.here hx rfl (hb hby at_129) rfl kk) ?_
    show own_Go p e below _ (T.setTop (mkF m 131 #[.val (.int p1), .val (.int p2), .val (.int p3), .val (.int p4), .val (.int p5), .val (.int p6), .val (.int x1), .val (.int x2), .val (.int y1), .val (.int y2), .val (.int xq), .val (.int dv), .val (.ref o), .unset, .unset, .unset, .unset, .unset] [(.int y2)]))
    refine own_go (fun tt kk => XS.iconst X.here hx rfl (hb hby at_131) kk) ?_
    show own_Go p e below _ (T.setTop (mkF m 132 #[.val (.int p1), .val (.int p2), .val (.int p3), .val (.int p4), .val (.int p5), .val (.int p6), .val (.int x1), .val (.int x2), .val (.int y1), .val (.int y2), .val (.int xq), .val (.int dv), .val (.ref o), .unset, .unset, .unset, .unset, .unset] [(.int (1 : Int32)), (.int y2)]))
    by_cases hc132 : 1 < y2.toInt
    · refine own_go (fun tt kk => XS.icmpNo X.here hx rfl (hb hby at_132) rfl (tlt (own_lt32 (x := (1 : Int32)) (y := y2) (i := 1) (j := y2.toInt) rfl rfl hc132)).2.2.2 kk) ?_
      show own_Go p e below _ (T.setTop (mkF m 135 #[.val (.int p1), .val (.int p2), .val (.int p3), .val (.int p4), .val (.int p5), .val (.int p6), .val (.int x1), .val (.int x2), .val (.int y1), .val (.int y2), .val (.int xq), .val (.int dv), .val (.ref o), .unset, .unset, .unset, .unset, .unset] []))
      refine own_go (fun tt kk => XS.aload X.here hx rfl (hb hby at_135) rfl rfl kk) ?_
      show own_Go p e below _ (T.setTop (mkF m 137 #[.val (.int p1), .val (.int p2), .val (.int p3), .val (.int p4), .val (.int p5), .val (.int p6), .val (.int x1), .val (.int x2), .val (.int y1), .val (.int y2), .val (.int xq), .val (.int dv), .val (.ref o), .unset, .unset, .unset, .unset, .unset] [(.ref o)]))
      refine own_go (fun tt kk => XS.iload X.here hx rfl (hb hby at_137) rfl kk) ?_
      show own_Go p e below _ (T.setTop (mkF m 139 #[.val (.int p1), .val (.int p2), .val (.int p3), .val (.int p4), .val (.int p5), .val (.int p6), .val (.int x1), .val (.int x2), .val (.int y1), .val (.int y2), .val (.int xq), .val (.int dv), .val (.ref o), .unset, .unset, .unset, .unset, .unset] [(.int x2), (.ref o)]))
      refine own_go (fun tt kk => XS.iload X.here hx rfl (hb hby at_139) rfl kk) ?_
      show own_Go p e below _ (T.setTop (mkF m 141 #[.val (.int p1), .val (.int p2), .val (.int p3), .val (.int p4), .val (.int p5), .val (.int p6), .val (.int x1), .val (.int x2), .val (.int y1), .val (.int y2), .val (.int xq), .val (.int dv), .val (.ref o), .unset, .unset, .unset, .unset, .unset] [(.int p6), (.int x2), (.ref o)]))
      refine own_go (fun tt kk => XS.iconst X.here hx rfl (hb hby at_141) kk) ?_
      show own_Go p e below _ (T.setTop (mkF m 142 #[.val (.int p1), .val (.int p2), .val (.int p3), .val (.int p4), .val (.int p5), .val (.int p6), .val (.int x1), .val (.int x2), .val (.int y1), .val (.int y2), .val (.int xq), .val (.int dv), .val (.ref o), .unset, .unset, .unset, .unset, .unset] [(.int (4 : Int32)), (.int p6), (.int x2), (.ref o)]))
      refine own_go (fun tt kk => XS.iadd X.here hx rfl (hb hby at_142) rfl kk) ?_
      show own_Go p e below _ (T.setTop (mkF m 143 #[.val (.int p1), .val (.int p2), .val (.int p3), .val (.int p4), .val (.int p5), .val (.int p6), .val (.int x1), .val (.int x2), .val (.int y1), .val (.int y2), .val (.int xq), .val (.int dv), .val (.ref o), .unset, .unset, .unset, .unset, .unset] [(.int (p6 + (4 : Int32))), (.int x2), (.ref o)]))
      refine own_go (fun tt kk => XS.iloadN X.here hx rfl (hb hby at_143) rfl kk) ?_
      show own_Go p e below _ (T.setTop (mkF m 144 #[.val (.int p1), .val (.int p2), .val (.int p3), .val (.int p4), .val (.int p5), .val (.int p6), .val (.int x1), .val (.int x2), .val (.int y1), .val (.int y2), .val (.int xq), .val (.int dv), .val (.ref o), .unset, .unset, .unset, .unset, .unset] [(.int p1), (.int (p6 + (4 : Int32))), (.int x2), (.ref o)]))
      have hle : cnt s2 ≤ 4 := by (repeat' split at hcx) <;> omega
      obtain ⟨v24, L24, T24, X24, qq24, st24⟩ := own_callV X hx hZ hown (hw _ (List.mem_of_getElem? (i := 21) rfl)) (hw _ (List.mem_of_getElem? (i := 22) rfl)) (hw _ (List.mem_of_getElem? (i := 24) rfl)) (hw _ (List.mem_of_getElem? (i := 23) rfl)) (hw _ (List.mem_of_getElem? (i := 25) rfl)) (hw _ (List.mem_of_getElem? (i := 3) rfl)) (by decide) (own_EL_exa EA) (rmAdd l Z a0 hw [] o cnt LA LB u x2 (p6 + (4 : Int32)) p1 s2 h0.size h EA hs2 (by omega) hle (by omega)) e1 (pc := 144) (Ls := #[.val (.int p1), .val (.int p2), .val (.int p3), .val (.int p4), .val (.int p5), .val (.int p6), .val (.int x1), .val (.int x2), .val (.int y1), .val (.int y2), .val (.int xq), .val (.int dv), .val (.ref o), .unset, .unset, .unset, .unset, .unset]) (argsL := [(.int x2), (.int (p6 + (4 : Int32))), (.int p1)]) (rest := []) rfl (by rw [hml]; rfl) pd_7 rfl rfl (hb hby at_144) 0 (Nat.le_of_eq rfl) (by decide) (by decide) (by decide) (by decide)
      obtain ⟨rfl, ⟨u', hu', EL'⟩, N24⟩ := qq24
      refine own_go st24 ?_
      show own_Go p e below _ (T24.setTop (mkF m 147 #[.val (.int p1), .val (.int p2), .val (.int p3), .val (.int p4), .val (.int p5), .val (.int p6), .val (.int x1), .val (.int x2), .val (.int y1), .val (.int y2), .val (.int xq), .val (.int dv), .val (.ref o), .unset, .unset, .unset, .unset, .unset] []))
      rw [show min n2 1 = 1 by omega] at hS
      have hS' := hS.second (x := (p6 + (4 : Int32))) (y := p1) rfl
      exact J147 _ _ _ _ _ _ u' X24 rfl EL' (by omega) (by rw [show n2 = 2 by omega]; exact hS') (Fr.app Nl N24)
    · refine own_go (fun tt kk => XS.icmpYes X.here hx rfl (pc0 := 132) (pc' := 147) rfl (hb hby at_132) rfl (flt (own_nlt32 (x := (1 : Int32)) (y := y2) (i := 1) (j := y2.toInt) rfl rfl hc132)).2.2.2 (by decide) (by decide) kk) ?_
      show own_Go p e below _ (T.setTop (mkF m 147 #[.val (.int p1), .val (.int p2), .val (.int p3), .val (.int p4), .val (.int p5), .val (.int p6), .val (.int x1), .val (.int x2), .val (.int y1), .val (.int y2), .val (.int xq), .val (.int dv), .val (.ref o), .unset, .unset, .unset, .unset, .unset] []))
      exact J147 _ h locs cnt LA LB u (X.more (by decide) (by decide)) e1 EA (by omega) (by rw [show min n2 1 = n2 by omega] at hS; exact hS) Nl
  have J112 : ∀ (T : State) (h : Heap) (locs : List Loc) (cnt : Nat → Nat) (LA LB : Nat → Nat → Int32) (u : Nat), Stand p l e room_1 s m #[(.int p1), (.int p2), (.int p3), (.int p4), (.int p5), (.int p6)] below meth c T locs 15 279 → T.heap = h → own_EL Z h0.size h o cnt LA LB u → u ≤ 21 → own_Sg s1 s2 p6 p1 n1 0 cnt LA LB → Fr h0.size locs → own_Go p e below (own_End below s (fun v h L => v = some (.int 1) ∧ Fr h0.size L) room_1.cells room_1.slots) (T.setTop (mkF m 112 #[.val (.int p1), .val (.int p2), .val (.int p3), .val (.int p4), .val (.int p5), .val (.int p6), .val (.int x1), .val (.int x2), .val (.int y1), .val (.int y2), .val (.int xq), .val (.int dv), .val (.ref o), .unset, .unset, .unset, .unset, .unset] [])) := by
    intro T h locs cnt LA LB u X e1 EA hu hS Nl
    show own_Go p e below _ (T.setTop (mkF m 112 #[.val (.int p1), .val (.int p2), .val (.int p3), .val (.int p4), .val (.int p5), .val (.int p6), .val (.int x1), .val (.int x2), .val (.int y1), .val (.int y2), .val (.int xq), .val (.int dv), .val (.ref o), .unset, .unset, .unset, .unset, .unset] []))
    have hcx := hS.1 s2
    refine own_go (fun tt kk => XS.iload X.here hx rfl (hb hby at_112) rfl kk) ?_
    show own_Go p e below _ (T.setTop (mkF m 114 #[.val (.int p1), .val (.int p2), .val (.int p3), .val (.int p4), .val (.int p5), .val (.int p6), .val (.int x1), .val (.int x2), .val (.int y1), .val (.int y2), .val (.int xq), .val (.int dv), .val (.ref o), .unset, .unset, .unset, .unset, .unset] [(.int y2)]))
    by_cases hc114 : 0 < y2.toInt
    · refine own_go (fun tt kk => XS.ifNo X.here hx rfl (hb hby at_114) rfl ((if0 _ _).trans (tlt (own_lt32 (x := (0 : Int32)) (y := y2) (i := 0) (j := y2.toInt) rfl rfl hc114)).2.2.2) kk) ?_
      show own_Go p e below _ (T.setTop (mkF m 117 #[.val (.int p1), .val (.int p2), .val (.int p3), .val (.int p4), .val (.int p5), .val (.int p6), .val (.int x1), .val (.int x2), .val (.int y1), .val (.int y2), .val (.int xq), .val (.int dv), .val (.ref o), .unset, .unset, .unset, .unset, .unset] []))
      refine own_go (fun tt kk => XS.aload X.here hx rfl (hb hby at_117) rfl rfl kk) ?_
      show own_Go p e below _ (T.setTop (mkF m 119 #[.val (.int p1), .val (.int p2), .val (.int p3), .val (.int p4), .val (.int p5), .val (.int p6), .val (.int x1), .val (.int x2), .val (.int y1), .val (.int y2), .val (.int xq), .val (.int dv), .val (.ref o), .unset, .unset, .unset, .unset, .unset] [(.ref o)]))
      refine own_go (fun tt kk => XS.iload X.here hx rfl (hb hby at_119) rfl kk) ?_
      show own_Go p e below _ (T.setTop (mkF m 121 #[.val (.int p1), .val (.int p2), .val (.int p3), .val (.int p4), .val (.int p5), .val (.int p6), .val (.int x1), .val (.int x2), .val (.int y1), .val (.int y2), .val (.int xq), .val (.int dv), .val (.ref o), .unset, .unset, .unset, .unset, .unset] [(.int x2), (.ref o)]))
      refine own_go (fun tt kk => XS.iload X.here hx rfl (hb hby at_121) rfl kk) ?_
      show own_Go p e below _ (T.setTop (mkF m 123 #[.val (.int p1), .val (.int p2), .val (.int p3), .val (.int p4), .val (.int p5), .val (.int p6), .val (.int x1), .val (.int x2), .val (.int y1), .val (.int y2), .val (.int xq), .val (.int dv), .val (.ref o), .unset, .unset, .unset, .unset, .unset] [(.int p6), (.int x2), (.ref o)]))
      refine own_go (fun tt kk => XS.iconst X.here hx rfl (hb hby at_123) kk) ?_
      show own_Go p e below _ (T.setTop (mkF m 124 #[.val (.int p1), .val (.int p2), .val (.int p3), .val (.int p4), .val (.int p5), .val (.int p6), .val (.int x1), .val (.int x2), .val (.int y1), .val (.int y2), .val (.int xq), .val (.int dv), .val (.ref o), .unset, .unset, .unset, .unset, .unset] [(.int (3 : Int32)), (.int p6), (.int x2), (.ref o)]))
      refine own_go (fun tt kk => XS.iadd X.here hx rfl (hb hby at_124) rfl kk) ?_
      show own_Go p e below _ (T.setTop (mkF m 125 #[.val (.int p1), .val (.int p2), .val (.int p3), .val (.int p4), .val (.int p5), .val (.int p6), .val (.int x1), .val (.int x2), .val (.int y1), .val (.int y2), .val (.int xq), .val (.int dv), .val (.ref o), .unset, .unset, .unset, .unset, .unset] [(.int (p6 + (3 : Int32))), (.int x2), (.ref o)]))
      refine own_go (fun tt kk => XS.iloadN X.here hx rfl (hb hby at_125) rfl kk) ?_
      show own_Go p e below _ (T.setTop (mkF m 126 #[.val (.int p1), .val (.int p2), .val (.int p3), .val (.int p4), .val (.int p5), .val (.int p6), .val (.int x1), .val (.int x2), .val (.int y1), .val (.int y2), .val (.int xq), .val (.int dv), .val (.ref o), .unset, .unset, .unset, .unset, .unset] [(.int p1), (.int (p6 + (3 : Int32))), (.int x2), (.ref o)]))
      have hle : cnt s2 ≤ 4 := by (repeat' split at hcx) <;> omega
      obtain ⟨v25, L25, T25, X25, qq25, st25⟩ := own_callV X hx hZ hown (hw _ (List.mem_of_getElem? (i := 21) rfl)) (hw _ (List.mem_of_getElem? (i := 22) rfl)) (hw _ (List.mem_of_getElem? (i := 24) rfl)) (hw _ (List.mem_of_getElem? (i := 23) rfl)) (hw _ (List.mem_of_getElem? (i := 25) rfl)) (hw _ (List.mem_of_getElem? (i := 3) rfl)) (by decide) (own_EL_exa EA) (rmAdd l Z a0 hw [] o cnt LA LB u x2 (p6 + (3 : Int32)) p1 s2 h0.size h EA hs2 (by omega) hle (by omega)) e1 (pc := 126) (Ls := #[.val (.int p1), .val (.int p2), .val (.int p3), .val (.int p4), .val (.int p5), .val (.int p6), .val (.int x1), .val (.int x2), .val (.int y1), .val (.int y2), .val (.int xq), .val (.int dv), .val (.ref o), .unset, .unset, .unset, .unset, .unset]) (argsL := [(.int x2), (.int (p6 + (3 : Int32))), (.int p1)]) (rest := []) rfl (by rw [hml]; rfl) pd_7 rfl rfl (hb hby at_126) 0 (Nat.le_of_eq rfl) (by decide) (by decide) (by decide) (by decide)
      obtain ⟨rfl, ⟨u', hu', EL'⟩, N25⟩ := qq25
      refine own_go st25 ?_
      show own_Go p e below _ (T25.setTop (mkF m 129 #[.val (.int p1), .val (.int p2), .val (.int p3), .val (.int p4), .val (.int p5), .val (.int p6), .val (.int x1), .val (.int x2), .val (.int y1), .val (.int y2), .val (.int xq), .val (.int dv), .val (.ref o), .unset, .unset, .unset, .unset, .unset] []))
      have hS' := hS.second (x := (p6 + (3 : Int32))) (y := p1) rfl
      exact J129 _ _ _ _ _ _ u' X25 rfl EL' (by omega) (by rw [show min n2 1 = 1 by omega]; exact hS') (Fr.app Nl N25)
    · refine own_go (fun tt kk => XS.ifYes X.here hx rfl (pc0 := 114) (pc' := 129) rfl (hb hby at_114) rfl ((if0 _ _).trans (flt (own_nlt32 (x := (0 : Int32)) (y := y2) (i := 0) (j := y2.toInt) rfl rfl hc114)).2.2.2) (by decide) (by decide) kk) ?_
      show own_Go p e below _ (T.setTop (mkF m 129 #[.val (.int p1), .val (.int p2), .val (.int p3), .val (.int p4), .val (.int p5), .val (.int p6), .val (.int x1), .val (.int x2), .val (.int y1), .val (.int y2), .val (.int xq), .val (.int dv), .val (.ref o), .unset, .unset, .unset, .unset, .unset] []))
      exact J129 _ h locs cnt LA LB u (X.more (by decide) (by decide)) e1 EA (by omega) (by rw [show min n2 1 = 0 by omega]; exact hS) Nl
  have J94 : ∀ (T : State) (h : Heap) (locs : List Loc) (cnt : Nat → Nat) (LA LB : Nat → Nat → Int32) (u : Nat), Stand p l e room_1 s m #[(.int p1), (.int p2), (.int p3), (.int p4), (.int p5), (.int p6)] below meth c T locs 12 231 → T.heap = h → own_EL Z h0.size h o cnt LA LB u → u ≤ 14 → own_Sg s1 s2 p6 p1 (min n1 2) 0 cnt LA LB → Fr h0.size locs → own_Go p e below (own_End below s (fun v h L => v = some (.int 1) ∧ Fr h0.size L) room_1.cells room_1.slots) (T.setTop (mkF m 94 #[.val (.int p1), .val (.int p2), .val (.int p3), .val (.int p4), .val (.int p5), .val (.int p6), .val (.int x1), .val (.int x2), .val (.int y1), .val (.int y2), .val (.int xq), .val (.int dv), .val (.ref o), .unset, .unset, .unset, .unset, .unset] [])) := by
    intro T h locs cnt LA LB u X e1 EA hu hS Nl
    show own_Go p e below _ (T.setTop (mkF m 94 #[.val (.int p1), .val (.int p2), .val (.int p3), .val (.int p4), .val (.int p5), .val (.int p6), .val (.int x1), .val (.int x2), .val (.int y1), .val (.int y2), .val (.int xq), .val (.int dv), .val (.ref o), .unset, .unset, .unset, .unset, .unset] []))
    have hcx := hS.1 s1
    refine own_go (fun tt kk => XS.iload X.here hx rfl (hb hby at_94) rfl kk) ?_
    show own_Go p e below _ (T.setTop (mkF m 96 #[.val (.int p1), .val (.int p2), .val (.int p3), .val (.int p4), .val (.int p5), .val (.int p6), .val (.int x1), .val (.int x2), .val (.int y1), .val (.int y2), .val (.int xq), .val (.int dv), .val (.ref o), .unset, .unset, .unset, .unset, .unset] [(.int y1)]))
    refine own_go (fun tt kk => XS.iconst X.here hx rfl (hb hby at_96) kk) ?_
    show own_Go p e below _ (T.setTop (mkF m 97 #[.val (.int p1), .val (.int p2), .val (.int p3), .val (.int p4), .val (.int p5), .val (.int p6), .val (.int x1), .val (.int x2), .val (.int y1), .val (.int y2), .val (.int xq), .val (.int dv), .val (.ref o), .unset, .unset, .unset, .unset, .unset] [(.int (2 : Int32)), (.int y1)]))
    by_cases hc97 : 2 < y1.toInt
    · refine own_go (fun tt kk => XS.icmpNo X.here hx rfl (hb hby at_97) rfl (tlt (own_lt32 (x := (2 : Int32)) (y := y1) (i := 2) (j := y1.toInt) rfl rfl hc97)).2.2.2 kk) ?_
      show own_Go p e below _ (T.setTop (mkF m 100 #[.val (.int p1), .val (.int p2), .val (.int p3), .val (.int p4), .val (.int p5), .val (.int p6), .val (.int x1), .val (.int x2), .val (.int y1), .val (.int y2), .val (.int xq), .val (.int dv), .val (.ref o), .unset, .unset, .unset, .unset, .unset] []))
      refine own_go (fun tt kk => XS.aload X.here hx rfl (hb hby at_100) rfl rfl kk) ?_
      show own_Go p e below _ (T.setTop (mkF m 102 #[.val (.int p1), .val (.int p2), .val (.int p3), .val (.int p4), .val (.int p5), .val (.int p6), .val (.int x1), .val (.int x2), .val (.int y1), .val (.int y2), .val (.int xq), .val (.int dv), .val (.ref o), .unset, .unset, .unset, .unset, .unset] [(.ref o)]))
      refine own_go (fun tt kk => XS.iload X.here hx rfl (hb hby at_102) rfl kk) ?_
      show own_Go p e below _ (T.setTop (mkF m 104 #[.val (.int p1), .val (.int p2), .val (.int p3), .val (.int p4), .val (.int p5), .val (.int p6), .val (.int x1), .val (.int x2), .val (.int y1), .val (.int y2), .val (.int xq), .val (.int dv), .val (.ref o), .unset, .unset, .unset, .unset, .unset] [(.int x1), (.ref o)]))
      refine own_go (fun tt kk => XS.iload X.here hx rfl (hb hby at_104) rfl kk) ?_
      show own_Go p e below _ (T.setTop (mkF m 106 #[.val (.int p1), .val (.int p2), .val (.int p3), .val (.int p4), .val (.int p5), .val (.int p6), .val (.int x1), .val (.int x2), .val (.int y1), .val (.int y2), .val (.int xq), .val (.int dv), .val (.ref o), .unset, .unset, .unset, .unset, .unset] [(.int p6), (.int x1), (.ref o)]))
      refine own_go (fun tt kk => XS.iconst X.here hx rfl (hb hby at_106) kk) ?_
      show own_Go p e below _ (T.setTop (mkF m 107 #[.val (.int p1), .val (.int p2), .val (.int p3), .val (.int p4), .val (.int p5), .val (.int p6), .val (.int x1), .val (.int x2), .val (.int y1), .val (.int y2), .val (.int xq), .val (.int dv), .val (.ref o), .unset, .unset, .unset, .unset, .unset] [(.int (2 : Int32)), (.int p6), (.int x1), (.ref o)]))
      refine own_go (fun tt kk => XS.iadd X.here hx rfl (hb hby at_107) rfl kk) ?_
      show own_Go p e below _ (T.setTop (mkF m 108 #[.val (.int p1), .val (.int p2), .val (.int p3), .val (.int p4), .val (.int p5), .val (.int p6), .val (.int x1), .val (.int x2), .val (.int y1), .val (.int y2), .val (.int xq), .val (.int dv), .val (.ref o), .unset, .unset, .unset, .unset, .unset] [(.int (p6 + (2 : Int32))), (.int x1), (.ref o)]))
      refine own_go (fun tt kk => XS.iloadN X.here hx rfl (hb hby at_108) rfl kk) ?_
      show own_Go p e below _ (T.setTop (mkF m 109 #[.val (.int p1), .val (.int p2), .val (.int p3), .val (.int p4), .val (.int p5), .val (.int p6), .val (.int x1), .val (.int x2), .val (.int y1), .val (.int y2), .val (.int xq), .val (.int dv), .val (.ref o), .unset, .unset, .unset, .unset, .unset] [(.int p1), (.int (p6 + (2 : Int32))), (.int x1), (.ref o)]))
      have hle : cnt s1 ≤ 4 := by (repeat' split at hcx) <;> omega
      obtain ⟨v26, L26, T26, X26, qq26, st26⟩ := own_callV X hx hZ hown (hw _ (List.mem_of_getElem? (i := 21) rfl)) (hw _ (List.mem_of_getElem? (i := 22) rfl)) (hw _ (List.mem_of_getElem? (i := 24) rfl)) (hw _ (List.mem_of_getElem? (i := 23) rfl)) (hw _ (List.mem_of_getElem? (i := 25) rfl)) (hw _ (List.mem_of_getElem? (i := 3) rfl)) (by decide) (own_EL_exa EA) (rmAdd l Z a0 hw [] o cnt LA LB u x1 (p6 + (2 : Int32)) p1 s1 h0.size h EA hs1 (by omega) hle (by omega)) e1 (pc := 109) (Ls := #[.val (.int p1), .val (.int p2), .val (.int p3), .val (.int p4), .val (.int p5), .val (.int p6), .val (.int x1), .val (.int x2), .val (.int y1), .val (.int y2), .val (.int xq), .val (.int dv), .val (.ref o), .unset, .unset, .unset, .unset, .unset]) (argsL := [(.int x1), (.int (p6 + (2 : Int32))), (.int p1)]) (rest := []) rfl (by rw [hml]; rfl) pd_7 rfl rfl (hb hby at_109) 0 (Nat.le_of_eq rfl) (by decide) (by decide) (by decide) (by decide)
      obtain ⟨rfl, ⟨u', hu', EL'⟩, N26⟩ := qq26
      refine own_go st26 ?_
      show own_Go p e below _ (T26.setTop (mkF m 112 #[.val (.int p1), .val (.int p2), .val (.int p3), .val (.int p4), .val (.int p5), .val (.int p6), .val (.int x1), .val (.int x2), .val (.int y1), .val (.int y2), .val (.int xq), .val (.int dv), .val (.ref o), .unset, .unset, .unset, .unset, .unset] []))
      have hk : min n1 3 = 3 := by omega
      rw [show min n1 2 = 2 by omega] at hS
      have hS' := hS.first (x := (p6 + (2 : Int32))) rfl
      exact J112 _ _ _ _ _ _ u' X26 rfl EL' (by omega) (by rw [show n1 = 3 by omega]; exact hS') (Fr.app Nl N26)
    · refine own_go (fun tt kk => XS.icmpYes X.here hx rfl (pc0 := 97) (pc' := 112) rfl (hb hby at_97) rfl (flt (own_nlt32 (x := (2 : Int32)) (y := y1) (i := 2) (j := y1.toInt) rfl rfl hc97)).2.2.2 (by decide) (by decide) kk) ?_
      show own_Go p e below _ (T.setTop (mkF m 112 #[.val (.int p1), .val (.int p2), .val (.int p3), .val (.int p4), .val (.int p5), .val (.int p6), .val (.int x1), .val (.int x2), .val (.int y1), .val (.int y2), .val (.int xq), .val (.int dv), .val (.ref o), .unset, .unset, .unset, .unset, .unset] []))
      exact J112 _ h locs cnt LA LB u (X.more (by decide) (by decide)) e1 EA (by omega) (by rw [show min n1 2 = n1 by omega] at hS; exact hS) Nl
  have J76 : ∀ (T : State) (h : Heap) (locs : List Loc) (cnt : Nat → Nat) (LA LB : Nat → Nat → Int32) (u : Nat), Stand p l e room_1 s m #[(.int p1), (.int p2), (.int p3), (.int p4), (.int p5), (.int p6)] below meth c T locs 9 183 → T.heap = h → own_EL Z h0.size h o cnt LA LB u → u ≤ 7 → own_Sg s1 s2 p6 p1 (min n1 1) 0 cnt LA LB → Fr h0.size locs → own_Go p e below (own_End below s (fun v h L => v = some (.int 1) ∧ Fr h0.size L) room_1.cells room_1.slots) (T.setTop (mkF m 76 #[.val (.int p1), .val (.int p2), .val (.int p3), .val (.int p4), .val (.int p5), .val (.int p6), .val (.int x1), .val (.int x2), .val (.int y1), .val (.int y2), .val (.int xq), .val (.int dv), .val (.ref o), .unset, .unset, .unset, .unset, .unset] [])) := by
    intro T h locs cnt LA LB u X e1 EA hu hS Nl
    show own_Go p e below _ (T.setTop (mkF m 76 #[.val (.int p1), .val (.int p2), .val (.int p3), .val (.int p4), .val (.int p5), .val (.int p6), .val (.int x1), .val (.int x2), .val (.int y1), .val (.int y2), .val (.int xq), .val (.int dv), .val (.ref o), .unset, .unset, .unset, .unset, .unset] []))
    have hcx := hS.1 s1
    refine own_go (fun tt kk => XS.iload X.here hx rfl (hb hby at_76) rfl kk) ?_
    show own_Go p e below _ (T.setTop (mkF m 78 #[.val (.int p1), .val (.int p2), .val (.int p3), .val (.int p4), .val (.int p5), .val (.int p6), .val (.int x1), .val (.int x2), .val (.int y1), .val (.int y2), .val (.int xq), .val (.int dv), .val (.ref o), .unset, .unset, .unset, .unset, .unset] [(.int y1)]))
    refine own_go (fun tt kk => XS.iconst X.here hx rfl (hb hby at_78) kk) ?_
    show own_Go p e below _ (T.setTop (mkF m 79 #[.val (.int p1), .val (.int p2), .val (.int p3), .val (.int p4), .val (.int p5), .val (.int p6), .val (.int x1), .val (.int x2), .val (.int y1), .val (.int y2), .val (.int xq), .val (.int dv), .val (.ref o), .unset, .unset, .unset, .unset, .unset] [(.int (1 : Int32)), (.int y1)]))
    by_cases hc79 : 1 < y1.toInt
    · refine own_go (fun tt kk => XS.icmpNo X.here hx rfl (hb hby at_79) rfl (tlt (own_lt32 (x := (1 : Int32)) (y := y1) (i := 1) (j := y1.toInt) rfl rfl hc79)).2.2.2 kk) ?_
      show own_Go p e below _ (T.setTop (mkF m 82 #[.val (.int p1), .val (.int p2), .val (.int p3), .val (.int p4), .val (.int p5), .val (.int p6), .val (.int x1), .val (.int x2), .val (.int y1), .val (.int y2), .val (.int xq), .val (.int dv), .val (.ref o), .unset, .unset, .unset, .unset, .unset] []))
      refine own_go (fun tt kk => XS.aload X.here hx rfl (hb hby at_82) rfl rfl kk) ?_
      show own_Go p e below _ (T.setTop (mkF m 84 #[.val (.int p1), .val (.int p2), .val (.int p3), .val (.int p4), .val (.int p5), .val (.int p6), .val (.int x1), .val (.int x2), .val (.int y1), .val (.int y2), .val (.int xq), .val (.int dv), .val (.ref o), .unset, .unset, .unset, .unset, .unset] [(.ref o)]))
      refine own_go (fun tt kk => XS.iload X.here hx rfl (hb hby at_84) rfl kk) ?_
      show own_Go p e below _ (T.setTop (mkF m 86 #[.val (.int p1), .val (.int p2), .val (.int p3), .val (.int p4), .val (.int p5), .val (.int p6), .val (.int x1), .val (.int x2), .val (.int y1), .val (.int y2), .val (.int xq), .val (.int dv), .val (.ref o), .unset, .unset, .unset, .unset, .unset] [(.int x1), (.ref o)]))
      refine own_go (fun tt kk => XS.iload X.here hx rfl (hb hby at_86) rfl kk) ?_
      show own_Go p e below _ (T.setTop (mkF m 88 #[.val (.int p1), .val (.int p2), .val (.int p3), .val (.int p4), .val (.int p5), .val (.int p6), .val (.int x1), .val (.int x2), .val (.int y1), .val (.int y2), .val (.int xq), .val (.int dv), .val (.ref o), .unset, .unset, .unset, .unset, .unset] [(.int p6), (.int x1), (.ref o)]))
      refine own_go (fun tt kk => XS.iconst X.here hx rfl (hb hby at_88) kk) ?_
      show own_Go p e below _ (T.setTop (mkF m 89 #[.val (.int p1), .val (.int p2), .val (.int p3), .val (.int p4), .val (.int p5), .val (.int p6), .val (.int x1), .val (.int x2), .val (.int y1), .val (.int y2), .val (.int xq), .val (.int dv), .val (.ref o), .unset, .unset, .unset, .unset, .unset] [(.int (1 : Int32)), (.int p6), (.int x1), (.ref o)]))
      refine own_go (fun tt kk => XS.iadd X.here hx rfl (hb hby at_89) rfl kk) ?_
      show own_Go p e below _ (T.setTop (mkF m 90 #[.val (.int p1), .val (.int p2), .val (.int p3), .val (.int p4), .val (.int p5), .val (.int p6), .val (.int x1), .val (.int x2), .val (.int y1), .val (.int y2), .val (.int xq), .val (.int dv), .val (.ref o), .unset, .unset, .unset, .unset, .unset] [(.int (p6 + (1 : Int32))), (.int x1), (.ref o)]))
      refine own_go (fun tt kk => XS.iloadN X.here hx rfl (hb hby at_90) rfl kk) ?_
      show own_Go p e below _ (T.setTop (mkF m 91 #[.val (.int p1), .val (.int p2), .val (.int p3), .val (.int p4), .val (.int p5), .val (.int p6), .val (.int x1), .val (.int x2), .val (.int y1), .val (.int y2), .val (.int xq), .val (.int dv), .val (.ref o), .unset, .unset, .unset, .unset, .unset] [(.int p1), (.int (p6 + (1 : Int32))), (.int x1), (.ref o)]))
      have hle : cnt s1 ≤ 4 := by (repeat' split at hcx) <;> omega
      obtain ⟨v27, L27, T27, X27, qq27, st27⟩ := own_callV X hx hZ hown (hw _ (List.mem_of_getElem? (i := 21) rfl)) (hw _ (List.mem_of_getElem? (i := 22) rfl)) (hw _ (List.mem_of_getElem? (i := 24) rfl)) (hw _ (List.mem_of_getElem? (i := 23) rfl)) (hw _ (List.mem_of_getElem? (i := 25) rfl)) (hw _ (List.mem_of_getElem? (i := 3) rfl)) (by decide) (own_EL_exa EA) (rmAdd l Z a0 hw [] o cnt LA LB u x1 (p6 + (1 : Int32)) p1 s1 h0.size h EA hs1 (by omega) hle (by omega)) e1 (pc := 91) (Ls := #[.val (.int p1), .val (.int p2), .val (.int p3), .val (.int p4), .val (.int p5), .val (.int p6), .val (.int x1), .val (.int x2), .val (.int y1), .val (.int y2), .val (.int xq), .val (.int dv), .val (.ref o), .unset, .unset, .unset, .unset, .unset]) (argsL := [(.int x1), (.int (p6 + (1 : Int32))), (.int p1)]) (rest := []) rfl (by rw [hml]; rfl) pd_7 rfl rfl (hb hby at_91) 0 (Nat.le_of_eq rfl) (by decide) (by decide) (by decide) (by decide)
      obtain ⟨rfl, ⟨u', hu', EL'⟩, N27⟩ := qq27
      refine own_go st27 ?_
      show own_Go p e below _ (T27.setTop (mkF m 94 #[.val (.int p1), .val (.int p2), .val (.int p3), .val (.int p4), .val (.int p5), .val (.int p6), .val (.int x1), .val (.int x2), .val (.int y1), .val (.int y2), .val (.int xq), .val (.int dv), .val (.ref o), .unset, .unset, .unset, .unset, .unset] []))
      have hk : min n1 2 = 2 := by omega
      rw [show min n1 1 = 1 by omega] at hS
      have hS' := hS.first (x := (p6 + (1 : Int32))) rfl
      exact J94 _ _ _ _ _ _ u' X27 rfl EL' (by omega) (by rw [hk]; exact hS') (Fr.app Nl N27)
    · refine own_go (fun tt kk => XS.icmpYes X.here hx rfl (pc0 := 79) (pc' := 94) rfl (hb hby at_79) rfl (flt (own_nlt32 (x := (1 : Int32)) (y := y1) (i := 1) (j := y1.toInt) rfl rfl hc79)).2.2.2 (by decide) (by decide) kk) ?_
      show own_Go p e below _ (T.setTop (mkF m 94 #[.val (.int p1), .val (.int p2), .val (.int p3), .val (.int p4), .val (.int p5), .val (.int p6), .val (.int x1), .val (.int x2), .val (.int y1), .val (.int y2), .val (.int xq), .val (.int dv), .val (.ref o), .unset, .unset, .unset, .unset, .unset] []))
      exact J94 _ h locs cnt LA LB u (X.more (by decide) (by decide)) e1 EA (by omega) (by rw [show min n1 2 = min n1 1 by omega]; exact hS) Nl
  have J61 : ∀ (T : State) (h : Heap) (locs : List Loc) (cnt : Nat → Nat) (LA LB : Nat → Nat → Int32) (u : Nat), Stand p l e room_1 s m #[(.int p1), (.int p2), (.int p3), (.int p4), (.int p5), (.int p6)] below meth c T locs 6 135 → T.heap = h → own_EL Z h0.size h o cnt LA LB u → u ≤ 0 → own_Sg s1 s2 p6 p1 0 0 cnt LA LB → Fr h0.size locs → own_Go p e below (own_End below s (fun v h L => v = some (.int 1) ∧ Fr h0.size L) room_1.cells room_1.slots) (T.setTop (mkF m 61 #[.val (.int p1), .val (.int p2), .val (.int p3), .val (.int p4), .val (.int p5), .val (.int p6), .val (.int x1), .val (.int x2), .val (.int y1), .val (.int y2), .val (.int xq), .val (.int dv), .val (.ref o), .unset, .unset, .unset, .unset, .unset] [])) := by
    intro T h locs cnt LA LB u X e1 EA hu hS Nl
    show own_Go p e below _ (T.setTop (mkF m 61 #[.val (.int p1), .val (.int p2), .val (.int p3), .val (.int p4), .val (.int p5), .val (.int p6), .val (.int x1), .val (.int x2), .val (.int y1), .val (.int y2), .val (.int xq), .val (.int dv), .val (.ref o), .unset, .unset, .unset, .unset, .unset] []))
    have hcx := hS.1 s1
    refine own_go (fun tt kk => XS.iload X.here hx rfl (hb hby at_61) rfl kk) ?_
    show own_Go p e below _ (T.setTop (mkF m 63 #[.val (.int p1), .val (.int p2), .val (.int p3), .val (.int p4), .val (.int p5), .val (.int p6), .val (.int x1), .val (.int x2), .val (.int y1), .val (.int y2), .val (.int xq), .val (.int dv), .val (.ref o), .unset, .unset, .unset, .unset, .unset] [(.int y1)]))
    by_cases hc63 : 0 < y1.toInt
    · refine own_go (fun tt kk => XS.ifNo X.here hx rfl (hb hby at_63) rfl ((if0 _ _).trans (tlt (own_lt32 (x := (0 : Int32)) (y := y1) (i := 0) (j := y1.toInt) rfl rfl hc63)).2.2.2) kk) ?_
      show own_Go p e below _ (T.setTop (mkF m 66 #[.val (.int p1), .val (.int p2), .val (.int p3), .val (.int p4), .val (.int p5), .val (.int p6), .val (.int x1), .val (.int x2), .val (.int y1), .val (.int y2), .val (.int xq), .val (.int dv), .val (.ref o), .unset, .unset, .unset, .unset, .unset] []))
      refine own_go (fun tt kk => XS.aload X.here hx rfl (hb hby at_66) rfl rfl kk) ?_
      show own_Go p e below _ (T.setTop (mkF m 68 #[.val (.int p1), .val (.int p2), .val (.int p3), .val (.int p4), .val (.int p5), .val (.int p6), .val (.int x1), .val (.int x2), .val (.int y1), .val (.int y2), .val (.int xq), .val (.int dv), .val (.ref o), .unset, .unset, .unset, .unset, .unset] [(.ref o)]))
      refine own_go (fun tt kk => XS.iload X.here hx rfl (hb hby at_68) rfl kk) ?_
      show own_Go p e below _ (T.setTop (mkF m 70 #[.val (.int p1), .val (.int p2), .val (.int p3), .val (.int p4), .val (.int p5), .val (.int p6), .val (.int x1), .val (.int x2), .val (.int y1), .val (.int y2), .val (.int xq), .val (.int dv), .val (.ref o), .unset, .unset, .unset, .unset, .unset] [(.int x1), (.ref o)]))
      refine own_go (fun tt kk => XS.iload X.here hx rfl (hb hby at_70) rfl kk) ?_
      show own_Go p e below _ (T.setTop (mkF m 72 #[.val (.int p1), .val (.int p2), .val (.int p3), .val (.int p4), .val (.int p5), .val (.int p6), .val (.int x1), .val (.int x2), .val (.int y1), .val (.int y2), .val (.int xq), .val (.int dv), .val (.ref o), .unset, .unset, .unset, .unset, .unset] [(.int p6), (.int x1), (.ref o)]))
      refine own_go (fun tt kk => XS.iloadN X.here hx rfl (hb hby at_72) rfl kk) ?_
      show own_Go p e below _ (T.setTop (mkF m 73 #[.val (.int p1), .val (.int p2), .val (.int p3), .val (.int p4), .val (.int p5), .val (.int p6), .val (.int x1), .val (.int x2), .val (.int y1), .val (.int y2), .val (.int xq), .val (.int dv), .val (.ref o), .unset, .unset, .unset, .unset, .unset] [(.int p1), (.int p6), (.int x1), (.ref o)]))
      have hle : cnt s1 ≤ 4 := by (repeat' split at hcx) <;> omega
      obtain ⟨v28, L28, T28, X28, qq28, st28⟩ := own_callV X hx hZ hown (hw _ (List.mem_of_getElem? (i := 21) rfl)) (hw _ (List.mem_of_getElem? (i := 22) rfl)) (hw _ (List.mem_of_getElem? (i := 24) rfl)) (hw _ (List.mem_of_getElem? (i := 23) rfl)) (hw _ (List.mem_of_getElem? (i := 25) rfl)) (hw _ (List.mem_of_getElem? (i := 3) rfl)) (by decide) (own_EL_exa EA) (rmAdd l Z a0 hw [] o cnt LA LB u x1 p6 p1 s1 h0.size h EA hs1 (by omega) hle (by omega)) e1 (pc := 73) (Ls := #[.val (.int p1), .val (.int p2), .val (.int p3), .val (.int p4), .val (.int p5), .val (.int p6), .val (.int x1), .val (.int x2), .val (.int y1), .val (.int y2), .val (.int xq), .val (.int dv), .val (.ref o), .unset, .unset, .unset, .unset, .unset]) (argsL := [(.int x1), (.int p6), (.int p1)]) (rest := []) rfl (by rw [hml]; rfl) pd_7 rfl rfl (hb hby at_73) 0 (Nat.le_of_eq rfl) (by decide) (by decide) (by decide) (by decide)
      obtain ⟨rfl, ⟨u', hu', EL'⟩, N28⟩ := qq28
      refine own_go st28 ?_
      show own_Go p e below _ (T28.setTop (mkF m 76 #[.val (.int p1), .val (.int p2), .val (.int p3), .val (.int p4), .val (.int p5), .val (.int p6), .val (.int x1), .val (.int x2), .val (.int y1), .val (.int y2), .val (.int xq), .val (.int dv), .val (.ref o), .unset, .unset, .unset, .unset, .unset] []))
      have hk : min n1 1 = 1 := by omega
      have hS' := hS.first (x := p6) (Int32.add_zero p6).symm
      exact J76 _ _ _ _ _ _ u' X28 rfl EL' (by omega) (by rw [hk]; exact hS') (Fr.app Nl N28)
    · refine own_go (fun tt kk => XS.ifYes X.here hx rfl (pc0 := 63) (pc' := 76) rfl (hb hby at_63) rfl ((if0 _ _).trans (flt (own_nlt32 (x := (0 : Int32)) (y := y1) (i := 0) (j := y1.toInt) rfl rfl hc63)).2.2.2) (by decide) (by decide) kk) ?_
      show own_Go p e below _ (T.setTop (mkF m 76 #[.val (.int p1), .val (.int p2), .val (.int p3), .val (.int p4), .val (.int p5), .val (.int p6), .val (.int x1), .val (.int x2), .val (.int y1), .val (.int y2), .val (.int xq), .val (.int dv), .val (.ref o), .unset, .unset, .unset, .unset, .unset] []))
      exact J76 _ h locs cnt LA LB u (X.more (by decide) (by decide)) e1 EA (by omega) (by rw [show min n1 1 = 0 by omega]; exact hS) Nl
  exact J61 _ _ _ (fun _ => 0) (fun _ _ => 0) (fun _ _ => 0) 0 X2 rfl ⟨aS, aC, aR, aA, aB, 0, _, _, _, _, _, 0, 0, fun _ => 0, fun _ => 0, EL0, ⟨by omega, fun q hq => absurd hq (Nat.not_lt_zero _), fun _ _ => rfl, fun q q' hq => absurd hq (Nat.not_lt_zero _)⟩, rfl⟩ (by omega) ⟨fun q => by (repeat' split) <;> rfl, fun k hk => absurd hk (Nat.not_lt_zero _), fun k hk => absurd hk (Nat.not_lt_zero _)⟩ (Fr.app (Fr.nil _) N2)
set_option maxRecDepth 65536 in
set_option maxHeartbeats 40000000 in
theorem comes_1 {Post : Tables → Env → Array Value → State → Outcome → State → Prop} (hpost : ∀ tb e args s v u, (limb_1_1.after args s (.returned v) u = true ∧ limb_1_2.after args s (.returned v) u = true ∧ True) → FrameEnd s (.returned v) u (Jvm.fieldLocs frame_1_writes args s ++ Jvm.arrayLocs frame_1_arrays args s ++ Jvm.staticLocs frame_1_statics s) 32 512 → Post tb e args s (.returned v) u) :
    ArmFor flags0 classFile x code maxLocals ret World_1 tables_1 room_1 Calls_1 rest_1 Pre_1 Post := by
  intro l hfl _ _ p e ha hc hk s m args below hf hA hF happ hP
  obtain ⟨hcalls, hrest, hpre⟩ := hP
  obtain ⟨-, -, -, hnamed, -, -, -, hat⟩ := (Spec.applies_iff hf).mp happ
  obtain ⟨hg, hn⟩ := and_e (Cond.before_iff.mp (show (Jvm.Cond.and given_1 narrow_1).before args s = true from hpre))
  obtain ⟨h1, h2⟩ := and_e hg
  obtain ⟨w0, w1, w2, w3, w4, w5, rfl⟩ : ∃ w0 w1 w2 w3 w4 w5 : Value, args = #[w0, w1, w2, w3, w4, w5] := by
    have hs : args.size = 6 := by simpa [Cond.value, given_1] using h1
    obtain ⟨L⟩ := args
    match L, hs with
    | [w0, w1, w2, w3, w4, w5], _ => exact ⟨w0, w1, w2, w3, w4, w5, rfl⟩
  have hw := fun d (hd : d ∈ tables_1) => atoms_spec (ws := Jvm.Cond.code x code maxLocals ret :: tables_1) hat d (List.mem_cons_of_mem _ hd)
  obtain ⟨g0, h20⟩ := and_e h2
  obtain ⟨i0, e0⟩ := is_v g0
  obtain rfl : w0 = (.int i0) := Option.some.inj e0
  obtain ⟨g1, h21⟩ := and_e h20
  obtain ⟨i1, e1⟩ := is_v g1
  obtain rfl : w1 = (.int i1) := Option.some.inj e1
  obtain ⟨g2, h22⟩ := and_e h21
  obtain ⟨i2, e2⟩ := is_v g2
  obtain rfl : w2 = (.int i2) := Option.some.inj e2
  obtain ⟨g3, h23⟩ := and_e h22
  obtain ⟨i3, e3⟩ := is_v g3
  obtain rfl : w3 = (.int i3) := Option.some.inj e3
  obtain ⟨g4, h24⟩ := and_e h23
  obtain ⟨i4, e4⟩ := is_v g4
  obtain rfl : w4 = (.int i4) := Option.some.inj e4
  obtain ⟨i5, e5⟩ := is_v h24
  obtain rfl : w5 = (.int i5) := Option.some.inj e5
  obtain ⟨n, o, h1, h2, h3, _, L, rfl, ⟨rfl, N⟩, hq⟩ := rm0 l s _ hw tables_1 i0 i1 i2 i3 i4 i5 s.heap p e ha hc hk s m _ below hf ((Spec.applies_iff_loose hf).mp happ).1 ⟨rfl, State.Warmed39.refl s, rfl⟩ trivial
  refine ⟨n, _, h1, h2, h3, hpost _ _ _ _ _ _ ⟨Cond.after_iff.mpr rfl, Cond.after_iff.mpr (eq_i res_at (Term.int_eval (1)) rfl), trivial⟩ ⟨hq.1, hq.2.1, (hq.2.2.sift fun y hy => Or.inr (N y hy)).mono (by decide) (by decide)⟩⟩
theorem main_1_1 : Claimed_1_1 := comes_1 fun _ _ _ _ _ _ h hF => ⟨h.1, hF⟩
theorem main_1_2 : Claimed_1_2 := comes_1 fun _ _ _ _ _ _ h hF => ⟨h.2.1, hF⟩
end Jvm.Pilot.@@N@@
namespace Jvm.Pilot.@@N@@
open Jvm Jvm.ClassFile Sem Op Lib Jvm.Free Jvm.Stand Jvm.Pilot.@@N@@.Jvm.D
/-! MADE BY PROGRAM (witnessworld.py) out of the Statement's table words and the real class files: 13 classes; the members and pool entries that the words name. The judged class is class 1, her method 1. -/
namespace start1
open Jvm.ClassFile
def u (s : String) : CpInfo := .utf8 (stringToUtf16 s)
/-- a pool by its gaps: so many unusable entries, then the entry; so many at the end -/
def gap : Nat → List CpInfo → List CpInfo
  | 0, r => r
  | n + 1, r => .unusable :: gap n r
def poolList (es : List (Nat × CpInfo)) (last : Nat) : List CpInfo := es.foldr (fun e r => gap e.1 (e.2 :: r)) (gap last [])
def pool (es : List (Nat × CpInfo)) (last : Nat) : Array CpInfo := ⟨poolList es last⟩
def fileOf (pool : Array CpInfo) (this : Nat) (attrs : Array Attribute := #[]) (ms : Array MethodInfo := #[]) (fl : Nat := 33) (sup : Nat := 0) (ifs : Array Nat := #[]) (fds : Array FieldInfo := #[]) : ClassFile where
  minorVersion := 0
  majorVersion := 65
  constantPool := pool
  accessFlags := fl
  thisClass := this
  superClass := sup
  interfaces := ifs
  fields := fds
  methods := ms
  attributes := attrs
def plain (name : String) (sup : Option ClassId) : Class where
  name := name
  kind := .ordinary
  loader := none
  accessFlags := 33
  super := sup
  interfaces := #[]
  cf := none
  fields := #[]
  methods := #[]
  instanceTypes := #[]
  staticTypes := #[]
  resolved := #[]
  callSites := []
  init := .initialized
  statics := none
  mirror := none

def pool0 : Array CpInfo := pool [(5, u "<init>"), (0, u "()V"), (1, .class_ 10), (1, u "java/lang/Object")] 113

def k0c0 : Code := { maxStack := 0, maxLocals := 1, code := object_method_1_code, exceptionTable := #[], attributes := #[] }
def k0m0 : Method := { name := "<init>", desc := "()V", sig := { parameters := [], returnType := none }, accessFlags := 1, code := some k0c0 }
/-- java/lang/Object -/
def k0 : Class := { plain "java/lang/Object" none with
  accessFlags := 33
  interfaces := #[]
  cf := some (fileOf pool0 8 #[] #[{ accessFlags := 1, nameIndex := 5, descriptorIndex := 6, attributes := #[] }] 33 0 #[] #[])
  fields := #[]
  methods := #[k0m0]
  instanceTypes := #[]
  staticTypes := #[]
  resolved := Array.replicate 124 none
  statics := none }

def pool1 : Array CpInfo := pool [(2, .class_ 4), (0, .nameAndType 5 6), (0, u "java/lang/Object"), (0, u "<init>"), (0, u "()V"), (0, .integer 2147483647), (0, .class_ 9), (0, u "com/example/guarantor/guarantor/ag/EdgeLists"), (0, .methodref 8 3), (0, .methodref 8 12), (0, .nameAndType 13 14), (0, u "add"), (0, u "(III)V"), (0, .methodref 8 16), (0, .nameAndType 17 14), (0, u "remove"), (0, .methodref 8 19), (0, .nameAndType 20 21), (0, u "start"), (0, u "(I)I"), (0, .methodref 8 23), (0, .nameAndType 24 21), (0, u "end"), (0, .methodref 8 26), (0, .nameAndType 27 21), (0, u "action"), (0, .class_ 29), (0, u "com/example/guarantor/guarantor/ag/EdgeListsEndPinLaw"), (2, u "law"), (0, u "(IIIIII)Z")] 3

def k1m0 : Method := { name := "<init>", desc := "()V", sig := { parameters := [], returnType := none }, accessFlags := 1, code := none }
def k1c1 : Code := { maxStack := 4, maxLocals := 18, code := code, exceptionTable := #[], attributes := #[] }
def k1m1 : Method := { name := "law", desc := "(IIIIII)Z", sig := { parameters := [.int, .int, .int, .int, .int, .int], returnType := some .boolean }, accessFlags := 9, code := some k1c1 }
/-- com/example/guarantor/guarantor/ag/EdgeListsEndPinLaw -/
def k1 : Class := { plain "com/example/guarantor/guarantor/ag/EdgeListsEndPinLaw" (some 0) with
  accessFlags := 49
  interfaces := #[]
  cf := some (fileOf pool1 28 #[] #[{ accessFlags := 1, nameIndex := 5, descriptorIndex := 6, attributes := #[] }, { accessFlags := 9, nameIndex := 32, descriptorIndex := 33, attributes := #[] }] 49 2 #[] #[])
  fields := #[]
  methods := #[k1m0, k1m1]
  instanceTypes := #[]
  staticTypes := #[]
  resolved := Array.replicate 37 none
  statics := none }

def pool2 : Array CpInfo := pool [(1, .class_ 2), (0, u "com/example/guarantor/guarantor/lts/EdgeGroups"), (0, .class_ 4), (0, u "java/lang/Object")] 7

/-- com/example/guarantor/guarantor/lts/EdgeGroups -/
def k2 : Class := { plain "com/example/guarantor/guarantor/lts/EdgeGroups" (some 0) with
  accessFlags := 1537
  interfaces := #[]
  cf := some (fileOf pool2 1 #[] #[] 1537 3 #[] #[])
  fields := #[]
  methods := #[]
  instanceTypes := #[]
  staticTypes := #[]
  resolved := Array.replicate 12 none
  statics := none }

def pool3 : Array CpInfo := pool [(3, .methodref 4 5), (0, .class_ 6), (0, .nameAndType 7 8), (0, u "java/lang/Object"), (0, u "<init>"), (0, u "()V"), (0, .fieldref 10 11), (0, .class_ 12), (0, .nameAndType 13 14), (0, u "com/example/guarantor/guarantor/ag/EdgeLists"), (0, u "starts"), (0, u "[I"), (0, .fieldref 10 16), (0, .nameAndType 17 14), (0, u "counts"), (0, .fieldref 10 19), (0, .nameAndType 20 14), (0, u "rooms"), (0, .fieldref 10 22), (0, .nameAndType 23 14), (0, u "actions"), (0, .fieldref 10 25), (0, .nameAndType 26 14), (0, u "neighbours"), (0, .methodref 10 28), (0, .nameAndType 29 30), (0, u "fit"), (0, u "(I)V"), (0, .methodref 10 32), (0, .nameAndType 33 34), (0, u "reserve"), (0, u "(II)V"), (0, .methodref 10 36), (0, .nameAndType 37 38), (0, u "end"), (0, u "(I)I"), (0, .methodref 10 40), (0, .nameAndType 41 38), (0, u "start"), (9, .methodref 52 53), (0, .class_ 54), (0, .nameAndType 55 56), (0, u "java/lang/System"), (0, u "arraycopy"), (0, u "(Ljava/lang/Object;ILjava/lang/Object;II)V"), (0, .fieldref 10 58), (0, .nameAndType 59 60), (0, u "stateCount"), (0, u "I"), (0, .methodref 62 63), (0, .class_ 64), (0, .nameAndType 65 66), (0, u "java/lang/Math"), (0, u "max"), (0, u "(II)I"), (0, .methodref 68 69), (0, .class_ 70), (0, .nameAndType 71 72), (0, u "java/util/Arrays"), (0, u "copyOf"), (0, u "([II)[I"), (0, .long 2147483639), (1, .methodref 62 76), (0, .nameAndType 77 78), (0, u "min"), (0, u "(JJ)J"), (0, .fieldref 10 80), (0, .nameAndType 81 60), (0, u "used"), (11, .class_ 94), (0, u "com/example/guarantor/guarantor/lts/EdgeGroups"), (0, u "MAX_LENGTH"), (5, u "action"), (1, u "add"), (0, u "(III)V"), (0, u "remove")] 20

def k3c0 : Code := { maxStack := 2, maxLocals := 1, code := prog_8_method_1_code, exceptionTable := #[], attributes := #[] }
def k3m0 : Method := { name := "<init>", desc := "()V", sig := { parameters := [], returnType := none }, accessFlags := 0, code := some k3c0 }
def k3c1 : Code := { maxStack := 2, maxLocals := 2, code := prog_8_method_2_code, exceptionTable := #[], attributes := #[] }
def k3m1 : Method := { name := "start", desc := "(I)I", sig := { parameters := [.int], returnType := some .int }, accessFlags := 1, code := some k3c1 }
def k3c2 : Code := { maxStack := 3, maxLocals := 2, code := prog_8_method_3_code, exceptionTable := #[], attributes := #[] }
def k3m2 : Method := { name := "end", desc := "(I)I", sig := { parameters := [.int], returnType := some .int }, accessFlags := 1, code := some k3c2 }
def k3c3 : Code := { maxStack := 2, maxLocals := 2, code := prog_8_method_4_code, exceptionTable := #[], attributes := #[] }
def k3m3 : Method := { name := "action", desc := "(I)I", sig := { parameters := [.int], returnType := some .int }, accessFlags := 1, code := some k3c3 }
def k3c4 : Code := { maxStack := 6, maxLocals := 5, code := prog_8_method_6_code, exceptionTable := #[], attributes := #[] }
def k3m4 : Method := { name := "add", desc := "(III)V", sig := { parameters := [.int, .int, .int], returnType := none }, accessFlags := 0, code := some k3c4 }
def k3c5 : Code := { maxStack := 4, maxLocals := 6, code := prog_8_method_7_code, exceptionTable := #[], attributes := #[] }
def k3m5 : Method := { name := "remove", desc := "(III)V", sig := { parameters := [.int, .int, .int], returnType := none }, accessFlags := 0, code := some k3c5 }
def k3c6 : Code := { maxStack := 4, maxLocals := 3, code := prog_8_method_9_code, exceptionTable := #[], attributes := #[] }
def k3m6 : Method := { name := "fit", desc := "(I)V", sig := { parameters := [.int], returnType := none }, accessFlags := 2, code := some k3c6 }
def k3c7 : Code := { maxStack := 6, maxLocals := 4, code := prog_8_method_10_code, exceptionTable := #[], attributes := #[] }
def k3m7 : Method := { name := "reserve", desc := "(II)V", sig := { parameters := [.int, .int], returnType := none }, accessFlags := 2, code := some k3c7 }
/-- com/example/guarantor/guarantor/ag/EdgeLists -/
def k3 : Class := { plain "com/example/guarantor/guarantor/ag/EdgeLists" (some 0) with
  accessFlags := 48
  interfaces := #[2]
  cf := some (fileOf pool3 10 #[] #[{ accessFlags := 0, nameIndex := 7, descriptorIndex := 8, attributes := #[] }, { accessFlags := 1, nameIndex := 41, descriptorIndex := 38, attributes := #[] }, { accessFlags := 1, nameIndex := 37, descriptorIndex := 38, attributes := #[] }, { accessFlags := 1, nameIndex := 101, descriptorIndex := 38, attributes := #[] }, { accessFlags := 0, nameIndex := 103, descriptorIndex := 104, attributes := #[] }, { accessFlags := 0, nameIndex := 105, descriptorIndex := 104, attributes := #[] }, { accessFlags := 2, nameIndex := 29, descriptorIndex := 30, attributes := #[] }, { accessFlags := 2, nameIndex := 33, descriptorIndex := 34, attributes := #[] }] 48 4 #[93] #[{ accessFlags := 26, nameIndex := 95, descriptorIndex := 60, attributes := #[] }, { accessFlags := 2, nameIndex := 13, descriptorIndex := 14, attributes := #[] }, { accessFlags := 2, nameIndex := 17, descriptorIndex := 14, attributes := #[] }, { accessFlags := 2, nameIndex := 20, descriptorIndex := 14, attributes := #[] }, { accessFlags := 2, nameIndex := 59, descriptorIndex := 60, attributes := #[] }, { accessFlags := 2, nameIndex := 23, descriptorIndex := 14, attributes := #[] }, { accessFlags := 2, nameIndex := 26, descriptorIndex := 14, attributes := #[] }, { accessFlags := 2, nameIndex := 81, descriptorIndex := 60, attributes := #[] }])
  fields := #[{ name := "MAX_LENGTH", type := .int, accessFlags := 26, slot := 0, constantValue := 0 }, { name := "starts", type := (.array .int), accessFlags := 2, slot := 0, constantValue := 0 }, { name := "counts", type := (.array .int), accessFlags := 2, slot := 1, constantValue := 0 }, { name := "rooms", type := (.array .int), accessFlags := 2, slot := 2, constantValue := 0 }, { name := "stateCount", type := .int, accessFlags := 2, slot := 3, constantValue := 0 }, { name := "actions", type := (.array .int), accessFlags := 2, slot := 4, constantValue := 0 }, { name := "neighbours", type := (.array .int), accessFlags := 2, slot := 5, constantValue := 0 }, { name := "used", type := .int, accessFlags := 2, slot := 6, constantValue := 0 }]
  methods := #[k3m0, k3m1, k3m2, k3m3, k3m4, k3m5, k3m6, k3m7]
  instanceTypes := #[(.array .int), (.array .int), (.array .int), .int, (.array .int), (.array .int), .int]
  staticTypes := #[.int]
  resolved := Array.replicate 126 none
  statics := none }

def pool4 : Array CpInfo := pool [(1, .class_ 2), (0, u "java/lang/Math"), (1, .class_ 6), (1, u "java/lang/Object"), (0, u "<init>"), (0, u "()V"), (89, .class_ 100), (1, u "java/lang/Math$RandomNumberGeneratorHolder"), (20, u "(JJ)J"), (50, u "negativeZeroFloatBits"), (0, u "J"), (2, u "negativeZeroDoubleBits"), (21, u "max"), (2, u "min"), (43, u "$assertionsDisabled"), (0, u "Z"), (88, u "(II)I"), (2, u "twoToTheDoubleScaleDown"), (0, u "D"), (4, u "twoToTheDoubleScaleUp"), (9, u "E"), (3, u "PI"), (2, u "TAU"), (2, u "DEGREES_TO_RADIANS"), (0, u "RADIANS_TO_DEGREES")] 94

def k4m0 : Method := { name := "<init>", desc := "()V", sig := { parameters := [], returnType := none }, accessFlags := 2, code := none }
def k4c1 : Code := { maxStack := 2, maxLocals := 2, code := jdk_29_method_65_code, exceptionTable := #[], attributes := #[] }
def k4m1 : Method := { name := "max", desc := "(II)I", sig := { parameters := [.int, .int], returnType := some .int }, accessFlags := 9, code := some k4c1 }
def k4c2 : Code := { maxStack := 2, maxLocals := 2, code := jdk_29_method_69_code, exceptionTable := #[], attributes := #[] }
def k4m2 : Method := { name := "min", desc := "(II)I", sig := { parameters := [.int, .int], returnType := some .int }, accessFlags := 9, code := some k4c2 }
def k4c3 : Code := { maxStack := 4, maxLocals := 4, code := jdk_29_method_70_code, exceptionTable := #[], attributes := #[] }
def k4m3 : Method := { name := "min", desc := "(JJ)J", sig := { parameters := [.long, .long], returnType := some .long }, accessFlags := 9, code := some k4c3 }
/-- java/lang/Math -/
def k4 : Class := { plain "java/lang/Math" (some 0) with
  accessFlags := 49
  interfaces := #[]
  cf := some (fileOf pool4 1 #[.nestMembers #[98]] #[{ accessFlags := 2, nameIndex := 7, descriptorIndex := 8, attributes := #[] }, { accessFlags := 9, nameIndex := 198, descriptorIndex := 335, attributes := #[] }, { accessFlags := 9, nameIndex := 201, descriptorIndex := 335, attributes := #[] }, { accessFlags := 9, nameIndex := 201, descriptorIndex := 121, attributes := #[] }] 49 4 #[] #[{ accessFlags := 25, nameIndex := 354, descriptorIndex := 339, attributes := #[] }, { accessFlags := 25, nameIndex := 358, descriptorIndex := 339, attributes := #[] }, { accessFlags := 25, nameIndex := 361, descriptorIndex := 339, attributes := #[] }, { accessFlags := 26, nameIndex := 364, descriptorIndex := 339, attributes := #[] }, { accessFlags := 26, nameIndex := 365, descriptorIndex := 339, attributes := #[] }, { accessFlags := 26, nameIndex := 172, descriptorIndex := 173, attributes := #[] }, { accessFlags := 26, nameIndex := 176, descriptorIndex := 173, attributes := #[] }, { accessFlags := 8, nameIndex := 344, descriptorIndex := 339, attributes := #[] }, { accessFlags := 8, nameIndex := 338, descriptorIndex := 339, attributes := #[] }, { accessFlags := 4120, nameIndex := 245, descriptorIndex := 246, attributes := #[] }])
  fields := #[{ name := "E", type := .double, accessFlags := 25, slot := 0, constantValue := 0 }, { name := "PI", type := .double, accessFlags := 25, slot := 1, constantValue := 0 }, { name := "TAU", type := .double, accessFlags := 25, slot := 2, constantValue := 0 }, { name := "DEGREES_TO_RADIANS", type := .double, accessFlags := 26, slot := 3, constantValue := 0 }, { name := "RADIANS_TO_DEGREES", type := .double, accessFlags := 26, slot := 4, constantValue := 0 }, { name := "negativeZeroFloatBits", type := .long, accessFlags := 26, slot := 5, constantValue := 0 }, { name := "negativeZeroDoubleBits", type := .long, accessFlags := 26, slot := 6, constantValue := 0 }, { name := "twoToTheDoubleScaleUp", type := .double, accessFlags := 8, slot := 7, constantValue := 0 }, { name := "twoToTheDoubleScaleDown", type := .double, accessFlags := 8, slot := 8, constantValue := 0 }, { name := "$assertionsDisabled", type := .boolean, accessFlags := 4120, slot := 9, constantValue := 0 }]
  methods := #[k4m0, k4m1, k4m2, k4m3]
  instanceTypes := #[]
  staticTypes := #[.double, .double, .double, .double, .double, .long, .long, .double, .double, .boolean]
  resolved := Array.replicate 460 none
  statics := none }

def pool5 : Array CpInfo := pool [(2, .class_ 4), (1, u "java/lang/Object"), (0, u "<init>"), (0, u "()V"), (7, .class_ 16), (1, u "java/util/Arrays"), (57, .class_ 76), (1, u "java/util/Arrays$NaturalOrder"), (36, .class_ 115), (1, u "java/util/Arrays$LegacyMergeSort"), (1, u "Z"), (32, .methodref 151 152), (0, .class_ 153), (0, .nameAndType 154 155), (0, u "java/lang/System"), (0, u "arraycopy"), (0, u "(Ljava/lang/Object;ILjava/lang/Object;II)V"), (146, u "copyOf"), (1, .methodref 305 306), (0, .class_ 307), (0, .nameAndType 308 309), (0, u "java/lang/Math"), (0, u "min"), (0, u "(II)I"), (65, .class_ 376), (0, u "java/util/Arrays$ArrayList"), (68, u "$assertionsDisabled"), (269, u "MIN_ARRAY_SORT_GRAN"), (0, u "I"), (2, u "INSERTIONSORT_THRESHOLD"), (151, u "([II)[I"), (103, .class_ 976), (0, u "java/util/Arrays$ArrayItr")] 52

def k5m0 : Method := { name := "<init>", desc := "()V", sig := { parameters := [], returnType := none }, accessFlags := 2, code := none }
def k5c1 : Code := { maxStack := 6, maxLocals := 3, code := jdk_65_method_123_code, exceptionTable := #[], attributes := #[] }
def k5m1 : Method := { name := "copyOf", desc := "([II)[I", sig := { parameters := [(.array .int), .int], returnType := some (.array .int) }, accessFlags := 9, code := some k5c1 }
/-- java/util/Arrays -/
def k5 : Class := { plain "java/util/Arrays" (some 0) with
  accessFlags := 49
  interfaces := #[]
  cf := some (fileOf pool5 14 #[.nestMembers #[975, 375, 113, 74]] #[{ accessFlags := 2, nameIndex := 5, descriptorIndex := 6, attributes := #[] }, { accessFlags := 9, nameIndex := 302, descriptorIndex := 871, attributes := #[] }] 49 2 #[] #[{ accessFlags := 26, nameIndex := 715, descriptorIndex := 716, attributes := #[] }, { accessFlags := 26, nameIndex := 719, descriptorIndex := 716, attributes := #[] }, { accessFlags := 4120, nameIndex := 445, descriptorIndex := 117, attributes := #[] }])
  fields := #[{ name := "MIN_ARRAY_SORT_GRAN", type := .int, accessFlags := 26, slot := 0, constantValue := 0 }, { name := "INSERTIONSORT_THRESHOLD", type := .int, accessFlags := 26, slot := 1, constantValue := 0 }, { name := "$assertionsDisabled", type := .boolean, accessFlags := 4120, slot := 2, constantValue := 0 }]
  methods := #[k5m0, k5m1]
  instanceTypes := #[]
  staticTypes := #[.int, .int, .boolean]
  resolved := Array.replicate 1029 none
  statics := none }

def pool6 : Array CpInfo := pool [(2, .class_ 4), (1, u "java/lang/Object"), (0, u "<init>"), (0, u "()V"), (1, .class_ 10), (1, u "java/lang/System"), (0, u "allowSecurityManager"), (0, u "I"), (16, u "cons"), (0, u "Ljava/io/Console;"), (77, .class_ 110), (1, u "java/lang/System$CallersHolder"), (43, u "initialErrStream"), (0, u "Ljava/io/PrintStream;"), (19, u "security"), (0, u "Ljava/lang/SecurityManager;"), (31, .class_ 209), (0, u "java/lang/System$1"), (7, u "props"), (0, u "Ljava/util/Properties;"), (2, u "lineSeparator"), (0, u "Ljava/lang/String;"), (96, .class_ 321), (1, u "java/lang/System$LoggerFinder"), (5, .class_ 328), (0, u "java/lang/System$Logger"), (67, u "err"), (2, u "out"), (91, u "notSupportedJnuEncoding"), (15, u "in"), (17, u "initialIn"), (0, u "Ljava/io/InputStream;"), (35, u "bootLayer"), (0, u "Ljava/lang/ModuleLayer;"), (99, .class_ 664), (0, u "java/lang/System$2"), (9, u "NEVER"), (2, u "MAYBE"), (49, u "arraycopy"), (0, u "(Ljava/lang/Object;ILjava/lang/Object;II)V"), (72, .class_ 802), (0, u "java/lang/System$Logger$Level")] 31

def k6m0 : Method := { name := "<init>", desc := "()V", sig := { parameters := [], returnType := none }, accessFlags := 2, code := none }
def k6m1 : Method := { name := "arraycopy", desc := "(Ljava/lang/Object;ILjava/lang/Object;II)V", sig := { parameters := [(.object "java/lang/Object"), .int, (.object "java/lang/Object"), .int, .int], returnType := none }, accessFlags := 265, code := none }
/-- java/lang/System -/
def k6 : Class := { plain "java/lang/System" (some 0) with
  accessFlags := 49
  interfaces := #[]
  cf := some (fileOf pool6 8 #[.nestMembers #[319, 327, 801, 108, 663, 208]] #[{ accessFlags := 2, nameIndex := 5, descriptorIndex := 6, attributes := #[] }, { accessFlags := 265, nameIndex := 727, descriptorIndex := 728, attributes := #[] }] 49 2 #[] #[{ accessFlags := 25, nameIndex := 507, descriptorIndex := 526, attributes := #[] }, { accessFlags := 25, nameIndex := 399, descriptorIndex := 155, attributes := #[] }, { accessFlags := 25, nameIndex := 396, descriptorIndex := 155, attributes := #[] }, { accessFlags := 10, nameIndex := 525, descriptorIndex := 526, attributes := #[] }, { accessFlags := 26, nameIndex := 674, descriptorIndex := 12, attributes := #[] }, { accessFlags := 26, nameIndex := 677, descriptorIndex := 12, attributes := #[] }, { accessFlags := 10, nameIndex := 11, descriptorIndex := 12, attributes := #[] }, { accessFlags := 74, nameIndex := 175, descriptorIndex := 176, attributes := #[] }, { accessFlags := 10, nameIndex := 491, descriptorIndex := 222, attributes := #[] }, { accessFlags := 74, nameIndex := 29, descriptorIndex := 30, attributes := #[] }, { accessFlags := 74, nameIndex := 154, descriptorIndex := 155, attributes := #[] }, { accessFlags := 10, nameIndex := 217, descriptorIndex := 218, attributes := #[] }, { accessFlags := 10, nameIndex := 221, descriptorIndex := 222, attributes := #[] }, { accessFlags := 8, nameIndex := 562, descriptorIndex := 563, attributes := #[] }])
  fields := #[{ name := "in", type := (.object "java/io/InputStream"), accessFlags := 25, slot := 0, constantValue := 0 }, { name := "out", type := (.object "java/io/PrintStream"), accessFlags := 25, slot := 1, constantValue := 0 }, { name := "err", type := (.object "java/io/PrintStream"), accessFlags := 25, slot := 2, constantValue := 0 }, { name := "initialIn", type := (.object "java/io/InputStream"), accessFlags := 10, slot := 3, constantValue := 0 }, { name := "NEVER", type := .int, accessFlags := 26, slot := 4, constantValue := 0 }, { name := "MAYBE", type := .int, accessFlags := 26, slot := 5, constantValue := 0 }, { name := "allowSecurityManager", type := .int, accessFlags := 10, slot := 6, constantValue := 0 }, { name := "security", type := (.object "java/lang/SecurityManager"), accessFlags := 74, slot := 7, constantValue := 0 }, { name := "notSupportedJnuEncoding", type := (.object "java/lang/String"), accessFlags := 10, slot := 8, constantValue := 0 }, { name := "cons", type := (.object "java/io/Console"), accessFlags := 74, slot := 9, constantValue := 0 }, { name := "initialErrStream", type := (.object "java/io/PrintStream"), accessFlags := 74, slot := 10, constantValue := 0 }, { name := "props", type := (.object "java/util/Properties"), accessFlags := 10, slot := 11, constantValue := 0 }, { name := "lineSeparator", type := (.object "java/lang/String"), accessFlags := 10, slot := 12, constantValue := 0 }, { name := "bootLayer", type := (.object "java/lang/ModuleLayer"), accessFlags := 8, slot := 13, constantValue := 0 }]
  methods := #[k6m0, k6m1]
  instanceTypes := #[]
  staticTypes := #[(.object "java/io/InputStream"), (.object "java/io/PrintStream"), (.object "java/io/PrintStream"), (.object "java/io/InputStream"), .int, .int, .int, (.object "java/lang/SecurityManager"), (.object "java/lang/String"), (.object "java/io/Console"), (.object "java/io/PrintStream"), (.object "java/util/Properties"), (.object "java/lang/String"), (.object "java/lang/ModuleLayer")]
  resolved := Array.replicate 834 none
  statics := none }

def pool7 : Array CpInfo := pool [(1, u "java/lang/Cloneable"), (0, .class_ 1), (0, u "java/lang/Object"), (0, .class_ 3)] 3

/-- java/lang/Cloneable -/
def k7 : Class := { plain "java/lang/Cloneable" (some 0) with
  accessFlags := 1537
  interfaces := #[]
  cf := some (fileOf pool7 2 #[] #[] 1537 4 #[] #[])
  fields := #[]
  methods := #[]
  instanceTypes := #[]
  staticTypes := #[]
  resolved := Array.replicate 8 none
  statics := none }

def pool8 : Array CpInfo := pool [(1, u "java/io/Serializable"), (0, .class_ 1), (0, u "java/lang/Object"), (0, .class_ 3)] 3

/-- java/io/Serializable -/
def k8 : Class := { plain "java/io/Serializable" (some 0) with
  accessFlags := 1537
  interfaces := #[]
  cf := some (fileOf pool8 2 #[] #[] 1537 4 #[] #[])
  fields := #[]
  methods := #[]
  instanceTypes := #[]
  staticTypes := #[]
  resolved := Array.replicate 8 none
  statics := none }

/-- the primitive byte -/
def k9 : Class := { plain "byte" none with kind := .primitive 'B', accessFlags := 0x411 }
/-- [B -/
def k10 : Class := { plain "[B" (some 0) with kind := .array 9 .byte, interfaces := #[7, 8], accessFlags := 1041 }

/-- the primitive int -/
def k11 : Class := { plain "int" none with kind := .primitive 'I', accessFlags := 0x411 }
/-- [I -/
def k12 : Class := { plain "[I" (some 0) with kind := .array 11 .int, interfaces := #[7, 8], accessFlags := 1041 }

def heap : Heap := #[]
def classes : Array Class := #[k0, k1, k2, k3, k4, k5, k6, k7, k8, k9, k10, k11, k12]
def interned : List (Array UInt16 × Addr) := []
def slotsUsed : Nat := 0
def theMethod : MethodId := ⟨1, 1⟩
def args0 : Array Value := #[.int 5, .int 7, .int 9, .int 11, .int 3, .int 4]
def aboutOver (below : List Frame) : State where
  vm := { classes := classes, interned := interned.toArray }
  heap := heap
  slotsUsed := slotsUsed
  threads := #[{ frames := .invoking theMethod args0 :: below }]
def below0 : List Frame := [.native { method := ⟨0, 0⟩, args := #[] }]
def about1 : State := aboutOver below0
def p0 : Program := .bare "" "" ""
def e0 : Env := launch0.env 0 0 0
theorem w_frames : about1.frames = Frame.invoking theMethod args0 :: below0 := rfl
set_option maxRecDepth 65536 in
theorem w_args : argsFit about1.vm theMethod args0 = true := by decide +kernel
set_option maxRecDepth 65536 in
theorem w_heap : heapFits about1 = true := by decide +kernel
set_option maxRecDepth 65536 in
theorem w_runnable : about1.curStatus? = some .runnable := by decide +kernel
set_option maxRecDepth 65536 in
theorem w_alone : about1.alone = true := by decide +kernel
set_option maxRecDepth 65536 in
theorem w_named : about1.methodNamed? x = some theMethod := by decide +kernel
set_option maxRecDepth 65536 in
theorem w_hears : about1.hears theMethod below0 = true := by decide +kernel
set_option maxRecDepth 65536 in
theorem w_ripe : about1.ripe theMethod args0 below0 = true := by decide +kernel
theorem w_running : about1.status = .running := rfl
set_option maxRecDepth 65536 in
theorem w_room : about1.hasRoom e0.platform room_1 = true :=
  launch0.hasRoom_least _ room_1 (by decide +kernel) (by decide +kernel) (by decide +kernel) (by decide +kernel) (by decide +kernel) (by decide +kernel)
theorem allAtoms_all (ts : List Jvm.Cond) (a : Array Jvm.Value) (st : Jvm.State) : (allAtoms ts).before a st = ts.all (fun c => c.before a st) := by
  induction ts with
  | nil => rfl
  | cons c t ih =>
    show (Jvm.Cond.and c (allAtoms t)).before a st = _
    rw [Jvm.Cond.before_and, ih, List.all_cons]
def words1 : List Jvm.Cond := Jvm.Cond.code x code maxLocals ret :: tables_1
/-- a 'code' word, met by the world's own term for the bytes: nothing is compared byte by byte -/
theorem code_word {y : MethodName} {bytes : ByteArray} {mx : Nat} {rt : Option FieldType} {a : Array Value} {s : State} {m : MethodId} {meth : Method} {c : Code} (h1 : s.methodNamed? y = some m) (h2 : s.vm.method? m = some meth) (h3 : meth.code = some c) (h4 : c.code = bytes)
    (h5 : (c.maxLocals == mx && c.exceptionTable.isEmpty && decide (c.maxStack ≤ mostOperands) && decide (meth.sig.returnType = rt) && !meth.locks && decide (parseMethodDescriptor y.desc = some meth.sig)) = true) : (Jvm.Cond.code y bytes mx rt).before a s = true := by
  simp only [Bool.and_eq_true, beq_iff_eq, Bool.not_eq_true', decide_eq_true_eq] at h5
  obtain ⟨⟨⟨⟨⟨g1, g2⟩, g3⟩, g4⟩, g5⟩, g6⟩ := h5
  simp [Cond.before, Cond.holds, Cond.value, h1, h2, h3, h4, g1, g2, g3, g4, g5, g6]
def isCode : Jvm.Cond → Bool
  | .code _ _ _ _ => true
  | _ => false
theorem all_split {L : List Jvm.Cond} {P : Jvm.Cond → Bool} (h1 : L.all (fun c => isCode c || P c) = true) (h2 : ∀ c ∈ L.filter isCode, P c = true) : L.all P = true := by
  refine List.all_eq_true.mpr fun c hc => ?_
  have h := List.all_eq_true.mp h1 c hc
  rcases Bool.eq_false_or_eq_true (isCode c) with hi | hi
  · exact h2 c (List.mem_filter.mpr ⟨hc, hi⟩)
  · simpa [hi] using h
set_option maxRecDepth 65536 in
theorem w_c0 : (Jvm.Cond.code x code maxLocals ret).before args0 about1 = true := code_word (m := ⟨1, 1⟩) (meth := k1m1) (c := k1c1) (by decide +kernel) rfl rfl rfl (by decide +kernel)
set_option maxRecDepth 65536 in
theorem w_c1 : (Jvm.Cond.code ({ cls := "com/example/guarantor/guarantor/ag/EdgeLists", name := "<init>", desc := "()V" } : Jvm.MethodName) prog_8_method_1_code (1 : Nat) (Option.none : Option Jvm.ClassFile.FieldType)).before args0 about1 = true := code_word (m := ⟨3, 0⟩) (meth := k3m0) (c := k3c0) (by decide +kernel) rfl rfl rfl (by decide +kernel)
set_option maxRecDepth 65536 in
theorem w_c2 : (Jvm.Cond.code ({ cls := "java/lang/Object", name := "<init>", desc := "()V" } : Jvm.MethodName) object_method_1_code (1 : Nat) (Option.none : Option Jvm.ClassFile.FieldType)).before args0 about1 = true := code_word (m := ⟨0, 0⟩) (meth := k0m0) (c := k0c0) (by decide +kernel) rfl rfl rfl (by decide +kernel)
set_option maxRecDepth 65536 in
theorem w_c3 : (Jvm.Cond.code ({ cls := "com/example/guarantor/guarantor/ag/EdgeLists", name := "add", desc := "(III)V" } : Jvm.MethodName) prog_8_method_6_code (5 : Nat) (Option.none : Option Jvm.ClassFile.FieldType)).before args0 about1 = true := code_word (m := ⟨3, 4⟩) (meth := k3m4) (c := k3c4) (by decide +kernel) rfl rfl rfl (by decide +kernel)
set_option maxRecDepth 65536 in
theorem w_c4 : (Jvm.Cond.code ({ cls := "com/example/guarantor/guarantor/ag/EdgeLists", name := "fit", desc := "(I)V" } : Jvm.MethodName) prog_8_method_9_code (3 : Nat) (Option.none : Option Jvm.ClassFile.FieldType)).before args0 about1 = true := code_word (m := ⟨3, 6⟩) (meth := k3m6) (c := k3c6) (by decide +kernel) rfl rfl rfl (by decide +kernel)
set_option maxRecDepth 65536 in
theorem w_c5 : (Jvm.Cond.code ({ cls := "java/lang/Math", name := "max", desc := "(II)I" } : Jvm.MethodName) jdk_29_method_65_code (2 : Nat) (Option.some Jvm.ClassFile.FieldType.int)).before args0 about1 = true := code_word (m := ⟨4, 1⟩) (meth := k4m1) (c := k4c1) (by decide +kernel) rfl rfl rfl (by decide +kernel)
set_option maxRecDepth 65536 in
theorem w_c6 : (Jvm.Cond.code ({ cls := "java/util/Arrays", name := "copyOf", desc := "([II)[I" } : Jvm.MethodName) jdk_65_method_123_code (3 : Nat) (Option.some (Jvm.ClassFile.FieldType.array Jvm.ClassFile.FieldType.int))).before args0 about1 = true := code_word (m := ⟨5, 1⟩) (meth := k5m1) (c := k5c1) (by decide +kernel) rfl rfl rfl (by decide +kernel)
set_option maxRecDepth 65536 in
theorem w_c7 : (Jvm.Cond.code ({ cls := "java/lang/Math", name := "min", desc := "(II)I" } : Jvm.MethodName) jdk_29_method_69_code (2 : Nat) (Option.some Jvm.ClassFile.FieldType.int)).before args0 about1 = true := code_word (m := ⟨4, 2⟩) (meth := k4m2) (c := k4c2) (by decide +kernel) rfl rfl rfl (by decide +kernel)
set_option maxRecDepth 65536 in
theorem w_c8 : (Jvm.Cond.code ({ cls := "com/example/guarantor/guarantor/ag/EdgeLists", name := "reserve", desc := "(II)V" } : Jvm.MethodName) prog_8_method_10_code (4 : Nat) (Option.none : Option Jvm.ClassFile.FieldType)).before args0 about1 = true := code_word (m := ⟨3, 7⟩) (meth := k3m7) (c := k3c7) (by decide +kernel) rfl rfl rfl (by decide +kernel)
set_option maxRecDepth 65536 in
theorem w_c9 : (Jvm.Cond.code ({ cls := "java/lang/Math", name := "min", desc := "(JJ)J" } : Jvm.MethodName) jdk_29_method_70_code (4 : Nat) (Option.some Jvm.ClassFile.FieldType.long)).before args0 about1 = true := code_word (m := ⟨4, 3⟩) (meth := k4m3) (c := k4c3) (by decide +kernel) rfl rfl rfl (by decide +kernel)
set_option maxRecDepth 65536 in
theorem w_c10 : (Jvm.Cond.code ({ cls := "com/example/guarantor/guarantor/ag/EdgeLists", name := "start", desc := "(I)I" } : Jvm.MethodName) prog_8_method_2_code (2 : Nat) (Option.some Jvm.ClassFile.FieldType.int)).before args0 about1 = true := code_word (m := ⟨3, 1⟩) (meth := k3m1) (c := k3c1) (by decide +kernel) rfl rfl rfl (by decide +kernel)
set_option maxRecDepth 65536 in
theorem w_c11 : (Jvm.Cond.code ({ cls := "com/example/guarantor/guarantor/ag/EdgeLists", name := "end", desc := "(I)I" } : Jvm.MethodName) prog_8_method_3_code (2 : Nat) (Option.some Jvm.ClassFile.FieldType.int)).before args0 about1 = true := code_word (m := ⟨3, 2⟩) (meth := k3m2) (c := k3c2) (by decide +kernel) rfl rfl rfl (by decide +kernel)
set_option maxRecDepth 65536 in
theorem w_c12 : (Jvm.Cond.code ({ cls := "com/example/guarantor/guarantor/ag/EdgeLists", name := "action", desc := "(I)I" } : Jvm.MethodName) prog_8_method_4_code (2 : Nat) (Option.some Jvm.ClassFile.FieldType.int)).before args0 about1 = true := code_word (m := ⟨3, 3⟩) (meth := k3m3) (c := k3c3) (by decide +kernel) rfl rfl rfl (by decide +kernel)
set_option maxRecDepth 65536 in
theorem w_c13 : (Jvm.Cond.code ({ cls := "com/example/guarantor/guarantor/ag/EdgeLists", name := "remove", desc := "(III)V" } : Jvm.MethodName) prog_8_method_7_code (6 : Nat) (Option.none : Option Jvm.ClassFile.FieldType)).before args0 about1 = true := code_word (m := ⟨3, 5⟩) (meth := k3m5) (c := k3c5) (by decide +kernel) rfl rfl rfl (by decide +kernel)
def codes1 : List Jvm.Cond := [Jvm.Cond.code x code maxLocals ret, Jvm.Cond.code ({ cls := "com/example/guarantor/guarantor/ag/EdgeLists", name := "<init>", desc := "()V" } : Jvm.MethodName) prog_8_method_1_code (1 : Nat) (Option.none : Option Jvm.ClassFile.FieldType), Jvm.Cond.code ({ cls := "java/lang/Object", name := "<init>", desc := "()V" } : Jvm.MethodName) object_method_1_code (1 : Nat) (Option.none : Option Jvm.ClassFile.FieldType), Jvm.Cond.code ({ cls := "com/example/guarantor/guarantor/ag/EdgeLists", name := "add", desc := "(III)V" } : Jvm.MethodName) prog_8_method_6_code (5 : Nat) (Option.none : Option Jvm.ClassFile.FieldType), Jvm.Cond.code ({ cls := "com/example/guarantor/guarantor/ag/EdgeLists", name := "fit", desc := "(I)V" } : Jvm.MethodName) prog_8_method_9_code (3 : Nat) (Option.none : Option Jvm.ClassFile.FieldType), Jvm.Cond.code ({ cls := "java/lang/Math", name := "max", desc := "(II)I" } : Jvm.MethodName) jdk_29_method_65_code (2 : Nat) (Option.some Jvm.ClassFile.FieldType.int), Jvm.Cond.code ({ cls := "java/util/Arrays", name := "copyOf", desc := "([II)[I" } : Jvm.MethodName) jdk_65_method_123_code (3 : Nat) (Option.some (Jvm.ClassFile.FieldType.array Jvm.ClassFile.FieldType.int)), Jvm.Cond.code ({ cls := "java/lang/Math", name := "min", desc := "(II)I" } : Jvm.MethodName) jdk_29_method_69_code (2 : Nat) (Option.some Jvm.ClassFile.FieldType.int), Jvm.Cond.code ({ cls := "com/example/guarantor/guarantor/ag/EdgeLists", name := "reserve", desc := "(II)V" } : Jvm.MethodName) prog_8_method_10_code (4 : Nat) (Option.none : Option Jvm.ClassFile.FieldType), Jvm.Cond.code ({ cls := "java/lang/Math", name := "min", desc := "(JJ)J" } : Jvm.MethodName) jdk_29_method_70_code (4 : Nat) (Option.some Jvm.ClassFile.FieldType.long), Jvm.Cond.code ({ cls := "com/example/guarantor/guarantor/ag/EdgeLists", name := "start", desc := "(I)I" } : Jvm.MethodName) prog_8_method_2_code (2 : Nat) (Option.some Jvm.ClassFile.FieldType.int), Jvm.Cond.code ({ cls := "com/example/guarantor/guarantor/ag/EdgeLists", name := "end", desc := "(I)I" } : Jvm.MethodName) prog_8_method_3_code (2 : Nat) (Option.some Jvm.ClassFile.FieldType.int), Jvm.Cond.code ({ cls := "com/example/guarantor/guarantor/ag/EdgeLists", name := "action", desc := "(I)I" } : Jvm.MethodName) prog_8_method_4_code (2 : Nat) (Option.some Jvm.ClassFile.FieldType.int), Jvm.Cond.code ({ cls := "com/example/guarantor/guarantor/ag/EdgeLists", name := "remove", desc := "(III)V" } : Jvm.MethodName) prog_8_method_7_code (6 : Nat) (Option.none : Option Jvm.ClassFile.FieldType)]
set_option maxRecDepth 65536 in
theorem codes_eq : words1.filter isCode = codes1 := rfl
theorem w_codes : ∀ c ∈ words1.filter isCode, c.before args0 about1 = true := by
  rw [codes_eq]
  intro c hc
  simp only [codes1, List.mem_cons, List.not_mem_nil, or_false] at hc
  rcases hc with rfl | rfl | rfl | rfl | rfl | rfl | rfl | rfl | rfl | rfl | rfl | rfl | rfl | rfl
  · exact w_c0
  · exact w_c1
  · exact w_c2
  · exact w_c3
  · exact w_c4
  · exact w_c5
  · exact w_c6
  · exact w_c7
  · exact w_c8
  · exact w_c9
  · exact w_c10
  · exact w_c11
  · exact w_c12
  · exact w_c13
set_option maxRecDepth 65536 in
theorem w_t1 : (words1.take 24).all (fun c => isCode c || c.before args0 about1) = true := by decide +kernel
set_option maxRecDepth 65536 in
theorem w_t2 : ((words1.drop 24).take 24).all (fun c => isCode c || c.before args0 about1) = true := by decide +kernel
set_option maxRecDepth 65536 in
theorem w_t3 : (((words1.drop 24).drop 24).take 24).all (fun c => isCode c || c.before args0 about1) = true := by decide +kernel
set_option maxRecDepth 65536 in
theorem w_t4 : (((words1.drop 24).drop 24).drop 24).all (fun c => isCode c || c.before args0 about1) = true := by decide +kernel
theorem w_tables : (allAtoms (Jvm.Cond.code x code maxLocals ret :: tables_1)).before args0 about1 = true := by
  rw [allAtoms_all]
  show words1.all (fun c => c.before args0 about1) = true
  refine all_split ?_ w_codes
  rw [← List.take_append_drop 24 words1, List.all_append, w_t1, ← List.take_append_drop 24 (words1.drop 24), List.all_append, w_t2, ← List.take_append_drop 24 ((words1.drop 24).drop 24), List.all_append, w_t3, w_t4]
  rfl
set_option maxRecDepth 65536 in
theorem w_case : (Jvm.Cond.and given_1 narrow_1).before args0 about1 = true := by decide +kernel
theorem w_applies : (headSpec (Jvm.Cond.code x code maxLocals ret :: tables_1) room_1).applies x e0.platform about1 = true :=
  (Spec.applies_iff w_frames).mpr ⟨w_running, w_runnable, w_alone, w_named, w_hears, w_ripe, w_room, w_tables⟩
theorem atStart : AtStart classFile x code maxLocals ret World_1 tables_1 room_1 Calls_1 rest_1 Pre_1 launch0 p0 e0 about1 theMethod args0 below0 :=
  ⟨lists_1, trivial, launch0.admits_env _ _ _, launch0.least_env, fairChoices_fair.cas, fairChoices_fair.clock, w_frames, w_args, w_heap, w_applies, trivial, trivial, w_case⟩
end start1
theorem witness_1 : WitnessClaimed_1 := ⟨start1.p0, start1.e0, start1.about1, start1.theMethod, start1.args0, start1.below0, start1.atStart⟩
end Jvm.Pilot.@@N@@
