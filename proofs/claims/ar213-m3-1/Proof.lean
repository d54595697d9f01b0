import JvmDerived
import JvmDerived.Pilot.@@N@@Statement
import JvmDerived.Pilot.@@N@@Code
set_option linter.unusedVariables false
set_option linter.unusedSimpArgs false
namespace Jvm.Pilot.@@N@@
open Jvm Jvm.ClassFile Sem Op Lib Jvm.Free Jvm.Stand Jvm.LawKit Jvm.RoadKit Bundle Jvm.Pilot.@@N@@.Jvm.D
theorem own_lt32 {x y : Int32} {i j : Int} (hi : x.toInt = i) (hj : y.toInt = j) (h : i < j) : x < y := by rw [Int32.lt_iff_toInt_lt, hi, hj]; exact h
theorem own_nlt32 {x y : Int32} {i j : Int} (hi : x.toInt = i) (hj : y.toInt = j) (h : ¬ i < j) : ¬ x < y := by rw [Int32.lt_iff_toInt_lt, hi, hj]; exact h
theorem own_eq32 {x y : Int32} {i j : Int} (hi : x.toInt = i) (hj : y.toInt = j) (h : i = j) : x = y := by rw [← Int32.toInt_inj, hi, hj]; exact h
theorem own_neq32 {x y : Int32} {i j : Int} (hi : x.toInt = i) (hj : y.toInt = j) (h : ¬ i = j) : ¬ x = y := by rw [← Int32.toInt_inj, hi, hj]; exact h
theorem own_lt64 {x y : Int64} {i j : Int} (hi : x.toInt = i) (hj : y.toInt = j) (h : i < j) : x < y := by rw [Int64.lt_iff_toInt_lt, hi, hj]; exact h
theorem own_nlt64 {x y : Int64} {i j : Int} (hi : x.toInt = i) (hj : y.toInt = j) (h : ¬ i < j) : ¬ x < y := by rw [Int64.lt_iff_toInt_lt, hi, hj]; exact h
theorem own_eq64 {x y : Int64} {i j : Int} (hi : x.toInt = i) (hj : y.toInt = j) (h : i = j) : x = y := by rw [← Int64.toInt_inj, hi, hj]; exact h
theorem own_neq64 {x y : Int64} {i j : Int} (hi : x.toInt = i) (hj : y.toInt = j) (h : ¬ i = j) : ¬ x = y := by rw [← Int64.toInt_inj, hi, hj]; exact h
/-! OWN LAYER 1: the run goes on (own_Go), a method's contract (own_Met), its entry, its returns, its calls. -/
section OwnGo
variable {p : Program} {l : Launch} {e : Env} {R : Room} {s : State} {m : MethodId} {args : Array Value} {below : List Frame} {meth : Method} {c : Code} {T : State} {locs : List Loc} {cells slots : Nat} {Z : State} {a0 : Array Value} {h : Heap}
/-- from A the run comes to a state of which G holds -/
def own_Go (p : Program) (e : Env) (below : List Frame) (G : State → Prop) (A : State) : Prop := ∃ t, Steps p.tables e below A t ∧ G t
theorem own_go {G : State → Prop} {A B : State} (h : ∀ t, Steps p.tables e below B t → Steps p.tables e below A t) (k : own_Go p e below G B) : own_Go p e below G A := by
  obtain ⟨t, h1, h2⟩ := k; exact ⟨t, h t h1, h2⟩
/-- the invocation from s has ended by a return: what came back, the heap and the places written are as Q says -/
def own_End (below : List Frame) (s : State) (Q : Option Value → Heap → List Loc → Prop) (C N : Nat) (t : State) : Prop := t.status = .running ∧ ∃ v L, Ended t below (.returned v) ∧ Q v t.heap L ∧ FrameEnd s (.returned v) t L C N
/-- a contract of a method at one heap -/
def own_Met (l : Launch) (Z : State) (ws : List Jvm.Cond) (y : MethodName) (bytes : ByteArray) (maxL : Nat) (ret : Option FieldType) (rm : Room) (as' : Array Value) (h : Heap) (Q : Option Value → Heap → List Loc → Prop) : Prop :=
  MetFree l y (head1 (Jvm.Cond.code y bytes maxL ret :: ws) rm) (fun a U => a = as' ∧ Z.Warmed39 U.vm ∧ U.heap = h) (fun _ _ _ _ _ => True) (fun _ U o U' => ∃ v L, o = .returned v ∧ Q v U'.heap L ∧ FrameEnd U o U' L rm.cells rm.slots)
theorem own_met {ws : List Jvm.Cond} {y : MethodName} {bytes : ByteArray} {maxL : Nat} {ret : Option FieldType} {rm : Room} {as' : Array Value} {Q : Option Value → Heap → List Loc → Prop} (hpf : plainFor y = true)
    (body : ∀ (p : Program) (e : Env) (s : State) (m : MethodId) (below : List Frame) (meth : Method) (c : Code) (s₁ : State), p.tables.exec = Jvm.exec → c.code = bytes → c.maxLocals = maxL → s.vm.findClass y.cls = some m.cls → meth.name = y.name → meth.sig.returnType = ret → meth.locks = false → Z.Warmed39 s.vm →
      Stand p l e rm s m as' below meth c s₁ [] 0 0 → s₁.heap = h → own_Go p e below (own_End below s Q rm.cells rm.slots) (s₁.setTop (entryFrame m as' maxL))) :
    own_Met l Z ws y bytes maxL ret rm as' h Q := by
  refine MetFree.of_bodySF hpf hisR ?_
  intro p e s m args below meth c s₁ Bd hml0 hP hK
  obtain ⟨rfl, hZ, hh⟩ := hP
  obtain ⟨t, h1, h2, v, L, h3, h4, h5⟩ := body p e s m below meth c s₁ Bd.exec Bd.bytes hml0 (findClass_of_methodNamed Bd.named) (name_of_methodNamed Bd.named Bd.method).1 Bd.returns Bd.notSynchronized hZ (Stand.of_body Bd) (by rw [← hh, Bd.state]; rfl)
  exact ⟨t, _, h1, h2, h3, v, L, rfl, h4, h5⟩
theorem own_entry {G : State → Prop} {f g : JFrame} (q : f = g) (k : own_Go p e below G (T.setTop g)) : own_Go p e below G (T.setTop f) := q ▸ k
theorem own_ret (X : Stand p l e R s m args below meth c T locs cells slots) (hx : p.tables.exec = Jvm.exec) (hlk : meth.locks = false) {pc : Nat} {Ls : Array Slot} {w : Value} {t : FieldType} {i : Instr} {rest : List Value} (hret : meth.sig.returnType = some t) (hn : narrow t w = w)
    (hi : (i = .ireturn ∧ (t = .int ∨ t = .boolean ∨ t = .byte ∨ t = .char ∨ t = .short) ∧ ∃ z, w = .int z) ∨ (i = .lreturn ∧ t = .long ∧ ∃ z, w = .long z) ∨ (i = .dreturn ∧ t = .double ∧ ∃ z, w = .double z) ∨ (i = .freturn ∧ t = .float ∧ ∃ z, w = .float z) ∨ (i = .areturn ∧ t.isReference = true ∧ w.isRef = true))
    (hd : decode c.code pc = .ok (i, 1)) {Q : Option Value → Heap → List Loc → Prop} {C N : Nat} (hQ : Q (some w) T.heap locs) (hc : cells ≤ C) (hs : slots ≤ N) : own_Go p e below (own_End below s Q C N) (T.setTop (mkF m pc Ls (w :: rest))) := by
  obtain ⟨fs, hr, hrun, hended, hW, hsame⟩ := X.leave (v := some w) (fun h => by rw [hret] at h; cases h) hlk
  exact ⟨_, retOut X hx hret hn hi hd hr, hrun, _, _, hended, hQ, ⟨_, rfl⟩, hW, hsame.mono hc hs⟩
theorem own_retI (X : Stand p l e R s m args below meth c T locs cells slots) (hx : p.tables.exec = Jvm.exec) (hlk : meth.locks = false) {pc : Nat} {Ls : Array Slot} {z : Int32} {rest : List Value} (hret : meth.sig.returnType = some .int)
    (hd : decode c.code pc = .ok (.ireturn, 1)) {Q : Option Value → Heap → List Loc → Prop} {C N : Nat} (hQ : Q (some (.int z)) T.heap locs) (hc : cells ≤ C) (hs : slots ≤ N) : own_Go p e below (own_End below s Q C N) (T.setTop (mkF m pc Ls (.int z :: rest))) :=
  own_ret X hx hlk hret rfl (Or.inl ⟨rfl, Or.inl rfl, z, rfl⟩) hd hQ hc hs
theorem own_retZ (X : Stand p l e R s m args below meth c T locs cells slots) (hx : p.tables.exec = Jvm.exec) (hlk : meth.locks = false) {pc : Nat} {Ls : Array Slot} {z : Int32} {rest : List Value} (hret : meth.sig.returnType = some .boolean) (hz : z &&& 1 = z)
    (hd : decode c.code pc = .ok (.ireturn, 1)) {Q : Option Value → Heap → List Loc → Prop} {C N : Nat} (hQ : Q (some (.int z)) T.heap locs) (hc : cells ≤ C) (hs : slots ≤ N) : own_Go p e below (own_End below s Q C N) (T.setTop (mkF m pc Ls (.int z :: rest))) :=
  own_ret X hx hlk hret (by show Value.int (z &&& 1) = _; rw [hz]) (Or.inl ⟨rfl, Or.inr (Or.inl rfl), z, rfl⟩) hd hQ hc hs
theorem own_retJ (X : Stand p l e R s m args below meth c T locs cells slots) (hx : p.tables.exec = Jvm.exec) (hlk : meth.locks = false) {pc : Nat} {Ls : Array Slot} {z : Int64} {rest : List Value} (hret : meth.sig.returnType = some .long)
    (hd : decode c.code pc = .ok (.lreturn, 1)) {Q : Option Value → Heap → List Loc → Prop} {C N : Nat} (hQ : Q (some (.long z)) T.heap locs) (hc : cells ≤ C) (hs : slots ≤ N) : own_Go p e below (own_End below s Q C N) (T.setTop (mkF m pc Ls (.long z :: rest))) :=
  own_ret X hx hlk hret rfl (Or.inr (Or.inl ⟨rfl, rfl, z, rfl⟩)) hd hQ hc hs
theorem own_retA (X : Stand p l e R s m args below meth c T locs cells slots) (hx : p.tables.exec = Jvm.exec) (hlk : meth.locks = false) {pc : Nat} {Ls : Array Slot} {a : Addr} {t : FieldType} {rest : List Value} (hret : meth.sig.returnType = some t) (ht : t.isReference = true) (hn : narrow t (.ref a) = .ref a)
    (hd : decode c.code pc = .ok (.areturn, 1)) {Q : Option Value → Heap → List Loc → Prop} {C N : Nat} (hQ : Q (some (.ref a)) T.heap locs) (hc : cells ≤ C) (hs : slots ≤ N) : own_Go p e below (own_End below s Q C N) (T.setTop (mkF m pc Ls (.ref a :: rest))) :=
  own_ret X hx hlk hret hn (Or.inr (Or.inr (Or.inr (Or.inr ⟨rfl, ht, rfl⟩)))) hd hQ hc hs
theorem own_retV (X : Stand p l e R s m args below meth c T locs cells slots) (hx : p.tables.exec = Jvm.exec) (hlk : meth.locks = false) {pc : Nat} {Ls : Array Slot} (hret : meth.sig.returnType = none)
    (hd : decode c.code pc = .ok (.return_, 1)) {Q : Option Value → Heap → List Loc → Prop} {C N : Nat} (hQ : Q none T.heap locs) (hc : cells ≤ C) (hs : slots ≤ N) : own_Go p e below (own_End below s Q C N) (T.setTop (mkF m pc Ls [])) := by
  obtain ⟨fs, hr, hrun, hended, hW, hsame⟩ := X.leave (v := none) (fun _ => rfl) hlk
  exact ⟨_, X.returnOut hx hret hd hr, hrun, _, _, hended, hQ, ⟨_, rfl⟩, hW, hsame.mono hc hs⟩
/-- a static method by its contract -/
theorem own_callS (X : Stand p l e R s m args below meth c T locs cells slots) (hx : p.tables.exec = Jvm.exec) (hZ : Z.Warmed39 s.vm) {own : String} {index : Nat} {y : MethodName} {bytes : ByteArray} {maxL : Nat} {ret : Option FieldType} (hown : s.vm.findClass own = some m.cls)
    (w1 : (Jvm.Cond.methodLink own index y).before a0 Z = true) (w2 : (Jvm.Cond.static y).before a0 Z = true) (w3 : (Jvm.Cond.initialized y.cls).before a0 Z = true) (w4 : (Jvm.Cond.code y bytes maxL ret).before a0 Z = true) (hy : y.cls ≠ "java/lang/invoke/MethodHandle" ∧ y.cls ≠ "java/lang/invoke/VarHandle")
    {rm : Room} {as' : Array Value} {Q : Option Value → Heap → List Loc → Prop} (hM : own_Met l Z [] y bytes maxL ret rm as' h Q) (eT : T.heap = h) {pc : Nat} {Ls : Array Slot} {argsL rest st : List Value} (ha : argsL.toArray = as') (hsz : Ls.size = c.maxLocals)
    {ps : List FieldType} {r : Option FieldType} (hpd : parseMethodDescriptor y.desc = some ⟨ps, r⟩) (hpl : argsL.length = ps.length) (hst : st = argsL.reverse ++ rest) (hd : decode c.code pc = .ok (.invokestatic index, 3)) (W : Nat) (hW : (rest.map fun v => v.category).sum ≤ W)
    (hf : rm.frames + 1 ≤ R.frames) (hl : W + (maxL + 11) + rm.locals ≤ R.locals) (hc : cells + rm.cells ≤ R.cells) (hsl : slots + rm.slots ≤ R.slots) :
    ∃ (v : Option Value) (L : List Loc) (T' : State), Stand p l e R s m args below meth c T' (locs ++ L) (cells + rm.cells) (slots + rm.slots) ∧ Q v T'.heap L ∧ ∀ t, Steps p.tables e below (T'.setTop (mkF m (pc + 3) Ls (v.toList ++ rest))) t → Steps p.tables e below (T.setTop (mkF m pc Ls st)) t := by
  subst ha
  obtain ⟨v, _, ⟨T', L', k', n'⟩, -, X', ⟨L, hQ, l1, y1, z1⟩, st'⟩ := Jvm.LawKit.callS X hx (y := y) hown (mvT hZ w1) (mvT hZ w2) (mvT hZ w3) (mvT hZ w4) hy (backOf (W := W) hM hZ w4 w3 hf hl) (g := mkF m pc Ls st) rfl hsz (argsL := argsL) (rest := rest) (lenOf hpd hpl) hst (by show 2 * 0 + _ ≤ _; omega) hd (fun _ _ => ⟨rfl, eT, hc, hsl⟩)
  dsimp only [Pt.U, Pt.locs, Pt.cells, Pt.slots] at X' l1 y1 z1 st' hQ
  subst l1 y1 z1
  exact ⟨v, L, T', X', hQ, st'⟩
/-- an instance method by its contract, the receiver exactly of the class C -/
theorem own_callV (X : Stand p l e R s m args below meth c T locs cells slots) (hx : p.tables.exec = Jvm.exec) (hZ : Z.Warmed39 s.vm) {own C : String} {index : Nat} {y : MethodName} {bytes : ByteArray} {maxL : Nat} {ret : Option FieldType} (hown : s.vm.findClass own = some m.cls)
    (w1 : (Jvm.Cond.methodLink own index y).before a0 Z = true) (w2 : (Jvm.Cond.declares y).before a0 Z = true) (w3 : (Jvm.Cond.selects C y y).before a0 Z = true) (w4 : (Jvm.Cond.instanceMethod y).before a0 Z = true) (w5 : (Jvm.Cond.code y bytes maxL ret).before a0 Z = true) (w6 : (Jvm.Cond.initialized y.cls).before a0 Z = true)
    (hy : y.cls ≠ "java/lang/invoke/MethodHandle" ∧ y.cls ≠ "java/lang/invoke/VarHandle") {b : Addr} (E : Exa Z h b C)
    {rm : Room} {as' : Array Value} {Q : Option Value → Heap → List Loc → Prop} (hM : own_Met l Z [] y bytes maxL ret rm as' h Q) (eT : T.heap = h) {pc : Nat} {Ls : Array Slot} {argsL rest st : List Value} (ha : (.ref b :: argsL).toArray = as') (hsz : Ls.size = c.maxLocals)
    {ps : List FieldType} {r : Option FieldType} (hpd : parseMethodDescriptor y.desc = some ⟨ps, r⟩) (hpl : argsL.length = ps.length) (hst : st = argsL.reverse ++ .ref b :: rest) (hd : decode c.code pc = .ok (.invokevirtual index, 3)) (W : Nat) (hW : (rest.map fun v => v.category).sum ≤ W)
    (hf : rm.frames + 1 ≤ R.frames) (hl : W + (maxL + 11) + rm.locals ≤ R.locals) (hc : cells + rm.cells ≤ R.cells) (hsl : slots + rm.slots ≤ R.slots) :
    ∃ (v : Option Value) (L : List Loc) (T' : State), Stand p l e R s m args below meth c T' (locs ++ L) (cells + rm.cells) (slots + rm.slots) ∧ Q v T'.heap L ∧ ∀ t, Steps p.tables e below (T'.setTop (mkF m (pc + 3) Ls (v.toList ++ rest))) t → Steps p.tables e below (T.setTop (mkF m pc Ls st)) t := by
  subst ha
  obtain ⟨cq, kq, qa, qb, qc⟩ := isOf hZ eT E
  obtain ⟨v, _, ⟨T', L', k', n'⟩, -, X', ⟨L, hQ, l1, y1, z1⟩, st'⟩ := X.virtualBack hx (y := y) (z := y) hown (mvT hZ w1) (mvT hZ w2) (notFace_of_selects (args := #[]) (mvT hZ w3)) (mvT hZ w3) (mvT hZ w4) hy (backOf (W := W) hM hZ w5 w6 hf hl) qa qc (g := mkF m pc Ls st) rfl hsz (Steps.refl _) (argsL := argsL) (rest := rest) (lenOf hpd hpl) hst (by show 2 * 0 + _ ≤ _; omega) hd (fun _ _ => ⟨rfl, eT, hc, hsl⟩)
  dsimp only [Pt.U, Pt.locs, Pt.cells, Pt.slots] at X' l1 y1 z1 st' hQ
  subst l1 y1 z1
  exact ⟨v, L, T', X', hQ, fun t k => st'.trans k⟩
/-- a constructor by its contract -/
theorem own_callI (X : Stand p l e R s m args below meth c T locs cells slots) (hx : p.tables.exec = Jvm.exec) (hZ : Z.Warmed39 s.vm) {own : String} {index : Nat} {y : MethodName} {bytes : ByteArray} {maxL : Nat} (hyn : y.name = "<init>") (hown : s.vm.findClass own = some m.cls)
    (w1 : (Jvm.Cond.methodLink own index y).before a0 Z = true) (w2 : (Jvm.Cond.instanceMethod y).before a0 Z = true) (w3 : (Jvm.Cond.code y bytes maxL none).before a0 Z = true) (w4 : (Jvm.Cond.initialized y.cls).before a0 Z = true) (hy : y.cls ≠ "java/lang/invoke/MethodHandle" ∧ y.cls ≠ "java/lang/invoke/VarHandle") {b : Addr}
    {rm : Room} {as' : Array Value} {Q : Option Value → Heap → List Loc → Prop} (hM : own_Met l Z [] y bytes maxL none rm as' h Q) (eT : T.heap = h) {pc : Nat} {Ls : Array Slot} {argsL rest st : List Value} (ha : (.ref b :: argsL).toArray = as') (hsz : Ls.size = c.maxLocals)
    {ps : List FieldType} {r : Option FieldType} (hpd : parseMethodDescriptor y.desc = some ⟨ps, r⟩) (hpl : argsL.length = ps.length) (hst : st = argsL.reverse ++ .ref b :: rest) (hd : decode c.code pc = .ok (.invokespecial index, 3)) (W : Nat) (hW : (rest.map fun v => v.category).sum ≤ W)
    (hf : rm.frames + 1 ≤ R.frames) (hl : W + (maxL + 11) + rm.locals ≤ R.locals) (hc : cells + rm.cells ≤ R.cells) (hsl : slots + rm.slots ≤ R.slots) :
    ∃ (v : Option Value) (L : List Loc) (T' : State), Stand p l e R s m args below meth c T' (locs ++ L) (cells + rm.cells) (slots + rm.slots) ∧ Q v T'.heap L ∧ ∀ t, Steps p.tables e below (T'.setTop (mkF m (pc + 3) Ls (v.toList ++ rest))) t → Steps p.tables e below (T.setTop (mkF m pc Ls st)) t := by
  subst ha
  obtain ⟨v, _, ⟨T', L', k', n'⟩, -, X', ⟨L, hQ, l1, y1, z1⟩, st'⟩ := X.specialBack hx (y := y) hyn hown (mvT hZ w1) (mvT hZ w2) (mvT hZ w3) hy (backOf (W := W) hM hZ w3 w4 hf hl) (g := mkF m pc Ls st) rfl hsz (Steps.refl _) (a := b) (argsL := argsL) (rest := rest) (lenOf hpd hpl) hst (by show 2 * 0 + _ ≤ _; omega) hd (fun _ _ => ⟨rfl, eT, hc, hsl⟩)
  dsimp only [Pt.U, Pt.locs, Pt.cells, Pt.slots] at X' l1 y1 z1 st' hQ
  subst l1 y1 z1
  exact ⟨v, L, T', X', hQ, fun t k => st'.trans k⟩
end OwnGo
/-! OWN LAYER 2: private calls, arrays by functions, small stack steps. -/
section OwnAr
variable {p : Program} {l : Launch} {e : Env} {R : Room} {s : State} {m : MethodId} {args : Array Value} {below : List Frame} {meth : Method} {c : Code} {T : State} {locs : List Loc} {cells slots : Nat} {Z : State} {a0 : Array Value} {h h' : Heap}
/-- a private method by its contract -/
theorem own_callP (X : Stand p l e R s m args below meth c T locs cells slots) (hx : p.tables.exec = Jvm.exec) (hZ : Z.Warmed39 s.vm) {own : String} {index kk : Nat} {y : MethodName} {bytes : ByteArray} {maxL : Nat} {ret : Option FieldType} (hown : s.vm.findClass own = some m.cls)
    (w1 : (Jvm.Cond.methodLink own index y).before a0 Z = true) (w2 : (Jvm.Cond.instanceMethod y).before a0 Z = true) (w3 : (Jvm.Cond.privateMethod y).before a0 Z = true) (w4 : (Jvm.Cond.instantiable y.cls kk).before a0 Z = true) (w5 : (Jvm.Cond.code y bytes maxL ret).before a0 Z = true) (w6 : (Jvm.Cond.initialized y.cls).before a0 Z = true)
    (hy : y.cls ≠ "java/lang/invoke/MethodHandle" ∧ y.cls ≠ "java/lang/invoke/VarHandle") {b : Addr} {C : String} (E : Exa Z h b C)
    {rm : Room} {as' : Array Value} {Q : Option Value → Heap → List Loc → Prop} (hM : own_Met l Z [] y bytes maxL ret rm as' h Q) (eT : T.heap = h) {pc : Nat} {Ls : Array Slot} {argsL rest st : List Value} (ha : (.ref b :: argsL).toArray = as') (hsz : Ls.size = c.maxLocals)
    {ps : List FieldType} {r : Option FieldType} (hpd : parseMethodDescriptor y.desc = some ⟨ps, r⟩) (hpl : argsL.length = ps.length) (hst : st = argsL.reverse ++ .ref b :: rest) (hd : decode c.code pc = .ok (.invokevirtual index, 3)) (W : Nat) (hW : (rest.map fun v => v.category).sum ≤ W)
    (hf : rm.frames + 1 ≤ R.frames) (hl : W + (maxL + 11) + rm.locals ≤ R.locals) (hc : cells + rm.cells ≤ R.cells) (hsl : slots + rm.slots ≤ R.slots) :
    ∃ (v : Option Value) (L : List Loc) (T' : State), Stand p l e R s m args below meth c T' (locs ++ L) (cells + rm.cells) (slots + rm.slots) ∧ Q v T'.heap L ∧ ∀ t, Steps p.tables e below (T'.setTop (mkF m (pc + 3) Ls (v.toList ++ rest))) t → Steps p.tables e below (T.setTop (mkF m pc Ls st)) t := by
  subst ha
  obtain ⟨cell, q1, q2⟩ := E.cell
  have hp : s.PrivateAt y := Cond.privateMethod_at (mvP hZ w3 (args := #[]))
  have w4s : (Jvm.Cond.instantiable y.cls kk).before args s = true := mvT hZ w4
  obtain ⟨ci, ki, i1, i2, -, i3, -⟩ := Cond.instantiable_spec w4s
  have hsel : (Jvm.Cond.selects y.cls y y).before args s = true := Jvm.Stand.selects_self_of_private i1 i2 (Bool.or_eq_false_iff.mp i3).1 hp (mvT hZ w2) hy
  obtain ⟨v, _, ⟨T', L', k', n'⟩, -, X', ⟨L, hQ, l1, y1, z1⟩, st'⟩ := X.privateBack hx (y := y) hown (mvT hZ w1) (mvT hZ w2) hsel hp (mvT hZ w5) hy (backOf (W := W) hM hZ w5 w6 hf hl) (g := mkF m pc Ls st) rfl hsz (Steps.refl _) (a := b) (by rw [eT]; exact q1) q2 (argsL := argsL) (rest := rest) (lenOf hpd hpl) hst (by show 2 * 0 + _ ≤ _; omega) hd (fun _ _ => ⟨rfl, eT, hc, hsl⟩)
  dsimp only [Pt.U, Pt.locs, Pt.cells, Pt.slots] at X' l1 y1 z1 st' hQ
  subst l1 y1 z1
  exact ⟨v, L, T', X', hQ, fun t k => st'.trans k⟩
/-- the array at a: of the kind ty, n places, place i holds f i -/
def own_Ar (Z : State) (h : Heap) (a : Addr) (ty : FieldType) (n : Nat) (f : Nat → Value) : Prop := n < 2 ^ 31 ∧ ∃ c : Cell, Arr Z h a c ty ∧ c.slots.size = n ∧ ∀ i, i < n → c.slots[i]? = some (f i)
abbrev own_I (g : Nat → Int32) : Nat → Value := fun i => .int (g i)
abbrev own_J (g : Nat → Int64) : Nat → Value := fun i => .long (g i)
def own_upd {α : Type} (g : Nat → α) (j : Nat) (x : α) : Nat → α := fun i => if i = j then x else g i
theorem own_upd_at {α : Type} (g : Nat → α) (j : Nat) (x : α) : own_upd g j x j = x := if_pos rfl
theorem own_upd_ne {α : Type} (g : Nat → α) {i j : Nat} (x : α) (q : i ≠ j) : own_upd g j x i = g i := if_neg q
theorem own_Ar.congr {a : Addr} {ty : FieldType} {n : Nat} {f f' : Nat → Value} (A : own_Ar Z h a ty n f) (q : ∀ i, i < n → f i = f' i) : own_Ar Z h a ty n f' := by
  obtain ⟨hn, cl, A1, A2, A3⟩ := A; exact ⟨hn, cl, A1, A2, fun i hi => by rw [← q i hi]; exact A3 i hi⟩
theorem own_Ar.ext {a : Addr} {ty : FieldType} {n : Nat} {f : Nat → Value} (A : own_Ar Z h a ty n f) (E : Ext h h') : own_Ar Z h' a ty n f := by
  obtain ⟨hn, cl, A1, A2⟩ := A; exact ⟨hn, cl, A1.ext E, A2⟩
theorem own_Ar.other {a b : Addr} {ty : FieldType} {n sl : Nat} {f : Nat → Value} {v : Value} (A : own_Ar Z h b ty n f) (W : Wr h h' a sl v) (q : b ≠ a) : own_Ar Z h' b ty n f := by
  obtain ⟨hn, cl, A1, A2⟩ := A; exact ⟨hn, cl, A1.other W q, A2⟩
theorem own_Ar.keep {a : Addr} {ty : FieldType} {n : Nat} {f : Nat → Value} {ws : List Addr} (A : own_Ar Z h a ty n f) (K : Keep h h' ws) (q : a ∉ ws) : own_Ar Z h' a ty n f := by
  obtain ⟨hn, cl, A1, A2⟩ := A; exact ⟨hn, cl, ⟨K.2.1 a cl A1.1 q, A1.2⟩, A2⟩
theorem own_Ar.lt {a : Addr} {ty : FieldType} {n : Nat} {f : Nat → Value} (A : own_Ar Z h a ty n f) : a < h.size := by obtain ⟨_, cl, A1, -⟩ := A; exact A1.lt
theorem own_Ar.set {a : Addr} {ty : FieldType} {n i : Nat} {f : Nat → Value} {v : Value} (A : own_Ar Z h a ty n f) (W : Wr h h' a i v) : own_Ar Z h' a ty n (own_upd f i v) := by
  obtain ⟨hn, cl, A1, A2, A3⟩ := A
  refine ⟨hn, _, A1.same W, by rw [sz_set]; exact A2, fun j hj => ?_⟩
  simp only [Cell.setSlot, own_upd]
  by_cases q : j = i
  · subst q; rw [if_pos rfl]; simp [A2, hj]
  · rw [if_neg q, Array.getElem?_setIfInBounds_ne (Ne.symm q)]; exact A3 j hj
theorem own_Ar.setI {a : Addr} {n i : Nat} {g : Nat → Int32} {x : Int32} (A : own_Ar Z h a .int n (own_I g)) (W : Wr h h' a i (.int x)) : own_Ar Z h' a .int n (own_I (own_upd g i x)) := (A.set W).congr fun j _ => by
  show own_upd (own_I g) i (.int x) j = .int (own_upd g i x j)
  unfold own_upd; split <;> rfl
theorem own_Ar.setJ {a : Addr} {n i : Nat} {g : Nat → Int64} {x : Int64} (A : own_Ar Z h a .long n (own_J g)) (W : Wr h h' a i (.long x)) : own_Ar Z h' a .long n (own_J (own_upd g i x)) := (A.set W).congr fun j _ => by
  show own_upd (own_J g) i (.long x) j = .long (own_upd g i x j)
  unfold own_upd; split <;> rfl
theorem own_nat {j : Int32} {i : Nat} (hj : j.toInt = i) : j.toNatClampNeg = i ∧ ¬ j < 0 := by
  constructor
  · simp only [Int32.toNatClampNeg]; omega
  · rw [Int32.lt_iff_toInt_lt, hj]; have : (0 : Int32).toInt = 0 := rfl
    omega
theorem own_in {cl : Cell} {j : Int32} {i n : Nat} (hj : j.toInt = i) (hs : cl.slots.size = n) (hi : i < n) : ¬ (j < 0 ∨ cl.slots.size ≤ j.toNatClampNeg) := by
  obtain ⟨q1, q2⟩ := own_nat hj
  rw [q1]
  exact fun r => r.elim q2 (fun r => by omega)
theorem own_gt {a : Addr} {n : Nat} (h : a < n) : n > a := h
theorem own_iaload (X : Stand p l e R s m args below meth c T locs cells slots) (hx : p.tables.exec = Jvm.exec) (hZ : Z.Warmed39 s.vm) (eT : T.heap = h) {a : Addr} {n i : Nat} {g : Nat → Int32} (A : own_Ar Z h a .int n (own_I g)) {j : Int32} (hj : j.toInt = i) (hi : i < n) {pc : Nat} {Ls : Array Slot} {rest : List Value}
    (hd : decode c.code pc = .ok (.iaload, 1)) : ∀ t, Steps p.tables e below (T.setTop (mkF m (pc + 1) Ls (.int (g i) :: rest))) t → Steps p.tables e below (T.setTop (mkF m pc Ls (.int j :: .ref a :: rest))) t := by
  obtain ⟨hn, cl, A1, A2, A3⟩ := A
  intro t k
  exact X.iaload hx (j := j) (v := .int (g i)) (by rw [eT]; exact A1.1) (State.isArrayOf_alike hZ.alike A1.2.1) A1.2.2 (own_in hj A2 hi) (by rw [(own_nat hj).1]; exact A3 i hi) (g := mkF m pc Ls (.int j :: .ref a :: rest)) rfl rfl hd _ k
theorem own_laload (X : Stand p l e R s m args below meth c T locs cells slots) (hx : p.tables.exec = Jvm.exec) (hZ : Z.Warmed39 s.vm) (eT : T.heap = h) {a : Addr} {n i : Nat} {g : Nat → Int64} (A : own_Ar Z h a .long n (own_J g)) {j : Int32} (hj : j.toInt = i) (hi : i < n) {pc : Nat} {Ls : Array Slot} {rest : List Value}
    (hd : decode c.code pc = .ok (.laload, 1)) : ∀ t, Steps p.tables e below (T.setTop (mkF m (pc + 1) Ls (.long (g i) :: rest))) t → Steps p.tables e below (T.setTop (mkF m pc Ls (.int j :: .ref a :: rest))) t := by
  obtain ⟨hn, cl, A1, A2, A3⟩ := A
  intro t k
  exact X.laload hx (j := j) (v := .long (g i)) (by rw [eT]; exact A1.1) (State.isArrayOf_alike hZ.alike A1.2.1) A1.2.2 (own_in hj A2 hi) (by rw [(own_nat hj).1]; exact A3 i hi) (g := mkF m pc Ls (.int j :: .ref a :: rest)) rfl rfl hd _ k
theorem own_alen (X : Stand p l e R s m args below meth c T locs cells slots) (hx : p.tables.exec = Jvm.exec) (hZ : Z.Warmed39 s.vm) (eT : T.heap = h) {a : Addr} {ty : FieldType} {n : Nat} {f : Nat → Value} (A : own_Ar Z h a ty n f) {pc : Nat} {Ls : Array Slot} {rest : List Value}
    (hd : decode c.code pc = .ok (.arraylength, 1)) : ∀ t, Steps p.tables e below (T.setTop (mkF m (pc + 1) Ls (.int n.toInt32 :: rest))) t → Steps p.tables e below (T.setTop (mkF m pc Ls (.ref a :: rest))) t := by
  obtain ⟨hn, cl, A1, A2, A3⟩ := A
  intro t k
  exact X.arraylength hx (by rw [eT]; exact A1.1) (State.isArrayOf_alike hZ.alike A1.2.1) (g := mkF m pc Ls (.ref a :: rest)) rfl rfl hd _ (by rw [A2]; exact k)
theorem own_iastore (X : Stand p l e R s m args below meth c T locs cells slots) (hx : p.tables.exec = Jvm.exec) (hZ : Z.Warmed39 s.vm) (eT : T.heap = h) {a : Addr} {n i : Nat} {g : Nat → Int32} (A : own_Ar Z h a .int n (own_I g)) {j x : Int32} (hj : j.toInt = i) (hi : i < n) {pc : Nat} {Ls : Array Slot} {rest : List Value}
    (hd : decode c.code pc = .ok (.iastore, 1)) : ∃ T' h', Stand p l e R s m args below meth c T' (locs ++ [⟨a, i⟩]) cells slots ∧ T'.heap = h' ∧ Wr h h' a i (.int x) ∧ ∀ t, Steps p.tables e below (T'.setTop (mkF m (pc + 1) Ls rest)) t → Steps p.tables e below (T.setTop (mkF m pc Ls (.int x :: .int j :: .ref a :: rest))) t := by
  obtain ⟨hn, cl, A1, A2, A3⟩ := A
  obtain ⟨T', h', X', e', W', st⟩ := stI X hx hZ eT A1 (j := j) (x := x) (own_in hj A2 hi) (g := mkF m pc Ls (.int x :: .int j :: .ref a :: rest)) rfl rfl hd
  rw [(own_nat hj).1] at X' W'
  exact ⟨T', h', X', e', W', st⟩
theorem own_lastore (X : Stand p l e R s m args below meth c T locs cells slots) (hx : p.tables.exec = Jvm.exec) (hZ : Z.Warmed39 s.vm) (eT : T.heap = h) {a : Addr} {n i : Nat} {g : Nat → Int64} (A : own_Ar Z h a .long n (own_J g)) {j : Int32} {x : Int64} (hj : j.toInt = i) (hi : i < n) {pc : Nat} {Ls : Array Slot} {rest : List Value}
    (hd : decode c.code pc = .ok (.lastore, 1)) : ∃ T' h', Stand p l e R s m args below meth c T' (locs ++ [⟨a, i⟩]) cells slots ∧ T'.heap = h' ∧ Wr h h' a i (.long x) ∧ ∀ t, Steps p.tables e below (T'.setTop (mkF m (pc + 1) Ls rest)) t → Steps p.tables e below (T.setTop (mkF m pc Ls (.long x :: .int j :: .ref a :: rest))) t := by
  obtain ⟨hn, cl, A1, A2, A3⟩ := A
  obtain ⟨T', h', X', e', W', st⟩ := stJ X hx hZ eT A1 (j := j) (x := x) (own_in hj A2 hi) (g := mkF m pc Ls (.long x :: .int j :: .ref a :: rest)) rfl rfl hd
  rw [(own_nat hj).1] at X' W'
  exact ⟨T', h', X', e', W', st⟩
theorem own_newarr (X : Stand p l e R s m args below meth c T locs cells slots) (hx : p.tables.exec = Jvm.exec) (hZ : Z.Warmed39 s.vm) {aty : ArrayType} (w : (Jvm.Cond.arrayClass (newarray.typeOf aty)).before a0 Z = true) (eT : T.heap = h) {n : Int32} {N : Nat} (hN : n.toInt = N) {cap : Nat} (hcap : N ≤ cap) (hb : cap * 8 ≤ 536870912) (hc : cells + 1 ≤ R.cells) (hl : slots + cap ≤ R.slots)
    {pc : Nat} {Ls : Array Slot} {rest : List Value} (hd : decode c.code pc = .ok (.newarray aty, 2)) :
    ∃ T' h', Stand p l e R s m args below meth c T' locs (cells + 1) (slots + cap) ∧ T'.heap = h' ∧ Ext h h' ∧ own_Ar Z h' h.size (newarray.typeOf aty) N (fun _ => defaultValue (newarray.typeOf aty)) ∧
      ∀ t, Steps p.tables e below (T'.setTop (mkF m (pc + 2) Ls (.ref h.size :: rest))) t → Steps p.tables e below (T.setTop (mkF m pc Ls (.int n :: rest))) t := by
  obtain ⟨q1, q2⟩ := own_nat hN
  obtain ⟨T', h', cA, X', e', E', A', st⟩ := newP X hx hZ w eT (g := mkF m pc Ls (.int n :: rest)) rfl hd rfl q2 (cap := cap) (by rw [q1]; exact hcap) hb hc hl
  refine ⟨T', h', X', e', E', ⟨?_, _, A', by rw [sz_new]; exact q1, fun i hi => ?_⟩, st⟩
  · have := n.toInt_lt; omega
  · simp [newA, q1, hi]
theorem own_dup2 {tb : Tables} [Ours tb] {target : State} {g : JFrame} (h : At T m c below) (hx : tb.exec = Jvm.exec) (hg : g.method = m) {x y : Value} {rest : List Value} (hd : decode c.code g.pc = .ok (.dup2, 1)) (hs : g.stack = x :: y :: rest) (hc : x.category = 1) (hc' : y.category = 1)
    (hr : Steps tb e below (T.setTop { g with pc := g.pc + 1, stack := x :: y :: x :: y :: rest }) target) : Steps tb e below (T.setTop g) target := by
  subst hg
  jvm_step h [h.top, hx, hd, hs, hc, hc']
  exact hr
theorem own_dupX2 {tb : Tables} [Ours tb] {target : State} {g : JFrame} (h : At T m c below) (hx : tb.exec = Jvm.exec) (hg : g.method = m) {x y z : Value} {rest : List Value} (hd : decode c.code g.pc = .ok (.dup_x2, 1)) (hs : g.stack = x :: y :: z :: rest) (hc : x.category = 1) (hc' : y.category = 1) (hc'' : z.category = 1)
    (hr : Steps tb e below (T.setTop { g with pc := g.pc + 1, stack := x :: y :: z :: x :: rest }) target) : Steps tb e below (T.setTop g) target := by
  subst hg
  jvm_step h [h.top, hx, hd, hs, hc, hc', hc'']
  exact hr
theorem own_pop2 {tb : Tables} [Ours tb] {target : State} {g : JFrame} (h : At T m c below) (hx : tb.exec = Jvm.exec) (hg : g.method = m) {x : Value} {rest : List Value} (hd : decode c.code g.pc = .ok (.pop2, 1)) (hs : g.stack = x :: rest) (hc : x.category = 2)
    (hr : Steps tb e below (T.setTop { g with pc := g.pc + 1, stack := rest }) target) : Steps tb e below (T.setTop g) target := by
  subst hg
  jvm_step h [h.top, hx, hd, hs, hc]
  exact hr
end OwnAr
/-! THE PLAIN LAW OF THE TALLY'S TABLE: open addressing over 16 places. -/
section OwnTally
def own_home (k : Int32) : Int32 := ((k * (-1640531527 : Int32)) ^^^ ((k * (-1640531527 : Int32)).toUInt32 >>> ((16 : Int32) &&& 31).toUInt32).toInt32) &&& (15 : Int32)
def own_hm (k : Int32) : Nat := (own_home k).toNatClampNeg
theorem own_hm_int (k : Int32) : (own_home k).toInt = own_hm k ∧ own_hm k < 16 := by
  have q : (own_home k).toInt = ((k * (-1640531527 : Int32)) ^^^ ((k * (-1640531527 : Int32)).toUInt32 >>> ((16 : Int32) &&& 31).toUInt32).toInt32).toInt % 16 := c_mask _ _ 4 (by decide) (by decide)
  unfold own_hm
  simp only [Int32.toNatClampNeg]
  omega
def own_at (k : Int32) (d : Nat) : Nat := (own_hm k + d) % 16
theorem own_at_lt (k : Int32) (d : Nat) : own_at k d < 16 := by unfold own_at; omega
theorem own_at_inj {k : Int32} {d e : Nat} (hd : d < 16) (he : e < 16) (q : own_at k d = own_at k e) : d = e := by unfold own_at at q; omega
/-- the probe for k ends at i -/
def own_Pr (tab keys : Nat → Int32) (k : Int32) (i : Nat) : Prop := ∃ d, d < 16 ∧ i = own_at k d ∧ (∀ e, e < d → ¬ tab (own_at k e) = -1 ∧ ¬ keys (tab (own_at k e)).toNatClampNeg = k) ∧ (tab i = -1 ∨ keys (tab i).toNatClampNeg = k)
theorem own_Pr.lt {tab keys : Nat → Int32} {k : Int32} {i : Nat} (h : own_Pr tab keys k i) : i < 16 := by obtain ⟨d, -, rfl, -⟩ := h; exact own_at_lt k d
theorem own_Pr.unique {tab keys : Nat → Int32} {k : Int32} {i j : Nat} (h : own_Pr tab keys k i) (h' : own_Pr tab keys k j) : i = j := by
  obtain ⟨d, hd, rfl, h1, h2⟩ := h
  obtain ⟨d', hd', rfl, h1', h2'⟩ := h'
  rcases Nat.lt_trichotomy d d' with q | q | q
  · have := h1' d q; rcases h2 with r | r
    · exact absurd r this.1
    · exact absurd r this.2
  · rw [q]
  · have := h1 d' q; rcases h2' with r | r
    · exact absurd r this.1
    · exact absurd r this.2
/-- n keys are in: each by its own probe, over places taken by elder ones -/
def own_Inv (tab keys : Nat → Int32) (n : Nat) : Prop :=
  (∀ i, i < 16 → tab i = -1 ∨ ∃ m : Nat, m < n ∧ (tab i).toInt = m) ∧
  (∀ m : Nat, m < n → ∃ d, d < 16 ∧ (tab (own_at (keys m) d)).toInt = m ∧ ∀ e, e < d → ∃ m' : Nat, m' < m ∧ (tab (own_at (keys m) e)).toInt = m') ∧
  (∀ m m' : Nat, m < n → m' < n → keys m = keys m' → m = m') ∧
  (∀ i i' : Nat, i < 16 → i' < 16 → (tab i).toInt = (tab i').toInt → ¬ tab i = -1 → i = i')
theorem own_neg1 : (-1 : Int32).toInt = -1 := rfl
theorem own_nat_of {x : Int32} {m : Nat} (h : x.toInt = m) : x.toNatClampNeg = m ∧ ¬ x = -1 := by
  refine ⟨(own_nat h).1, fun q => ?_⟩
  rw [q, own_neg1] at h; omega
theorem own_Inv.nil {tab keys : Nat → Int32} (h : ∀ i, i < 16 → tab i = -1) : own_Inv tab keys 0 :=
  ⟨fun i hi => Or.inl (h i hi), fun m hm => absurd hm (Nat.not_lt_zero _), fun m m' hm => absurd hm (Nat.not_lt_zero _), fun i i' hi _ _ q => absurd (h i hi) q⟩
theorem own_Inv.free {tab keys : Nat → Int32} {n : Nat} (I : own_Inv tab keys n) (hn : n ≤ 3) (k : Int32) : ∃ d, d < 16 ∧ tab (own_at k d) = -1 := by
  refine Classical.byContradiction fun no => ?_
  have occ : ∀ d, d < 16 → ∃ m : Nat, m < n ∧ (tab (own_at k d)).toInt = m := fun d hd => by
    rcases I.1 _ (own_at_lt k d) with q | q
    · exact absurd ⟨d, hd, q⟩ no
    · exact q
  have ne : ∀ d e, d < 16 → e < 16 → d ≠ e → (tab (own_at k d)).toInt ≠ (tab (own_at k e)).toInt := fun d e hd he hne q => by
    obtain ⟨m, _, hm⟩ := occ d hd
    exact hne (own_at_inj hd he (I.2.2.2 _ _ (own_at_lt k d) (own_at_lt k e) q (own_nat_of hm).2))
  obtain ⟨m0, b0, h0⟩ := occ 0 (by omega)
  obtain ⟨m1, b1, h1⟩ := occ 1 (by omega)
  obtain ⟨m2, b2, h2⟩ := occ 2 (by omega)
  obtain ⟨m3, b3, h3⟩ := occ 3 (by omega)
  have n01 := ne 0 1 (by omega) (by omega) (by omega)
  have n02 := ne 0 2 (by omega) (by omega) (by omega)
  have n03 := ne 0 3 (by omega) (by omega) (by omega)
  have n12 := ne 1 2 (by omega) (by omega) (by omega)
  have n13 := ne 1 3 (by omega) (by omega) (by omega)
  have n23 := ne 2 3 (by omega) (by omega) (by omega)
  omega
/-- a key that is in is found -/
theorem own_Inv.pr {tab keys : Nat → Int32} {n m : Nat} (I : own_Inv tab keys n) (hm : m < n) : ∃ i, own_Pr tab keys (keys m) i ∧ (tab i).toInt = m := by
  obtain ⟨d, hd, h1, h2⟩ := I.2.1 m hm
  refine ⟨own_at (keys m) d, ⟨d, hd, rfl, fun e he => ?_, Or.inr (by rw [(own_nat_of h1).1])⟩, h1⟩
  obtain ⟨m', hm', h3⟩ := h2 e he
  refine ⟨(own_nat_of h3).2, fun q => ?_⟩
  rw [(own_nat_of h3).1] at q
  have := I.2.2.1 m' m (by omega) hm q
  omega
theorem own_Inv.found {tab keys : Nat → Int32} {n i : Nat} {k : Int32} (I : own_Inv tab keys n) (P : own_Pr tab keys k i) (q : ¬ tab i = -1) : ∃ m : Nat, m < n ∧ (tab i).toInt = m ∧ keys m = k := by
  rcases I.1 i P.lt with r | ⟨m, hm, r⟩
  · exact absurd r q
  · refine ⟨m, hm, r, ?_⟩
    obtain ⟨d, -, -, -, s⟩ := P
    rcases s with s | s
    · exact absurd s q
    · rw [(own_nat_of r).1] at s; exact s
theorem own_Inv.absent {tab keys : Nat → Int32} {n i : Nat} {k : Int32} (I : own_Inv tab keys n) (P : own_Pr tab keys k i) (q : tab i = -1) : ∀ m : Nat, m < n → ¬ keys m = k := fun m hm e => by
  obtain ⟨j, Pj, hj⟩ := I.pr hm
  rw [e] at Pj
  have := P.unique Pj
  subst this
  exact (own_nat_of hj).2 q
/-- a new key goes in -/
theorem own_Inv.add {tab keys : Nat → Int32} {n i : Nat} {k sz : Int32} (I : own_Inv tab keys n) (P : own_Pr tab keys k i) (q : tab i = -1) (hsz : sz.toInt = n) : own_Inv (own_upd tab i sz) (own_upd keys n k) (n + 1) ∧ own_Pr (own_upd tab i sz) (own_upd keys n k) k i := by
  have ab := I.absent P q
  obtain ⟨d, hd, hi, h1, h2⟩ := P
  have hik : ∀ e, e < d → own_at k e ≠ i := fun e he r => by
    rw [hi] at r; have := own_at_inj (by omega) hd r; omega
  have occ : ∀ e, e < d → ∃ m : Nat, m < n ∧ (tab (own_at k e)).toInt = m := fun e he => by
    rcases I.1 _ (own_at_lt k e) with r | r
    · exact absurd r (h1 e he).1
    · exact r
  have other : ∀ j, (∃ m : Nat, (tab j).toInt = m) → j ≠ i := fun j ⟨m, hm⟩ r => by
    rw [r] at hm; exact (own_nat_of hm).2 q
  refine ⟨⟨fun j hj => ?_, fun m hm => ?_, fun m m' hm hm' => ?_, fun j j' hj hj' => ?_⟩, d, hd, hi, fun e he => ?_, Or.inr ?_⟩
  · by_cases r : j = i
    · exact Or.inr ⟨n, by omega, by rw [r, own_upd_at]; exact hsz⟩
    · rw [own_upd_ne _ _ r]
      rcases I.1 j hj with s | ⟨m, hm, s⟩
      · exact Or.inl s
      · exact Or.inr ⟨m, by omega, s⟩
  · by_cases r : m = n
    · subst r
      rw [own_upd_at]
      refine ⟨d, hd, by rw [← hi, own_upd_at]; exact hsz, fun e he => ?_⟩
      obtain ⟨m', hm', s⟩ := occ e he
      exact ⟨m', hm', by rw [own_upd_ne _ _ (hik e he)]; exact s⟩
    · rw [own_upd_ne _ _ r]
      obtain ⟨d', hd', s1, s2⟩ := I.2.1 m (by omega)
      refine ⟨d', hd', by rw [own_upd_ne _ _ (other _ ⟨m, s1⟩)]; exact s1, fun e he => ?_⟩
      obtain ⟨m', hm', s3⟩ := s2 e he
      exact ⟨m', hm', by rw [own_upd_ne _ _ (other _ ⟨m', s3⟩)]; exact s3⟩
  · intro e
    by_cases r : m = n
    · by_cases r' : m' = n
      · omega
      · rw [r, own_upd_at, own_upd_ne _ _ r'] at e
        exact absurd e.symm (ab m' (by omega))
    · by_cases r' : m' = n
      · rw [r', own_upd_at, own_upd_ne _ _ r] at e
        exact absurd e (ab m (by omega))
      · rw [own_upd_ne _ _ r, own_upd_ne _ _ r'] at e
        exact I.2.2.1 m m' (by omega) (by omega) e
  · intro e s
    by_cases r : j = i
    · by_cases r' : j' = i
      · omega
      · rw [r, own_upd_at, own_upd_ne _ _ r', hsz] at e
        rcases I.1 j' hj' with t | ⟨m, hm, t⟩
        · rw [t, own_neg1] at e; omega
        · omega
    · by_cases r' : j' = i
      · rw [r', own_upd_at, own_upd_ne _ _ r, hsz] at e
        rcases I.1 j hj with t | ⟨m, hm, t⟩
        · rw [t, own_neg1] at e; omega
        · omega
      · rw [own_upd_ne _ _ r] at s e
        rw [own_upd_ne _ _ r'] at e
        exact I.2.2.2 j j' hj hj' e s
  · rw [own_upd_ne _ _ (hik e he)]
    refine ⟨(h1 e he).1, ?_⟩
    obtain ⟨m, hm, s⟩ := occ e he
    have := (h1 e he).2
    rw [(own_nat_of s).1] at this ⊢
    rw [own_upd_ne _ _ (show m ≠ n by omega)]
    exact this
  · rw [own_upd_at, (own_nat_of hsz).1, own_upd_at]
/-- the youngest key goes out -/
theorem own_Inv.drop {tab keys : Nat → Int32} {n i : Nat} (I : own_Inv tab keys (n + 1)) (P : own_Pr tab keys (keys n) i) : own_Inv (own_upd tab i (-1)) keys n := by
  obtain ⟨j, Pj, hj⟩ := I.pr (m := n) (by omega)
  have := P.unique Pj
  subst this
  have other : ∀ j, j < 16 → ∀ m : Nat, m < n → (tab j).toInt = m → j ≠ i := fun j _ m hm s r => by rw [r] at s; omega
  refine ⟨fun j hj' => ?_, fun m hm => ?_, fun m m' hm hm' => I.2.2.1 m m' (by omega) (by omega), fun j j' h1 h2 => ?_⟩
  · by_cases r : j = i
    · rw [r, own_upd_at]; exact Or.inl rfl
    · rw [own_upd_ne _ _ r]
      rcases I.1 j hj' with s | ⟨m, hm, s⟩
      · exact Or.inl s
      · refine Or.inr ⟨m, ?_, s⟩
        rcases Nat.lt_or_ge m n with t | t
        · exact t
        · exfalso
          have e : m = n := by omega
          exact r (I.2.2.2 j i hj' P.lt (by rw [s, hj, e]) (own_nat_of s).2)
  · obtain ⟨d, hd, s1, s2⟩ := I.2.1 m (by omega)
    refine ⟨d, hd, by rw [own_upd_ne _ _ (other _ (own_at_lt _ _) m hm s1)]; exact s1, fun e he => ?_⟩
    obtain ⟨m', hm', s3⟩ := s2 e he
    exact ⟨m', hm', by rw [own_upd_ne _ _ (other _ (own_at_lt _ _) m' (by omega) s3)]; exact s3⟩
  · intro e s
    by_cases r : j = i
    · rw [r, own_upd_at] at s; exact absurd rfl s
    · rw [own_upd_ne _ _ r] at s e
      by_cases r' : j' = i
      · rw [r', own_upd_at, own_neg1] at e
        rcases I.1 j h1 with t | ⟨m, hm, t⟩
        · exact absurd t s
        · omega
      · rw [own_upd_ne _ _ r'] at e
        exact I.2.2.2 j j' h1 h2 e s
end OwnTally
/-! THE TALLY IN THE HEAP -/
section OwnTallyHeap
abbrev own_TC : String := "com/example/enabled_step/enabledstep/engine/Tally"
/-- the Tally at o: its table, keys, sums, size; all of it at or above n0 -/
def own_Ta (Z : State) (n0 : Nat) (h : Heap) (o t k u : Addr) (tab keys : Nat → Int32) (sums : Nat → Int64) (n : Int32) : Prop :=
  Exa Z h o own_TC ∧ Fld Z h o own_TC "table" "[I" (.ref t) ∧ Fld Z h o own_TC "keys" "[I" (.ref k) ∧ Fld Z h o own_TC "sums" "[J" (.ref u) ∧ Fld Z h o own_TC "size" "I" (.int n) ∧
  own_Ar Z h t .int 16 (own_I tab) ∧ own_Ar Z h k .int 8 (own_I keys) ∧ own_Ar Z h u .long 8 (own_J sums) ∧ (o ≠ t ∧ o ≠ k ∧ o ≠ u ∧ t ≠ k ∧ t ≠ u ∧ k ≠ u) ∧ n0 ≤ o ∧ n0 ≤ t ∧ n0 ≤ k ∧ n0 ≤ u
variable {Z : State} {n0 : Nat} {h h' : Heap} {o t k u : Addr} {tab keys : Nat → Int32} {sums : Nat → Int64} {n : Int32}
theorem own_Ta.wTab {i : Nat} {x : Int32} (A : own_Ta Z n0 h o t k u tab keys sums n) (W : Wr h h' t i (.int x)) : own_Ta Z n0 h' o t k u (own_upd tab i x) keys sums n := by
  obtain ⟨a1, a2, a3, a4, a5, a6, a7, a8, ⟨d1, d2, d3, d4, d5, d6⟩, g⟩ := A
  exact ⟨a1.wr W, a2.other W (Or.inl d1), a3.other W (Or.inl d1), a4.other W (Or.inl d1), a5.other W (Or.inl d1), a6.setI W, a7.other W (Ne.symm d4), a8.other W (Ne.symm d5), ⟨d1, d2, d3, d4, d5, d6⟩, g⟩
theorem own_Ta.wKeys {i : Nat} {x : Int32} (A : own_Ta Z n0 h o t k u tab keys sums n) (W : Wr h h' k i (.int x)) : own_Ta Z n0 h' o t k u tab (own_upd keys i x) sums n := by
  obtain ⟨a1, a2, a3, a4, a5, a6, a7, a8, ⟨d1, d2, d3, d4, d5, d6⟩, g⟩ := A
  exact ⟨a1.wr W, a2.other W (Or.inl d2), a3.other W (Or.inl d2), a4.other W (Or.inl d2), a5.other W (Or.inl d2), a6.other W d4, a7.setI W, a8.other W (Ne.symm d6), ⟨d1, d2, d3, d4, d5, d6⟩, g⟩
theorem own_Ta.wSums {i : Nat} {x : Int64} (A : own_Ta Z n0 h o t k u tab keys sums n) (W : Wr h h' u i (.long x)) : own_Ta Z n0 h' o t k u tab keys (own_upd sums i x) n := by
  obtain ⟨a1, a2, a3, a4, a5, a6, a7, a8, ⟨d1, d2, d3, d4, d5, d6⟩, g⟩ := A
  exact ⟨a1.wr W, a2.other W (Or.inl d3), a3.other W (Or.inl d3), a4.other W (Or.inl d3), a5.other W (Or.inl d3), a6.other W d5, a7.other W d6, a8.setJ W, ⟨d1, d2, d3, d4, d5, d6⟩, g⟩
theorem own_Ta.wSize {a0 : Array Value} (hw : ∀ d ∈ tables_1, d.before a0 Z = true) {x : Int32} (A : own_Ta Z n0 h o t k u tab keys sums n) (W : Wr h h' o (RoadKit.slotOf Z own_TC "size" "I") (.int x)) : own_Ta Z n0 h' o t k u tab keys sums x := by
  obtain ⟨a1, a2, a3, a4, a5, a6, a7, a8, ⟨d1, d2, d3, d4, d5, d6⟩, g⟩ := A
  have L1 : Laid Z a0 own_TC own_TC "table" "[I" := Or.inl (hw _ (List.mem_of_getElem? (i := 18) rfl))
  have L2 : Laid Z a0 own_TC own_TC "keys" "[I" := Or.inl (hw _ (List.mem_of_getElem? (i := 20) rfl))
  have L3 : Laid Z a0 own_TC own_TC "sums" "[J" := Or.inl (hw _ (List.mem_of_getElem? (i := 23) rfl))
  have L4 : Laid Z a0 own_TC own_TC "size" "I" := Or.inl (hw _ (List.mem_of_getElem? (i := 35) rfl))
  exact ⟨a1.wr W, a2.other W (Or.inr (slot_ne L1 L4 (by decide) (t := .array .int) (t' := .int) (by decide) (by decide))), a3.other W (Or.inr (slot_ne L2 L4 (by decide) (t := .array .int) (t' := .int) (by decide) (by decide))), a4.other W (Or.inr (slot_ne L3 L4 (by decide) (t := .array .long) (t' := .int) (by decide) (by decide))), a5.same W, a6.other W (Ne.symm d1), a7.other W (Ne.symm d2), a8.other W (Ne.symm d3), ⟨d1, d2, d3, d4, d5, d6⟩, g⟩
theorem own_dec {j : Int32} {r : Nat} (hj : j.toInt = ((r + 1 : Nat) : Int) - 1) (h : r + 1 ≤ 3) : (j + (-1 : Int32)).toInt = (r : Int) - 1 := by
  have h1 := c_iadd j (-1)
  have h2 : (-1 : Int32).toInt = -1 := rfl
  have h3 := rng32 (j + (-1))
  omega
theorem own_addExact {x y : Int64} (h1 : -9223372036854775808 ≤ x.toInt + y.toInt) (h2 : x.toInt + y.toInt < 9223372036854775808) : ¬ (((x ^^^ (x + y)) &&& (y ^^^ (x + y))).toInt < 0) := by
  have e := c_ladd x y
  have r1 := rng64 (x + y)
  have e' : (x + y).toInt = x.toInt + y.toInt := by omega
  obtain ⟨a1, a2, a3, a4⟩ := c_xorSL x (x + y)
  obtain ⟨b1, b2, b3, b4⟩ := c_xorSL y (x + y)
  obtain ⟨c1, c2, c3⟩ := c_andSL (x ^^^ (x + y)) (y ^^^ (x + y))
  by_cases p : x.toInt < 0 <;> by_cases q : (x + y).toInt < 0
  · have := c2 (a1 p q); omega
  · by_cases r : y.toInt < 0
    · omega
    · have := c3 (b4 (by omega) (by omega)); omega
  · by_cases r : y.toInt < 0
    · have := c3 (b1 r q); omega
    · omega
  · have := c2 (a4 (by omega) (by omega)); omega
end OwnTallyHeap
theorem pd_0 : parseMethodDescriptor "([II)V" = some ⟨[(.array .int), .int], none⟩ := by decide +kernel
theorem pd_1 : parseMethodDescriptor "(I)[I" = some ⟨[.int], some (.array .int)⟩ := by decide +kernel
theorem pd_2 : parseMethodDescriptor "(I)I" = some ⟨[.int], some .int⟩ := by decide +kernel
theorem pd_3 : parseMethodDescriptor "(JJ)J" = some ⟨[.long, .long], some .long⟩ := by decide +kernel
theorem pd_4 : parseMethodDescriptor "()V" = some ⟨[], none⟩ := by decide +kernel
theorem pd_5 : parseMethodDescriptor "(IJ)V" = some ⟨[.int, .long], none⟩ := by decide +kernel
theorem pd_6 : parseMethodDescriptor "()I" = some ⟨[], some .int⟩ := by decide +kernel
theorem pd_7 : parseMethodDescriptor "(I)J" = some ⟨[.int], some .long⟩ := by decide +kernel
theorem d4_0 : decode jdk_65_method_103_code 0 = .ok (.iconst 0, 1) := by decide +kernel
theorem d4_1 : decode jdk_65_method_103_code 1 = .ok (.istore_n 2, 1) := by decide +kernel
theorem d4_2 : decode jdk_65_method_103_code 2 = .ok (.aload_n 0, 1) := by decide +kernel
theorem d4_3 : decode jdk_65_method_103_code 3 = .ok (.arraylength, 1) := by decide +kernel
theorem d4_4 : decode jdk_65_method_103_code 4 = .ok (.istore_n 3, 1) := by decide +kernel
theorem d4_5 : decode jdk_65_method_103_code 5 = .ok (.iload_n 2, 1) := by decide +kernel
theorem d4_6 : decode jdk_65_method_103_code 6 = .ok (.iload_n 3, 1) := by decide +kernel
theorem d4_7 : decode jdk_65_method_103_code 7 = .ok (.if_icmp .ge 13, 3) := by decide +kernel
theorem d4_10 : decode jdk_65_method_103_code 10 = .ok (.aload_n 0, 1) := by decide +kernel
theorem d4_11 : decode jdk_65_method_103_code 11 = .ok (.iload_n 2, 1) := by decide +kernel
theorem d4_12 : decode jdk_65_method_103_code 12 = .ok (.iload_n 1, 1) := by decide +kernel
theorem d4_13 : decode jdk_65_method_103_code 13 = .ok (.iastore, 1) := by decide +kernel
theorem d4_14 : decode jdk_65_method_103_code 14 = .ok (.iinc 2 1, 3) := by decide +kernel
theorem d4_17 : decode jdk_65_method_103_code 17 = .ok (.goto (-12), 3) := by decide +kernel
theorem d4_20 : decode jdk_65_method_103_code 20 = .ok (.return_, 1) := by decide +kernel
theorem pn_4 : plainFor (⟨"java/util/Arrays", "fill", "([II)V"⟩ : MethodName) = true := by first | exact plainFor_of_name (by first | (simp [plainName, overriddenIn]; done) | decide +kernel) | decide +kernel
theorem ef_4 (m : MethodId) (x0 : Addr) (x1 : Int32) : entryFrame m #[(.ref x0), (.int x1)] 4 = mkF m 0 #[.val (.ref x0), .val (.int x1), .unset, .unset] [] := by first | (simp [entryFrame, mkF, argsToLocals, Value.category]; done) | rfl
theorem d3_0 : decode prog_46_method_9_code 0 = .ok (.iload_n 0, 1) := by decide +kernel
theorem d3_1 : decode prog_46_method_9_code 1 = .ok (.newarray .int, 2) := by decide +kernel
theorem d3_3 : decode prog_46_method_9_code 3 = .ok (.astore_n 1, 1) := by decide +kernel
theorem d3_4 : decode prog_46_method_9_code 4 = .ok (.aload_n 1, 1) := by decide +kernel
theorem d3_5 : decode prog_46_method_9_code 5 = .ok (.iconst (-1), 1) := by decide +kernel
theorem d3_6 : decode prog_46_method_9_code 6 = .ok (.invokestatic 51, 3) := by decide +kernel
theorem d3_9 : decode prog_46_method_9_code 9 = .ok (.aload_n 1, 1) := by decide +kernel
theorem d3_10 : decode prog_46_method_9_code 10 = .ok (.areturn, 1) := by decide +kernel
theorem pn_3 : plainFor (⟨"com/example/enabled_step/enabledstep/engine/Tally", "newTable", "(I)[I"⟩ : MethodName) = true := by first | exact plainFor_of_name (by first | (simp [plainName, overriddenIn]; done) | decide +kernel) | decide +kernel
theorem ef_3 (m : MethodId) (x0 : Int32) : entryFrame m #[(.int x0)] 2 = mkF m 0 #[.val (.int x0), .unset] [] := by first | (simp [entryFrame, mkF, argsToLocals, Value.category]; done) | rfl
theorem d1_0 : decode prog_46_method_1_code 0 = .ok (.aload_n 0, 1) := by decide +kernel
theorem d1_1 : decode prog_46_method_1_code 1 = .ok (.invokespecial 1, 3) := by decide +kernel
theorem d1_4 : decode prog_46_method_1_code 4 = .ok (.aload_n 0, 1) := by decide +kernel
theorem d1_5 : decode prog_46_method_1_code 5 = .ok (.bipush 16, 2) := by decide +kernel
theorem d1_7 : decode prog_46_method_1_code 7 = .ok (.invokestatic 7, 3) := by decide +kernel
theorem d1_10 : decode prog_46_method_1_code 10 = .ok (.putfield 13, 3) := by decide +kernel
theorem d1_13 : decode prog_46_method_1_code 13 = .ok (.aload_n 0, 1) := by decide +kernel
theorem d1_14 : decode prog_46_method_1_code 14 = .ok (.bipush 8, 2) := by decide +kernel
theorem d1_16 : decode prog_46_method_1_code 16 = .ok (.newarray .int, 2) := by decide +kernel
theorem d1_18 : decode prog_46_method_1_code 18 = .ok (.putfield 17, 3) := by decide +kernel
theorem d1_21 : decode prog_46_method_1_code 21 = .ok (.aload_n 0, 1) := by decide +kernel
theorem d1_22 : decode prog_46_method_1_code 22 = .ok (.bipush 8, 2) := by decide +kernel
theorem d1_24 : decode prog_46_method_1_code 24 = .ok (.newarray .long, 2) := by decide +kernel
theorem d1_26 : decode prog_46_method_1_code 26 = .ok (.putfield 20, 3) := by decide +kernel
theorem d1_29 : decode prog_46_method_1_code 29 = .ok (.return_, 1) := by decide +kernel
theorem pn_1 : plainFor (⟨"com/example/enabled_step/enabledstep/engine/Tally", "<init>", "()V"⟩ : MethodName) = true := by first | exact plainFor_of_name (by first | (simp [plainName, overriddenIn]; done) | decide +kernel) | decide +kernel
theorem ef_1 (m : MethodId) (x0 : Addr) : entryFrame m #[(.ref x0)] 1 = mkF m 0 #[.val (.ref x0)] [] := by first | (simp [entryFrame, mkF, argsToLocals, Value.category]; done) | rfl
theorem d6_0 : decode prog_46_method_7_code 0 = .ok (.aload_n 0, 1) := by decide +kernel
theorem d6_1 : decode prog_46_method_7_code 1 = .ok (.getfield 13, 3) := by decide +kernel
theorem d6_4 : decode prog_46_method_7_code 4 = .ok (.arraylength, 1) := by decide +kernel
theorem d6_5 : decode prog_46_method_7_code 5 = .ok (.iconst 1, 1) := by decide +kernel
theorem d6_6 : decode prog_46_method_7_code 6 = .ok (.isub, 1) := by decide +kernel
theorem d6_7 : decode prog_46_method_7_code 7 = .ok (.istore_n 2, 1) := by decide +kernel
theorem d6_8 : decode prog_46_method_7_code 8 = .ok (.iload_n 1, 1) := by decide +kernel
theorem d6_9 : decode prog_46_method_7_code 9 = .ok (.ldc 50, 2) := by decide +kernel
theorem d6_11 : decode prog_46_method_7_code 11 = .ok (.imul, 1) := by decide +kernel
theorem d6_12 : decode prog_46_method_7_code 12 = .ok (.istore_n 3, 1) := by decide +kernel
theorem d6_13 : decode prog_46_method_7_code 13 = .ok (.iload_n 3, 1) := by decide +kernel
theorem d6_14 : decode prog_46_method_7_code 14 = .ok (.iload_n 3, 1) := by decide +kernel
theorem d6_15 : decode prog_46_method_7_code 15 = .ok (.bipush 16, 2) := by decide +kernel
theorem d6_17 : decode prog_46_method_7_code 17 = .ok (.iushr, 1) := by decide +kernel
theorem d6_18 : decode prog_46_method_7_code 18 = .ok (.ixor, 1) := by decide +kernel
theorem d6_19 : decode prog_46_method_7_code 19 = .ok (.iload_n 2, 1) := by decide +kernel
theorem d6_20 : decode prog_46_method_7_code 20 = .ok (.iand, 1) := by decide +kernel
theorem d6_21 : decode prog_46_method_7_code 21 = .ok (.istore 4, 2) := by decide +kernel
theorem d6_23 : decode prog_46_method_7_code 23 = .ok (.aload_n 0, 1) := by decide +kernel
theorem d6_24 : decode prog_46_method_7_code 24 = .ok (.getfield 13, 3) := by decide +kernel
theorem d6_27 : decode prog_46_method_7_code 27 = .ok (.iload 4, 2) := by decide +kernel
theorem d6_29 : decode prog_46_method_7_code 29 = .ok (.iaload, 1) := by decide +kernel
theorem d6_30 : decode prog_46_method_7_code 30 = .ok (.iconst (-1), 1) := by decide +kernel
theorem d6_31 : decode prog_46_method_7_code 31 = .ok (.if_icmp .eq 30, 3) := by decide +kernel
theorem d6_34 : decode prog_46_method_7_code 34 = .ok (.aload_n 0, 1) := by decide +kernel
theorem d6_35 : decode prog_46_method_7_code 35 = .ok (.getfield 17, 3) := by decide +kernel
theorem d6_38 : decode prog_46_method_7_code 38 = .ok (.aload_n 0, 1) := by decide +kernel
theorem d6_39 : decode prog_46_method_7_code 39 = .ok (.getfield 13, 3) := by decide +kernel
theorem d6_42 : decode prog_46_method_7_code 42 = .ok (.iload 4, 2) := by decide +kernel
theorem d6_44 : decode prog_46_method_7_code 44 = .ok (.iaload, 1) := by decide +kernel
theorem d6_45 : decode prog_46_method_7_code 45 = .ok (.iaload, 1) := by decide +kernel
theorem d6_46 : decode prog_46_method_7_code 46 = .ok (.iload_n 1, 1) := by decide +kernel
theorem d6_47 : decode prog_46_method_7_code 47 = .ok (.if_icmp .eq 14, 3) := by decide +kernel
theorem d6_50 : decode prog_46_method_7_code 50 = .ok (.iload 4, 2) := by decide +kernel
theorem d6_52 : decode prog_46_method_7_code 52 = .ok (.iconst 1, 1) := by decide +kernel
theorem d6_53 : decode prog_46_method_7_code 53 = .ok (.iadd, 1) := by decide +kernel
theorem d6_54 : decode prog_46_method_7_code 54 = .ok (.iload_n 2, 1) := by decide +kernel
theorem d6_55 : decode prog_46_method_7_code 55 = .ok (.iand, 1) := by decide +kernel
theorem d6_56 : decode prog_46_method_7_code 56 = .ok (.istore 4, 2) := by decide +kernel
theorem d6_58 : decode prog_46_method_7_code 58 = .ok (.goto (-35), 3) := by decide +kernel
theorem d6_61 : decode prog_46_method_7_code 61 = .ok (.iload 4, 2) := by decide +kernel
theorem d6_63 : decode prog_46_method_7_code 63 = .ok (.ireturn, 1) := by decide +kernel
theorem pn_6 : plainFor (⟨"com/example/enabled_step/enabledstep/engine/Tally", "slot", "(I)I"⟩ : MethodName) = true := by first | exact plainFor_of_name (by first | (simp [plainName, overriddenIn]; done) | decide +kernel) | decide +kernel
theorem ef_6 (m : MethodId) (x0 : Addr) (x1 : Int32) : entryFrame m #[(.ref x0), (.int x1)] 5 = mkF m 0 #[.val (.ref x0), .val (.int x1), .unset, .unset, .unset] [] := by first | (simp [entryFrame, mkF, argsToLocals, Value.category]; done) | rfl
theorem d7_0 : decode jdk_29_method_25_code 0 = .ok (.lload_n 0, 1) := by decide +kernel
theorem d7_1 : decode jdk_29_method_25_code 1 = .ok (.lload_n 2, 1) := by decide +kernel
theorem d7_2 : decode jdk_29_method_25_code 2 = .ok (.ladd, 1) := by decide +kernel
theorem d7_3 : decode jdk_29_method_25_code 3 = .ok (.lstore 4, 2) := by decide +kernel
theorem d7_5 : decode jdk_29_method_25_code 5 = .ok (.lload_n 0, 1) := by decide +kernel
theorem d7_6 : decode jdk_29_method_25_code 6 = .ok (.lload 4, 2) := by decide +kernel
theorem d7_8 : decode jdk_29_method_25_code 8 = .ok (.lxor, 1) := by decide +kernel
theorem d7_9 : decode jdk_29_method_25_code 9 = .ok (.lload_n 2, 1) := by decide +kernel
theorem d7_10 : decode jdk_29_method_25_code 10 = .ok (.lload 4, 2) := by decide +kernel
theorem d7_12 : decode jdk_29_method_25_code 12 = .ok (.lxor, 1) := by decide +kernel
theorem d7_13 : decode jdk_29_method_25_code 13 = .ok (.land, 1) := by decide +kernel
theorem d7_14 : decode jdk_29_method_25_code 14 = .ok (.lconst 0, 1) := by decide +kernel
theorem d7_15 : decode jdk_29_method_25_code 15 = .ok (.lcmp, 1) := by decide +kernel
theorem d7_16 : decode jdk_29_method_25_code 16 = .ok (.ifCond .ge 13, 3) := by decide +kernel
theorem d7_19 : decode jdk_29_method_25_code 19 = .ok (.new 109, 3) := by decide +kernel
theorem d7_22 : decode jdk_29_method_25_code 22 = .ok (.dup, 1) := by decide +kernel
theorem d7_23 : decode jdk_29_method_25_code 23 = .ok (.ldc 116, 2) := by decide +kernel
theorem d7_25 : decode jdk_29_method_25_code 25 = .ok (.invokespecial 113, 3) := by decide +kernel
theorem d7_28 : decode jdk_29_method_25_code 28 = .ok (.athrow, 1) := by decide +kernel
theorem d7_29 : decode jdk_29_method_25_code 29 = .ok (.lload 4, 2) := by decide +kernel
theorem d7_31 : decode jdk_29_method_25_code 31 = .ok (.lreturn, 1) := by decide +kernel
theorem pn_7 : plainFor (⟨"java/lang/Math", "addExact", "(JJ)J"⟩ : MethodName) = true := by first | exact plainFor_of_name (by first | (simp [plainName, overriddenIn]; done) | decide +kernel) | decide +kernel
theorem ef_7 (m : MethodId) (x0 : Int64) (x1 : Int64) : entryFrame m #[(.long x0), (.long x1)] 6 = mkF m 0 #[.val (.long x0), .second, .val (.long x1), .second, .unset, .unset] [] := by first | (simp [entryFrame, mkF, argsToLocals, Value.category]; done) | rfl
theorem d5_0 : decode prog_46_method_2_code 0 = .ok (.aload_n 0, 1) := by decide +kernel
theorem d5_1 : decode prog_46_method_2_code 1 = .ok (.iload_n 1, 1) := by decide +kernel
theorem d5_2 : decode prog_46_method_2_code 2 = .ok (.invokevirtual 24, 3) := by decide +kernel
theorem d5_5 : decode prog_46_method_2_code 5 = .ok (.istore 4, 2) := by decide +kernel
theorem d5_7 : decode prog_46_method_2_code 7 = .ok (.aload_n 0, 1) := by decide +kernel
theorem d5_8 : decode prog_46_method_2_code 8 = .ok (.getfield 13, 3) := by decide +kernel
theorem d5_11 : decode prog_46_method_2_code 11 = .ok (.iload 4, 2) := by decide +kernel
theorem d5_13 : decode prog_46_method_2_code 13 = .ok (.iaload, 1) := by decide +kernel
theorem d5_14 : decode prog_46_method_2_code 14 = .ok (.iconst (-1), 1) := by decide +kernel
theorem d5_15 : decode prog_46_method_2_code 15 = .ok (.if_icmp .ne 115, 3) := by decide +kernel
theorem d5_18 : decode prog_46_method_2_code 18 = .ok (.aload_n 0, 1) := by decide +kernel
theorem d5_19 : decode prog_46_method_2_code 19 = .ok (.getfield 28, 3) := by decide +kernel
theorem d5_22 : decode prog_46_method_2_code 22 = .ok (.aload_n 0, 1) := by decide +kernel
theorem d5_23 : decode prog_46_method_2_code 23 = .ok (.getfield 17, 3) := by decide +kernel
theorem d5_26 : decode prog_46_method_2_code 26 = .ok (.arraylength, 1) := by decide +kernel
theorem d5_27 : decode prog_46_method_2_code 27 = .ok (.if_icmp .ne 37, 3) := by decide +kernel
theorem d5_30 : decode prog_46_method_2_code 30 = .ok (.aload_n 0, 1) := by decide +kernel
theorem d5_31 : decode prog_46_method_2_code 31 = .ok (.aload_n 0, 1) := by decide +kernel
theorem d5_32 : decode prog_46_method_2_code 32 = .ok (.getfield 17, 3) := by decide +kernel
theorem d5_35 : decode prog_46_method_2_code 35 = .ok (.iconst 2, 1) := by decide +kernel
theorem d5_36 : decode prog_46_method_2_code 36 = .ok (.aload_n 0, 1) := by decide +kernel
theorem d5_37 : decode prog_46_method_2_code 37 = .ok (.getfield 28, 3) := by decide +kernel
theorem d5_40 : decode prog_46_method_2_code 40 = .ok (.imul, 1) := by decide +kernel
theorem d5_41 : decode prog_46_method_2_code 41 = .ok (.invokestatic 32, 3) := by decide +kernel
theorem d5_44 : decode prog_46_method_2_code 44 = .ok (.putfield 17, 3) := by decide +kernel
theorem d5_47 : decode prog_46_method_2_code 47 = .ok (.aload_n 0, 1) := by decide +kernel
theorem d5_48 : decode prog_46_method_2_code 48 = .ok (.aload_n 0, 1) := by decide +kernel
theorem d5_49 : decode prog_46_method_2_code 49 = .ok (.getfield 20, 3) := by decide +kernel
theorem d5_52 : decode prog_46_method_2_code 52 = .ok (.iconst 2, 1) := by decide +kernel
theorem d5_53 : decode prog_46_method_2_code 53 = .ok (.aload_n 0, 1) := by decide +kernel
theorem d5_54 : decode prog_46_method_2_code 54 = .ok (.getfield 28, 3) := by decide +kernel
theorem d5_57 : decode prog_46_method_2_code 57 = .ok (.imul, 1) := by decide +kernel
theorem d5_58 : decode prog_46_method_2_code 58 = .ok (.invokestatic 38, 3) := by decide +kernel
theorem d5_61 : decode prog_46_method_2_code 61 = .ok (.putfield 20, 3) := by decide +kernel
theorem d5_64 : decode prog_46_method_2_code 64 = .ok (.aload_n 0, 1) := by decide +kernel
theorem d5_65 : decode prog_46_method_2_code 65 = .ok (.getfield 17, 3) := by decide +kernel
theorem d5_68 : decode prog_46_method_2_code 68 = .ok (.aload_n 0, 1) := by decide +kernel
theorem d5_69 : decode prog_46_method_2_code 69 = .ok (.getfield 28, 3) := by decide +kernel
theorem d5_72 : decode prog_46_method_2_code 72 = .ok (.iload_n 1, 1) := by decide +kernel
theorem d5_73 : decode prog_46_method_2_code 73 = .ok (.iastore, 1) := by decide +kernel
theorem d5_74 : decode prog_46_method_2_code 74 = .ok (.aload_n 0, 1) := by decide +kernel
theorem d5_75 : decode prog_46_method_2_code 75 = .ok (.getfield 20, 3) := by decide +kernel
theorem d5_78 : decode prog_46_method_2_code 78 = .ok (.aload_n 0, 1) := by decide +kernel
theorem d5_79 : decode prog_46_method_2_code 79 = .ok (.getfield 28, 3) := by decide +kernel
theorem d5_82 : decode prog_46_method_2_code 82 = .ok (.lconst 0, 1) := by decide +kernel
theorem d5_83 : decode prog_46_method_2_code 83 = .ok (.lastore, 1) := by decide +kernel
theorem d5_84 : decode prog_46_method_2_code 84 = .ok (.aload_n 0, 1) := by decide +kernel
theorem d5_85 : decode prog_46_method_2_code 85 = .ok (.getfield 13, 3) := by decide +kernel
theorem d5_88 : decode prog_46_method_2_code 88 = .ok (.iload 4, 2) := by decide +kernel
theorem d5_90 : decode prog_46_method_2_code 90 = .ok (.aload_n 0, 1) := by decide +kernel
theorem d5_91 : decode prog_46_method_2_code 91 = .ok (.getfield 28, 3) := by decide +kernel
theorem d5_94 : decode prog_46_method_2_code 94 = .ok (.iastore, 1) := by decide +kernel
theorem d5_95 : decode prog_46_method_2_code 95 = .ok (.aload_n 0, 1) := by decide +kernel
theorem d5_96 : decode prog_46_method_2_code 96 = .ok (.dup, 1) := by decide +kernel
theorem d5_97 : decode prog_46_method_2_code 97 = .ok (.getfield 28, 3) := by decide +kernel
theorem d5_100 : decode prog_46_method_2_code 100 = .ok (.iconst 1, 1) := by decide +kernel
theorem d5_101 : decode prog_46_method_2_code 101 = .ok (.iadd, 1) := by decide +kernel
theorem d5_102 : decode prog_46_method_2_code 102 = .ok (.putfield 28, 3) := by decide +kernel
theorem d5_105 : decode prog_46_method_2_code 105 = .ok (.aload_n 0, 1) := by decide +kernel
theorem d5_106 : decode prog_46_method_2_code 106 = .ok (.getfield 28, 3) := by decide +kernel
theorem d5_109 : decode prog_46_method_2_code 109 = .ok (.aload_n 0, 1) := by decide +kernel
theorem d5_110 : decode prog_46_method_2_code 110 = .ok (.getfield 13, 3) := by decide +kernel
theorem d5_113 : decode prog_46_method_2_code 113 = .ok (.arraylength, 1) := by decide +kernel
theorem d5_114 : decode prog_46_method_2_code 114 = .ok (.iconst 2, 1) := by decide +kernel
theorem d5_115 : decode prog_46_method_2_code 115 = .ok (.idiv, 1) := by decide +kernel
theorem d5_116 : decode prog_46_method_2_code 116 = .ok (.if_icmp .le 7, 3) := by decide +kernel
theorem d5_119 : decode prog_46_method_2_code 119 = .ok (.aload_n 0, 1) := by decide +kernel
theorem d5_120 : decode prog_46_method_2_code 120 = .ok (.invokevirtual 41, 3) := by decide +kernel
theorem d5_123 : decode prog_46_method_2_code 123 = .ok (.aload_n 0, 1) := by decide +kernel
theorem d5_124 : decode prog_46_method_2_code 124 = .ok (.iload_n 1, 1) := by decide +kernel
theorem d5_125 : decode prog_46_method_2_code 125 = .ok (.invokevirtual 24, 3) := by decide +kernel
theorem d5_128 : decode prog_46_method_2_code 128 = .ok (.istore 4, 2) := by decide +kernel
theorem d5_130 : decode prog_46_method_2_code 130 = .ok (.aload_n 0, 1) := by decide +kernel
theorem d5_131 : decode prog_46_method_2_code 131 = .ok (.getfield 13, 3) := by decide +kernel
theorem d5_134 : decode prog_46_method_2_code 134 = .ok (.iload 4, 2) := by decide +kernel
theorem d5_136 : decode prog_46_method_2_code 136 = .ok (.iaload, 1) := by decide +kernel
theorem d5_137 : decode prog_46_method_2_code 137 = .ok (.istore 5, 2) := by decide +kernel
theorem d5_139 : decode prog_46_method_2_code 139 = .ok (.aload_n 0, 1) := by decide +kernel
theorem d5_140 : decode prog_46_method_2_code 140 = .ok (.getfield 20, 3) := by decide +kernel
theorem d5_143 : decode prog_46_method_2_code 143 = .ok (.iload 5, 2) := by decide +kernel
theorem d5_145 : decode prog_46_method_2_code 145 = .ok (.aload_n 0, 1) := by decide +kernel
theorem d5_146 : decode prog_46_method_2_code 146 = .ok (.getfield 20, 3) := by decide +kernel
theorem d5_149 : decode prog_46_method_2_code 149 = .ok (.iload 5, 2) := by decide +kernel
theorem d5_151 : decode prog_46_method_2_code 151 = .ok (.laload, 1) := by decide +kernel
theorem d5_152 : decode prog_46_method_2_code 152 = .ok (.lload_n 2, 1) := by decide +kernel
theorem d5_153 : decode prog_46_method_2_code 153 = .ok (.invokestatic 44, 3) := by decide +kernel
theorem d5_156 : decode prog_46_method_2_code 156 = .ok (.lastore, 1) := by decide +kernel
theorem d5_157 : decode prog_46_method_2_code 157 = .ok (.return_, 1) := by decide +kernel
theorem pn_5 : plainFor (⟨"com/example/enabled_step/enabledstep/engine/Tally", "add", "(IJ)V"⟩ : MethodName) = true := by first | exact plainFor_of_name (by first | (simp [plainName, overriddenIn]; done) | decide +kernel) | decide +kernel
theorem ef_5 (m : MethodId) (x0 : Addr) (x1 : Int32) (x2 : Int64) : entryFrame m #[(.ref x0), (.int x1), (.long x2)] 6 = mkF m 0 #[.val (.ref x0), .val (.int x1), .val (.long x2), .second, .unset, .unset] [] := by first | (simp [entryFrame, mkF, argsToLocals, Value.category]; done) | rfl
theorem d8_0 : decode prog_46_method_6_code 0 = .ok (.aload_n 0, 1) := by decide +kernel
theorem d8_1 : decode prog_46_method_6_code 1 = .ok (.getfield 28, 3) := by decide +kernel
theorem d8_4 : decode prog_46_method_6_code 4 = .ok (.iconst 1, 1) := by decide +kernel
theorem d8_5 : decode prog_46_method_6_code 5 = .ok (.isub, 1) := by decide +kernel
theorem d8_6 : decode prog_46_method_6_code 6 = .ok (.istore_n 1, 1) := by decide +kernel
theorem d8_7 : decode prog_46_method_6_code 7 = .ok (.iload_n 1, 1) := by decide +kernel
theorem d8_8 : decode prog_46_method_6_code 8 = .ok (.ifCond .lt 25, 3) := by decide +kernel
theorem d8_11 : decode prog_46_method_6_code 11 = .ok (.aload_n 0, 1) := by decide +kernel
theorem d8_12 : decode prog_46_method_6_code 12 = .ok (.getfield 13, 3) := by decide +kernel
theorem d8_15 : decode prog_46_method_6_code 15 = .ok (.aload_n 0, 1) := by decide +kernel
theorem d8_16 : decode prog_46_method_6_code 16 = .ok (.aload_n 0, 1) := by decide +kernel
theorem d8_17 : decode prog_46_method_6_code 17 = .ok (.getfield 17, 3) := by decide +kernel
theorem d8_20 : decode prog_46_method_6_code 20 = .ok (.iload_n 1, 1) := by decide +kernel
theorem d8_21 : decode prog_46_method_6_code 21 = .ok (.iaload, 1) := by decide +kernel
theorem d8_22 : decode prog_46_method_6_code 22 = .ok (.invokevirtual 24, 3) := by decide +kernel
theorem d8_25 : decode prog_46_method_6_code 25 = .ok (.iconst (-1), 1) := by decide +kernel
theorem d8_26 : decode prog_46_method_6_code 26 = .ok (.iastore, 1) := by decide +kernel
theorem d8_27 : decode prog_46_method_6_code 27 = .ok (.iinc 1 (-1), 3) := by decide +kernel
theorem d8_30 : decode prog_46_method_6_code 30 = .ok (.goto (-23), 3) := by decide +kernel
theorem d8_33 : decode prog_46_method_6_code 33 = .ok (.aload_n 0, 1) := by decide +kernel
theorem d8_34 : decode prog_46_method_6_code 34 = .ok (.iconst 0, 1) := by decide +kernel
theorem d8_35 : decode prog_46_method_6_code 35 = .ok (.putfield 28, 3) := by decide +kernel
theorem d8_38 : decode prog_46_method_6_code 38 = .ok (.return_, 1) := by decide +kernel
theorem pn_8 : plainFor (⟨"com/example/enabled_step/enabledstep/engine/Tally", "clear", "()V"⟩ : MethodName) = true := by first | exact plainFor_of_name (by first | (simp [plainName, overriddenIn]; done) | decide +kernel) | decide +kernel
theorem ef_8 (m : MethodId) (x0 : Addr) : entryFrame m #[(.ref x0)] 2 = mkF m 0 #[.val (.ref x0), .unset] [] := by first | (simp [entryFrame, mkF, argsToLocals, Value.category]; done) | rfl
theorem d9_0 : decode prog_46_method_3_code 0 = .ok (.aload_n 0, 1) := by decide +kernel
theorem d9_1 : decode prog_46_method_3_code 1 = .ok (.getfield 28, 3) := by decide +kernel
theorem d9_4 : decode prog_46_method_3_code 4 = .ok (.ireturn, 1) := by decide +kernel
theorem pn_9 : plainFor (⟨"com/example/enabled_step/enabledstep/engine/Tally", "size", "()I"⟩ : MethodName) = true := by first | exact plainFor_of_name (by first | (simp [plainName, overriddenIn]; done) | decide +kernel) | decide +kernel
theorem ef_9 (m : MethodId) (x0 : Addr) : entryFrame m #[(.ref x0)] 1 = mkF m 0 #[.val (.ref x0)] [] := by first | (simp [entryFrame, mkF, argsToLocals, Value.category]; done) | rfl
theorem d10_0 : decode prog_46_method_4_code 0 = .ok (.aload_n 0, 1) := by decide +kernel
theorem d10_1 : decode prog_46_method_4_code 1 = .ok (.getfield 17, 3) := by decide +kernel
theorem d10_4 : decode prog_46_method_4_code 4 = .ok (.iload_n 1, 1) := by decide +kernel
theorem d10_5 : decode prog_46_method_4_code 5 = .ok (.iaload, 1) := by decide +kernel
theorem d10_6 : decode prog_46_method_4_code 6 = .ok (.ireturn, 1) := by decide +kernel
theorem pn_10 : plainFor (⟨"com/example/enabled_step/enabledstep/engine/Tally", "key", "(I)I"⟩ : MethodName) = true := by first | exact plainFor_of_name (by first | (simp [plainName, overriddenIn]; done) | decide +kernel) | decide +kernel
theorem ef_10 (m : MethodId) (x0 : Addr) (x1 : Int32) : entryFrame m #[(.ref x0), (.int x1)] 2 = mkF m 0 #[.val (.ref x0), .val (.int x1)] [] := by first | (simp [entryFrame, mkF, argsToLocals, Value.category]; done) | rfl
theorem d11_0 : decode prog_46_method_5_code 0 = .ok (.aload_n 0, 1) := by decide +kernel
theorem d11_1 : decode prog_46_method_5_code 1 = .ok (.getfield 20, 3) := by decide +kernel
theorem d11_4 : decode prog_46_method_5_code 4 = .ok (.iload_n 1, 1) := by decide +kernel
theorem d11_5 : decode prog_46_method_5_code 5 = .ok (.laload, 1) := by decide +kernel
theorem d11_6 : decode prog_46_method_5_code 6 = .ok (.lreturn, 1) := by decide +kernel
theorem pn_11 : plainFor (⟨"com/example/enabled_step/enabledstep/engine/Tally", "sum", "(I)J"⟩ : MethodName) = true := by first | exact plainFor_of_name (by first | (simp [plainName, overriddenIn]; done) | decide +kernel) | decide +kernel
theorem ef_11 (m : MethodId) (x0 : Addr) (x1 : Int32) : entryFrame m #[(.ref x0), (.int x1)] 2 = mkF m 0 #[.val (.ref x0), .val (.int x1)] [] := by first | (simp [entryFrame, mkF, argsToLocals, Value.category]; done) | rfl
theorem pn_0 : plainFor (⟨"com/example/enabled_step/enabledstep/engine/TallyClearPinLaw", "law", "(IIIIJJ)Z"⟩ : MethodName) = true := by first | exact plainFor_of_name (by first | (simp [plainName, overriddenIn]; done) | decide +kernel) | decide +kernel
theorem ef_0 (m : MethodId) (x0 : Int32) (x1 : Int32) (x2 : Int32) (x3 : Int32) (x4 : Int64) (x5 : Int64) : entryFrame m #[(.int x0), (.int x1), (.int x2), (.int x3), (.long x4), (.long x5)] maxLocals = mkF m 0 #[.val (.int x0), .val (.int x1), .val (.int x2), .val (.int x3), .val (.long x4), .second, .val (.long x5), .second, .unset, .unset, .unset, .unset, .unset] [] := by first | (simp [entryFrame, mkF, argsToLocals, Value.category, maxLocals]; done) | rfl
set_option maxRecDepth 65536 in
set_option maxHeartbeats 40000000 in
theorem rmFill (l : Launch) (Z : State) (a0 : Array Value) (hw : ∀ d ∈ tables_1, d.before a0 Z = true) (ws : List Jvm.Cond) (a1 : Addr) (p2 : Int32) (n : Nat) (g : Nat → Int32) (n0 : Nat) (h0 : Heap) (A : own_Ar Z h0 a1 .int n (own_I g)) (ga : n0 ≤ a1) :
    own_Met l Z ws (⟨"java/util/Arrays", "fill", "([II)V"⟩ : MethodName) jdk_65_method_103_code 4 none ({ frames := 0, cells := 0, slots := 0, locals := 0 } : Room) #[(.ref a1), (.int p2)] h0 (fun v h L => v = none ∧ own_Ar Z h a1 .int n (own_I fun _ => p2) ∧ Keep h0 h [a1] ∧ Fr n0 L) := by
  refine own_met pn_4 ?_
  intro p e s m below meth c s₁ hx hby hml hown hnm hret hlk hZ X0 e0
  refine own_entry (ef_4 m a1 p2) ?_
  show own_Go p e below _ (s₁.setTop (mkF m 0 #[.val (.ref a1), .val (.int p2), .unset, .unset] []))
  have hn : n.toInt32.toInt = n := len_toInt A.1
  refine own_go (fun tt kk => XS.iconst X0.here hx rfl (hb hby d4_0) kk) ?_
  show own_Go p e below _ (s₁.setTop (mkF m 1 #[.val (.ref a1), .val (.int p2), .unset, .unset] [(.int (0 : Int32))]))
  refine own_go (fun tt kk => XS.istoreN X0.here hx rfl (hb hby d4_1) rfl (l' := #[.val (.ref a1), .val (.int p2), .val (.int (0 : Int32)), .unset]) rfl kk) ?_
  show own_Go p e below _ (s₁.setTop (mkF m 2 #[.val (.ref a1), .val (.int p2), .val (.int (0 : Int32)), .unset] []))
  refine own_go (fun tt kk => XS.aloadN X0.here hx rfl (hb hby d4_2) rfl rfl kk) ?_
  show own_Go p e below _ (s₁.setTop (mkF m 3 #[.val (.ref a1), .val (.int p2), .val (.int (0 : Int32)), .unset] [(.ref a1)]))
  refine own_go (own_alen X0 hx hZ e0 A (pc := 3) (Ls := #[.val (.ref a1), .val (.int p2), .val (.int (0 : Int32)), .unset]) (rest := []) (hb hby d4_3)) ?_
  show own_Go p e below _ (s₁.setTop (mkF m 4 #[.val (.ref a1), .val (.int p2), .val (.int (0 : Int32)), .unset] [(.int n.toInt32)]))
  refine own_go (fun tt kk => XS.istoreN X0.here hx rfl (hb hby d4_4) rfl (l' := #[.val (.ref a1), .val (.int p2), .val (.int (0 : Int32)), .val (.int n.toInt32)]) rfl kk) ?_
  show own_Go p e below _ (s₁.setTop (mkF m 5 #[.val (.ref a1), .val (.int p2), .val (.int (0 : Int32)), .val (.int n.toInt32)] []))
  suffices loop : ∀ (r i : Nat) (j : Int32) (T : State) (h : Heap) (locs : List Loc) (g' : Nat → Int32), i + r = n → j.toInt = i → (∀ q, q < i → g' q = p2) → Stand p l e _ s m _ below meth c T locs 0 0 → T.heap = h → own_Ar Z h a1 .int n (own_I g') → Keep h0 h [a1] → Fr n0 locs → own_Go p e below (own_End below s (fun v h L => v = none ∧ own_Ar Z h a1 .int n (own_I fun _ => p2) ∧ Keep h0 h [a1] ∧ Fr n0 L) 0 0) (T.setTop (mkF m 5 #[.val (.ref a1), .val (.int p2), .val (.int j), .val (.int n.toInt32)] [])) by
    exact loop n 0 0 _ h0 [] g (by omega) rfl (fun q hq => absurd hq (Nat.not_lt_zero _)) X0 e0 A (Keep.refl _ _) (Fr.nil _)
  intro r
  induction r with
  | zero =>
    intro i j T h locs g' hi hj hg X e1 A1 K N
    show own_Go p e below _ (T.setTop (mkF m 5 #[.val (.ref a1), .val (.int p2), .val (.int j), .val (.int n.toInt32)] []))
    refine own_go (fun tt kk => XS.iloadN X.here hx rfl (hb hby d4_5) rfl kk) ?_
    show own_Go p e below _ (T.setTop (mkF m 6 #[.val (.ref a1), .val (.int p2), .val (.int j), .val (.int n.toInt32)] [(.int j)]))
    refine own_go (fun tt kk => XS.iloadN X.here hx rfl (hb hby d4_6) rfl kk) ?_
    show own_Go p e below _ (T.setTop (mkF m 7 #[.val (.ref a1), .val (.int p2), .val (.int j), .val (.int n.toInt32)] [(.int n.toInt32), (.int j)]))
    refine own_go (fun tt kk => XS.icmpYes X.here hx rfl (pc0 := 7) (pc' := 20) rfl (hb hby d4_7) rfl (flt (own_nlt32 (x := j) (y := n.toInt32) (i := j.toInt) (j := (n.toInt32).toInt) rfl rfl (by omega))).2.1 (by decide) (by decide) kk) ?_
    show own_Go p e below _ (T.setTop (mkF m 20 #[.val (.ref a1), .val (.int p2), .val (.int j), .val (.int n.toInt32)] []))
    exact own_retV X hx hlk hret (hb hby d4_20) ⟨rfl, by rw [e1]; exact A1.congr fun q hq => congrArg Value.int (hg q (by omega)), by rw [e1]; exact K, N⟩ (by decide) (by decide)
  | succ r ih =>
    intro i j T h locs g' hi hj hg X e1 A1 K N
    show own_Go p e below _ (T.setTop (mkF m 5 #[.val (.ref a1), .val (.int p2), .val (.int j), .val (.int n.toInt32)] []))
    have F1 := c_iadd j 1
    have F2 : (1 : Int32).toInt = 1 := rfl
    have F3 := A.1
    have F4 := rng32 (j + 1)
    refine own_go (fun tt kk => XS.iloadN X.here hx rfl (hb hby d4_5) rfl kk) ?_
    show own_Go p e below _ (T.setTop (mkF m 6 #[.val (.ref a1), .val (.int p2), .val (.int j), .val (.int n.toInt32)] [(.int j)]))
    refine own_go (fun tt kk => XS.iloadN X.here hx rfl (hb hby d4_6) rfl kk) ?_
    show own_Go p e below _ (T.setTop (mkF m 7 #[.val (.ref a1), .val (.int p2), .val (.int j), .val (.int n.toInt32)] [(.int n.toInt32), (.int j)]))
    refine own_go (fun tt kk => XS.icmpNo X.here hx rfl (hb hby d4_7) rfl (tlt (own_lt32 (x := j) (y := n.toInt32) (i := j.toInt) (j := (n.toInt32).toInt) rfl rfl (by omega))).2.1 kk) ?_
    show own_Go p e below _ (T.setTop (mkF m 10 #[.val (.ref a1), .val (.int p2), .val (.int j), .val (.int n.toInt32)] []))
    refine own_go (fun tt kk => XS.aloadN X.here hx rfl (hb hby d4_10) rfl rfl kk) ?_
    show own_Go p e below _ (T.setTop (mkF m 11 #[.val (.ref a1), .val (.int p2), .val (.int j), .val (.int n.toInt32)] [(.ref a1)]))
    refine own_go (fun tt kk => XS.iloadN X.here hx rfl (hb hby d4_11) rfl kk) ?_
    show own_Go p e below _ (T.setTop (mkF m 12 #[.val (.ref a1), .val (.int p2), .val (.int j), .val (.int n.toInt32)] [(.int j), (.ref a1)]))
    refine own_go (fun tt kk => XS.iloadN X.here hx rfl (hb hby d4_12) rfl kk) ?_
    show own_Go p e below _ (T.setTop (mkF m 13 #[.val (.ref a1), .val (.int p2), .val (.int j), .val (.int n.toInt32)] [(.int p2), (.int j), (.ref a1)]))
    obtain ⟨T1, h1, X1, e1, W1, st1⟩ := own_iastore X hx hZ e1 A1 (j := j) (x := p2) hj (by omega) (pc := 13) (Ls := #[.val (.ref a1), .val (.int p2), .val (.int j), .val (.int n.toInt32)]) (rest := []) (hb hby d4_13)
    refine own_go st1 ?_
    show own_Go p e below _ (T1.setTop (mkF m 14 #[.val (.ref a1), .val (.int p2), .val (.int j), .val (.int n.toInt32)] []))
    refine own_go (fun tt kk => XS.iinc X1.here hx rfl (hb hby d4_14) rfl (l' := #[.val (.ref a1), .val (.int p2), .val (.int (j + (1 : Int32))), .val (.int n.toInt32)]) rfl kk) ?_
    show own_Go p e below _ (T1.setTop (mkF m 17 #[.val (.ref a1), .val (.int p2), .val (.int (j + (1 : Int32))), .val (.int n.toInt32)] []))
    refine own_go (fun tt kk => XS.goto X1.here hx rfl (pc0 := 17) (pc' := 5) rfl (hb hby d4_17) (by decide) (by decide) kk) ?_
    show own_Go p e below _ (T1.setTop (mkF m 5 #[.val (.ref a1), .val (.int p2), .val (.int (j + (1 : Int32))), .val (.int n.toInt32)] []))
    exact ih (i + 1) (j + 1) _ _ _ _ (by omega) (by omega) (fun q hq => by unfold own_upd; split; rfl; exact hg q (by omega)) X1 e1 (A1.setI W1) (K.wr W1 (Or.inl (List.mem_singleton.mpr rfl))) (Fr.snoc X1 N ga)
set_option maxRecDepth 65536 in
set_option maxHeartbeats 40000000 in
theorem rmNewT (l : Launch) (Z : State) (a0 : Array Value) (hw : ∀ d ∈ tables_1, d.before a0 Z = true) (ws : List Jvm.Cond) (n0 : Nat) (h0 : Heap) (g0 : n0 ≤ h0.size) :
    own_Met l Z ws (⟨"com/example/enabled_step/enabledstep/engine/Tally", "newTable", "(I)[I"⟩ : MethodName) prog_46_method_9_code 2 (some (.array .int)) ({ frames := 1, cells := 1, slots := 16, locals := 15 } : Room) #[(.int (16 : Int32))] h0 (fun v h L => ∃ t : Addr, v = some (.ref t) ∧ own_Ar Z h t .int 16 (own_I fun _ => -1) ∧ h0.size ≤ t ∧ Keep h0 h [] ∧ Fr n0 L) := by
  refine own_met pn_3 ?_
  intro p e s m below meth c s₁ hx hby hml hown hnm hret hlk hZ X0 e0
  refine own_entry (ef_3 m (16 : Int32)) ?_
  show own_Go p e below _ (s₁.setTop (mkF m 0 #[.val (.int (16 : Int32)), .unset] []))
  refine own_go (fun tt kk => XS.iloadN X0.here hx rfl (hb hby d3_0) rfl kk) ?_
  show own_Go p e below _ (s₁.setTop (mkF m 1 #[.val (.int (16 : Int32)), .unset] [(.int (16 : Int32))]))
  obtain ⟨T1, h1, X1, e1, E1, A1, st1⟩ := own_newarr X0 hx hZ (hw _ (List.mem_of_getElem? (i := 12) rfl)) e0 (n := (16 : Int32)) (N := 16) (by decide) (cap := 16) (by omega) (by decide) (by decide) (by decide) (pc := 1) (Ls := #[.val (.int (16 : Int32)), .unset]) (rest := []) (hb hby d3_1)
  obtain ⟨t, qe1⟩ : ∃ z, z = h0.size := ⟨_, rfl⟩
  rw [← qe1] at A1 st1
  refine own_go st1 ?_
  show own_Go p e below _ (T1.setTop (mkF m 3 #[.val (.int (16 : Int32)), .unset] [(.ref t)]))
  refine own_go (fun tt kk => XS.astoreN X1.here hx rfl (hb hby d3_3) rfl rfl (l' := #[.val (.int (16 : Int32)), .val (.ref t)]) rfl kk) ?_
  show own_Go p e below _ (T1.setTop (mkF m 4 #[.val (.int (16 : Int32)), .val (.ref t)] []))
  refine own_go (fun tt kk => XS.aloadN X1.here hx rfl (hb hby d3_4) rfl rfl kk) ?_
  show own_Go p e below _ (T1.setTop (mkF m 5 #[.val (.int (16 : Int32)), .val (.ref t)] [(.ref t)]))
  refine own_go (fun tt kk => XS.iconst X1.here hx rfl (hb hby d3_5) kk) ?_
  show own_Go p e below _ (T1.setTop (mkF m 6 #[.val (.int (16 : Int32)), .val (.ref t)] [(.int (-1 : Int32)), (.ref t)]))
  obtain ⟨v2, L2, T2, X2, qq2, st2⟩ := own_callS X1 hx hZ hown (hw _ (List.mem_of_getElem? (i := 13) rfl)) (hw _ (List.mem_of_getElem? (i := 14) rfl)) (hw _ (List.mem_of_getElem? (i := 15) rfl)) (hw _ (List.mem_of_getElem? (i := 16) rfl)) (by decide) (rmFill l Z a0 hw [] t (-1) 16 (fun _ => 0) n0 h1 A1 (by omega)) e1 (pc := 6) (Ls := #[.val (.int (16 : Int32)), .val (.ref t)]) (argsL := [(.ref t), (.int (-1 : Int32))]) (rest := []) rfl (by rw [hml]; rfl) pd_0 rfl rfl (hb hby d3_6) 0 (Nat.le_of_eq rfl) (by decide) (by decide) (by decide) (by decide)
  obtain ⟨rfl, B2, K2, N2⟩ := qq2
  refine own_go st2 ?_
  show own_Go p e below _ (T2.setTop (mkF m 9 #[.val (.int (16 : Int32)), .val (.ref t)] []))
  refine own_go (fun tt kk => XS.aloadN X2.here hx rfl (hb hby d3_9) rfl rfl kk) ?_
  show own_Go p e below _ (T2.setTop (mkF m 10 #[.val (.int (16 : Int32)), .val (.ref t)] [(.ref t)]))
  exact own_retA X2 hx hlk hret rfl rfl (hb hby d3_10) ⟨t, rfl, B2, Nat.le_of_eq qe1.symm, ((Keep.refl h0 []).ext E1).trans K2 (fun x hx => by cases List.mem_singleton.mp hx; exact Or.inr (Nat.le_of_eq qe1.symm)), Fr.app (Fr.nil _) N2⟩ (by decide) (by decide)
set_option maxRecDepth 65536 in
set_option maxHeartbeats 40000000 in
theorem rmInit (l : Launch) (Z : State) (a0 : Array Value) (hw : ∀ d ∈ tables_1, d.before a0 Z = true) (ws : List Jvm.Cond) (o : Addr) (n0 : Nat) (h0 : Heap) (Ex : Exa Z h0 o own_TC) (F1 : Fld Z h0 o own_TC "table" "[I" .null) (F2 : Fld Z h0 o own_TC "keys" "[I" .null) (F3 : Fld Z h0 o own_TC "sums" "[J" .null) (F4 : Fld Z h0 o own_TC "size" "I" (.int 0)) (go : n0 ≤ o) (lo : h0.size > o) (g0 : n0 ≤ h0.size) :
    own_Met l Z ws (⟨"com/example/enabled_step/enabledstep/engine/Tally", "<init>", "()V"⟩ : MethodName) prog_46_method_1_code 1 none ({ frames := 2, cells := 3, slots := 32, locals := 29 } : Room) #[(.ref o)] h0 (fun v h L => v = none ∧ (∃ t k u, own_Ta Z n0 h o t k u (fun _ => -1) (fun _ => 0) (fun _ => 0) 0) ∧ Fr n0 L) := by
  refine own_met pn_1 ?_
  intro p e s m below meth c s₁ hx hby hml hown hnm hret hlk hZ X0 e0
  refine own_entry (ef_1 m o) ?_
  show own_Go p e below _ (s₁.setTop (mkF m 0 #[.val (.ref o)] []))
  have L_table : Laid Z a0 own_TC own_TC "table" "[I" := Or.inl (hw _ (List.mem_of_getElem? (i := 18) rfl))
  have L_keys : Laid Z a0 own_TC own_TC "keys" "[I" := Or.inl (hw _ (List.mem_of_getElem? (i := 20) rfl))
  have L_sums : Laid Z a0 own_TC own_TC "sums" "[J" := Or.inl (hw _ (List.mem_of_getElem? (i := 23) rfl))
  have L_size : Laid Z a0 own_TC own_TC "size" "I" := Or.inl (hw _ (List.mem_of_getElem? (i := 35) rfl))
  refine own_go (fun tt kk => XS.aloadN X0.here hx rfl (hb hby d1_0) rfl rfl kk) ?_
  show own_Go p e below _ (s₁.setTop (mkF m 1 #[.val (.ref o)] [(.ref o)]))
  obtain ⟨T1, X1, e1, st1⟩ := initO X0 hx hZ hown (hw _ (List.mem_of_getElem? (i := 6) rfl)) (hw _ (List.mem_of_getElem? (i := 7) rfl)) (hw _ (List.mem_of_getElem? (i := 8) rfl)) e0 (g := (mkF m 1 #[.val (.ref o)] [(.ref o)])) rfl (by rw [hml]; rfl) rfl (hb hby d1_1) (by decide) (W := 0) (by show 2 * 0 + _ ≤ _; exact Nat.le_of_eq rfl) (by decide)
  refine own_go st1 ?_
  show own_Go p e below _ (T1.setTop (mkF m 4 #[.val (.ref o)] []))
  refine own_go (fun tt kk => XS.aloadN X1.here hx rfl (hb hby d1_4) rfl rfl kk) ?_
  show own_Go p e below _ (T1.setTop (mkF m 5 #[.val (.ref o)] [(.ref o)]))
  refine own_go (fun tt kk => XS.bipush X1.here hx rfl (hb hby d1_5) kk) ?_
  show own_Go p e below _ (T1.setTop (mkF m 7 #[.val (.ref o)] [(.int (16 : Int32)), (.ref o)]))
  obtain ⟨v2, L2, T2, X2, qq2, st2⟩ := own_callS X1 hx hZ hown (hw _ (List.mem_of_getElem? (i := 9) rfl)) (hw _ (List.mem_of_getElem? (i := 10) rfl)) (hw _ (List.mem_of_getElem? (i := 2) rfl)) (hw _ (List.mem_of_getElem? (i := 11) rfl)) (by decide) (rmNewT l Z a0 hw [] n0 h0 g0) e1 (pc := 7) (Ls := #[.val (.ref o)]) (argsL := [(.int (16 : Int32))]) (rest := [(.ref o)]) rfl (by rw [hml]; rfl) pd_1 rfl rfl (hb hby d1_7) 1 (Nat.le_of_eq rfl) (by decide) (by decide) (by decide) (by decide)
  obtain ⟨t, rfl, At, gt, K2, N2⟩ := qq2
  refine own_go st2 ?_
  show own_Go p e below _ (T2.setTop (mkF m 10 #[.val (.ref o)] [(.ref t), (.ref o)]))
  have z1 : h0.size ≤ T2.heap.size := K2.1
  have Ex_1 := Ex.keep K2
  have F1_1 := F1.keep K2 (List.not_mem_nil)
  have F2_1 := F2.keep K2 (List.not_mem_nil)
  have F3_1 := F3.keep K2 (List.not_mem_nil)
  have F4_1 := F4.keep K2 (List.not_mem_nil)
  have not : o ≠ t := Nat.ne_of_lt (by omega)
  have lt_1 := own_gt At.lt
  obtain ⟨T3, h3, X3, e3, W3, st3⟩ := putF X2 hx hZ hown (host := "") (Or.inl (hw _ (List.mem_of_getElem? (i := 17) rfl))) Via.refl (rfl : T2.heap = _) F1_1 Ex_1 (Or.inl (hw _ (List.mem_of_getElem? (i := 18) rfl))) (hw _ (List.mem_of_getElem? (i := 1) rfl)) (ty := (.array .int)) (by decide) rfl rfl (g := (mkF m 10 #[.val (.ref o)] [(.ref t), (.ref o)])) rfl rfl (hb hby d1_10)
  refine own_go st3 ?_
  show own_Go p e below _ (T3.setTop (mkF m 13 #[.val (.ref o)] []))
  have Ex_2 := Ex_1.wr W3
  have Ft := F1_1.same W3
  have F2_2 := F2_1.other W3 (Or.inr (slot_ne L_keys L_table (by decide) (t := .array .int) (t' := .array .int) (by decide) (by decide)))
  have F3_2 := F3_1.other W3 (Or.inr (slot_ne L_sums L_table (by decide) (t := .array .long) (t' := .array .int) (by decide) (by decide)))
  have F4_2 := F4_1.other W3 (Or.inr (slot_ne L_size L_table (by decide) (t := .int) (t' := .array .int) (by decide) (by decide)))
  have At_2 := At.other W3 (Ne.symm not)
  have z2 := W3.size
  refine own_go (fun tt kk => XS.aloadN X3.here hx rfl (hb hby d1_13) rfl rfl kk) ?_
  show own_Go p e below _ (T3.setTop (mkF m 14 #[.val (.ref o)] [(.ref o)]))
  refine own_go (fun tt kk => XS.bipush X3.here hx rfl (hb hby d1_14) kk) ?_
  show own_Go p e below _ (T3.setTop (mkF m 16 #[.val (.ref o)] [(.int (8 : Int32)), (.ref o)]))
  obtain ⟨T4, h4, X4, e4, E4, A4, st4⟩ := own_newarr X3 hx hZ (hw _ (List.mem_of_getElem? (i := 12) rfl)) e3 (n := (8 : Int32)) (N := 8) (by decide) (cap := 8) (by omega) (by decide) (by decide) (by decide) (pc := 16) (Ls := #[.val (.ref o)]) (rest := [(.ref o)]) (hb hby d1_16)
  obtain ⟨k, qe4⟩ : ∃ z, z = h3.size := ⟨_, rfl⟩
  rw [← qe4] at A4 st4
  refine own_go st4 ?_
  show own_Go p e below _ (T4.setTop (mkF m 18 #[.val (.ref o)] [(.ref k), (.ref o)]))
  have not2 : o ≠ k := Nat.ne_of_lt (by omega)
  have tk : t ≠ k := Nat.ne_of_lt (by omega)
  have lt_2 := own_gt A4.lt
  have z3 := E4.1
  have Ex_2' := Ex_2.ext E4
  have Ft' := Ft.ext E4
  have F2_2' := F2_2.ext E4
  have F3_2' := F3_2.ext E4
  have F4_2' := F4_2.ext E4
  have At_3 := At_2.ext E4
  obtain ⟨T5, h5, X5, e5, W5, st5⟩ := putF X4 hx hZ hown (host := "") (Or.inl (hw _ (List.mem_of_getElem? (i := 19) rfl))) Via.refl e4 F2_2' Ex_2' (Or.inl (hw _ (List.mem_of_getElem? (i := 20) rfl))) (hw _ (List.mem_of_getElem? (i := 1) rfl)) (ty := (.array .int)) (by decide) rfl rfl (g := (mkF m 18 #[.val (.ref o)] [(.ref k), (.ref o)])) rfl rfl (hb hby d1_18)
  refine own_go st5 ?_
  show own_Go p e below _ (T5.setTop (mkF m 21 #[.val (.ref o)] []))
  have Ex_4 := Ex_2'.wr W5
  have Fk := F2_2'.same W5
  have Ft_4 := Ft'.other W5 (Or.inr (slot_ne L_table L_keys (by decide) (t := .array .int) (t' := .array .int) (by decide) (by decide)))
  have F3_4 := F3_2'.other W5 (Or.inr (slot_ne L_sums L_keys (by decide) (t := .array .long) (t' := .array .int) (by decide) (by decide)))
  have F4_4 := F4_2'.other W5 (Or.inr (slot_ne L_size L_keys (by decide) (t := .int) (t' := .array .int) (by decide) (by decide)))
  have At_4 := At_3.other W5 (Ne.symm not)
  have Ak_4 := A4.other W5 (Ne.symm not2)
  have z4 := W5.size
  refine own_go (fun tt kk => XS.aloadN X5.here hx rfl (hb hby d1_21) rfl rfl kk) ?_
  show own_Go p e below _ (T5.setTop (mkF m 22 #[.val (.ref o)] [(.ref o)]))
  refine own_go (fun tt kk => XS.bipush X5.here hx rfl (hb hby d1_22) kk) ?_
  show own_Go p e below _ (T5.setTop (mkF m 24 #[.val (.ref o)] [(.int (8 : Int32)), (.ref o)]))
  obtain ⟨T6, h6, X6, e6, E6, A6, st6⟩ := own_newarr X5 hx hZ (hw _ (List.mem_of_getElem? (i := 21) rfl)) e5 (n := (8 : Int32)) (N := 8) (by decide) (cap := 8) (by omega) (by decide) (by decide) (by decide) (pc := 24) (Ls := #[.val (.ref o)]) (rest := [(.ref o)]) (hb hby d1_24)
  obtain ⟨u, qe6⟩ : ∃ z, z = h5.size := ⟨_, rfl⟩
  rw [← qe6] at A6 st6
  refine own_go st6 ?_
  show own_Go p e below _ (T6.setTop (mkF m 26 #[.val (.ref o)] [(.ref u), (.ref o)]))
  have not3 : o ≠ u := Nat.ne_of_lt (by omega)
  have tu : t ≠ u := Nat.ne_of_lt (by omega)
  have ku : k ≠ u := Nat.ne_of_lt (by omega)
  have lt_3 := own_gt A6.lt
  have z5 := E6.1
  have Ex_4' := Ex_4.ext E6
  have Ft_4' := Ft_4.ext E6
  have Fk' := Fk.ext E6
  have F3_4' := F3_4.ext E6
  have F4_4' := F4_4.ext E6
  have At_4' := At_4.ext E6
  have Ak_4' := Ak_4.ext E6
  obtain ⟨T7, h7, X7, e7, W7, st7⟩ := putF X6 hx hZ hown (host := "") (Or.inl (hw _ (List.mem_of_getElem? (i := 22) rfl))) Via.refl e6 F3_4' Ex_4' (Or.inl (hw _ (List.mem_of_getElem? (i := 23) rfl))) (hw _ (List.mem_of_getElem? (i := 1) rfl)) (ty := (.array .long)) (by decide) rfl rfl (g := (mkF m 26 #[.val (.ref o)] [(.ref u), (.ref o)])) rfl rfl (hb hby d1_26)
  refine own_go st7 ?_
  show own_Go p e below _ (T7.setTop (mkF m 29 #[.val (.ref o)] []))
  have Fu := F3_4'.same W7
  exact own_retV X7 hx hlk hret (hb hby d1_29) ⟨rfl, ⟨t, k, u, by rw [e7]; exact ⟨Ex_4'.wr W7, Ft_4'.other W7 (Or.inr (slot_ne L_table L_sums (by decide) (t := .array .int) (t' := .array .long) (by decide) (by decide))), Fk'.other W7 (Or.inr (slot_ne L_keys L_sums (by decide) (t := .array .int) (t' := .array .long) (by decide) (by decide))), Fu, F4_4'.other W7 (Or.inr (slot_ne L_size L_sums (by decide) (t := .int) (t' := .array .long) (by decide) (by decide))), At_4'.other W7 (Ne.symm not), Ak_4'.other W7 (Ne.symm not2), A6.other W7 (Ne.symm not3), ⟨not, not2, not3, tk, tu, ku⟩, go, by omega, by omega, by omega⟩⟩, Fr.snoc X7 (Fr.snoc X5 (Fr.snoc X3 (Fr.app (Fr.nil _) N2) go) go) go⟩ (by decide) (by decide)
set_option maxRecDepth 65536 in
set_option maxHeartbeats 40000000 in
theorem rmSlot (l : Launch) (Z : State) (a0 : Array Value) (hw : ∀ d ∈ tables_1, d.before a0 Z = true) (ws : List Jvm.Cond) (o t k u : Addr) (tab keys : Nat → Int32) (sums : Nat → Int64) (n : Int32) (p1 : Int32) (n0 : Nat) (h0 : Heap) (A : own_Ta Z n0 h0 o t k u tab keys sums n) (hv : ∀ i, i < 16 → tab i = -1 ∨ ∃ m : Nat, m < 8 ∧ (tab i).toInt = m) (d0 : Nat) (hd0 : d0 < 16) (hf0 : tab (own_at p1 d0) = -1) :
    own_Met l Z ws (⟨"com/example/enabled_step/enabledstep/engine/Tally", "slot", "(I)I"⟩ : MethodName) prog_46_method_7_code 5 (some .int) ({ frames := 0, cells := 0, slots := 0, locals := 0 } : Room) #[(.ref o), (.int p1)] h0 (fun v h L => ∃ (z : Int32) (i : Nat), v = some (.int z) ∧ z.toInt = i ∧ own_Pr tab keys p1 i ∧ h = h0 ∧ L = []) := by
  refine own_met pn_6 ?_
  intro p e s m below meth c s₁ hx hby hml hown hnm hret hlk hZ X0 e0
  refine own_entry (ef_6 m o p1) ?_
  show own_Go p e below _ (s₁.setTop (mkF m 0 #[.val (.ref o), .val (.int p1), .unset, .unset, .unset] []))
  obtain ⟨B1, B2, B3, B4, B5, B6, B7, B8, B9, Bo, Bt, Bk, Bu⟩ := A
  refine own_go (fun tt kk => XS.aloadN X0.here hx rfl (hb hby d6_0) rfl rfl kk) ?_
  show own_Go p e below _ (s₁.setTop (mkF m 1 #[.val (.ref o), .val (.int p1), .unset, .unset, .unset] [(.ref o)]))
  obtain ⟨T1, X1, e1, st1⟩ := getF X0 hx hZ hown (host := "") (Or.inl (hw _ (List.mem_of_getElem? (i := 17) rfl))) Via.refl e0 B2 (g := (mkF m 1 #[.val (.ref o), .val (.int p1), .unset, .unset, .unset] [(.ref o)])) rfl rfl (hb hby d6_1)
  refine own_go st1 ?_
  show own_Go p e below _ (T1.setTop (mkF m 4 #[.val (.ref o), .val (.int p1), .unset, .unset, .unset] [(.ref t)]))
  refine own_go (own_alen X1 hx hZ e1 B6 (pc := 4) (Ls := #[.val (.ref o), .val (.int p1), .unset, .unset, .unset]) (rest := []) (hb hby d6_4)) ?_
  show own_Go p e below _ (T1.setTop (mkF m 5 #[.val (.ref o), .val (.int p1), .unset, .unset, .unset] [(.int (Nat.toInt32 16))]))
  refine own_go (fun tt kk => XS.iconst X1.here hx rfl (hb hby d6_5) kk) ?_
  show own_Go p e below _ (T1.setTop (mkF m 6 #[.val (.ref o), .val (.int p1), .unset, .unset, .unset] [(.int (1 : Int32)), (.int (Nat.toInt32 16))]))
  refine own_go (fun tt kk => XS.isub X1.here hx rfl (hb hby d6_6) rfl kk) ?_
  show own_Go p e below _ (T1.setTop (mkF m 7 #[.val (.ref o), .val (.int p1), .unset, .unset, .unset] [(.int ((Nat.toInt32 16) - (1 : Int32)))]))
  refine own_go (fun tt kk => XS.istoreN X1.here hx rfl (hb hby d6_7) rfl (l' := #[.val (.ref o), .val (.int p1), .val (.int ((Nat.toInt32 16) - (1 : Int32))), .unset, .unset]) rfl kk) ?_
  show own_Go p e below _ (T1.setTop (mkF m 8 #[.val (.ref o), .val (.int p1), .val (.int ((Nat.toInt32 16) - (1 : Int32))), .unset, .unset] []))
  show own_Go p e below _ (T1.setTop (mkF m 8 #[.val (.ref o), .val (.int p1), .val (.int (15 : Int32)), .unset, .unset] []))
  refine own_go (fun tt kk => XS.iloadN X1.here hx rfl (hb hby d6_8) rfl kk) ?_
  show own_Go p e below _ (T1.setTop (mkF m 9 #[.val (.ref o), .val (.int p1), .val (.int (15 : Int32)), .unset, .unset] [(.int p1)]))
  refine own_go (X1.ldcInt hx hown (mvT hZ (hw _ (List.mem_of_getElem? (i := 33) rfl))) (g := (mkF m 9 #[.val (.ref o), .val (.int p1), .val (.int (15 : Int32)), .unset, .unset] [(.int p1)])) rfl (hb hby d6_9)) ?_
  show own_Go p e below _ (T1.setTop (mkF m 11 #[.val (.ref o), .val (.int p1), .val (.int (15 : Int32)), .unset, .unset] [(.int (-1640531527 : Int32)), (.int p1)]))
  refine own_go (fun tt kk => XS.imul X1.here hx rfl (hb hby d6_11) rfl kk) ?_
  show own_Go p e below _ (T1.setTop (mkF m 12 #[.val (.ref o), .val (.int p1), .val (.int (15 : Int32)), .unset, .unset] [(.int (p1 * (-1640531527 : Int32)))]))
  refine own_go (fun tt kk => XS.istoreN X1.here hx rfl (hb hby d6_12) rfl (l' := #[.val (.ref o), .val (.int p1), .val (.int (15 : Int32)), .val (.int (p1 * (-1640531527 : Int32))), .unset]) rfl kk) ?_
  show own_Go p e below _ (T1.setTop (mkF m 13 #[.val (.ref o), .val (.int p1), .val (.int (15 : Int32)), .val (.int (p1 * (-1640531527 : Int32))), .unset] []))
  refine own_go (fun tt kk => XS.iloadN X1.here hx rfl (hb hby d6_13) rfl kk) ?_
  show own_Go p e below _ (T1.setTop (mkF m 14 #[.val (.ref o), .val (.int p1), .val (.int (15 : Int32)), .val (.int (p1 * (-1640531527 : Int32))), .unset] [(.int (p1 * (-1640531527 : Int32)))]))
  refine own_go (fun tt kk => XS.iloadN X1.here hx rfl (hb hby d6_14) rfl kk) ?_
  show own_Go p e below _ (T1.setTop (mkF m 15 #[.val (.ref o), .val (.int p1), .val (.int (15 : Int32)), .val (.int (p1 * (-1640531527 : Int32))), .unset] [(.int (p1 * (-1640531527 : Int32))), (.int (p1 * (-1640531527 : Int32)))]))
  refine own_go (fun tt kk => XS.bipush X1.here hx rfl (hb hby d6_15) kk) ?_
  show own_Go p e below _ (T1.setTop (mkF m 17 #[.val (.ref o), .val (.int p1), .val (.int (15 : Int32)), .val (.int (p1 * (-1640531527 : Int32))), .unset] [(.int (16 : Int32)), (.int (p1 * (-1640531527 : Int32))), (.int (p1 * (-1640531527 : Int32)))]))
  refine own_go (fun tt kk => XS.iushr X1.here hx rfl (hb hby d6_17) rfl kk) ?_
  show own_Go p e below _ (T1.setTop (mkF m 18 #[.val (.ref o), .val (.int p1), .val (.int (15 : Int32)), .val (.int (p1 * (-1640531527 : Int32))), .unset] [(.int (((p1 * (-1640531527 : Int32)).toUInt32 >>> ((16 : Int32) &&& 31).toUInt32).toInt32)), (.int (p1 * (-1640531527 : Int32)))]))
  refine own_go (fun tt kk => XS.ixor X1.here hx rfl (hb hby d6_18) rfl kk) ?_
  show own_Go p e below _ (T1.setTop (mkF m 19 #[.val (.ref o), .val (.int p1), .val (.int (15 : Int32)), .val (.int (p1 * (-1640531527 : Int32))), .unset] [(.int ((p1 * (-1640531527 : Int32)) ^^^ (((p1 * (-1640531527 : Int32)).toUInt32 >>> ((16 : Int32) &&& 31).toUInt32).toInt32)))]))
  refine own_go (fun tt kk => XS.iloadN X1.here hx rfl (hb hby d6_19) rfl kk) ?_
  show own_Go p e below _ (T1.setTop (mkF m 20 #[.val (.ref o), .val (.int p1), .val (.int (15 : Int32)), .val (.int (p1 * (-1640531527 : Int32))), .unset] [(.int (15 : Int32)), (.int ((p1 * (-1640531527 : Int32)) ^^^ (((p1 * (-1640531527 : Int32)).toUInt32 >>> ((16 : Int32) &&& 31).toUInt32).toInt32)))]))
  refine own_go (fun tt kk => XS.iand X1.here hx rfl (hb hby d6_20) rfl kk) ?_
  show own_Go p e below _ (T1.setTop (mkF m 21 #[.val (.ref o), .val (.int p1), .val (.int (15 : Int32)), .val (.int (p1 * (-1640531527 : Int32))), .unset] [(.int (((p1 * (-1640531527 : Int32)) ^^^ (((p1 * (-1640531527 : Int32)).toUInt32 >>> ((16 : Int32) &&& 31).toUInt32).toInt32)) &&& (15 : Int32)))]))
  refine own_go (fun tt kk => XS.istore X1.here hx rfl (hb hby d6_21) rfl (l' := #[.val (.ref o), .val (.int p1), .val (.int (15 : Int32)), .val (.int (p1 * (-1640531527 : Int32))), .val (.int (((p1 * (-1640531527 : Int32)) ^^^ (((p1 * (-1640531527 : Int32)).toUInt32 >>> ((16 : Int32) &&& 31).toUInt32).toInt32)) &&& (15 : Int32)))]) rfl kk) ?_
  show own_Go p e below _ (T1.setTop (mkF m 23 #[.val (.ref o), .val (.int p1), .val (.int (15 : Int32)), .val (.int (p1 * (-1640531527 : Int32))), .val (.int (((p1 * (-1640531527 : Int32)) ^^^ (((p1 * (-1640531527 : Int32)).toUInt32 >>> ((16 : Int32) &&& 31).toUInt32).toInt32)) &&& (15 : Int32)))] []))
  show own_Go p e below _ (T1.setTop (mkF m 23 #[.val (.ref o), .val (.int p1), .val (.int (15 : Int32)), .val (.int (p1 * (-1640531527 : Int32))), .val (.int (own_home p1))] []))
  obtain ⟨h3, hh3⟩ : ∃ z, z = (p1 * (-1640531527 : Int32)) := ⟨_, rfl⟩
  rw [← hh3]
  show own_Go p e below _ (T1.setTop (mkF m 23 #[.val (.ref o), .val (.int p1), .val (.int (15 : Int32)), .val (.int h3), .val (.int (own_home p1))] []))
  suffices loop : ∀ (r d : Nat) (j : Int32) (T : State), d + r = d0 → j.toInt = own_at p1 d → (∀ e, e < d → ¬ tab (own_at p1 e) = -1 ∧ ¬ keys (tab (own_at p1 e)).toNatClampNeg = p1) → Stand p l e _ s m _ below meth c T [] 0 0 → T.heap = h0 → own_Go p e below (own_End below s (fun v h L => ∃ (z : Int32) (i : Nat), v = some (.int z) ∧ z.toInt = i ∧ own_Pr tab keys p1 i ∧ h = h0 ∧ L = []) 0 0) (T.setTop (mkF m 23 #[.val (.ref o), .val (.int p1), .val (.int (15 : Int32)), .val (.int h3), .val (.int j)] [])) by
    exact loop d0 0 (own_home p1) _ (by omega) (by have := own_hm_int p1; unfold own_at; omega) (fun e he => absurd he (Nat.not_lt_zero _)) X1 e1
  intro r
  induction r with
  | zero =>
    intro d j T hd hj hocc X e1
    have hlt := own_at_lt p1 d
    show own_Go p e below _ (T.setTop (mkF m 23 #[.val (.ref o), .val (.int p1), .val (.int (15 : Int32)), .val (.int h3), .val (.int j)] []))
    refine own_go (fun tt kk => XS.aloadN X.here hx rfl (hb hby d6_23) rfl rfl kk) ?_
    show own_Go p e below _ (T.setTop (mkF m 24 #[.val (.ref o), .val (.int p1), .val (.int (15 : Int32)), .val (.int h3), .val (.int j)] [(.ref o)]))
    obtain ⟨T2, X2, e2, st2⟩ := getF X hx hZ hown (host := "") (Or.inl (hw _ (List.mem_of_getElem? (i := 17) rfl))) Via.refl e1 B2 (g := (mkF m 24 #[.val (.ref o), .val (.int p1), .val (.int (15 : Int32)), .val (.int h3), .val (.int j)] [(.ref o)])) rfl rfl (hb hby d6_24)
    refine own_go st2 ?_
    show own_Go p e below _ (T2.setTop (mkF m 27 #[.val (.ref o), .val (.int p1), .val (.int (15 : Int32)), .val (.int h3), .val (.int j)] [(.ref t)]))
    refine own_go (fun tt kk => XS.iload X2.here hx rfl (hb hby d6_27) rfl kk) ?_
    show own_Go p e below _ (T2.setTop (mkF m 29 #[.val (.ref o), .val (.int p1), .val (.int (15 : Int32)), .val (.int h3), .val (.int j)] [(.int j), (.ref t)]))
    refine own_go (own_iaload X2 hx hZ e2 B6 (j := j) hj hlt (pc := 29) (Ls := #[.val (.ref o), .val (.int p1), .val (.int (15 : Int32)), .val (.int h3), .val (.int j)]) (rest := []) (hb hby d6_29)) ?_
    show own_Go p e below _ (T2.setTop (mkF m 30 #[.val (.ref o), .val (.int p1), .val (.int (15 : Int32)), .val (.int h3), .val (.int j)] [(.int (tab (own_at p1 d)))]))
    refine own_go (fun tt kk => XS.iconst X2.here hx rfl (hb hby d6_30) kk) ?_
    show own_Go p e below _ (T2.setTop (mkF m 31 #[.val (.ref o), .val (.int p1), .val (.int (15 : Int32)), .val (.int h3), .val (.int j)] [(.int (-1 : Int32)), (.int (tab (own_at p1 d)))]))
    have hq : tab (own_at p1 d) = -1 := by rw [show d = d0 by omega]; exact hf0
    refine own_go (fun tt kk => XS.icmpYes X2.here hx rfl (pc0 := 31) (pc' := 61) rfl (hb hby d6_31) rfl (teq (own_eq32 (x := (tab (own_at p1 d))) (y := (-1 : Int32)) (i := (tab (own_at p1 d)).toInt) (j := (-1)) rfl rfl (by rw [hq]; rfl))).1 (by decide) (by decide) kk) ?_
    show own_Go p e below _ (T2.setTop (mkF m 61 #[.val (.ref o), .val (.int p1), .val (.int (15 : Int32)), .val (.int h3), .val (.int j)] []))
    refine own_go (fun tt kk => XS.iload X2.here hx rfl (hb hby d6_61) rfl kk) ?_
    show own_Go p e below _ (T2.setTop (mkF m 63 #[.val (.ref o), .val (.int p1), .val (.int (15 : Int32)), .val (.int h3), .val (.int j)] [(.int j)]))
    exact own_retI X2 hx hlk hret (hb hby d6_63) ⟨j, own_at p1 d, rfl, hj, ⟨d, by omega, rfl, hocc, Or.inl hq⟩, e2, rfl⟩ (by decide) (by decide)
  | succ r ih =>
    intro d j T hd hj hocc X e1
    have hlt := own_at_lt p1 d
    show own_Go p e below _ (T.setTop (mkF m 23 #[.val (.ref o), .val (.int p1), .val (.int (15 : Int32)), .val (.int h3), .val (.int j)] []))
    refine own_go (fun tt kk => XS.aloadN X.here hx rfl (hb hby d6_23) rfl rfl kk) ?_
    show own_Go p e below _ (T.setTop (mkF m 24 #[.val (.ref o), .val (.int p1), .val (.int (15 : Int32)), .val (.int h3), .val (.int j)] [(.ref o)]))
    obtain ⟨T3, X3, e3, st3⟩ := getF X hx hZ hown (host := "") (Or.inl (hw _ (List.mem_of_getElem? (i := 17) rfl))) Via.refl e1 B2 (g := (mkF m 24 #[.val (.ref o), .val (.int p1), .val (.int (15 : Int32)), .val (.int h3), .val (.int j)] [(.ref o)])) rfl rfl (hb hby d6_24)
    refine own_go st3 ?_
    show own_Go p e below _ (T3.setTop (mkF m 27 #[.val (.ref o), .val (.int p1), .val (.int (15 : Int32)), .val (.int h3), .val (.int j)] [(.ref t)]))
    refine own_go (fun tt kk => XS.iload X3.here hx rfl (hb hby d6_27) rfl kk) ?_
    show own_Go p e below _ (T3.setTop (mkF m 29 #[.val (.ref o), .val (.int p1), .val (.int (15 : Int32)), .val (.int h3), .val (.int j)] [(.int j), (.ref t)]))
    refine own_go (own_iaload X3 hx hZ e3 B6 (j := j) hj hlt (pc := 29) (Ls := #[.val (.ref o), .val (.int p1), .val (.int (15 : Int32)), .val (.int h3), .val (.int j)]) (rest := []) (hb hby d6_29)) ?_
    show own_Go p e below _ (T3.setTop (mkF m 30 #[.val (.ref o), .val (.int p1), .val (.int (15 : Int32)), .val (.int h3), .val (.int j)] [(.int (tab (own_at p1 d)))]))
    refine own_go (fun tt kk => XS.iconst X3.here hx rfl (hb hby d6_30) kk) ?_
    show own_Go p e below _ (T3.setTop (mkF m 31 #[.val (.ref o), .val (.int p1), .val (.int (15 : Int32)), .val (.int h3), .val (.int j)] [(.int (-1 : Int32)), (.int (tab (own_at p1 d)))]))
    by_cases hc31 : (tab (own_at p1 d)).toInt = (-1)
    · refine own_go (fun tt kk => XS.icmpYes X3.here hx rfl (pc0 := 31) (pc' := 61) rfl (hb hby d6_31) rfl (teq (own_eq32 (x := (tab (own_at p1 d))) (y := (-1 : Int32)) (i := (tab (own_at p1 d)).toInt) (j := (-1)) rfl rfl hc31)).1 (by decide) (by decide) kk) ?_
      show own_Go p e below _ (T3.setTop (mkF m 61 #[.val (.ref o), .val (.int p1), .val (.int (15 : Int32)), .val (.int h3), .val (.int j)] []))
      have hq : tab (own_at p1 d) = -1 := Int32.toInt_inj.mp hc31
      refine own_go (fun tt kk => XS.iload X3.here hx rfl (hb hby d6_61) rfl kk) ?_
      show own_Go p e below _ (T3.setTop (mkF m 63 #[.val (.ref o), .val (.int p1), .val (.int (15 : Int32)), .val (.int h3), .val (.int j)] [(.int j)]))
      exact own_retI X3 hx hlk hret (hb hby d6_63) ⟨j, own_at p1 d, rfl, hj, ⟨d, by omega, rfl, hocc, Or.inl hq⟩, e3, rfl⟩ (by decide) (by decide)
    · refine own_go (fun tt kk => XS.icmpNo X3.here hx rfl (hb hby d6_31) rfl (feq (own_neq32 (x := (tab (own_at p1 d))) (y := (-1 : Int32)) (i := (tab (own_at p1 d)).toInt) (j := (-1)) rfl rfl hc31)).1 kk) ?_
      show own_Go p e below _ (T3.setTop (mkF m 34 #[.val (.ref o), .val (.int p1), .val (.int (15 : Int32)), .val (.int h3), .val (.int j)] []))
      have hq : ¬ tab (own_at p1 d) = -1 := fun q => hc31 (by rw [q]; rfl)
      obtain ⟨m', hm', hm⟩ : ∃ m : Nat, m < 8 ∧ (tab (own_at p1 d)).toInt = m := (hv _ hlt).resolve_left hq
      refine own_go (fun tt kk => XS.aloadN X3.here hx rfl (hb hby d6_34) rfl rfl kk) ?_
      show own_Go p e below _ (T3.setTop (mkF m 35 #[.val (.ref o), .val (.int p1), .val (.int (15 : Int32)), .val (.int h3), .val (.int j)] [(.ref o)]))
      obtain ⟨T4, X4, e4, st4⟩ := getF X3 hx hZ hown (host := "") (Or.inl (hw _ (List.mem_of_getElem? (i := 19) rfl))) Via.refl e3 B3 (g := (mkF m 35 #[.val (.ref o), .val (.int p1), .val (.int (15 : Int32)), .val (.int h3), .val (.int j)] [(.ref o)])) rfl rfl (hb hby d6_35)
      refine own_go st4 ?_
      show own_Go p e below _ (T4.setTop (mkF m 38 #[.val (.ref o), .val (.int p1), .val (.int (15 : Int32)), .val (.int h3), .val (.int j)] [(.ref k)]))
      refine own_go (fun tt kk => XS.aloadN X4.here hx rfl (hb hby d6_38) rfl rfl kk) ?_
      show own_Go p e below _ (T4.setTop (mkF m 39 #[.val (.ref o), .val (.int p1), .val (.int (15 : Int32)), .val (.int h3), .val (.int j)] [(.ref o), (.ref k)]))
      obtain ⟨T5, X5, e5, st5⟩ := getF X4 hx hZ hown (host := "") (Or.inl (hw _ (List.mem_of_getElem? (i := 17) rfl))) Via.refl e4 B2 (g := (mkF m 39 #[.val (.ref o), .val (.int p1), .val (.int (15 : Int32)), .val (.int h3), .val (.int j)] [(.ref o), (.ref k)])) rfl rfl (hb hby d6_39)
      refine own_go st5 ?_
      show own_Go p e below _ (T5.setTop (mkF m 42 #[.val (.ref o), .val (.int p1), .val (.int (15 : Int32)), .val (.int h3), .val (.int j)] [(.ref t), (.ref k)]))
      refine own_go (fun tt kk => XS.iload X5.here hx rfl (hb hby d6_42) rfl kk) ?_
      show own_Go p e below _ (T5.setTop (mkF m 44 #[.val (.ref o), .val (.int p1), .val (.int (15 : Int32)), .val (.int h3), .val (.int j)] [(.int j), (.ref t), (.ref k)]))
      refine own_go (own_iaload X5 hx hZ e5 B6 (j := j) hj hlt (pc := 44) (Ls := #[.val (.ref o), .val (.int p1), .val (.int (15 : Int32)), .val (.int h3), .val (.int j)]) (rest := [(.ref k)]) (hb hby d6_44)) ?_
      show own_Go p e below _ (T5.setTop (mkF m 45 #[.val (.ref o), .val (.int p1), .val (.int (15 : Int32)), .val (.int h3), .val (.int j)] [(.int (tab (own_at p1 d))), (.ref k)]))
      refine own_go (own_iaload X5 hx hZ e5 B7 (j := (tab (own_at p1 d))) hm hm' (pc := 45) (Ls := #[.val (.ref o), .val (.int p1), .val (.int (15 : Int32)), .val (.int h3), .val (.int j)]) (rest := []) (hb hby d6_45)) ?_
      show own_Go p e below _ (T5.setTop (mkF m 46 #[.val (.ref o), .val (.int p1), .val (.int (15 : Int32)), .val (.int h3), .val (.int j)] [(.int (keys m'))]))
      refine own_go (fun tt kk => XS.iloadN X5.here hx rfl (hb hby d6_46) rfl kk) ?_
      show own_Go p e below _ (T5.setTop (mkF m 47 #[.val (.ref o), .val (.int p1), .val (.int (15 : Int32)), .val (.int h3), .val (.int j)] [(.int p1), (.int (keys m'))]))
      by_cases hc47 : (keys m').toInt = p1.toInt
      · refine own_go (fun tt kk => XS.icmpYes X5.here hx rfl (pc0 := 47) (pc' := 61) rfl (hb hby d6_47) rfl (teq (own_eq32 (x := (keys m')) (y := p1) (i := (keys m').toInt) (j := p1.toInt) rfl rfl hc47)).1 (by decide) (by decide) kk) ?_
        show own_Go p e below _ (T5.setTop (mkF m 61 #[.val (.ref o), .val (.int p1), .val (.int (15 : Int32)), .val (.int h3), .val (.int j)] []))
        have hk : keys (tab (own_at p1 d)).toNatClampNeg = p1 := by rw [(own_nat_of hm).1]; exact Int32.toInt_inj.mp hc47
        refine own_go (fun tt kk => XS.iload X5.here hx rfl (hb hby d6_61) rfl kk) ?_
        show own_Go p e below _ (T5.setTop (mkF m 63 #[.val (.ref o), .val (.int p1), .val (.int (15 : Int32)), .val (.int h3), .val (.int j)] [(.int j)]))
        exact own_retI X5 hx hlk hret (hb hby d6_63) ⟨j, own_at p1 d, rfl, hj, ⟨d, by omega, rfl, hocc, Or.inr hk⟩, e5, rfl⟩ (by decide) (by decide)
      · refine own_go (fun tt kk => XS.icmpNo X5.here hx rfl (hb hby d6_47) rfl (feq (own_neq32 (x := (keys m')) (y := p1) (i := (keys m').toInt) (j := p1.toInt) rfl rfl hc47)).1 kk) ?_
        show own_Go p e below _ (T5.setTop (mkF m 50 #[.val (.ref o), .val (.int p1), .val (.int (15 : Int32)), .val (.int h3), .val (.int j)] []))
        have hk : ¬ keys (tab (own_at p1 d)).toNatClampNeg = p1 := by rw [(own_nat_of hm).1]; exact fun q => hc47 (by rw [q])
        refine own_go (fun tt kk => XS.iload X5.here hx rfl (hb hby d6_50) rfl kk) ?_
        show own_Go p e below _ (T5.setTop (mkF m 52 #[.val (.ref o), .val (.int p1), .val (.int (15 : Int32)), .val (.int h3), .val (.int j)] [(.int j)]))
        refine own_go (fun tt kk => XS.iconst X5.here hx rfl (hb hby d6_52) kk) ?_
        show own_Go p e below _ (T5.setTop (mkF m 53 #[.val (.ref o), .val (.int p1), .val (.int (15 : Int32)), .val (.int h3), .val (.int j)] [(.int (1 : Int32)), (.int j)]))
        refine own_go (fun tt kk => XS.iadd X5.here hx rfl (hb hby d6_53) rfl kk) ?_
        show own_Go p e below _ (T5.setTop (mkF m 54 #[.val (.ref o), .val (.int p1), .val (.int (15 : Int32)), .val (.int h3), .val (.int j)] [(.int (j + (1 : Int32)))]))
        refine own_go (fun tt kk => XS.iloadN X5.here hx rfl (hb hby d6_54) rfl kk) ?_
        show own_Go p e below _ (T5.setTop (mkF m 55 #[.val (.ref o), .val (.int p1), .val (.int (15 : Int32)), .val (.int h3), .val (.int j)] [(.int (15 : Int32)), (.int (j + (1 : Int32)))]))
        refine own_go (fun tt kk => XS.iand X5.here hx rfl (hb hby d6_55) rfl kk) ?_
        show own_Go p e below _ (T5.setTop (mkF m 56 #[.val (.ref o), .val (.int p1), .val (.int (15 : Int32)), .val (.int h3), .val (.int j)] [(.int ((j + (1 : Int32)) &&& (15 : Int32)))]))
        refine own_go (fun tt kk => XS.istore X5.here hx rfl (hb hby d6_56) rfl (l' := #[.val (.ref o), .val (.int p1), .val (.int (15 : Int32)), .val (.int h3), .val (.int ((j + (1 : Int32)) &&& (15 : Int32)))]) rfl kk) ?_
        show own_Go p e below _ (T5.setTop (mkF m 58 #[.val (.ref o), .val (.int p1), .val (.int (15 : Int32)), .val (.int h3), .val (.int ((j + (1 : Int32)) &&& (15 : Int32)))] []))
        refine own_go (fun tt kk => XS.goto X5.here hx rfl (pc0 := 58) (pc' := 23) rfl (hb hby d6_58) (by decide) (by decide) kk) ?_
        show own_Go p e below _ (T5.setTop (mkF m 23 #[.val (.ref o), .val (.int p1), .val (.int (15 : Int32)), .val (.int h3), .val (.int ((j + (1 : Int32)) &&& (15 : Int32)))] []))
        have G1 := c_iadd j 1
        have G2 : (1 : Int32).toInt = 1 := rfl
        have G3 : ((j + (1 : Int32)) &&& (15 : Int32)).toInt = (j + 1).toInt % 16 := c_mask _ _ 4 (by decide) (by decide)
        have G4 := rng32 (j + 1)
        exact ih (d + 1) _ _ (by omega) (by unfold own_at at hj hlt ⊢; omega) (fun e he => by
          rcases Nat.lt_succ_iff_lt_or_eq.mp he with q | q
          · exact hocc e q
          · rw [q]; exact ⟨hq, hk⟩) X5 e5
set_option maxRecDepth 65536 in
set_option maxHeartbeats 40000000 in
theorem rmAex (l : Launch) (Z : State) (a0 : Array Value) (hw : ∀ d ∈ tables_1, d.before a0 Z = true) (ws : List Jvm.Cond) (q1 q2 : Int64) (h0 : Heap) (h1 : -9223372036854775808 ≤ q1.toInt + q2.toInt) (h2 : q1.toInt + q2.toInt < 9223372036854775808) :
    own_Met l Z ws (⟨"java/lang/Math", "addExact", "(JJ)J"⟩ : MethodName) jdk_29_method_25_code 6 (some .long) ({ frames := 0, cells := 0, slots := 0, locals := 0 } : Room) #[(.long q1), (.long q2)] h0 (fun v h L => v = some (.long (q1 + q2)) ∧ h = h0 ∧ L = []) := by
  refine own_met pn_7 ?_
  intro p e s m below meth c s₁ hx hby hml hown hnm hret hlk hZ X0 e0
  refine own_entry (ef_7 m q1 q2) ?_
  show own_Go p e below _ (s₁.setTop (mkF m 0 #[.val (.long q1), .second, .val (.long q2), .second, .unset, .unset] []))
  refine own_go (fun tt kk => XS.lloadN X0.here hx rfl (hb hby d7_0) rfl kk) ?_
  show own_Go p e below _ (s₁.setTop (mkF m 1 #[.val (.long q1), .second, .val (.long q2), .second, .unset, .unset] [(.long q1)]))
  refine own_go (fun tt kk => XS.lloadN X0.here hx rfl (hb hby d7_1) rfl kk) ?_
  show own_Go p e below _ (s₁.setTop (mkF m 2 #[.val (.long q1), .second, .val (.long q2), .second, .unset, .unset] [(.long q2), (.long q1)]))
  refine own_go (fun tt kk => XS.ladd X0.here hx rfl (hb hby d7_2) rfl kk) ?_
  show own_Go p e below _ (s₁.setTop (mkF m 3 #[.val (.long q1), .second, .val (.long q2), .second, .unset, .unset] [(.long (q1 + q2))]))
  refine own_go (fun tt kk => XS.lstore X0.here hx rfl (hb hby d7_3) rfl (l' := #[.val (.long q1), .second, .val (.long q2), .second, .val (.long (q1 + q2)), .second]) rfl kk) ?_
  show own_Go p e below _ (s₁.setTop (mkF m 5 #[.val (.long q1), .second, .val (.long q2), .second, .val (.long (q1 + q2)), .second] []))
  refine own_go (fun tt kk => XS.lloadN X0.here hx rfl (hb hby d7_5) rfl kk) ?_
  show own_Go p e below _ (s₁.setTop (mkF m 6 #[.val (.long q1), .second, .val (.long q2), .second, .val (.long (q1 + q2)), .second] [(.long q1)]))
  refine own_go (fun tt kk => XS.lload X0.here hx rfl (hb hby d7_6) rfl kk) ?_
  show own_Go p e below _ (s₁.setTop (mkF m 8 #[.val (.long q1), .second, .val (.long q2), .second, .val (.long (q1 + q2)), .second] [(.long (q1 + q2)), (.long q1)]))
  refine own_go (fun tt kk => XS.lxor X0.here hx rfl (hb hby d7_8) rfl kk) ?_
  show own_Go p e below _ (s₁.setTop (mkF m 9 #[.val (.long q1), .second, .val (.long q2), .second, .val (.long (q1 + q2)), .second] [(.long (q1 ^^^ (q1 + q2)))]))
  refine own_go (fun tt kk => XS.lloadN X0.here hx rfl (hb hby d7_9) rfl kk) ?_
  show own_Go p e below _ (s₁.setTop (mkF m 10 #[.val (.long q1), .second, .val (.long q2), .second, .val (.long (q1 + q2)), .second] [(.long q2), (.long (q1 ^^^ (q1 + q2)))]))
  refine own_go (fun tt kk => XS.lload X0.here hx rfl (hb hby d7_10) rfl kk) ?_
  show own_Go p e below _ (s₁.setTop (mkF m 12 #[.val (.long q1), .second, .val (.long q2), .second, .val (.long (q1 + q2)), .second] [(.long (q1 + q2)), (.long q2), (.long (q1 ^^^ (q1 + q2)))]))
  refine own_go (fun tt kk => XS.lxor X0.here hx rfl (hb hby d7_12) rfl kk) ?_
  show own_Go p e below _ (s₁.setTop (mkF m 13 #[.val (.long q1), .second, .val (.long q2), .second, .val (.long (q1 + q2)), .second] [(.long (q2 ^^^ (q1 + q2))), (.long (q1 ^^^ (q1 + q2)))]))
  refine own_go (fun tt kk => XS.land X0.here hx rfl (hb hby d7_13) rfl kk) ?_
  show own_Go p e below _ (s₁.setTop (mkF m 14 #[.val (.long q1), .second, .val (.long q2), .second, .val (.long (q1 + q2)), .second] [(.long ((q1 ^^^ (q1 + q2)) &&& (q2 ^^^ (q1 + q2))))]))
  refine own_go (fun tt kk => XS.lconst X0.here hx rfl (hb hby d7_14) kk) ?_
  show own_Go p e below _ (s₁.setTop (mkF m 15 #[.val (.long q1), .second, .val (.long q2), .second, .val (.long (q1 + q2)), .second] [(.long (0 : Int64)), (.long ((q1 ^^^ (q1 + q2)) &&& (q2 ^^^ (q1 + q2))))]))
  refine own_go (fun tt kk => XS.lcmp X0.here hx rfl (hb hby d7_15) rfl kk) ?_
  show own_Go p e below _ (s₁.setTop (mkF m 16 #[.val (.long q1), .second, .val (.long q2), .second, .val (.long (q1 + q2)), .second] [(.int (lcmpW ((q1 ^^^ (q1 + q2)) &&& (q2 ^^^ (q1 + q2))) (0 : Int64)))]))
  refine own_go (fun tt kk => XS.ifYes X0.here hx rfl (pc0 := 16) (pc' := 29) rfl (hb hby d7_16) rfl ((if0 _ _).trans (flt (fun q => (own_nlt64 (x := ((q1 ^^^ (q1 + q2)) &&& (q2 ^^^ (q1 + q2)))) (y := (0 : Int64)) (i := ((q1 ^^^ (q1 + q2)) &&& (q2 ^^^ (q1 + q2))).toInt) (j := 0) rfl rfl (own_addExact h1 h2)) ((lw_lt ((q1 ^^^ (q1 + q2)) &&& (q2 ^^^ (q1 + q2))) (0 : Int64)).mp q))).2.1) (by decide) (by decide) kk) ?_
  show own_Go p e below _ (s₁.setTop (mkF m 29 #[.val (.long q1), .second, .val (.long q2), .second, .val (.long (q1 + q2)), .second] []))
  refine own_go (fun tt kk => XS.lload X0.here hx rfl (hb hby d7_29) rfl kk) ?_
  show own_Go p e below _ (s₁.setTop (mkF m 31 #[.val (.long q1), .second, .val (.long q2), .second, .val (.long (q1 + q2)), .second] [(.long (q1 + q2))]))
  exact own_retJ X0 hx hlk hret (hb hby d7_31) ⟨rfl, e0, rfl⟩ (by decide) (by decide)
set_option maxRecDepth 65536 in
set_option maxHeartbeats 40000000 in
theorem rmAdd (l : Launch) (Z : State) (a0 : Array Value) (hw : ∀ d ∈ tables_1, d.before a0 Z = true) (ws : List Jvm.Cond) (o t k u : Addr) (tab keys : Nat → Int32) (sums : Nat → Int64) (n : Int32) (N : Nat) (p1 : Int32) (q2 : Int64) (n0 : Nat) (h0 : Heap) (A : own_Ta Z n0 h0 o t k u tab keys sums n) (hn : n.toInt = N) (hN : N ≤ 2) (I : own_Inv tab keys N) (hov : ∀ m, m < N → keys m = p1 → -9223372036854775808 ≤ (sums m).toInt + q2.toInt ∧ (sums m).toInt + q2.toInt < 9223372036854775808) :
    own_Met l Z ws (⟨"com/example/enabled_step/enabledstep/engine/Tally", "add", "(IJ)V"⟩ : MethodName) prog_46_method_2_code 6 none ({ frames := 1, cells := 0, slots := 0, locals := 23 } : Room) #[(.ref o), (.int p1), (.long q2)] h0 (fun v h L => v = none ∧ (∃ (tab' keys' : Nat → Int32) (sums' : Nat → Int64) (n' : Int32) (N' : Nat), own_Ta Z n0 h o t k u tab' keys' sums' n' ∧ n'.toInt = N' ∧ own_Inv tab' keys' N' ∧ ((N' = N ∧ keys' = keys ∧ ∃ m, m < N ∧ keys m = p1 ∧ sums' = own_upd sums m (sums m + q2)) ∨ (N' = N + 1 ∧ (∀ m, m < N → ¬ keys m = p1) ∧ keys' = own_upd keys N p1 ∧ sums' = own_upd (own_upd sums N 0) N q2))) ∧ Fr n0 L) := by
  refine own_met pn_5 ?_
  intro p e s m below meth c s₁ hx hby hml hown hnm hret hlk hZ X0 e0
  refine own_entry (ef_5 m o p1 q2) ?_
  show own_Go p e below _ (s₁.setTop (mkF m 0 #[.val (.ref o), .val (.int p1), .val (.long q2), .second, .unset, .unset] []))
  obtain ⟨B1, B2, B3, B4, B5, B6, B7, B8, B9, Bo, Bt, Bk, Bu⟩ := id A
  have hv : ∀ i, i < 16 → tab i = -1 ∨ ∃ m : Nat, m < 8 ∧ (tab i).toInt = m := fun i hi => (I.1 i hi).imp id fun ⟨m, hm, q⟩ => ⟨m, by omega, q⟩
  obtain ⟨d0, hd0, hf0⟩ := I.free (by omega) p1
  refine own_go (fun tt kk => XS.aloadN X0.here hx rfl (hb hby d5_0) rfl rfl kk) ?_
  show own_Go p e below _ (s₁.setTop (mkF m 1 #[.val (.ref o), .val (.int p1), .val (.long q2), .second, .unset, .unset] [(.ref o)]))
  refine own_go (fun tt kk => XS.iloadN X0.here hx rfl (hb hby d5_1) rfl kk) ?_
  show own_Go p e below _ (s₁.setTop (mkF m 2 #[.val (.ref o), .val (.int p1), .val (.long q2), .second, .unset, .unset] [(.int p1), (.ref o)]))
  obtain ⟨v1, L1, T1, X1, qq1, st1⟩ := own_callP X0 hx hZ hown (hw _ (List.mem_of_getElem? (i := 29) rfl)) (hw _ (List.mem_of_getElem? (i := 30) rfl)) (hw _ (List.mem_of_getElem? (i := 31) rfl)) (hw _ (List.mem_of_getElem? (i := 1) rfl)) (hw _ (List.mem_of_getElem? (i := 32) rfl)) (hw _ (List.mem_of_getElem? (i := 2) rfl)) (by decide) B1 (rmSlot l Z a0 hw [] o t k u tab keys sums n p1 n0 h0 A hv d0 hd0 hf0) e0 (pc := 2) (Ls := #[.val (.ref o), .val (.int p1), .val (.long q2), .second, .unset, .unset]) (argsL := [(.int p1)]) (rest := []) rfl (by rw [hml]; rfl) pd_2 rfl rfl (hb hby d5_2) 0 (Nat.le_of_eq rfl) (by decide) (by decide) (by decide) (by decide)
  obtain ⟨z1, i, rfl, hz1, Pi, hh1, rfl⟩ := qq1
  refine own_go st1 ?_
  show own_Go p e below _ (T1.setTop (mkF m 5 #[.val (.ref o), .val (.int p1), .val (.long q2), .second, .unset, .unset] [(.int z1)]))
  refine own_go (fun tt kk => XS.istore X1.here hx rfl (hb hby d5_5) rfl (l' := #[.val (.ref o), .val (.int p1), .val (.long q2), .second, .val (.int z1), .unset]) rfl kk) ?_
  show own_Go p e below _ (T1.setTop (mkF m 7 #[.val (.ref o), .val (.int p1), .val (.long q2), .second, .val (.int z1), .unset] []))
  refine own_go (fun tt kk => XS.aloadN X1.here hx rfl (hb hby d5_7) rfl rfl kk) ?_
  show own_Go p e below _ (T1.setTop (mkF m 8 #[.val (.ref o), .val (.int p1), .val (.long q2), .second, .val (.int z1), .unset] [(.ref o)]))
  obtain ⟨T2, X2, e2, st2⟩ := getF X1 hx hZ hown (host := "") (Or.inl (hw _ (List.mem_of_getElem? (i := 17) rfl))) Via.refl hh1 B2 (g := (mkF m 8 #[.val (.ref o), .val (.int p1), .val (.long q2), .second, .val (.int z1), .unset] [(.ref o)])) rfl rfl (hb hby d5_8)
  refine own_go st2 ?_
  show own_Go p e below _ (T2.setTop (mkF m 11 #[.val (.ref o), .val (.int p1), .val (.long q2), .second, .val (.int z1), .unset] [(.ref t)]))
  refine own_go (fun tt kk => XS.iload X2.here hx rfl (hb hby d5_11) rfl kk) ?_
  show own_Go p e below _ (T2.setTop (mkF m 13 #[.val (.ref o), .val (.int p1), .val (.long q2), .second, .val (.int z1), .unset] [(.int z1), (.ref t)]))
  refine own_go (own_iaload X2 hx hZ e2 B6 (j := z1) hz1 Pi.lt (pc := 13) (Ls := #[.val (.ref o), .val (.int p1), .val (.long q2), .second, .val (.int z1), .unset]) (rest := []) (hb hby d5_13)) ?_
  show own_Go p e below _ (T2.setTop (mkF m 14 #[.val (.ref o), .val (.int p1), .val (.long q2), .second, .val (.int z1), .unset] [(.int (tab i))]))
  refine own_go (fun tt kk => XS.iconst X2.here hx rfl (hb hby d5_14) kk) ?_
  show own_Go p e below _ (T2.setTop (mkF m 15 #[.val (.ref o), .val (.int p1), .val (.long q2), .second, .val (.int z1), .unset] [(.int (-1 : Int32)), (.int (tab i))]))
  by_cases hc15 : (tab i).toInt = (-1)
  · refine own_go (fun tt kk => XS.icmpNo X2.here hx rfl (hb hby d5_15) rfl (teq (own_eq32 (x := (tab i)) (y := (-1 : Int32)) (i := (tab i).toInt) (j := (-1)) rfl rfl hc15)).2 kk) ?_
    show own_Go p e below _ (T2.setTop (mkF m 18 #[.val (.ref o), .val (.int p1), .val (.long q2), .second, .val (.int z1), .unset] []))
    have hq : tab i = -1 := Int32.toInt_inj.mp hc15
    have ab := I.absent Pi hq
    have n8 : (Nat.toInt32 8).toInt = 8 := rfl
    refine own_go (fun tt kk => XS.aloadN X2.here hx rfl (hb hby d5_18) rfl rfl kk) ?_
    show own_Go p e below _ (T2.setTop (mkF m 19 #[.val (.ref o), .val (.int p1), .val (.long q2), .second, .val (.int z1), .unset] [(.ref o)]))
    obtain ⟨T3, X3, e3, st3⟩ := getF X2 hx hZ hown (host := "") (Or.inl (hw _ (List.mem_of_getElem? (i := 34) rfl))) Via.refl e2 B5 (g := (mkF m 19 #[.val (.ref o), .val (.int p1), .val (.long q2), .second, .val (.int z1), .unset] [(.ref o)])) rfl rfl (hb hby d5_19)
    refine own_go st3 ?_
    show own_Go p e below _ (T3.setTop (mkF m 22 #[.val (.ref o), .val (.int p1), .val (.long q2), .second, .val (.int z1), .unset] [(.int n)]))
    refine own_go (fun tt kk => XS.aloadN X3.here hx rfl (hb hby d5_22) rfl rfl kk) ?_
    show own_Go p e below _ (T3.setTop (mkF m 23 #[.val (.ref o), .val (.int p1), .val (.long q2), .second, .val (.int z1), .unset] [(.ref o), (.int n)]))
    obtain ⟨T4, X4, e4, st4⟩ := getF X3 hx hZ hown (host := "") (Or.inl (hw _ (List.mem_of_getElem? (i := 19) rfl))) Via.refl e3 B3 (g := (mkF m 23 #[.val (.ref o), .val (.int p1), .val (.long q2), .second, .val (.int z1), .unset] [(.ref o), (.int n)])) rfl rfl (hb hby d5_23)
    refine own_go st4 ?_
    show own_Go p e below _ (T4.setTop (mkF m 26 #[.val (.ref o), .val (.int p1), .val (.long q2), .second, .val (.int z1), .unset] [(.ref k), (.int n)]))
    refine own_go (own_alen X4 hx hZ e4 B7 (pc := 26) (Ls := #[.val (.ref o), .val (.int p1), .val (.long q2), .second, .val (.int z1), .unset]) (rest := [(.int n)]) (hb hby d5_26)) ?_
    show own_Go p e below _ (T4.setTop (mkF m 27 #[.val (.ref o), .val (.int p1), .val (.long q2), .second, .val (.int z1), .unset] [(.int (Nat.toInt32 8)), (.int n)]))
    refine own_go (fun tt kk => XS.icmpYes X4.here hx rfl (pc0 := 27) (pc' := 64) rfl (hb hby d5_27) rfl (feq (own_neq32 (x := n) (y := (Nat.toInt32 8)) (i := n.toInt) (j := (Nat.toInt32 8).toInt) rfl rfl (by omega))).2 (by decide) (by decide) kk) ?_
    show own_Go p e below _ (T4.setTop (mkF m 64 #[.val (.ref o), .val (.int p1), .val (.long q2), .second, .val (.int z1), .unset] []))
    refine own_go (fun tt kk => XS.aloadN X4.here hx rfl (hb hby d5_64) rfl rfl kk) ?_
    show own_Go p e below _ (T4.setTop (mkF m 65 #[.val (.ref o), .val (.int p1), .val (.long q2), .second, .val (.int z1), .unset] [(.ref o)]))
    obtain ⟨T5, X5, e5, st5⟩ := getF X4 hx hZ hown (host := "") (Or.inl (hw _ (List.mem_of_getElem? (i := 19) rfl))) Via.refl e4 B3 (g := (mkF m 65 #[.val (.ref o), .val (.int p1), .val (.long q2), .second, .val (.int z1), .unset] [(.ref o)])) rfl rfl (hb hby d5_65)
    refine own_go st5 ?_
    show own_Go p e below _ (T5.setTop (mkF m 68 #[.val (.ref o), .val (.int p1), .val (.long q2), .second, .val (.int z1), .unset] [(.ref k)]))
    refine own_go (fun tt kk => XS.aloadN X5.here hx rfl (hb hby d5_68) rfl rfl kk) ?_
    show own_Go p e below _ (T5.setTop (mkF m 69 #[.val (.ref o), .val (.int p1), .val (.long q2), .second, .val (.int z1), .unset] [(.ref o), (.ref k)]))
    obtain ⟨T6, X6, e6, st6⟩ := getF X5 hx hZ hown (host := "") (Or.inl (hw _ (List.mem_of_getElem? (i := 34) rfl))) Via.refl e5 B5 (g := (mkF m 69 #[.val (.ref o), .val (.int p1), .val (.long q2), .second, .val (.int z1), .unset] [(.ref o), (.ref k)])) rfl rfl (hb hby d5_69)
    refine own_go st6 ?_
    show own_Go p e below _ (T6.setTop (mkF m 72 #[.val (.ref o), .val (.int p1), .val (.long q2), .second, .val (.int z1), .unset] [(.int n), (.ref k)]))
    refine own_go (fun tt kk => XS.iloadN X6.here hx rfl (hb hby d5_72) rfl kk) ?_
    show own_Go p e below _ (T6.setTop (mkF m 73 #[.val (.ref o), .val (.int p1), .val (.long q2), .second, .val (.int z1), .unset] [(.int p1), (.int n), (.ref k)]))
    obtain ⟨T7, h7, X7, e7, W7, st7⟩ := own_iastore X6 hx hZ e6 B7 (j := n) (x := p1) hn (by omega) (pc := 73) (Ls := #[.val (.ref o), .val (.int p1), .val (.long q2), .second, .val (.int z1), .unset]) (rest := []) (hb hby d5_73)
    refine own_go st7 ?_
    show own_Go p e below _ (T7.setTop (mkF m 74 #[.val (.ref o), .val (.int p1), .val (.long q2), .second, .val (.int z1), .unset] []))
    have A1 := A.wKeys W7
    obtain ⟨C1, C2, C3, C4, C5, C6, C7, C8, C9, Co, Ct, Ck, Cu⟩ := id A1
    refine own_go (fun tt kk => XS.aloadN X7.here hx rfl (hb hby d5_74) rfl rfl kk) ?_
    show own_Go p e below _ (T7.setTop (mkF m 75 #[.val (.ref o), .val (.int p1), .val (.long q2), .second, .val (.int z1), .unset] [(.ref o)]))
    obtain ⟨T8, X8, e8, st8⟩ := getF X7 hx hZ hown (host := "") (Or.inl (hw _ (List.mem_of_getElem? (i := 22) rfl))) Via.refl e7 C4 (g := (mkF m 75 #[.val (.ref o), .val (.int p1), .val (.long q2), .second, .val (.int z1), .unset] [(.ref o)])) rfl rfl (hb hby d5_75)
    refine own_go st8 ?_
    show own_Go p e below _ (T8.setTop (mkF m 78 #[.val (.ref o), .val (.int p1), .val (.long q2), .second, .val (.int z1), .unset] [(.ref u)]))
    refine own_go (fun tt kk => XS.aloadN X8.here hx rfl (hb hby d5_78) rfl rfl kk) ?_
    show own_Go p e below _ (T8.setTop (mkF m 79 #[.val (.ref o), .val (.int p1), .val (.long q2), .second, .val (.int z1), .unset] [(.ref o), (.ref u)]))
    obtain ⟨T9, X9, e9, st9⟩ := getF X8 hx hZ hown (host := "") (Or.inl (hw _ (List.mem_of_getElem? (i := 34) rfl))) Via.refl e8 C5 (g := (mkF m 79 #[.val (.ref o), .val (.int p1), .val (.long q2), .second, .val (.int z1), .unset] [(.ref o), (.ref u)])) rfl rfl (hb hby d5_79)
    refine own_go st9 ?_
    show own_Go p e below _ (T9.setTop (mkF m 82 #[.val (.ref o), .val (.int p1), .val (.long q2), .second, .val (.int z1), .unset] [(.int n), (.ref u)]))
    refine own_go (fun tt kk => XS.lconst X9.here hx rfl (hb hby d5_82) kk) ?_
    show own_Go p e below _ (T9.setTop (mkF m 83 #[.val (.ref o), .val (.int p1), .val (.long q2), .second, .val (.int z1), .unset] [(.long (0 : Int64)), (.int n), (.ref u)]))
    obtain ⟨T10, h10, X10, e10, W10, st10⟩ := own_lastore X9 hx hZ e9 C8 (j := n) (x := (0 : Int64)) hn (by omega) (pc := 83) (Ls := #[.val (.ref o), .val (.int p1), .val (.long q2), .second, .val (.int z1), .unset]) (rest := []) (hb hby d5_83)
    refine own_go st10 ?_
    show own_Go p e below _ (T10.setTop (mkF m 84 #[.val (.ref o), .val (.int p1), .val (.long q2), .second, .val (.int z1), .unset] []))
    have A2 := A1.wSums W10
    obtain ⟨D1, D2, D3, D4, D5, D6, D7, D8, D9, Do, Dt, Dk, Du⟩ := id A2
    refine own_go (fun tt kk => XS.aloadN X10.here hx rfl (hb hby d5_84) rfl rfl kk) ?_
    show own_Go p e below _ (T10.setTop (mkF m 85 #[.val (.ref o), .val (.int p1), .val (.long q2), .second, .val (.int z1), .unset] [(.ref o)]))
    obtain ⟨T11, X11, e11, st11⟩ := getF X10 hx hZ hown (host := "") (Or.inl (hw _ (List.mem_of_getElem? (i := 17) rfl))) Via.refl e10 D2 (g := (mkF m 85 #[.val (.ref o), .val (.int p1), .val (.long q2), .second, .val (.int z1), .unset] [(.ref o)])) rfl rfl (hb hby d5_85)
    refine own_go st11 ?_
    show own_Go p e below _ (T11.setTop (mkF m 88 #[.val (.ref o), .val (.int p1), .val (.long q2), .second, .val (.int z1), .unset] [(.ref t)]))
    refine own_go (fun tt kk => XS.iload X11.here hx rfl (hb hby d5_88) rfl kk) ?_
    show own_Go p e below _ (T11.setTop (mkF m 90 #[.val (.ref o), .val (.int p1), .val (.long q2), .second, .val (.int z1), .unset] [(.int z1), (.ref t)]))
    refine own_go (fun tt kk => XS.aloadN X11.here hx rfl (hb hby d5_90) rfl rfl kk) ?_
    show own_Go p e below _ (T11.setTop (mkF m 91 #[.val (.ref o), .val (.int p1), .val (.long q2), .second, .val (.int z1), .unset] [(.ref o), (.int z1), (.ref t)]))
    obtain ⟨T12, X12, e12, st12⟩ := getF X11 hx hZ hown (host := "") (Or.inl (hw _ (List.mem_of_getElem? (i := 34) rfl))) Via.refl e11 D5 (g := (mkF m 91 #[.val (.ref o), .val (.int p1), .val (.long q2), .second, .val (.int z1), .unset] [(.ref o), (.int z1), (.ref t)])) rfl rfl (hb hby d5_91)
    refine own_go st12 ?_
    show own_Go p e below _ (T12.setTop (mkF m 94 #[.val (.ref o), .val (.int p1), .val (.long q2), .second, .val (.int z1), .unset] [(.int n), (.int z1), (.ref t)]))
    obtain ⟨T13, h13, X13, e13, W13, st13⟩ := own_iastore X12 hx hZ e12 D6 (j := z1) (x := n) hz1 Pi.lt (pc := 94) (Ls := #[.val (.ref o), .val (.int p1), .val (.long q2), .second, .val (.int z1), .unset]) (rest := []) (hb hby d5_94)
    refine own_go st13 ?_
    show own_Go p e below _ (T13.setTop (mkF m 95 #[.val (.ref o), .val (.int p1), .val (.long q2), .second, .val (.int z1), .unset] []))
    have A3 := A2.wTab W13
    obtain ⟨G1, G2, G3, G4, G5, G6, G7, G8, G9, Go', Gt, Gk, Gu⟩ := id A3
    refine own_go (fun tt kk => XS.aloadN X13.here hx rfl (hb hby d5_95) rfl rfl kk) ?_
    show own_Go p e below _ (T13.setTop (mkF m 96 #[.val (.ref o), .val (.int p1), .val (.long q2), .second, .val (.int z1), .unset] [(.ref o)]))
    refine own_go (fun tt kk => XS.dup X13.here hx rfl (hb hby d5_96) rfl rfl kk) ?_
    show own_Go p e below _ (T13.setTop (mkF m 97 #[.val (.ref o), .val (.int p1), .val (.long q2), .second, .val (.int z1), .unset] [(.ref o), (.ref o)]))
    obtain ⟨T14, X14, e14, st14⟩ := getF X13 hx hZ hown (host := "") (Or.inl (hw _ (List.mem_of_getElem? (i := 34) rfl))) Via.refl e13 G5 (g := (mkF m 97 #[.val (.ref o), .val (.int p1), .val (.long q2), .second, .val (.int z1), .unset] [(.ref o), (.ref o)])) rfl rfl (hb hby d5_97)
    refine own_go st14 ?_
    show own_Go p e below _ (T14.setTop (mkF m 100 #[.val (.ref o), .val (.int p1), .val (.long q2), .second, .val (.int z1), .unset] [(.int n), (.ref o)]))
    refine own_go (fun tt kk => XS.iconst X14.here hx rfl (hb hby d5_100) kk) ?_
    show own_Go p e below _ (T14.setTop (mkF m 101 #[.val (.ref o), .val (.int p1), .val (.long q2), .second, .val (.int z1), .unset] [(.int (1 : Int32)), (.int n), (.ref o)]))
    refine own_go (fun tt kk => XS.iadd X14.here hx rfl (hb hby d5_101) rfl kk) ?_
    show own_Go p e below _ (T14.setTop (mkF m 102 #[.val (.ref o), .val (.int p1), .val (.long q2), .second, .val (.int z1), .unset] [(.int (n + (1 : Int32))), (.ref o)]))
    obtain ⟨T15, h15, X15, e15, W15, st15⟩ := putF X14 hx hZ hown (host := "") (Or.inl (hw _ (List.mem_of_getElem? (i := 34) rfl))) Via.refl e14 G5 G1 (Or.inl (hw _ (List.mem_of_getElem? (i := 35) rfl))) (hw _ (List.mem_of_getElem? (i := 1) rfl)) (ty := .int) (by decide) rfl rfl (g := (mkF m 102 #[.val (.ref o), .val (.int p1), .val (.long q2), .second, .val (.int z1), .unset] [(.int (n + (1 : Int32))), (.ref o)])) rfl rfl (hb hby d5_102)
    refine own_go st15 ?_
    show own_Go p e below _ (T15.setTop (mkF m 105 #[.val (.ref o), .val (.int p1), .val (.long q2), .second, .val (.int z1), .unset] []))
    have A4 := A3.wSize hw W15
    obtain ⟨M1, M2, M3, M4, M5, M6, M7, M8, M9, Mo, Mt, Mk, Mu⟩ := id A4
    have S1 := c_iadd n 1
    have S2 : (1 : Int32).toInt = 1 := rfl
    have S3 := rng32 (n + 1)
    have S4 : (n + 1).toInt = ((N + 1 : Nat) : Int) := by omega
    have S5 : ((Nat.toInt32 16) / (2 : Int32)).toInt = 8 := by decide
    obtain ⟨I4, P4⟩ := I.add Pi hq hn
    have hv4 : ∀ j, j < 16 → own_upd tab i n j = -1 ∨ ∃ m : Nat, m < 8 ∧ (own_upd tab i n j).toInt = m := fun j hj => (I4.1 j hj).imp id fun ⟨m, hm, q⟩ => ⟨m, by omega, q⟩
    obtain ⟨d4, hd4, hf4⟩ := I4.free (by omega) p1
    refine own_go (fun tt kk => XS.aloadN X15.here hx rfl (hb hby d5_105) rfl rfl kk) ?_
    show own_Go p e below _ (T15.setTop (mkF m 106 #[.val (.ref o), .val (.int p1), .val (.long q2), .second, .val (.int z1), .unset] [(.ref o)]))
    obtain ⟨T16, X16, e16, st16⟩ := getF X15 hx hZ hown (host := "") (Or.inl (hw _ (List.mem_of_getElem? (i := 34) rfl))) Via.refl e15 M5 (g := (mkF m 106 #[.val (.ref o), .val (.int p1), .val (.long q2), .second, .val (.int z1), .unset] [(.ref o)])) rfl rfl (hb hby d5_106)
    refine own_go st16 ?_
    show own_Go p e below _ (T16.setTop (mkF m 109 #[.val (.ref o), .val (.int p1), .val (.long q2), .second, .val (.int z1), .unset] [(.int (n + (1 : Int32)))]))
    refine own_go (fun tt kk => XS.aloadN X16.here hx rfl (hb hby d5_109) rfl rfl kk) ?_
    show own_Go p e below _ (T16.setTop (mkF m 110 #[.val (.ref o), .val (.int p1), .val (.long q2), .second, .val (.int z1), .unset] [(.ref o), (.int (n + (1 : Int32)))]))
    obtain ⟨T17, X17, e17, st17⟩ := getF X16 hx hZ hown (host := "") (Or.inl (hw _ (List.mem_of_getElem? (i := 17) rfl))) Via.refl e16 M2 (g := (mkF m 110 #[.val (.ref o), .val (.int p1), .val (.long q2), .second, .val (.int z1), .unset] [(.ref o), (.int (n + (1 : Int32)))])) rfl rfl (hb hby d5_110)
    refine own_go st17 ?_
    show own_Go p e below _ (T17.setTop (mkF m 113 #[.val (.ref o), .val (.int p1), .val (.long q2), .second, .val (.int z1), .unset] [(.ref t), (.int (n + (1 : Int32)))]))
    refine own_go (own_alen X17 hx hZ e17 M6 (pc := 113) (Ls := #[.val (.ref o), .val (.int p1), .val (.long q2), .second, .val (.int z1), .unset]) (rest := [(.int (n + (1 : Int32)))]) (hb hby d5_113)) ?_
    show own_Go p e below _ (T17.setTop (mkF m 114 #[.val (.ref o), .val (.int p1), .val (.long q2), .second, .val (.int z1), .unset] [(.int (Nat.toInt32 16)), (.int (n + (1 : Int32)))]))
    refine own_go (fun tt kk => XS.iconst X17.here hx rfl (hb hby d5_114) kk) ?_
    show own_Go p e below _ (T17.setTop (mkF m 115 #[.val (.ref o), .val (.int p1), .val (.long q2), .second, .val (.int z1), .unset] [(.int (2 : Int32)), (.int (Nat.toInt32 16)), (.int (n + (1 : Int32)))]))
    refine own_go (fun tt kk => XS.idiv X17.here hx rfl (hb hby d5_115) rfl (by decide) kk) ?_
    show own_Go p e below _ (T17.setTop (mkF m 116 #[.val (.ref o), .val (.int p1), .val (.long q2), .second, .val (.int z1), .unset] [(.int ((Nat.toInt32 16) / (2 : Int32))), (.int (n + (1 : Int32)))]))
    refine own_go (fun tt kk => XS.icmpYes X17.here hx rfl (pc0 := 116) (pc' := 123) rfl (hb hby d5_116) rfl (flt (own_nlt32 (x := ((Nat.toInt32 16) / (2 : Int32))) (y := (n + (1 : Int32))) (i := ((Nat.toInt32 16) / (2 : Int32)).toInt) (j := (n + (1 : Int32)).toInt) rfl rfl (by omega))).2.2.2 (by decide) (by decide) kk) ?_
    show own_Go p e below _ (T17.setTop (mkF m 123 #[.val (.ref o), .val (.int p1), .val (.long q2), .second, .val (.int z1), .unset] []))
    refine own_go (fun tt kk => XS.aloadN X17.here hx rfl (hb hby d5_123) rfl rfl kk) ?_
    show own_Go p e below _ (T17.setTop (mkF m 124 #[.val (.ref o), .val (.int p1), .val (.long q2), .second, .val (.int z1), .unset] [(.ref o)]))
    refine own_go (fun tt kk => XS.iloadN X17.here hx rfl (hb hby d5_124) rfl kk) ?_
    show own_Go p e below _ (T17.setTop (mkF m 125 #[.val (.ref o), .val (.int p1), .val (.long q2), .second, .val (.int z1), .unset] [(.int p1), (.ref o)]))
    obtain ⟨v18, L18, T18, X18, qq18, st18⟩ := own_callP X17 hx hZ hown (hw _ (List.mem_of_getElem? (i := 29) rfl)) (hw _ (List.mem_of_getElem? (i := 30) rfl)) (hw _ (List.mem_of_getElem? (i := 31) rfl)) (hw _ (List.mem_of_getElem? (i := 1) rfl)) (hw _ (List.mem_of_getElem? (i := 32) rfl)) (hw _ (List.mem_of_getElem? (i := 2) rfl)) (by decide) M1 (rmSlot l Z a0 hw [] o t k u _ _ _ _ p1 n0 h15 A4 hv4 d4 hd4 hf4) e17 (pc := 125) (Ls := #[.val (.ref o), .val (.int p1), .val (.long q2), .second, .val (.int z1), .unset]) (argsL := [(.int p1)]) (rest := []) rfl (by rw [hml]; rfl) pd_2 rfl rfl (hb hby d5_125) 0 (Nat.le_of_eq rfl) (by decide) (by decide) (by decide) (by decide)
    obtain ⟨z18, i', rfl, hz18, Pj, hh18, rfl⟩ := qq18
    refine own_go st18 ?_
    show own_Go p e below _ (T18.setTop (mkF m 128 #[.val (.ref o), .val (.int p1), .val (.long q2), .second, .val (.int z1), .unset] [(.int z18)]))
    obtain rfl : i' = i := Pj.unique P4
    have tm : (own_upd tab i' n i').toInt = N := by rw [own_upd_at]; exact hn
    obtain ⟨C1, C2, C3, C4, C5, C6, C7, C8, C9, Co, Ct, Ck, Cu⟩ := id A4
    refine own_go (fun tt kk => XS.istore X18.here hx rfl (hb hby d5_128) rfl (l' := #[.val (.ref o), .val (.int p1), .val (.long q2), .second, .val (.int z18), .unset]) rfl kk) ?_
    show own_Go p e below _ (T18.setTop (mkF m 130 #[.val (.ref o), .val (.int p1), .val (.long q2), .second, .val (.int z18), .unset] []))
    refine own_go (fun tt kk => XS.aloadN X18.here hx rfl (hb hby d5_130) rfl rfl kk) ?_
    show own_Go p e below _ (T18.setTop (mkF m 131 #[.val (.ref o), .val (.int p1), .val (.long q2), .second, .val (.int z18), .unset] [(.ref o)]))
    obtain ⟨T19, X19, e19, st19⟩ := getF X18 hx hZ hown (host := "") (Or.inl (hw _ (List.mem_of_getElem? (i := 17) rfl))) Via.refl hh18 C2 (g := (mkF m 131 #[.val (.ref o), .val (.int p1), .val (.long q2), .second, .val (.int z18), .unset] [(.ref o)])) rfl rfl (hb hby d5_131)
    refine own_go st19 ?_
    show own_Go p e below _ (T19.setTop (mkF m 134 #[.val (.ref o), .val (.int p1), .val (.long q2), .second, .val (.int z18), .unset] [(.ref t)]))
    refine own_go (fun tt kk => XS.iload X19.here hx rfl (hb hby d5_134) rfl kk) ?_
    show own_Go p e below _ (T19.setTop (mkF m 136 #[.val (.ref o), .val (.int p1), .val (.long q2), .second, .val (.int z18), .unset] [(.int z18), (.ref t)]))
    refine own_go (own_iaload X19 hx hZ e19 C6 (j := z18) hz18 Pi.lt (pc := 136) (Ls := #[.val (.ref o), .val (.int p1), .val (.long q2), .second, .val (.int z18), .unset]) (rest := []) (hb hby d5_136)) ?_
    show own_Go p e below _ (T19.setTop (mkF m 137 #[.val (.ref o), .val (.int p1), .val (.long q2), .second, .val (.int z18), .unset] [(.int (own_upd tab i' n i'))]))
    refine own_go (fun tt kk => XS.istore X19.here hx rfl (hb hby d5_137) rfl (l' := #[.val (.ref o), .val (.int p1), .val (.long q2), .second, .val (.int z18), .val (.int (own_upd tab i' n i'))]) rfl kk) ?_
    show own_Go p e below _ (T19.setTop (mkF m 139 #[.val (.ref o), .val (.int p1), .val (.long q2), .second, .val (.int z18), .val (.int (own_upd tab i' n i'))] []))
    refine own_go (fun tt kk => XS.aloadN X19.here hx rfl (hb hby d5_139) rfl rfl kk) ?_
    show own_Go p e below _ (T19.setTop (mkF m 140 #[.val (.ref o), .val (.int p1), .val (.long q2), .second, .val (.int z18), .val (.int (own_upd tab i' n i'))] [(.ref o)]))
    obtain ⟨T20, X20, e20, st20⟩ := getF X19 hx hZ hown (host := "") (Or.inl (hw _ (List.mem_of_getElem? (i := 22) rfl))) Via.refl e19 C4 (g := (mkF m 140 #[.val (.ref o), .val (.int p1), .val (.long q2), .second, .val (.int z18), .val (.int (own_upd tab i' n i'))] [(.ref o)])) rfl rfl (hb hby d5_140)
    refine own_go st20 ?_
    show own_Go p e below _ (T20.setTop (mkF m 143 #[.val (.ref o), .val (.int p1), .val (.long q2), .second, .val (.int z18), .val (.int (own_upd tab i' n i'))] [(.ref u)]))
    refine own_go (fun tt kk => XS.iload X20.here hx rfl (hb hby d5_143) rfl kk) ?_
    show own_Go p e below _ (T20.setTop (mkF m 145 #[.val (.ref o), .val (.int p1), .val (.long q2), .second, .val (.int z18), .val (.int (own_upd tab i' n i'))] [(.int (own_upd tab i' n i')), (.ref u)]))
    refine own_go (fun tt kk => XS.aloadN X20.here hx rfl (hb hby d5_145) rfl rfl kk) ?_
    show own_Go p e below _ (T20.setTop (mkF m 146 #[.val (.ref o), .val (.int p1), .val (.long q2), .second, .val (.int z18), .val (.int (own_upd tab i' n i'))] [(.ref o), (.int (own_upd tab i' n i')), (.ref u)]))
    obtain ⟨T21, X21, e21, st21⟩ := getF X20 hx hZ hown (host := "") (Or.inl (hw _ (List.mem_of_getElem? (i := 22) rfl))) Via.refl e20 C4 (g := (mkF m 146 #[.val (.ref o), .val (.int p1), .val (.long q2), .second, .val (.int z18), .val (.int (own_upd tab i' n i'))] [(.ref o), (.int (own_upd tab i' n i')), (.ref u)])) rfl rfl (hb hby d5_146)
    refine own_go st21 ?_
    show own_Go p e below _ (T21.setTop (mkF m 149 #[.val (.ref o), .val (.int p1), .val (.long q2), .second, .val (.int z18), .val (.int (own_upd tab i' n i'))] [(.ref u), (.int (own_upd tab i' n i')), (.ref u)]))
    refine own_go (fun tt kk => XS.iload X21.here hx rfl (hb hby d5_149) rfl kk) ?_
    show own_Go p e below _ (T21.setTop (mkF m 151 #[.val (.ref o), .val (.int p1), .val (.long q2), .second, .val (.int z18), .val (.int (own_upd tab i' n i'))] [(.int (own_upd tab i' n i')), (.ref u), (.int (own_upd tab i' n i')), (.ref u)]))
    refine own_go (own_laload X21 hx hZ e21 C8 (j := (own_upd tab i' n i')) tm (by omega) (pc := 151) (Ls := #[.val (.ref o), .val (.int p1), .val (.long q2), .second, .val (.int z18), .val (.int (own_upd tab i' n i'))]) (rest := [(.int (own_upd tab i' n i')), (.ref u)]) (hb hby d5_151)) ?_
    show own_Go p e below _ (T21.setTop (mkF m 152 #[.val (.ref o), .val (.int p1), .val (.long q2), .second, .val (.int z18), .val (.int (own_upd tab i' n i'))] [(.long (own_upd sums N 0 N)), (.int (own_upd tab i' n i')), (.ref u)]))
    refine own_go (fun tt kk => XS.lloadN X21.here hx rfl (hb hby d5_152) rfl kk) ?_
    show own_Go p e below _ (T21.setTop (mkF m 153 #[.val (.ref o), .val (.int p1), .val (.long q2), .second, .val (.int z18), .val (.int (own_upd tab i' n i'))] [(.long q2), (.long (own_upd sums N 0 N)), (.int (own_upd tab i' n i')), (.ref u)]))
    obtain ⟨v22, L22, T22, X22, qq22, st22⟩ := own_callS X21 hx hZ hown (hw _ (List.mem_of_getElem? (i := 36) rfl)) (hw _ (List.mem_of_getElem? (i := 37) rfl)) (hw _ (List.mem_of_getElem? (i := 38) rfl)) (hw _ (List.mem_of_getElem? (i := 39) rfl)) (by decide) (rmAex l Z a0 hw [] (own_upd sums N 0 N) q2 h15 (by rw [own_upd_at]; have := rng64 q2; have : (0 : Int64).toInt = 0 := rfl; omega) (by rw [own_upd_at]; have := rng64 q2; have : (0 : Int64).toInt = 0 := rfl; omega)) e21 (pc := 153) (Ls := #[.val (.ref o), .val (.int p1), .val (.long q2), .second, .val (.int z18), .val (.int (own_upd tab i' n i'))]) (argsL := [(.long (own_upd sums N 0 N)), (.long q2)]) (rest := [(.int (own_upd tab i' n i')), (.ref u)]) rfl (by rw [hml]; rfl) pd_3 rfl rfl (hb hby d5_153) 2 (Nat.le_of_eq rfl) (by decide) (by decide) (by decide) (by decide)
    obtain ⟨rfl, hh22, rfl⟩ := qq22
    refine own_go st22 ?_
    show own_Go p e below _ (T22.setTop (mkF m 156 #[.val (.ref o), .val (.int p1), .val (.long q2), .second, .val (.int z18), .val (.int (own_upd tab i' n i'))] [(.long ((own_upd sums N 0 N) + q2)), (.int (own_upd tab i' n i')), (.ref u)]))
    obtain ⟨T23, h23, X23, e23, W23, st23⟩ := own_lastore X22 hx hZ hh22 C8 (j := (own_upd tab i' n i')) (x := ((own_upd sums N 0 N) + q2)) tm (by omega) (pc := 156) (Ls := #[.val (.ref o), .val (.int p1), .val (.long q2), .second, .val (.int z18), .val (.int (own_upd tab i' n i'))]) (rest := []) (hb hby d5_156)
    refine own_go st23 ?_
    show own_Go p e below _ (T23.setTop (mkF m 157 #[.val (.ref o), .val (.int p1), .val (.long q2), .second, .val (.int z18), .val (.int (own_upd tab i' n i'))] []))
    exact own_retV X23 hx hlk hret (hb hby d5_157) ⟨rfl, ⟨_, _, _, _, N + 1, by rw [e23]; exact A4.wSums W23, S4, I4, Or.inr ⟨rfl, ab, rfl, by rw [show own_upd sums N 0 N + q2 = q2 by rw [own_upd_at]; exact Int64.zero_add _]⟩⟩, Fr.snoc X23 (Fr.app (Fr.app (Fr.snoc X15 (Fr.snoc X13 (Fr.snoc X10 (Fr.snoc X7 (Fr.app (Fr.nil n0) (Fr.nil n0)) Bk) Bu) Bt) Bo) (Fr.nil n0)) (Fr.nil n0)) Bu⟩ (by decide) (by decide)
  · refine own_go (fun tt kk => XS.icmpYes X2.here hx rfl (pc0 := 15) (pc' := 130) rfl (hb hby d5_15) rfl (feq (own_neq32 (x := (tab i)) (y := (-1 : Int32)) (i := (tab i).toInt) (j := (-1)) rfl rfl hc15)).2 (by decide) (by decide) kk) ?_
    show own_Go p e below _ (T2.setTop (mkF m 130 #[.val (.ref o), .val (.int p1), .val (.long q2), .second, .val (.int z1), .unset] []))
    have hq : ¬ tab i = -1 := fun q => hc15 (by rw [q]; rfl)
    obtain ⟨m', hm', hmi, hmk⟩ := I.found Pi hq
    obtain ⟨C1, C2, C3, C4, C5, C6, C7, C8, C9, Co, Ct, Ck, Cu⟩ := id A
    refine own_go (fun tt kk => XS.aloadN X2.here hx rfl (hb hby d5_130) rfl rfl kk) ?_
    show own_Go p e below _ (T2.setTop (mkF m 131 #[.val (.ref o), .val (.int p1), .val (.long q2), .second, .val (.int z1), .unset] [(.ref o)]))
    obtain ⟨T24, X24, e24, st24⟩ := getF X2 hx hZ hown (host := "") (Or.inl (hw _ (List.mem_of_getElem? (i := 17) rfl))) Via.refl e2 C2 (g := (mkF m 131 #[.val (.ref o), .val (.int p1), .val (.long q2), .second, .val (.int z1), .unset] [(.ref o)])) rfl rfl (hb hby d5_131)
    refine own_go st24 ?_
    show own_Go p e below _ (T24.setTop (mkF m 134 #[.val (.ref o), .val (.int p1), .val (.long q2), .second, .val (.int z1), .unset] [(.ref t)]))
    refine own_go (fun tt kk => XS.iload X24.here hx rfl (hb hby d5_134) rfl kk) ?_
    show own_Go p e below _ (T24.setTop (mkF m 136 #[.val (.ref o), .val (.int p1), .val (.long q2), .second, .val (.int z1), .unset] [(.int z1), (.ref t)]))
    refine own_go (own_iaload X24 hx hZ e24 C6 (j := z1) hz1 Pi.lt (pc := 136) (Ls := #[.val (.ref o), .val (.int p1), .val (.long q2), .second, .val (.int z1), .unset]) (rest := []) (hb hby d5_136)) ?_
    show own_Go p e below _ (T24.setTop (mkF m 137 #[.val (.ref o), .val (.int p1), .val (.long q2), .second, .val (.int z1), .unset] [(.int (tab i))]))
    refine own_go (fun tt kk => XS.istore X24.here hx rfl (hb hby d5_137) rfl (l' := #[.val (.ref o), .val (.int p1), .val (.long q2), .second, .val (.int z1), .val (.int (tab i))]) rfl kk) ?_
    show own_Go p e below _ (T24.setTop (mkF m 139 #[.val (.ref o), .val (.int p1), .val (.long q2), .second, .val (.int z1), .val (.int (tab i))] []))
    refine own_go (fun tt kk => XS.aloadN X24.here hx rfl (hb hby d5_139) rfl rfl kk) ?_
    show own_Go p e below _ (T24.setTop (mkF m 140 #[.val (.ref o), .val (.int p1), .val (.long q2), .second, .val (.int z1), .val (.int (tab i))] [(.ref o)]))
    obtain ⟨T25, X25, e25, st25⟩ := getF X24 hx hZ hown (host := "") (Or.inl (hw _ (List.mem_of_getElem? (i := 22) rfl))) Via.refl e24 C4 (g := (mkF m 140 #[.val (.ref o), .val (.int p1), .val (.long q2), .second, .val (.int z1), .val (.int (tab i))] [(.ref o)])) rfl rfl (hb hby d5_140)
    refine own_go st25 ?_
    show own_Go p e below _ (T25.setTop (mkF m 143 #[.val (.ref o), .val (.int p1), .val (.long q2), .second, .val (.int z1), .val (.int (tab i))] [(.ref u)]))
    refine own_go (fun tt kk => XS.iload X25.here hx rfl (hb hby d5_143) rfl kk) ?_
    show own_Go p e below _ (T25.setTop (mkF m 145 #[.val (.ref o), .val (.int p1), .val (.long q2), .second, .val (.int z1), .val (.int (tab i))] [(.int (tab i)), (.ref u)]))
    refine own_go (fun tt kk => XS.aloadN X25.here hx rfl (hb hby d5_145) rfl rfl kk) ?_
    show own_Go p e below _ (T25.setTop (mkF m 146 #[.val (.ref o), .val (.int p1), .val (.long q2), .second, .val (.int z1), .val (.int (tab i))] [(.ref o), (.int (tab i)), (.ref u)]))
    obtain ⟨T26, X26, e26, st26⟩ := getF X25 hx hZ hown (host := "") (Or.inl (hw _ (List.mem_of_getElem? (i := 22) rfl))) Via.refl e25 C4 (g := (mkF m 146 #[.val (.ref o), .val (.int p1), .val (.long q2), .second, .val (.int z1), .val (.int (tab i))] [(.ref o), (.int (tab i)), (.ref u)])) rfl rfl (hb hby d5_146)
    refine own_go st26 ?_
    show own_Go p e below _ (T26.setTop (mkF m 149 #[.val (.ref o), .val (.int p1), .val (.long q2), .second, .val (.int z1), .val (.int (tab i))] [(.ref u), (.int (tab i)), (.ref u)]))
    refine own_go (fun tt kk => XS.iload X26.here hx rfl (hb hby d5_149) rfl kk) ?_
    show own_Go p e below _ (T26.setTop (mkF m 151 #[.val (.ref o), .val (.int p1), .val (.long q2), .second, .val (.int z1), .val (.int (tab i))] [(.int (tab i)), (.ref u), (.int (tab i)), (.ref u)]))
    refine own_go (own_laload X26 hx hZ e26 C8 (j := (tab i)) hmi (by omega) (pc := 151) (Ls := #[.val (.ref o), .val (.int p1), .val (.long q2), .second, .val (.int z1), .val (.int (tab i))]) (rest := [(.int (tab i)), (.ref u)]) (hb hby d5_151)) ?_
    show own_Go p e below _ (T26.setTop (mkF m 152 #[.val (.ref o), .val (.int p1), .val (.long q2), .second, .val (.int z1), .val (.int (tab i))] [(.long (sums m')), (.int (tab i)), (.ref u)]))
    refine own_go (fun tt kk => XS.lloadN X26.here hx rfl (hb hby d5_152) rfl kk) ?_
    show own_Go p e below _ (T26.setTop (mkF m 153 #[.val (.ref o), .val (.int p1), .val (.long q2), .second, .val (.int z1), .val (.int (tab i))] [(.long q2), (.long (sums m')), (.int (tab i)), (.ref u)]))
    obtain ⟨v27, L27, T27, X27, qq27, st27⟩ := own_callS X26 hx hZ hown (hw _ (List.mem_of_getElem? (i := 36) rfl)) (hw _ (List.mem_of_getElem? (i := 37) rfl)) (hw _ (List.mem_of_getElem? (i := 38) rfl)) (hw _ (List.mem_of_getElem? (i := 39) rfl)) (by decide) (rmAex l Z a0 hw [] (sums m') q2 h0 (hov m' hm' hmk).1 (hov m' hm' hmk).2) e26 (pc := 153) (Ls := #[.val (.ref o), .val (.int p1), .val (.long q2), .second, .val (.int z1), .val (.int (tab i))]) (argsL := [(.long (sums m')), (.long q2)]) (rest := [(.int (tab i)), (.ref u)]) rfl (by rw [hml]; rfl) pd_3 rfl rfl (hb hby d5_153) 2 (Nat.le_of_eq rfl) (by decide) (by decide) (by decide) (by decide)
    obtain ⟨rfl, hh27, rfl⟩ := qq27
    refine own_go st27 ?_
    show own_Go p e below _ (T27.setTop (mkF m 156 #[.val (.ref o), .val (.int p1), .val (.long q2), .second, .val (.int z1), .val (.int (tab i))] [(.long ((sums m') + q2)), (.int (tab i)), (.ref u)]))
    obtain ⟨T28, h28, X28, e28, W28, st28⟩ := own_lastore X27 hx hZ hh27 C8 (j := (tab i)) (x := ((sums m') + q2)) hmi (by omega) (pc := 156) (Ls := #[.val (.ref o), .val (.int p1), .val (.long q2), .second, .val (.int z1), .val (.int (tab i))]) (rest := []) (hb hby d5_156)
    refine own_go st28 ?_
    show own_Go p e below _ (T28.setTop (mkF m 157 #[.val (.ref o), .val (.int p1), .val (.long q2), .second, .val (.int z1), .val (.int (tab i))] []))
    exact own_retV X28 hx hlk hret (hb hby d5_157) ⟨rfl, ⟨tab, keys, _, n, N, by rw [e28]; exact A.wSums W28, hn, I, Or.inl ⟨rfl, rfl, m', hm', hmk, rfl⟩⟩, Fr.snoc X28 (Fr.app (Fr.app (Fr.nil n0) (Fr.nil n0)) (Fr.nil n0)) Bu⟩ (by decide) (by decide)
set_option maxRecDepth 65536 in
set_option maxHeartbeats 40000000 in
theorem rmClear (l : Launch) (Z : State) (a0 : Array Value) (hw : ∀ d ∈ tables_1, d.before a0 Z = true) (ws : List Jvm.Cond) (o t k u : Addr) (tab keys : Nat → Int32) (sums : Nat → Int64) (n : Int32) (N : Nat) (n0 : Nat) (h0 : Heap) (A : own_Ta Z n0 h0 o t k u tab keys sums n) (hn : n.toInt = N) (hN : N ≤ 3) (I : own_Inv tab keys N) :
    own_Met l Z ws (⟨"com/example/enabled_step/enabledstep/engine/Tally", "clear", "()V"⟩ : MethodName) prog_46_method_6_code 2 none ({ frames := 1, cells := 0, slots := 0, locals := 17 } : Room) #[(.ref o)] h0 (fun v h L => v = none ∧ (∃ tab', own_Ta Z n0 h o t k u tab' keys sums 0 ∧ own_Inv tab' keys 0) ∧ Fr n0 L) := by
  refine own_met pn_8 ?_
  intro p e s m below meth c s₁ hx hby hml hown hnm hret hlk hZ X0 e0
  refine own_entry (ef_8 m o) ?_
  show own_Go p e below _ (s₁.setTop (mkF m 0 #[.val (.ref o), .unset] []))
  obtain ⟨B1, B2, B3, B4, B5, B6, B7, B8, B9, Bo, Bt, Bk, Bu⟩ := id A
  refine own_go (fun tt kk => XS.aloadN X0.here hx rfl (hb hby d8_0) rfl rfl kk) ?_
  show own_Go p e below _ (s₁.setTop (mkF m 1 #[.val (.ref o), .unset] [(.ref o)]))
  obtain ⟨T1, X1, e1, st1⟩ := getF X0 hx hZ hown (host := "") (Or.inl (hw _ (List.mem_of_getElem? (i := 34) rfl))) Via.refl e0 B5 (g := (mkF m 1 #[.val (.ref o), .unset] [(.ref o)])) rfl rfl (hb hby d8_1)
  refine own_go st1 ?_
  show own_Go p e below _ (T1.setTop (mkF m 4 #[.val (.ref o), .unset] [(.int n)]))
  refine own_go (fun tt kk => XS.iconst X1.here hx rfl (hb hby d8_4) kk) ?_
  show own_Go p e below _ (T1.setTop (mkF m 5 #[.val (.ref o), .unset] [(.int (1 : Int32)), (.int n)]))
  refine own_go (fun tt kk => XS.isub X1.here hx rfl (hb hby d8_5) rfl kk) ?_
  show own_Go p e below _ (T1.setTop (mkF m 6 #[.val (.ref o), .unset] [(.int (n - (1 : Int32)))]))
  refine own_go (fun tt kk => XS.istoreN X1.here hx rfl (hb hby d8_6) rfl (l' := #[.val (.ref o), .val (.int (n - (1 : Int32)))]) rfl kk) ?_
  show own_Go p e below _ (T1.setTop (mkF m 7 #[.val (.ref o), .val (.int (n - (1 : Int32)))] []))
  suffices loop : ∀ (r : Nat) (j : Int32) (T : State) (h : Heap) (locs : List Loc) (tab' : Nat → Int32), r ≤ 3 → j.toInt = (r : Int) - 1 → own_Inv tab' keys r → own_Ta Z n0 h o t k u tab' keys sums n → Stand p l e _ s m _ below meth c T locs 0 0 → T.heap = h → Fr n0 locs → own_Go p e below (own_End below s (fun v h L => v = none ∧ (∃ tab', own_Ta Z n0 h o t k u tab' keys sums 0 ∧ own_Inv tab' keys 0) ∧ Fr n0 L) 0 0) (T.setTop (mkF m 7 #[.val (.ref o), .val (.int j)] [])) by
    exact loop N _ _ h0 [] tab hN (by have := c_isub n 1; have : (1 : Int32).toInt = 1 := rfl; have := rng32 (n - 1); omega) I A X1 e1 (Fr.nil _)
  intro r
  induction r with
  | zero =>
    intro j T h locs tab' hr hj I1 A1 X e1 Nl
    obtain ⟨C1, C2, C3, C4, C5, C6, C7, C8, C9, Co, Ct, Ck, Cu⟩ := id A1
    show own_Go p e below _ (T.setTop (mkF m 7 #[.val (.ref o), .val (.int j)] []))
    refine own_go (fun tt kk => XS.iloadN X.here hx rfl (hb hby d8_7) rfl kk) ?_
    show own_Go p e below _ (T.setTop (mkF m 8 #[.val (.ref o), .val (.int j)] [(.int j)]))
    refine own_go (fun tt kk => XS.ifYes X.here hx rfl (pc0 := 8) (pc' := 33) rfl (hb hby d8_8) rfl ((if0 _ _).trans (tlt (own_lt32 (x := j) (y := (0 : Int32)) (i := j.toInt) (j := 0) rfl rfl (by omega))).1) (by decide) (by decide) kk) ?_
    show own_Go p e below _ (T.setTop (mkF m 33 #[.val (.ref o), .val (.int j)] []))
    refine own_go (fun tt kk => XS.aloadN X.here hx rfl (hb hby d8_33) rfl rfl kk) ?_
    show own_Go p e below _ (T.setTop (mkF m 34 #[.val (.ref o), .val (.int j)] [(.ref o)]))
    refine own_go (fun tt kk => XS.iconst X.here hx rfl (hb hby d8_34) kk) ?_
    show own_Go p e below _ (T.setTop (mkF m 35 #[.val (.ref o), .val (.int j)] [(.int (0 : Int32)), (.ref o)]))
    obtain ⟨T2, h2, X2, e2, W2, st2⟩ := putF X hx hZ hown (host := "") (Or.inl (hw _ (List.mem_of_getElem? (i := 34) rfl))) Via.refl e1 C5 C1 (Or.inl (hw _ (List.mem_of_getElem? (i := 35) rfl))) (hw _ (List.mem_of_getElem? (i := 1) rfl)) (ty := .int) (by decide) rfl rfl (g := (mkF m 35 #[.val (.ref o), .val (.int j)] [(.int (0 : Int32)), (.ref o)])) rfl rfl (hb hby d8_35)
    refine own_go st2 ?_
    show own_Go p e below _ (T2.setTop (mkF m 38 #[.val (.ref o), .val (.int j)] []))
    exact own_retV X2 hx hlk hret (hb hby d8_38) ⟨rfl, ⟨tab', by rw [e2]; exact A1.wSize hw W2, I1⟩, Fr.snoc X2 Nl Bo⟩ (by decide) (by decide)
  | succ r ih =>
    intro j T h locs tab' hr hj I1 A1 X e1 Nl
    obtain ⟨C1, C2, C3, C4, C5, C6, C7, C8, C9, Co, Ct, Ck, Cu⟩ := id A1
    have hv : ∀ i, i < 16 → tab' i = -1 ∨ ∃ m : Nat, m < 8 ∧ (tab' i).toInt = m := fun i hi => (I1.1 i hi).imp id fun ⟨m, hm, q⟩ => ⟨m, by omega, q⟩
    obtain ⟨d0, hd0, hf0⟩ := I1.free hr (keys r)
    have hjr : j.toInt = r := by omega
    show own_Go p e below _ (T.setTop (mkF m 7 #[.val (.ref o), .val (.int j)] []))
    refine own_go (fun tt kk => XS.iloadN X.here hx rfl (hb hby d8_7) rfl kk) ?_
    show own_Go p e below _ (T.setTop (mkF m 8 #[.val (.ref o), .val (.int j)] [(.int j)]))
    refine own_go (fun tt kk => XS.ifNo X.here hx rfl (hb hby d8_8) rfl ((if0 _ _).trans (flt (own_nlt32 (x := j) (y := (0 : Int32)) (i := j.toInt) (j := 0) rfl rfl (by omega))).1) kk) ?_
    show own_Go p e below _ (T.setTop (mkF m 11 #[.val (.ref o), .val (.int j)] []))
    refine own_go (fun tt kk => XS.aloadN X.here hx rfl (hb hby d8_11) rfl rfl kk) ?_
    show own_Go p e below _ (T.setTop (mkF m 12 #[.val (.ref o), .val (.int j)] [(.ref o)]))
    obtain ⟨T3, X3, e3, st3⟩ := getF X hx hZ hown (host := "") (Or.inl (hw _ (List.mem_of_getElem? (i := 17) rfl))) Via.refl e1 C2 (g := (mkF m 12 #[.val (.ref o), .val (.int j)] [(.ref o)])) rfl rfl (hb hby d8_12)
    refine own_go st3 ?_
    show own_Go p e below _ (T3.setTop (mkF m 15 #[.val (.ref o), .val (.int j)] [(.ref t)]))
    refine own_go (fun tt kk => XS.aloadN X3.here hx rfl (hb hby d8_15) rfl rfl kk) ?_
    show own_Go p e below _ (T3.setTop (mkF m 16 #[.val (.ref o), .val (.int j)] [(.ref o), (.ref t)]))
    refine own_go (fun tt kk => XS.aloadN X3.here hx rfl (hb hby d8_16) rfl rfl kk) ?_
    show own_Go p e below _ (T3.setTop (mkF m 17 #[.val (.ref o), .val (.int j)] [(.ref o), (.ref o), (.ref t)]))
    obtain ⟨T4, X4, e4, st4⟩ := getF X3 hx hZ hown (host := "") (Or.inl (hw _ (List.mem_of_getElem? (i := 19) rfl))) Via.refl e3 C3 (g := (mkF m 17 #[.val (.ref o), .val (.int j)] [(.ref o), (.ref o), (.ref t)])) rfl rfl (hb hby d8_17)
    refine own_go st4 ?_
    show own_Go p e below _ (T4.setTop (mkF m 20 #[.val (.ref o), .val (.int j)] [(.ref k), (.ref o), (.ref t)]))
    refine own_go (fun tt kk => XS.iloadN X4.here hx rfl (hb hby d8_20) rfl kk) ?_
    show own_Go p e below _ (T4.setTop (mkF m 21 #[.val (.ref o), .val (.int j)] [(.int j), (.ref k), (.ref o), (.ref t)]))
    refine own_go (own_iaload X4 hx hZ e4 C7 (j := j) hjr (by omega) (pc := 21) (Ls := #[.val (.ref o), .val (.int j)]) (rest := [(.ref o), (.ref t)]) (hb hby d8_21)) ?_
    show own_Go p e below _ (T4.setTop (mkF m 22 #[.val (.ref o), .val (.int j)] [(.int (keys r)), (.ref o), (.ref t)]))
    obtain ⟨v5, L5, T5, X5, qq5, st5⟩ := own_callP X4 hx hZ hown (hw _ (List.mem_of_getElem? (i := 29) rfl)) (hw _ (List.mem_of_getElem? (i := 30) rfl)) (hw _ (List.mem_of_getElem? (i := 31) rfl)) (hw _ (List.mem_of_getElem? (i := 1) rfl)) (hw _ (List.mem_of_getElem? (i := 32) rfl)) (hw _ (List.mem_of_getElem? (i := 2) rfl)) (by decide) C1 (rmSlot l Z a0 hw [] o t k u tab' keys sums n (keys r) n0 h A1 hv d0 hd0 hf0) e4 (pc := 22) (Ls := #[.val (.ref o), .val (.int j)]) (argsL := [(.int (keys r))]) (rest := [(.ref t)]) rfl (by rw [hml]; rfl) pd_2 rfl rfl (hb hby d8_22) 1 (Nat.le_of_eq rfl) (by decide) (by decide) (by decide) (by decide)
    obtain ⟨z5, i, rfl, hz5, Pi, hh5, rfl⟩ := qq5
    refine own_go st5 ?_
    show own_Go p e below _ (T5.setTop (mkF m 25 #[.val (.ref o), .val (.int j)] [(.int z5), (.ref t)]))
    refine own_go (fun tt kk => XS.iconst X5.here hx rfl (hb hby d8_25) kk) ?_
    show own_Go p e below _ (T5.setTop (mkF m 26 #[.val (.ref o), .val (.int j)] [(.int (-1 : Int32)), (.int z5), (.ref t)]))
    obtain ⟨T6, h6, X6, e6, W6, st6⟩ := own_iastore X5 hx hZ hh5 C6 (j := z5) (x := (-1 : Int32)) hz5 Pi.lt (pc := 26) (Ls := #[.val (.ref o), .val (.int j)]) (rest := []) (hb hby d8_26)
    refine own_go st6 ?_
    show own_Go p e below _ (T6.setTop (mkF m 27 #[.val (.ref o), .val (.int j)] []))
    refine own_go (fun tt kk => XS.iinc X6.here hx rfl (hb hby d8_27) rfl (l' := #[.val (.ref o), .val (.int (j + (-1 : Int32)))]) rfl kk) ?_
    show own_Go p e below _ (T6.setTop (mkF m 30 #[.val (.ref o), .val (.int (j + (-1 : Int32)))] []))
    refine own_go (fun tt kk => XS.goto X6.here hx rfl (pc0 := 30) (pc' := 7) rfl (hb hby d8_30) (by decide) (by decide) kk) ?_
    show own_Go p e below _ (T6.setTop (mkF m 7 #[.val (.ref o), .val (.int (j + (-1 : Int32)))] []))
    exact ih _ _ _ _ _ (by omega) (own_dec hj hr) (I1.drop Pi) (A1.wTab W6) X6 e6 (Fr.snoc X6 (Fr.app Nl (Fr.nil _)) Bt)
set_option maxRecDepth 65536 in
set_option maxHeartbeats 40000000 in
theorem rmSize (l : Launch) (Z : State) (a0 : Array Value) (hw : ∀ d ∈ tables_1, d.before a0 Z = true) (ws : List Jvm.Cond) (o t k u : Addr) (tab keys : Nat → Int32) (sums : Nat → Int64) (n : Int32) (n0 : Nat) (h0 : Heap) (A : own_Ta Z n0 h0 o t k u tab keys sums n) :
    own_Met l Z ws (⟨"com/example/enabled_step/enabledstep/engine/Tally", "size", "()I"⟩ : MethodName) prog_46_method_3_code 1 (some .int) ({ frames := 0, cells := 0, slots := 0, locals := 0 } : Room) #[(.ref o)] h0 (fun v h L => v = some (.int n) ∧ h = h0 ∧ L = []) := by
  refine own_met pn_9 ?_
  intro p e s m below meth c s₁ hx hby hml hown hnm hret hlk hZ X0 e0
  refine own_entry (ef_9 m o) ?_
  show own_Go p e below _ (s₁.setTop (mkF m 0 #[.val (.ref o)] []))
  refine own_go (fun tt kk => XS.aloadN X0.here hx rfl (hb hby d9_0) rfl rfl kk) ?_
  show own_Go p e below _ (s₁.setTop (mkF m 1 #[.val (.ref o)] [(.ref o)]))
  obtain ⟨T1, X1, e1, st1⟩ := getF X0 hx hZ hown (host := "") (Or.inl (hw _ (List.mem_of_getElem? (i := 34) rfl))) Via.refl e0 A.2.2.2.2.1 (g := (mkF m 1 #[.val (.ref o)] [(.ref o)])) rfl rfl (hb hby d9_1)
  refine own_go st1 ?_
  show own_Go p e below _ (T1.setTop (mkF m 4 #[.val (.ref o)] [(.int n)]))
  exact own_retI X1 hx hlk hret (hb hby d9_4) ⟨rfl, e1, rfl⟩ (by decide) (by decide)
set_option maxRecDepth 65536 in
set_option maxHeartbeats 40000000 in
theorem rmKey (l : Launch) (Z : State) (a0 : Array Value) (hw : ∀ d ∈ tables_1, d.before a0 Z = true) (ws : List Jvm.Cond) (o t k u : Addr) (tab keys : Nat → Int32) (sums : Nat → Int64) (n : Int32) (i : Nat) (p1 : Int32) (n0 : Nat) (h0 : Heap) (A : own_Ta Z n0 h0 o t k u tab keys sums n) (hp : p1.toInt = i) (hi : i < 8) :
    own_Met l Z ws (⟨"com/example/enabled_step/enabledstep/engine/Tally", "key", "(I)I"⟩ : MethodName) prog_46_method_4_code 2 (some .int) ({ frames := 0, cells := 0, slots := 0, locals := 0 } : Room) #[(.ref o), (.int p1)] h0 (fun v h L => v = some (.int (keys i)) ∧ h = h0 ∧ L = []) := by
  refine own_met pn_10 ?_
  intro p e s m below meth c s₁ hx hby hml hown hnm hret hlk hZ X0 e0
  refine own_entry (ef_10 m o p1) ?_
  show own_Go p e below _ (s₁.setTop (mkF m 0 #[.val (.ref o), .val (.int p1)] []))
  refine own_go (fun tt kk => XS.aloadN X0.here hx rfl (hb hby d10_0) rfl rfl kk) ?_
  show own_Go p e below _ (s₁.setTop (mkF m 1 #[.val (.ref o), .val (.int p1)] [(.ref o)]))
  obtain ⟨T1, X1, e1, st1⟩ := getF X0 hx hZ hown (host := "") (Or.inl (hw _ (List.mem_of_getElem? (i := 19) rfl))) Via.refl e0 A.2.2.1 (g := (mkF m 1 #[.val (.ref o), .val (.int p1)] [(.ref o)])) rfl rfl (hb hby d10_1)
  refine own_go st1 ?_
  show own_Go p e below _ (T1.setTop (mkF m 4 #[.val (.ref o), .val (.int p1)] [(.ref k)]))
  refine own_go (fun tt kk => XS.iloadN X1.here hx rfl (hb hby d10_4) rfl kk) ?_
  show own_Go p e below _ (T1.setTop (mkF m 5 #[.val (.ref o), .val (.int p1)] [(.int p1), (.ref k)]))
  refine own_go (own_iaload X1 hx hZ e1 A.2.2.2.2.2.2.1 (j := p1) hp hi (pc := 5) (Ls := #[.val (.ref o), .val (.int p1)]) (rest := []) (hb hby d10_5)) ?_
  show own_Go p e below _ (T1.setTop (mkF m 6 #[.val (.ref o), .val (.int p1)] [(.int (keys i))]))
  exact own_retI X1 hx hlk hret (hb hby d10_6) ⟨rfl, e1, rfl⟩ (by decide) (by decide)
set_option maxRecDepth 65536 in
set_option maxHeartbeats 40000000 in
theorem rmSum (l : Launch) (Z : State) (a0 : Array Value) (hw : ∀ d ∈ tables_1, d.before a0 Z = true) (ws : List Jvm.Cond) (o t k u : Addr) (tab keys : Nat → Int32) (sums : Nat → Int64) (n : Int32) (i : Nat) (p1 : Int32) (n0 : Nat) (h0 : Heap) (A : own_Ta Z n0 h0 o t k u tab keys sums n) (hp : p1.toInt = i) (hi : i < 8) :
    own_Met l Z ws (⟨"com/example/enabled_step/enabledstep/engine/Tally", "sum", "(I)J"⟩ : MethodName) prog_46_method_5_code 2 (some .long) ({ frames := 0, cells := 0, slots := 0, locals := 0 } : Room) #[(.ref o), (.int p1)] h0 (fun v h L => v = some (.long (sums i)) ∧ h = h0 ∧ L = []) := by
  refine own_met pn_11 ?_
  intro p e s m below meth c s₁ hx hby hml hown hnm hret hlk hZ X0 e0
  refine own_entry (ef_11 m o p1) ?_
  show own_Go p e below _ (s₁.setTop (mkF m 0 #[.val (.ref o), .val (.int p1)] []))
  refine own_go (fun tt kk => XS.aloadN X0.here hx rfl (hb hby d11_0) rfl rfl kk) ?_
  show own_Go p e below _ (s₁.setTop (mkF m 1 #[.val (.ref o), .val (.int p1)] [(.ref o)]))
  obtain ⟨T1, X1, e1, st1⟩ := getF X0 hx hZ hown (host := "") (Or.inl (hw _ (List.mem_of_getElem? (i := 22) rfl))) Via.refl e0 A.2.2.2.1 (g := (mkF m 1 #[.val (.ref o), .val (.int p1)] [(.ref o)])) rfl rfl (hb hby d11_1)
  refine own_go st1 ?_
  show own_Go p e below _ (T1.setTop (mkF m 4 #[.val (.ref o), .val (.int p1)] [(.ref u)]))
  refine own_go (fun tt kk => XS.iloadN X1.here hx rfl (hb hby d11_4) rfl kk) ?_
  show own_Go p e below _ (T1.setTop (mkF m 5 #[.val (.ref o), .val (.int p1)] [(.int p1), (.ref u)]))
  refine own_go (own_laload X1 hx hZ e1 A.2.2.2.2.2.2.2.1 (j := p1) hp hi (pc := 5) (Ls := #[.val (.ref o), .val (.int p1)]) (rest := []) (hb hby d11_5)) ?_
  show own_Go p e below _ (T1.setTop (mkF m 6 #[.val (.ref o), .val (.int p1)] [(.long (sums i))]))
  exact own_retJ X1 hx hlk hret (hb hby d11_6) ⟨rfl, e1, rfl⟩ (by decide) (by decide)
set_option maxRecDepth 65536 in
set_option maxHeartbeats 40000000 in
theorem rm0 (l : Launch) (Z : State) (a0 : Array Value) (hw : ∀ d ∈ tables_1, d.before a0 Z = true) (ws : List Jvm.Cond) (p1 p2 p3 p4 : Int32) (q5 q6 : Int64) (h0 : Heap)  :
    own_Met l Z ws x code maxLocals ret room_1 #[(.int p1), (.int p2), (.int p3), (.int p4), (.long q5), (.long q6)] h0 (fun v h L => v = some (.int 1) ∧ Fr h0.size L) := by
  refine own_met pn_0 ?_
  intro p e s m below meth c s₁ hx hby hml hown hnm hret hlk hZ X0 e0
  refine own_entry (ef_0 m p1 p2 p3 p4 q5 q6) ?_
  show own_Go p e below _ (s₁.setTop (mkF m 0 #[.val (.int p1), .val (.int p2), .val (.int p3), .val (.int p4), .val (.long q5), .second, .val (.long q6), .second, .unset, .unset, .unset, .unset, .unset] []))
  obtain ⟨T1, h1, X1, e1, E1, A1, D1, -, st1⟩ := newO X0 hx hZ hown (hw _ (List.mem_of_getElem? (i := 0) rfl)) (hw _ (List.mem_of_getElem? (i := 1) rfl)) (hw _ (List.mem_of_getElem? (i := 2) rfl)) e0 (g := (mkF m 0 #[.val (.int p1), .val (.int p2), .val (.int p3), .val (.int p4), .val (.long q5), .second, .val (.long q6), .second, .unset, .unset, .unset, .unset, .unset] [])) rfl (hb hby at_0) (by decide) (by decide)
  obtain ⟨o, qe1⟩ : ∃ z, z = h0.size := ⟨_, rfl⟩
  rw [← qe1] at A1 D1 st1
  have F1_table : Fld Z h1 o "com/example/enabled_step/enabledstep/engine/Tally" "table" "[I" .null := D1 (Or.inl (hw _ (List.mem_of_getElem? (i := 18) rfl))) (ty := (.array .int)) (by decide)
  have F1_keys : Fld Z h1 o "com/example/enabled_step/enabledstep/engine/Tally" "keys" "[I" .null := D1 (Or.inl (hw _ (List.mem_of_getElem? (i := 20) rfl))) (ty := (.array .int)) (by decide)
  have F1_sums : Fld Z h1 o "com/example/enabled_step/enabledstep/engine/Tally" "sums" "[J" .null := D1 (Or.inl (hw _ (List.mem_of_getElem? (i := 23) rfl))) (ty := (.array .long)) (by decide)
  have F1_size : Fld Z h1 o "com/example/enabled_step/enabledstep/engine/Tally" "size" "I" (.int (0 : Int32)) := D1 (Or.inl (hw _ (List.mem_of_getElem? (i := 35) rfl))) (ty := .int) (by decide)
  refine own_go st1 ?_
  show own_Go p e below _ (T1.setTop (mkF m 3 #[.val (.int p1), .val (.int p2), .val (.int p3), .val (.int p4), .val (.long q5), .second, .val (.long q6), .second, .unset, .unset, .unset, .unset, .unset] [(.ref o)]))
  have go : h0.size ≤ o := Nat.le_of_eq qe1.symm
  have zz : h0.size ≤ h1.size := E1.1
  refine own_go (fun tt kk => XS.dup X1.here hx rfl (hb hby at_3) rfl rfl kk) ?_
  show own_Go p e below _ (T1.setTop (mkF m 4 #[.val (.int p1), .val (.int p2), .val (.int p3), .val (.int p4), .val (.long q5), .second, .val (.long q6), .second, .unset, .unset, .unset, .unset, .unset] [(.ref o), (.ref o)]))
  obtain ⟨v2, L2, T2, X2, qq2, st2⟩ := own_callI X1 hx hZ rfl hown (hw _ (List.mem_of_getElem? (i := 3) rfl)) (hw _ (List.mem_of_getElem? (i := 4) rfl)) (hw _ (List.mem_of_getElem? (i := 5) rfl)) (hw _ (List.mem_of_getElem? (i := 2) rfl)) (by decide) (rmInit l Z a0 hw [] o h0.size h1 A1 F1_table F1_keys F1_sums F1_size go (own_gt A1.lt) zz) e1 (pc := 4) (Ls := #[.val (.int p1), .val (.int p2), .val (.int p3), .val (.int p4), .val (.long q5), .second, .val (.long q6), .second, .unset, .unset, .unset, .unset, .unset]) (argsL := []) (rest := [(.ref o)]) rfl (by rw [hml]; rfl) pd_4 rfl rfl (hb hby at_4) 1 (Nat.le_of_eq rfl) (by decide) (by decide) (by decide) (by decide)
  obtain ⟨rfl, ⟨t, k, u, A0⟩, N2⟩ := qq2
  refine own_go st2 ?_
  show own_Go p e below _ (T2.setTop (mkF m 7 #[.val (.int p1), .val (.int p2), .val (.int p3), .val (.int p4), .val (.long q5), .second, .val (.long q6), .second, .unset, .unset, .unset, .unset, .unset] [(.ref o)]))
  have I0 : own_Inv (fun _ => -1) (fun _ => 0) 0 := own_Inv.nil fun _ _ => rfl
  have z64 : (0 : Int64).toInt = 0 := rfl
  have o64 : (1 : Int64).toInt = 1 := rfl
  have t64 : (2 : Int64).toInt = 2 := rfl
  have f64 : (4 : Int64).toInt = 4 := rfl
  refine own_go (fun tt kk => XS.astore X2.here hx rfl (hb hby at_7) rfl rfl (l' := #[.val (.int p1), .val (.int p2), .val (.int p3), .val (.int p4), .val (.long q5), .second, .val (.long q6), .second, .val (.ref o), .unset, .unset, .unset, .unset]) rfl kk) ?_
  show own_Go p e below _ (T2.setTop (mkF m 9 #[.val (.int p1), .val (.int p2), .val (.int p3), .val (.int p4), .val (.long q5), .second, .val (.long q6), .second, .val (.ref o), .unset, .unset, .unset, .unset] []))
  refine own_go (fun tt kk => XS.aload X2.here hx rfl (hb hby at_9) rfl rfl kk) ?_
  show own_Go p e below _ (T2.setTop (mkF m 11 #[.val (.int p1), .val (.int p2), .val (.int p3), .val (.int p4), .val (.long q5), .second, .val (.long q6), .second, .val (.ref o), .unset, .unset, .unset, .unset] [(.ref o)]))
  refine own_go (fun tt kk => XS.iloadN X2.here hx rfl (hb hby at_11) rfl kk) ?_
  show own_Go p e below _ (T2.setTop (mkF m 12 #[.val (.int p1), .val (.int p2), .val (.int p3), .val (.int p4), .val (.long q5), .second, .val (.long q6), .second, .val (.ref o), .unset, .unset, .unset, .unset] [(.int p1), (.ref o)]))
  refine own_go (fun tt kk => XS.lconst X2.here hx rfl (hb hby at_12) kk) ?_
  show own_Go p e below _ (T2.setTop (mkF m 13 #[.val (.int p1), .val (.int p2), .val (.int p3), .val (.int p4), .val (.long q5), .second, .val (.long q6), .second, .val (.ref o), .unset, .unset, .unset, .unset] [(.long (1 : Int64)), (.int p1), (.ref o)]))
  obtain ⟨v3, L3, T3, X3, qq3, st3⟩ := own_callV X2 hx hZ hown (hw _ (List.mem_of_getElem? (i := 24) rfl)) (hw _ (List.mem_of_getElem? (i := 25) rfl)) (hw _ (List.mem_of_getElem? (i := 27) rfl)) (hw _ (List.mem_of_getElem? (i := 26) rfl)) (hw _ (List.mem_of_getElem? (i := 28) rfl)) (hw _ (List.mem_of_getElem? (i := 2) rfl)) (by decide) A0.1 (rmAdd l Z a0 hw [] o t k u _ _ _ _ 0 p1 (1 : Int64) h0.size T2.heap A0 (rfl : (0 : Int32).toInt = ((0 : Nat) : Int)) (by omega) I0 (fun m hm => absurd hm (Nat.not_lt_zero _))) (rfl : T2.heap = _) (pc := 13) (Ls := #[.val (.int p1), .val (.int p2), .val (.int p3), .val (.int p4), .val (.long q5), .second, .val (.long q6), .second, .val (.ref o), .unset, .unset, .unset, .unset]) (argsL := [(.int p1), (.long (1 : Int64))]) (rest := []) rfl (by rw [hml]; rfl) pd_5 rfl rfl (hb hby at_13) 0 (Nat.le_of_eq rfl) (by decide) (by decide) (by decide) (by decide)
  obtain ⟨rfl, ⟨tab1, keys1, sums1, n1, N1', A1, hn1, I1, hc1⟩, Nr1⟩ := qq3
  refine own_go st3 ?_
  show own_Go p e below _ (T3.setTop (mkF m 16 #[.val (.int p1), .val (.int p2), .val (.int p3), .val (.int p4), .val (.long q5), .second, .val (.long q6), .second, .val (.ref o), .unset, .unset, .unset, .unset] []))
  have b1 : N1' ≤ 1 ∧ ∀ m, m < N1' → 0 ≤ (sums1 m).toInt ∧ (sums1 m).toInt ≤ 1 := by
    rcases hc1 with ⟨r1, r2, m, hm, -⟩ | ⟨r1, r2, r3, r4⟩
    · omega
    · refine ⟨by omega, fun m hm => ?_⟩
      rw [r4, show m = 0 by omega, own_upd_at]; omega
  refine own_go (fun tt kk => XS.aload X3.here hx rfl (hb hby at_16) rfl rfl kk) ?_
  show own_Go p e below _ (T3.setTop (mkF m 18 #[.val (.int p1), .val (.int p2), .val (.int p3), .val (.int p4), .val (.long q5), .second, .val (.long q6), .second, .val (.ref o), .unset, .unset, .unset, .unset] [(.ref o)]))
  refine own_go (fun tt kk => XS.iloadN X3.here hx rfl (hb hby at_18) rfl kk) ?_
  show own_Go p e below _ (T3.setTop (mkF m 19 #[.val (.int p1), .val (.int p2), .val (.int p3), .val (.int p4), .val (.long q5), .second, .val (.long q6), .second, .val (.ref o), .unset, .unset, .unset, .unset] [(.int p2), (.ref o)]))
  refine own_go (X3.ldc2Long hx hown (mvT hZ (hw _ (List.mem_of_getElem? (i := 40) rfl))) (g := (mkF m 19 #[.val (.int p1), .val (.int p2), .val (.int p3), .val (.int p4), .val (.long q5), .second, .val (.long q6), .second, .val (.ref o), .unset, .unset, .unset, .unset] [(.int p2), (.ref o)])) rfl (hb hby at_19)) ?_
  show own_Go p e below _ (T3.setTop (mkF m 22 #[.val (.int p1), .val (.int p2), .val (.int p3), .val (.int p4), .val (.long q5), .second, .val (.long q6), .second, .val (.ref o), .unset, .unset, .unset, .unset] [(.long (2 : Int64)), (.int p2), (.ref o)]))
  obtain ⟨v4, L4, T4, X4, qq4, st4⟩ := own_callV X3 hx hZ hown (hw _ (List.mem_of_getElem? (i := 24) rfl)) (hw _ (List.mem_of_getElem? (i := 25) rfl)) (hw _ (List.mem_of_getElem? (i := 27) rfl)) (hw _ (List.mem_of_getElem? (i := 26) rfl)) (hw _ (List.mem_of_getElem? (i := 28) rfl)) (hw _ (List.mem_of_getElem? (i := 2) rfl)) (by decide) A1.1 (rmAdd l Z a0 hw [] o t k u _ _ _ _ N1' p2 (2 : Int64) h0.size T3.heap A1 hn1 (by omega) I1 (fun m hm _ => by have := b1.2 m hm; omega)) (rfl : T3.heap = _) (pc := 22) (Ls := #[.val (.int p1), .val (.int p2), .val (.int p3), .val (.int p4), .val (.long q5), .second, .val (.long q6), .second, .val (.ref o), .unset, .unset, .unset, .unset]) (argsL := [(.int p2), (.long (2 : Int64))]) (rest := []) rfl (by rw [hml]; rfl) pd_5 rfl rfl (hb hby at_22) 0 (Nat.le_of_eq rfl) (by decide) (by decide) (by decide) (by decide)
  obtain ⟨rfl, ⟨tab2, keys2, sums2, n2, N2', A2, hn2, I2, hc2⟩, Nr2⟩ := qq4
  refine own_go st4 ?_
  show own_Go p e below _ (T4.setTop (mkF m 25 #[.val (.int p1), .val (.int p2), .val (.int p3), .val (.int p4), .val (.long q5), .second, .val (.long q6), .second, .val (.ref o), .unset, .unset, .unset, .unset] []))
  have b2 : N2' ≤ 2 ∧ ∀ m, m < N2' → 0 ≤ (sums2 m).toInt ∧ (sums2 m).toInt ≤ 3 := by
    rcases hc2 with ⟨r1, r2, m', hm', r3, r4⟩ | ⟨r1, r2, r3, r4⟩
    · refine ⟨by omega, fun m hm => ?_⟩
      have q := b1.2 m (by omega); have q' := b1.2 m' hm'
      have e := c_ladd (sums1 m') 2; have r := rng64 (sums1 m' + 2)
      by_cases c : m = m'
      · rw [r4, c, own_upd_at]; omega
      · rw [r4, own_upd_ne _ _ c]; omega
    · refine ⟨by omega, fun m hm => ?_⟩
      by_cases c : m = N1'
      · rw [r4, c, own_upd_at]; omega
      · rw [r4, own_upd_ne _ _ c, own_upd_ne _ _ c]; have q := b1.2 m (by omega); omega
  refine own_go (fun tt kk => XS.aload X4.here hx rfl (hb hby at_25) rfl rfl kk) ?_
  show own_Go p e below _ (T4.setTop (mkF m 27 #[.val (.int p1), .val (.int p2), .val (.int p3), .val (.int p4), .val (.long q5), .second, .val (.long q6), .second, .val (.ref o), .unset, .unset, .unset, .unset] [(.ref o)]))
  refine own_go (fun tt kk => XS.iloadN X4.here hx rfl (hb hby at_27) rfl kk) ?_
  show own_Go p e below _ (T4.setTop (mkF m 28 #[.val (.int p1), .val (.int p2), .val (.int p3), .val (.int p4), .val (.long q5), .second, .val (.long q6), .second, .val (.ref o), .unset, .unset, .unset, .unset] [(.int p3), (.ref o)]))
  refine own_go (X4.ldc2Long hx hown (mvT hZ (hw _ (List.mem_of_getElem? (i := 41) rfl))) (g := (mkF m 28 #[.val (.int p1), .val (.int p2), .val (.int p3), .val (.int p4), .val (.long q5), .second, .val (.long q6), .second, .val (.ref o), .unset, .unset, .unset, .unset] [(.int p3), (.ref o)])) rfl (hb hby at_28)) ?_
  show own_Go p e below _ (T4.setTop (mkF m 31 #[.val (.int p1), .val (.int p2), .val (.int p3), .val (.int p4), .val (.long q5), .second, .val (.long q6), .second, .val (.ref o), .unset, .unset, .unset, .unset] [(.long (4 : Int64)), (.int p3), (.ref o)]))
  obtain ⟨v5, L5, T5, X5, qq5, st5⟩ := own_callV X4 hx hZ hown (hw _ (List.mem_of_getElem? (i := 24) rfl)) (hw _ (List.mem_of_getElem? (i := 25) rfl)) (hw _ (List.mem_of_getElem? (i := 27) rfl)) (hw _ (List.mem_of_getElem? (i := 26) rfl)) (hw _ (List.mem_of_getElem? (i := 28) rfl)) (hw _ (List.mem_of_getElem? (i := 2) rfl)) (by decide) A2.1 (rmAdd l Z a0 hw [] o t k u _ _ _ _ N2' p3 (4 : Int64) h0.size T4.heap A2 hn2 b2.1 I2 (fun m hm _ => by have := b2.2 m hm; omega)) (rfl : T4.heap = _) (pc := 31) (Ls := #[.val (.int p1), .val (.int p2), .val (.int p3), .val (.int p4), .val (.long q5), .second, .val (.long q6), .second, .val (.ref o), .unset, .unset, .unset, .unset]) (argsL := [(.int p3), (.long (4 : Int64))]) (rest := []) rfl (by rw [hml]; rfl) pd_5 rfl rfl (hb hby at_31) 0 (Nat.le_of_eq rfl) (by decide) (by decide) (by decide) (by decide)
  obtain ⟨rfl, ⟨tab3, keys3, sums3, n3, N3', A3, hn3, I3, hc3⟩, Nr3⟩ := qq5
  refine own_go st5 ?_
  show own_Go p e below _ (T5.setTop (mkF m 34 #[.val (.int p1), .val (.int p2), .val (.int p3), .val (.int p4), .val (.long q5), .second, .val (.long q6), .second, .val (.ref o), .unset, .unset, .unset, .unset] []))
  have b3 : N3' ≤ 3 := by rcases hc3 with ⟨r1, _⟩ | ⟨r1, _⟩ <;> omega
  refine own_go (fun tt kk => XS.aload X5.here hx rfl (hb hby at_34) rfl rfl kk) ?_
  show own_Go p e below _ (T5.setTop (mkF m 36 #[.val (.int p1), .val (.int p2), .val (.int p3), .val (.int p4), .val (.long q5), .second, .val (.long q6), .second, .val (.ref o), .unset, .unset, .unset, .unset] [(.ref o)]))
  obtain ⟨v6, L6, T6, X6, qq6, st6⟩ := own_callV X5 hx hZ hown (hw _ (List.mem_of_getElem? (i := 42) rfl)) (hw _ (List.mem_of_getElem? (i := 43) rfl)) (hw _ (List.mem_of_getElem? (i := 45) rfl)) (hw _ (List.mem_of_getElem? (i := 44) rfl)) (hw _ (List.mem_of_getElem? (i := 46) rfl)) (hw _ (List.mem_of_getElem? (i := 2) rfl)) (by decide) A3.1 (rmClear l Z a0 hw [] o t k u _ _ _ _ N3' h0.size T5.heap A3 hn3 b3 I3) (rfl : T5.heap = _) (pc := 36) (Ls := #[.val (.int p1), .val (.int p2), .val (.int p3), .val (.int p4), .val (.long q5), .second, .val (.long q6), .second, .val (.ref o), .unset, .unset, .unset, .unset]) (argsL := []) (rest := []) rfl (by rw [hml]; rfl) pd_4 rfl rfl (hb hby at_36) 0 (Nat.le_of_eq rfl) (by decide) (by decide) (by decide) (by decide)
  obtain ⟨rfl, ⟨tab4, A4, I4⟩, Nr4⟩ := qq6
  refine own_go st6 ?_
  show own_Go p e below _ (T6.setTop (mkF m 39 #[.val (.int p1), .val (.int p2), .val (.int p3), .val (.int p4), .val (.long q5), .second, .val (.long q6), .second, .val (.ref o), .unset, .unset, .unset, .unset] []))
  refine own_go (fun tt kk => XS.aload X6.here hx rfl (hb hby at_39) rfl rfl kk) ?_
  show own_Go p e below _ (T6.setTop (mkF m 41 #[.val (.int p1), .val (.int p2), .val (.int p3), .val (.int p4), .val (.long q5), .second, .val (.long q6), .second, .val (.ref o), .unset, .unset, .unset, .unset] [(.ref o)]))
  obtain ⟨v7, L7, T7, X7, qq7, st7⟩ := own_callV X6 hx hZ hown (hw _ (List.mem_of_getElem? (i := 47) rfl)) (hw _ (List.mem_of_getElem? (i := 48) rfl)) (hw _ (List.mem_of_getElem? (i := 50) rfl)) (hw _ (List.mem_of_getElem? (i := 49) rfl)) (hw _ (List.mem_of_getElem? (i := 51) rfl)) (hw _ (List.mem_of_getElem? (i := 2) rfl)) (by decide) A4.1 (rmSize l Z a0 hw [] o t k u _ _ _ _  h0.size T6.heap A4) (rfl : T6.heap = _) (pc := 41) (Ls := #[.val (.int p1), .val (.int p2), .val (.int p3), .val (.int p4), .val (.long q5), .second, .val (.long q6), .second, .val (.ref o), .unset, .unset, .unset, .unset]) (argsL := []) (rest := []) rfl (by rw [hml]; rfl) pd_6 rfl rfl (hb hby at_41) 0 (Nat.le_of_eq rfl) (by decide) (by decide) (by decide) (by decide)
  obtain ⟨rfl, hh7, rfl⟩ := qq7
  refine own_go st7 ?_
  show own_Go p e below _ (T7.setTop (mkF m 44 #[.val (.int p1), .val (.int p2), .val (.int p3), .val (.int p4), .val (.long q5), .second, .val (.long q6), .second, .val (.ref o), .unset, .unset, .unset, .unset] [(.int (0 : Int32))]))
  refine own_go (fun tt kk => XS.ifYes X7.here hx rfl (pc0 := 44) (pc' := 49) rfl (hb hby at_44) rfl ((if0 _ _).trans (teq (own_eq32 (x := (0 : Int32)) (y := (0 : Int32)) (i := 0) (j := 0) rfl rfl rfl)).1) (by decide) (by decide) kk) ?_
  show own_Go p e below _ (T7.setTop (mkF m 49 #[.val (.int p1), .val (.int p2), .val (.int p3), .val (.int p4), .val (.long q5), .second, .val (.long q6), .second, .val (.ref o), .unset, .unset, .unset, .unset] []))
  refine own_go (fun tt kk => XS.lload X7.here hx rfl (hb hby at_49) rfl kk) ?_
  show own_Go p e below _ (T7.setTop (mkF m 51 #[.val (.int p1), .val (.int p2), .val (.int p3), .val (.int p4), .val (.long q5), .second, .val (.long q6), .second, .val (.ref o), .unset, .unset, .unset, .unset] [(.long q5)]))
  refine own_go (fun tt kk => XS.iconst X7.here hx rfl (hb hby at_51) kk) ?_
  show own_Go p e below _ (T7.setTop (mkF m 52 #[.val (.int p1), .val (.int p2), .val (.int p3), .val (.int p4), .val (.long q5), .second, .val (.long q6), .second, .val (.ref o), .unset, .unset, .unset, .unset] [(.int (1 : Int32)), (.long q5)]))
  refine own_go (fun tt kk => XS.lshr X7.here hx rfl (hb hby at_52) rfl kk) ?_
  show own_Go p e below _ (T7.setTop (mkF m 53 #[.val (.int p1), .val (.int p2), .val (.int p3), .val (.int p4), .val (.long q5), .second, .val (.long q6), .second, .val (.ref o), .unset, .unset, .unset, .unset] [(.long (q5 >>> ((1 : Int32) &&& 0x3f).toInt64))]))
  refine own_go (fun tt kk => XS.lstore X7.here hx rfl (hb hby at_53) rfl (l' := #[.val (.int p1), .val (.int p2), .val (.int p3), .val (.int p4), .val (.long q5), .second, .val (.long q6), .second, .val (.ref o), .val (.long (q5 >>> ((1 : Int32) &&& 0x3f).toInt64)), .second, .unset, .unset]) rfl kk) ?_
  show own_Go p e below _ (T7.setTop (mkF m 55 #[.val (.int p1), .val (.int p2), .val (.int p3), .val (.int p4), .val (.long q5), .second, .val (.long q6), .second, .val (.ref o), .val (.long (q5 >>> ((1 : Int32) &&& 0x3f).toInt64)), .second, .unset, .unset] []))
  refine own_go (fun tt kk => XS.lload X7.here hx rfl (hb hby at_55) rfl kk) ?_
  show own_Go p e below _ (T7.setTop (mkF m 57 #[.val (.int p1), .val (.int p2), .val (.int p3), .val (.int p4), .val (.long q5), .second, .val (.long q6), .second, .val (.ref o), .val (.long (q5 >>> ((1 : Int32) &&& 0x3f).toInt64)), .second, .unset, .unset] [(.long q6)]))
  refine own_go (fun tt kk => XS.iconst X7.here hx rfl (hb hby at_57) kk) ?_
  show own_Go p e below _ (T7.setTop (mkF m 58 #[.val (.int p1), .val (.int p2), .val (.int p3), .val (.int p4), .val (.long q5), .second, .val (.long q6), .second, .val (.ref o), .val (.long (q5 >>> ((1 : Int32) &&& 0x3f).toInt64)), .second, .unset, .unset] [(.int (1 : Int32)), (.long q6)]))
  refine own_go (fun tt kk => XS.lshr X7.here hx rfl (hb hby at_58) rfl kk) ?_
  show own_Go p e below _ (T7.setTop (mkF m 59 #[.val (.int p1), .val (.int p2), .val (.int p3), .val (.int p4), .val (.long q5), .second, .val (.long q6), .second, .val (.ref o), .val (.long (q5 >>> ((1 : Int32) &&& 0x3f).toInt64)), .second, .unset, .unset] [(.long (q6 >>> ((1 : Int32) &&& 0x3f).toInt64))]))
  refine own_go (fun tt kk => XS.lstore X7.here hx rfl (hb hby at_59) rfl (l' := #[.val (.int p1), .val (.int p2), .val (.int p3), .val (.int p4), .val (.long q5), .second, .val (.long q6), .second, .val (.ref o), .val (.long (q5 >>> ((1 : Int32) &&& 0x3f).toInt64)), .second, .val (.long (q6 >>> ((1 : Int32) &&& 0x3f).toInt64)), .second]) rfl kk) ?_
  show own_Go p e below _ (T7.setTop (mkF m 61 #[.val (.int p1), .val (.int p2), .val (.int p3), .val (.int p4), .val (.long q5), .second, .val (.long q6), .second, .val (.ref o), .val (.long (q5 >>> ((1 : Int32) &&& 0x3f).toInt64)), .second, .val (.long (q6 >>> ((1 : Int32) &&& 0x3f).toInt64)), .second] []))
  refine own_go (fun tt kk => XS.aload X7.here hx rfl (hb hby at_61) rfl rfl kk) ?_
  show own_Go p e below _ (T7.setTop (mkF m 63 #[.val (.int p1), .val (.int p2), .val (.int p3), .val (.int p4), .val (.long q5), .second, .val (.long q6), .second, .val (.ref o), .val (.long (q5 >>> ((1 : Int32) &&& 0x3f).toInt64)), .second, .val (.long (q6 >>> ((1 : Int32) &&& 0x3f).toInt64)), .second] [(.ref o)]))
  refine own_go (fun tt kk => XS.iloadN X7.here hx rfl (hb hby at_63) rfl kk) ?_
  show own_Go p e below _ (T7.setTop (mkF m 64 #[.val (.int p1), .val (.int p2), .val (.int p3), .val (.int p4), .val (.long q5), .second, .val (.long q6), .second, .val (.ref o), .val (.long (q5 >>> ((1 : Int32) &&& 0x3f).toInt64)), .second, .val (.long (q6 >>> ((1 : Int32) &&& 0x3f).toInt64)), .second] [(.int p4), (.ref o)]))
  refine own_go (fun tt kk => XS.lload X7.here hx rfl (hb hby at_64) rfl kk) ?_
  show own_Go p e below _ (T7.setTop (mkF m 66 #[.val (.int p1), .val (.int p2), .val (.int p3), .val (.int p4), .val (.long q5), .second, .val (.long q6), .second, .val (.ref o), .val (.long (q5 >>> ((1 : Int32) &&& 0x3f).toInt64)), .second, .val (.long (q6 >>> ((1 : Int32) &&& 0x3f).toInt64)), .second] [(.long (q5 >>> ((1 : Int32) &&& 0x3f).toInt64)), (.int p4), (.ref o)]))
  have hp : (q5 >>> ((1 : Int32) &&& 0x3f).toInt64).toInt = q5.toInt / 2 := c_lshr _ _ 1 (by decide)
  have hq : (q6 >>> ((1 : Int32) &&& 0x3f).toInt64).toInt = q6.toInt / 2 := c_lshr _ _ 1 (by decide)
  obtain ⟨pp, hpp⟩ : ∃ z, z = (q5 >>> ((1 : Int32) &&& 0x3f).toInt64) := ⟨_, rfl⟩
  obtain ⟨qq, hqq⟩ : ∃ z, z = (q6 >>> ((1 : Int32) &&& 0x3f).toInt64) := ⟨_, rfl⟩
  rw [← hpp] at hp ⊢
  rw [← hqq] at hq ⊢
  show own_Go p e below _ (T7.setTop (mkF m 66 #[.val (.int p1), .val (.int p2), .val (.int p3), .val (.int p4), .val (.long q5), .second, .val (.long q6), .second, .val (.ref o), .val (.long pp), .second, .val (.long qq), .second] [(.long pp), (.int p4), (.ref o)]))
  have r5 := rng64 q5
  have r6 := rng64 q6
  obtain ⟨v8, L8, T8, X8, qq8, st8⟩ := own_callV X7 hx hZ hown (hw _ (List.mem_of_getElem? (i := 24) rfl)) (hw _ (List.mem_of_getElem? (i := 25) rfl)) (hw _ (List.mem_of_getElem? (i := 27) rfl)) (hw _ (List.mem_of_getElem? (i := 26) rfl)) (hw _ (List.mem_of_getElem? (i := 28) rfl)) (hw _ (List.mem_of_getElem? (i := 2) rfl)) (by decide) A4.1 (rmAdd l Z a0 hw [] o t k u _ _ _ _ 0 p4 pp h0.size T6.heap A4 (rfl : (0 : Int32).toInt = ((0 : Nat) : Int)) (by omega) I4 (fun m hm => absurd hm (Nat.not_lt_zero _))) hh7 (pc := 66) (Ls := #[.val (.int p1), .val (.int p2), .val (.int p3), .val (.int p4), .val (.long q5), .second, .val (.long q6), .second, .val (.ref o), .val (.long pp), .second, .val (.long qq), .second]) (argsL := [(.int p4), (.long pp)]) (rest := []) rfl (by rw [hml]; rfl) pd_5 rfl rfl (hb hby at_66) 0 (Nat.le_of_eq rfl) (by decide) (by decide) (by decide) (by decide)
  obtain ⟨rfl, ⟨tab5, keys5, sums5, n5, N5', A5, hn5, I5, hc5⟩, Nr5⟩ := qq8
  refine own_go st8 ?_
  show own_Go p e below _ (T8.setTop (mkF m 69 #[.val (.int p1), .val (.int p2), .val (.int p3), .val (.int p4), .val (.long q5), .second, .val (.long q6), .second, .val (.ref o), .val (.long pp), .second, .val (.long qq), .second] []))
  obtain ⟨hN5, hk5, hs5⟩ : N5' = 1 ∧ keys5 0 = p4 ∧ sums5 0 = pp := by
    rcases hc5 with ⟨r1, r2, m, hm, -⟩ | ⟨r1, r2, r3, r4⟩
    · omega
    · exact ⟨by omega, by rw [r3, own_upd_at], by rw [r4, own_upd_at]⟩
  subst hN5
  refine own_go (fun tt kk => XS.aload X8.here hx rfl (hb hby at_69) rfl rfl kk) ?_
  show own_Go p e below _ (T8.setTop (mkF m 71 #[.val (.int p1), .val (.int p2), .val (.int p3), .val (.int p4), .val (.long q5), .second, .val (.long q6), .second, .val (.ref o), .val (.long pp), .second, .val (.long qq), .second] [(.ref o)]))
  refine own_go (fun tt kk => XS.iloadN X8.here hx rfl (hb hby at_71) rfl kk) ?_
  show own_Go p e below _ (T8.setTop (mkF m 72 #[.val (.int p1), .val (.int p2), .val (.int p3), .val (.int p4), .val (.long q5), .second, .val (.long q6), .second, .val (.ref o), .val (.long pp), .second, .val (.long qq), .second] [(.int p2), (.ref o)]))
  refine own_go (fun tt kk => XS.lload X8.here hx rfl (hb hby at_72) rfl kk) ?_
  show own_Go p e below _ (T8.setTop (mkF m 74 #[.val (.int p1), .val (.int p2), .val (.int p3), .val (.int p4), .val (.long q5), .second, .val (.long q6), .second, .val (.ref o), .val (.long pp), .second, .val (.long qq), .second] [(.long qq), (.int p2), (.ref o)]))
  obtain ⟨v9, L9, T9, X9, qq9, st9⟩ := own_callV X8 hx hZ hown (hw _ (List.mem_of_getElem? (i := 24) rfl)) (hw _ (List.mem_of_getElem? (i := 25) rfl)) (hw _ (List.mem_of_getElem? (i := 27) rfl)) (hw _ (List.mem_of_getElem? (i := 26) rfl)) (hw _ (List.mem_of_getElem? (i := 28) rfl)) (hw _ (List.mem_of_getElem? (i := 2) rfl)) (by decide) A5.1 (rmAdd l Z a0 hw [] o t k u _ _ _ _ 1 p2 qq h0.size T8.heap A5 hn5 (by omega) I5 (fun m hm _ => by rw [show m = 0 by omega, hs5]; omega)) (rfl : T8.heap = _) (pc := 74) (Ls := #[.val (.int p1), .val (.int p2), .val (.int p3), .val (.int p4), .val (.long q5), .second, .val (.long q6), .second, .val (.ref o), .val (.long pp), .second, .val (.long qq), .second]) (argsL := [(.int p2), (.long qq)]) (rest := []) rfl (by rw [hml]; rfl) pd_5 rfl rfl (hb hby at_74) 0 (Nat.le_of_eq rfl) (by decide) (by decide) (by decide) (by decide)
  obtain ⟨rfl, ⟨tab6, keys6, sums6, n6, N6', A6, hn6, I6, hc6⟩, Nr6⟩ := qq9
  refine own_go st9 ?_
  show own_Go p e below _ (T9.setTop (mkF m 77 #[.val (.int p1), .val (.int p2), .val (.int p3), .val (.int p4), .val (.long q5), .second, .val (.long q6), .second, .val (.ref o), .val (.long pp), .second, .val (.long qq), .second] []))
  refine own_go (fun tt kk => XS.iloadN X9.here hx rfl (hb hby at_77) rfl kk) ?_
  show own_Go p e below _ (T9.setTop (mkF m 78 #[.val (.int p1), .val (.int p2), .val (.int p3), .val (.int p4), .val (.long q5), .second, .val (.long q6), .second, .val (.ref o), .val (.long pp), .second, .val (.long qq), .second] [(.int p4)]))
  refine own_go (fun tt kk => XS.iloadN X9.here hx rfl (hb hby at_78) rfl kk) ?_
  show own_Go p e below _ (T9.setTop (mkF m 79 #[.val (.int p1), .val (.int p2), .val (.int p3), .val (.int p4), .val (.long q5), .second, .val (.long q6), .second, .val (.ref o), .val (.long pp), .second, .val (.long qq), .second] [(.int p2), (.int p4)]))
  by_cases hc79 : p4.toInt = p2.toInt
  · refine own_go (fun tt kk => XS.icmpNo X9.here hx rfl (hb hby at_79) rfl (teq (own_eq32 (x := p4) (y := p2) (i := p4.toInt) (j := p2.toInt) rfl rfl hc79)).2 kk) ?_
    show own_Go p e below _ (T9.setTop (mkF m 82 #[.val (.int p1), .val (.int p2), .val (.int p3), .val (.int p4), .val (.long q5), .second, .val (.long q6), .second, .val (.ref o), .val (.long pp), .second, .val (.long qq), .second] []))
    have e46 : p4 = p2 := Int32.toInt_inj.mp hc79
    obtain ⟨hN6, hk6, hs6⟩ : N6' = 1 ∧ keys6 0 = p4 ∧ sums6 0 = pp + qq := by
      rcases hc6 with ⟨r1, r2, m, hm, r3, r4⟩ | ⟨r1, r2, r3, r4⟩
      · refine ⟨r1, by rw [r2]; exact hk5, ?_⟩
        rw [r4, show m = 0 by omega, own_upd_at, hs5]
      · exact absurd (hk5.trans e46) (r2 0 (by omega))
    subst hN6
    obtain rfl : n6 = 1 := Int32.toInt_inj.mp hn6
    refine own_go (fun tt kk => XS.aload X9.here hx rfl (hb hby at_82) rfl rfl kk) ?_
    show own_Go p e below _ (T9.setTop (mkF m 84 #[.val (.int p1), .val (.int p2), .val (.int p3), .val (.int p4), .val (.long q5), .second, .val (.long q6), .second, .val (.ref o), .val (.long pp), .second, .val (.long qq), .second] [(.ref o)]))
    obtain ⟨v10, L10, T10, X10, qq10, st10⟩ := own_callV X9 hx hZ hown (hw _ (List.mem_of_getElem? (i := 47) rfl)) (hw _ (List.mem_of_getElem? (i := 48) rfl)) (hw _ (List.mem_of_getElem? (i := 50) rfl)) (hw _ (List.mem_of_getElem? (i := 49) rfl)) (hw _ (List.mem_of_getElem? (i := 51) rfl)) (hw _ (List.mem_of_getElem? (i := 2) rfl)) (by decide) A6.1 (rmSize l Z a0 hw [] o t k u _ _ _ _  h0.size T9.heap A6) (rfl : T9.heap = _) (pc := 84) (Ls := #[.val (.int p1), .val (.int p2), .val (.int p3), .val (.int p4), .val (.long q5), .second, .val (.long q6), .second, .val (.ref o), .val (.long pp), .second, .val (.long qq), .second]) (argsL := []) (rest := []) rfl (by rw [hml]; rfl) pd_6 rfl rfl (hb hby at_84) 0 (Nat.le_of_eq rfl) (by decide) (by decide) (by decide) (by decide)
    obtain ⟨rfl, hh10, rfl⟩ := qq10
    refine own_go st10 ?_
    show own_Go p e below _ (T10.setTop (mkF m 87 #[.val (.int p1), .val (.int p2), .val (.int p3), .val (.int p4), .val (.long q5), .second, .val (.long q6), .second, .val (.ref o), .val (.long pp), .second, .val (.long qq), .second] [(.int (1 : Int32))]))
    refine own_go (fun tt kk => XS.iconst X10.here hx rfl (hb hby at_87) kk) ?_
    show own_Go p e below _ (T10.setTop (mkF m 88 #[.val (.int p1), .val (.int p2), .val (.int p3), .val (.int p4), .val (.long q5), .second, .val (.long q6), .second, .val (.ref o), .val (.long pp), .second, .val (.long qq), .second] [(.int (1 : Int32)), (.int (1 : Int32))]))
    refine own_go (fun tt kk => XS.icmpNo X10.here hx rfl (hb hby at_88) rfl (teq (own_eq32 (x := (1 : Int32)) (y := (1 : Int32)) (i := 1) (j := 1) rfl rfl rfl)).2 kk) ?_
    show own_Go p e below _ (T10.setTop (mkF m 91 #[.val (.int p1), .val (.int p2), .val (.int p3), .val (.int p4), .val (.long q5), .second, .val (.long q6), .second, .val (.ref o), .val (.long pp), .second, .val (.long qq), .second] []))
    refine own_go (fun tt kk => XS.aload X10.here hx rfl (hb hby at_91) rfl rfl kk) ?_
    show own_Go p e below _ (T10.setTop (mkF m 93 #[.val (.int p1), .val (.int p2), .val (.int p3), .val (.int p4), .val (.long q5), .second, .val (.long q6), .second, .val (.ref o), .val (.long pp), .second, .val (.long qq), .second] [(.ref o)]))
    refine own_go (fun tt kk => XS.iconst X10.here hx rfl (hb hby at_93) kk) ?_
    show own_Go p e below _ (T10.setTop (mkF m 94 #[.val (.int p1), .val (.int p2), .val (.int p3), .val (.int p4), .val (.long q5), .second, .val (.long q6), .second, .val (.ref o), .val (.long pp), .second, .val (.long qq), .second] [(.int (0 : Int32)), (.ref o)]))
    obtain ⟨v11, L11, T11, X11, qq11, st11⟩ := own_callV X10 hx hZ hown (hw _ (List.mem_of_getElem? (i := 52) rfl)) (hw _ (List.mem_of_getElem? (i := 53) rfl)) (hw _ (List.mem_of_getElem? (i := 55) rfl)) (hw _ (List.mem_of_getElem? (i := 54) rfl)) (hw _ (List.mem_of_getElem? (i := 56) rfl)) (hw _ (List.mem_of_getElem? (i := 2) rfl)) (by decide) A6.1 (rmKey l Z a0 hw [] o t k u _ _ _ _ 0 0 h0.size T9.heap A6 rfl (by omega)) hh10 (pc := 94) (Ls := #[.val (.int p1), .val (.int p2), .val (.int p3), .val (.int p4), .val (.long q5), .second, .val (.long q6), .second, .val (.ref o), .val (.long pp), .second, .val (.long qq), .second]) (argsL := [(.int (0 : Int32))]) (rest := []) rfl (by rw [hml]; rfl) pd_2 rfl rfl (hb hby at_94) 0 (Nat.le_of_eq rfl) (by decide) (by decide) (by decide) (by decide)
    obtain ⟨rfl, hh11, rfl⟩ := qq11
    refine own_go st11 ?_
    show own_Go p e below _ (T11.setTop (mkF m 97 #[.val (.int p1), .val (.int p2), .val (.int p3), .val (.int p4), .val (.long q5), .second, .val (.long q6), .second, .val (.ref o), .val (.long pp), .second, .val (.long qq), .second] [(.int (keys6 0))]))
    refine own_go (fun tt kk => XS.iloadN X11.here hx rfl (hb hby at_97) rfl kk) ?_
    show own_Go p e below _ (T11.setTop (mkF m 98 #[.val (.int p1), .val (.int p2), .val (.int p3), .val (.int p4), .val (.long q5), .second, .val (.long q6), .second, .val (.ref o), .val (.long pp), .second, .val (.long qq), .second] [(.int p4), (.int (keys6 0))]))
    refine own_go (fun tt kk => XS.icmpNo X11.here hx rfl (hb hby at_98) rfl (teq (own_eq32 (x := (keys6 0)) (y := p4) (i := (keys6 0).toInt) (j := p4.toInt) rfl rfl (by rw [hk6]))).2 kk) ?_
    show own_Go p e below _ (T11.setTop (mkF m 101 #[.val (.int p1), .val (.int p2), .val (.int p3), .val (.int p4), .val (.long q5), .second, .val (.long q6), .second, .val (.ref o), .val (.long pp), .second, .val (.long qq), .second] []))
    refine own_go (fun tt kk => XS.aload X11.here hx rfl (hb hby at_101) rfl rfl kk) ?_
    show own_Go p e below _ (T11.setTop (mkF m 103 #[.val (.int p1), .val (.int p2), .val (.int p3), .val (.int p4), .val (.long q5), .second, .val (.long q6), .second, .val (.ref o), .val (.long pp), .second, .val (.long qq), .second] [(.ref o)]))
    refine own_go (fun tt kk => XS.iconst X11.here hx rfl (hb hby at_103) kk) ?_
    show own_Go p e below _ (T11.setTop (mkF m 104 #[.val (.int p1), .val (.int p2), .val (.int p3), .val (.int p4), .val (.long q5), .second, .val (.long q6), .second, .val (.ref o), .val (.long pp), .second, .val (.long qq), .second] [(.int (0 : Int32)), (.ref o)]))
    obtain ⟨v12, L12, T12, X12, qq12, st12⟩ := own_callV X11 hx hZ hown (hw _ (List.mem_of_getElem? (i := 57) rfl)) (hw _ (List.mem_of_getElem? (i := 58) rfl)) (hw _ (List.mem_of_getElem? (i := 60) rfl)) (hw _ (List.mem_of_getElem? (i := 59) rfl)) (hw _ (List.mem_of_getElem? (i := 61) rfl)) (hw _ (List.mem_of_getElem? (i := 2) rfl)) (by decide) A6.1 (rmSum l Z a0 hw [] o t k u _ _ _ _ 0 0 h0.size T9.heap A6 rfl (by omega)) hh11 (pc := 104) (Ls := #[.val (.int p1), .val (.int p2), .val (.int p3), .val (.int p4), .val (.long q5), .second, .val (.long q6), .second, .val (.ref o), .val (.long pp), .second, .val (.long qq), .second]) (argsL := [(.int (0 : Int32))]) (rest := []) rfl (by rw [hml]; rfl) pd_7 rfl rfl (hb hby at_104) 0 (Nat.le_of_eq rfl) (by decide) (by decide) (by decide) (by decide)
    obtain ⟨rfl, hh12, rfl⟩ := qq12
    refine own_go st12 ?_
    show own_Go p e below _ (T12.setTop (mkF m 107 #[.val (.int p1), .val (.int p2), .val (.int p3), .val (.int p4), .val (.long q5), .second, .val (.long q6), .second, .val (.ref o), .val (.long pp), .second, .val (.long qq), .second] [(.long (sums6 0))]))
    refine own_go (fun tt kk => XS.lload X12.here hx rfl (hb hby at_107) rfl kk) ?_
    show own_Go p e below _ (T12.setTop (mkF m 109 #[.val (.int p1), .val (.int p2), .val (.int p3), .val (.int p4), .val (.long q5), .second, .val (.long q6), .second, .val (.ref o), .val (.long pp), .second, .val (.long qq), .second] [(.long pp), (.long (sums6 0))]))
    refine own_go (fun tt kk => XS.lload X12.here hx rfl (hb hby at_109) rfl kk) ?_
    show own_Go p e below _ (T12.setTop (mkF m 111 #[.val (.int p1), .val (.int p2), .val (.int p3), .val (.int p4), .val (.long q5), .second, .val (.long q6), .second, .val (.ref o), .val (.long pp), .second, .val (.long qq), .second] [(.long qq), (.long pp), (.long (sums6 0))]))
    refine own_go (fun tt kk => XS.ladd X12.here hx rfl (hb hby at_111) rfl kk) ?_
    show own_Go p e below _ (T12.setTop (mkF m 112 #[.val (.int p1), .val (.int p2), .val (.int p3), .val (.int p4), .val (.long q5), .second, .val (.long q6), .second, .val (.ref o), .val (.long pp), .second, .val (.long qq), .second] [(.long (pp + qq)), (.long (sums6 0))]))
    refine own_go (fun tt kk => XS.lcmp X12.here hx rfl (hb hby at_112) rfl kk) ?_
    show own_Go p e below _ (T12.setTop (mkF m 113 #[.val (.int p1), .val (.int p2), .val (.int p3), .val (.int p4), .val (.long q5), .second, .val (.long q6), .second, .val (.ref o), .val (.long pp), .second, .val (.long qq), .second] [(.int (lcmpW (sums6 0) (pp + qq)))]))
    refine own_go (fun tt kk => XS.ifNo X12.here hx rfl (hb hby at_113) rfl ((if0 _ _).trans (teq ((lw_eq (sums6 0) (pp + qq)).mpr (own_eq64 (x := (sums6 0)) (y := (pp + qq)) (i := (sums6 0).toInt) (j := (pp + qq).toInt) rfl rfl (by rw [hs6])))).2) kk) ?_
    show own_Go p e below _ (T12.setTop (mkF m 116 #[.val (.int p1), .val (.int p2), .val (.int p3), .val (.int p4), .val (.long q5), .second, .val (.long q6), .second, .val (.ref o), .val (.long pp), .second, .val (.long qq), .second] []))
    refine own_go (fun tt kk => XS.iconst X12.here hx rfl (hb hby at_116) kk) ?_
    show own_Go p e below _ (T12.setTop (mkF m 117 #[.val (.int p1), .val (.int p2), .val (.int p3), .val (.int p4), .val (.long q5), .second, .val (.long q6), .second, .val (.ref o), .val (.long pp), .second, .val (.long qq), .second] [(.int (1 : Int32))]))
    refine own_go (fun tt kk => XS.goto X12.here hx rfl (pc0 := 117) (pc' := 121) rfl (hb hby at_117) (by decide) (by decide) kk) ?_
    show own_Go p e below _ (T12.setTop (mkF m 121 #[.val (.int p1), .val (.int p2), .val (.int p3), .val (.int p4), .val (.long q5), .second, .val (.long q6), .second, .val (.ref o), .val (.long pp), .second, .val (.long qq), .second] [(.int (1 : Int32))]))
    exact own_retZ X12 hx hlk hret (by decide) (hb hby at_121) ⟨rfl, (Fr.app (Fr.app (Fr.app (Fr.app (Fr.app (Fr.app (Fr.app (Fr.app (Fr.app (Fr.app (Fr.app (Fr.nil h0.size) N2) Nr1) Nr2) Nr3) Nr4) (Fr.nil h0.size)) Nr5) Nr6) (Fr.nil h0.size)) (Fr.nil h0.size)) (Fr.nil h0.size))⟩ (by decide) (by decide)
  · refine own_go (fun tt kk => XS.icmpYes X9.here hx rfl (pc0 := 79) (pc' := 122) rfl (hb hby at_79) rfl (feq (own_neq32 (x := p4) (y := p2) (i := p4.toInt) (j := p2.toInt) rfl rfl hc79)).2 (by decide) (by decide) kk) ?_
    show own_Go p e below _ (T9.setTop (mkF m 122 #[.val (.int p1), .val (.int p2), .val (.int p3), .val (.int p4), .val (.long q5), .second, .val (.long q6), .second, .val (.ref o), .val (.long pp), .second, .val (.long qq), .second] []))
    have e46 : ¬ p4 = p2 := fun q => hc79 (by rw [q])
    obtain ⟨hN6, hk6, hs6, hk7, hs7⟩ : N6' = 2 ∧ keys6 0 = p4 ∧ sums6 0 = pp ∧ keys6 1 = p2 ∧ sums6 1 = qq := by
      rcases hc6 with ⟨r1, r2, m, hm, r3, r4⟩ | ⟨r1, r2, r3, r4⟩
      · rw [show m = 0 by omega] at r3; exact absurd (hk5.symm.trans r3) e46
      · exact ⟨by omega, by rw [r3, own_upd_ne _ _ (by omega)]; exact hk5, by rw [r4, own_upd_ne _ _ (by omega), own_upd_ne _ _ (by omega)]; exact hs5, by rw [r3, own_upd_at], by rw [r4, own_upd_at]⟩
    subst hN6
    obtain rfl : n6 = 2 := Int32.toInt_inj.mp hn6
    refine own_go (fun tt kk => XS.aload X9.here hx rfl (hb hby at_122) rfl rfl kk) ?_
    show own_Go p e below _ (T9.setTop (mkF m 124 #[.val (.int p1), .val (.int p2), .val (.int p3), .val (.int p4), .val (.long q5), .second, .val (.long q6), .second, .val (.ref o), .val (.long pp), .second, .val (.long qq), .second] [(.ref o)]))
    obtain ⟨v13, L13, T13, X13, qq13, st13⟩ := own_callV X9 hx hZ hown (hw _ (List.mem_of_getElem? (i := 47) rfl)) (hw _ (List.mem_of_getElem? (i := 48) rfl)) (hw _ (List.mem_of_getElem? (i := 50) rfl)) (hw _ (List.mem_of_getElem? (i := 49) rfl)) (hw _ (List.mem_of_getElem? (i := 51) rfl)) (hw _ (List.mem_of_getElem? (i := 2) rfl)) (by decide) A6.1 (rmSize l Z a0 hw [] o t k u _ _ _ _  h0.size T9.heap A6) (rfl : T9.heap = _) (pc := 124) (Ls := #[.val (.int p1), .val (.int p2), .val (.int p3), .val (.int p4), .val (.long q5), .second, .val (.long q6), .second, .val (.ref o), .val (.long pp), .second, .val (.long qq), .second]) (argsL := []) (rest := []) rfl (by rw [hml]; rfl) pd_6 rfl rfl (hb hby at_124) 0 (Nat.le_of_eq rfl) (by decide) (by decide) (by decide) (by decide)
    obtain ⟨rfl, hh13, rfl⟩ := qq13
    refine own_go st13 ?_
    show own_Go p e below _ (T13.setTop (mkF m 127 #[.val (.int p1), .val (.int p2), .val (.int p3), .val (.int p4), .val (.long q5), .second, .val (.long q6), .second, .val (.ref o), .val (.long pp), .second, .val (.long qq), .second] [(.int (2 : Int32))]))
    refine own_go (fun tt kk => XS.iconst X13.here hx rfl (hb hby at_127) kk) ?_
    show own_Go p e below _ (T13.setTop (mkF m 128 #[.val (.int p1), .val (.int p2), .val (.int p3), .val (.int p4), .val (.long q5), .second, .val (.long q6), .second, .val (.ref o), .val (.long pp), .second, .val (.long qq), .second] [(.int (2 : Int32)), (.int (2 : Int32))]))
    refine own_go (fun tt kk => XS.icmpNo X13.here hx rfl (hb hby at_128) rfl (teq (own_eq32 (x := (2 : Int32)) (y := (2 : Int32)) (i := 2) (j := 2) rfl rfl rfl)).2 kk) ?_
    show own_Go p e below _ (T13.setTop (mkF m 131 #[.val (.int p1), .val (.int p2), .val (.int p3), .val (.int p4), .val (.long q5), .second, .val (.long q6), .second, .val (.ref o), .val (.long pp), .second, .val (.long qq), .second] []))
    refine own_go (fun tt kk => XS.aload X13.here hx rfl (hb hby at_131) rfl rfl kk) ?_
    show own_Go p e below _ (T13.setTop (mkF m 133 #[.val (.int p1), .val (.int p2), .val (.int p3), .val (.int p4), .val (.long q5), .second, .val (.long q6), .second, .val (.ref o), .val (.long pp), .second, .val (.long qq), .second] [(.ref o)]))
    refine own_go (fun tt kk => XS.iconst X13.here hx rfl (hb hby at_133) kk) ?_
    show own_Go p e below _ (T13.setTop (mkF m 134 #[.val (.int p1), .val (.int p2), .val (.int p3), .val (.int p4), .val (.long q5), .second, .val (.long q6), .second, .val (.ref o), .val (.long pp), .second, .val (.long qq), .second] [(.int (0 : Int32)), (.ref o)]))
    obtain ⟨v14, L14, T14, X14, qq14, st14⟩ := own_callV X13 hx hZ hown (hw _ (List.mem_of_getElem? (i := 52) rfl)) (hw _ (List.mem_of_getElem? (i := 53) rfl)) (hw _ (List.mem_of_getElem? (i := 55) rfl)) (hw _ (List.mem_of_getElem? (i := 54) rfl)) (hw _ (List.mem_of_getElem? (i := 56) rfl)) (hw _ (List.mem_of_getElem? (i := 2) rfl)) (by decide) A6.1 (rmKey l Z a0 hw [] o t k u _ _ _ _ 0 0 h0.size T9.heap A6 rfl (by omega)) hh13 (pc := 134) (Ls := #[.val (.int p1), .val (.int p2), .val (.int p3), .val (.int p4), .val (.long q5), .second, .val (.long q6), .second, .val (.ref o), .val (.long pp), .second, .val (.long qq), .second]) (argsL := [(.int (0 : Int32))]) (rest := []) rfl (by rw [hml]; rfl) pd_2 rfl rfl (hb hby at_134) 0 (Nat.le_of_eq rfl) (by decide) (by decide) (by decide) (by decide)
    obtain ⟨rfl, hh14, rfl⟩ := qq14
    refine own_go st14 ?_
    show own_Go p e below _ (T14.setTop (mkF m 137 #[.val (.int p1), .val (.int p2), .val (.int p3), .val (.int p4), .val (.long q5), .second, .val (.long q6), .second, .val (.ref o), .val (.long pp), .second, .val (.long qq), .second] [(.int (keys6 0))]))
    refine own_go (fun tt kk => XS.iloadN X14.here hx rfl (hb hby at_137) rfl kk) ?_
    show own_Go p e below _ (T14.setTop (mkF m 138 #[.val (.int p1), .val (.int p2), .val (.int p3), .val (.int p4), .val (.long q5), .second, .val (.long q6), .second, .val (.ref o), .val (.long pp), .second, .val (.long qq), .second] [(.int p4), (.int (keys6 0))]))
    refine own_go (fun tt kk => XS.icmpNo X14.here hx rfl (hb hby at_138) rfl (teq (own_eq32 (x := (keys6 0)) (y := p4) (i := (keys6 0).toInt) (j := p4.toInt) rfl rfl (by rw [hk6]))).2 kk) ?_
    show own_Go p e below _ (T14.setTop (mkF m 141 #[.val (.int p1), .val (.int p2), .val (.int p3), .val (.int p4), .val (.long q5), .second, .val (.long q6), .second, .val (.ref o), .val (.long pp), .second, .val (.long qq), .second] []))
    refine own_go (fun tt kk => XS.aload X14.here hx rfl (hb hby at_141) rfl rfl kk) ?_
    show own_Go p e below _ (T14.setTop (mkF m 143 #[.val (.int p1), .val (.int p2), .val (.int p3), .val (.int p4), .val (.long q5), .second, .val (.long q6), .second, .val (.ref o), .val (.long pp), .second, .val (.long qq), .second] [(.ref o)]))
    refine own_go (fun tt kk => XS.iconst X14.here hx rfl (hb hby at_143) kk) ?_
    show own_Go p e below _ (T14.setTop (mkF m 144 #[.val (.int p1), .val (.int p2), .val (.int p3), .val (.int p4), .val (.long q5), .second, .val (.long q6), .second, .val (.ref o), .val (.long pp), .second, .val (.long qq), .second] [(.int (0 : Int32)), (.ref o)]))
    obtain ⟨v15, L15, T15, X15, qq15, st15⟩ := own_callV X14 hx hZ hown (hw _ (List.mem_of_getElem? (i := 57) rfl)) (hw _ (List.mem_of_getElem? (i := 58) rfl)) (hw _ (List.mem_of_getElem? (i := 60) rfl)) (hw _ (List.mem_of_getElem? (i := 59) rfl)) (hw _ (List.mem_of_getElem? (i := 61) rfl)) (hw _ (List.mem_of_getElem? (i := 2) rfl)) (by decide) A6.1 (rmSum l Z a0 hw [] o t k u _ _ _ _ 0 0 h0.size T9.heap A6 rfl (by omega)) hh14 (pc := 144) (Ls := #[.val (.int p1), .val (.int p2), .val (.int p3), .val (.int p4), .val (.long q5), .second, .val (.long q6), .second, .val (.ref o), .val (.long pp), .second, .val (.long qq), .second]) (argsL := [(.int (0 : Int32))]) (rest := []) rfl (by rw [hml]; rfl) pd_7 rfl rfl (hb hby at_144) 0 (Nat.le_of_eq rfl) (by decide) (by decide) (by decide) (by decide)
    obtain ⟨rfl, hh15, rfl⟩ := qq15
    refine own_go st15 ?_
    show own_Go p e below _ (T15.setTop (mkF m 147 #[.val (.int p1), .val (.int p2), .val (.int p3), .val (.int p4), .val (.long q5), .second, .val (.long q6), .second, .val (.ref o), .val (.long pp), .second, .val (.long qq), .second] [(.long (sums6 0))]))
    refine own_go (fun tt kk => XS.lload X15.here hx rfl (hb hby at_147) rfl kk) ?_
    show own_Go p e below _ (T15.setTop (mkF m 149 #[.val (.int p1), .val (.int p2), .val (.int p3), .val (.int p4), .val (.long q5), .second, .val (.long q6), .second, .val (.ref o), .val (.long pp), .second, .val (.long qq), .second] [(.long pp), (.long (sums6 0))]))
    refine own_go (fun tt kk => XS.lcmp X15.here hx rfl (hb hby at_149) rfl kk) ?_
    show own_Go p e below _ (T15.setTop (mkF m 150 #[.val (.int p1), .val (.int p2), .val (.int p3), .val (.int p4), .val (.long q5), .second, .val (.long q6), .second, .val (.ref o), .val (.long pp), .second, .val (.long qq), .second] [(.int (lcmpW (sums6 0) pp))]))
    refine own_go (fun tt kk => XS.ifNo X15.here hx rfl (hb hby at_150) rfl ((if0 _ _).trans (teq ((lw_eq (sums6 0) pp).mpr (own_eq64 (x := (sums6 0)) (y := pp) (i := (sums6 0).toInt) (j := pp.toInt) rfl rfl (by rw [hs6])))).2) kk) ?_
    show own_Go p e below _ (T15.setTop (mkF m 153 #[.val (.int p1), .val (.int p2), .val (.int p3), .val (.int p4), .val (.long q5), .second, .val (.long q6), .second, .val (.ref o), .val (.long pp), .second, .val (.long qq), .second] []))
    refine own_go (fun tt kk => XS.aload X15.here hx rfl (hb hby at_153) rfl rfl kk) ?_
    show own_Go p e below _ (T15.setTop (mkF m 155 #[.val (.int p1), .val (.int p2), .val (.int p3), .val (.int p4), .val (.long q5), .second, .val (.long q6), .second, .val (.ref o), .val (.long pp), .second, .val (.long qq), .second] [(.ref o)]))
    refine own_go (fun tt kk => XS.iconst X15.here hx rfl (hb hby at_155) kk) ?_
    show own_Go p e below _ (T15.setTop (mkF m 156 #[.val (.int p1), .val (.int p2), .val (.int p3), .val (.int p4), .val (.long q5), .second, .val (.long q6), .second, .val (.ref o), .val (.long pp), .second, .val (.long qq), .second] [(.int (1 : Int32)), (.ref o)]))
    obtain ⟨v16, L16, T16, X16, qq16, st16⟩ := own_callV X15 hx hZ hown (hw _ (List.mem_of_getElem? (i := 52) rfl)) (hw _ (List.mem_of_getElem? (i := 53) rfl)) (hw _ (List.mem_of_getElem? (i := 55) rfl)) (hw _ (List.mem_of_getElem? (i := 54) rfl)) (hw _ (List.mem_of_getElem? (i := 56) rfl)) (hw _ (List.mem_of_getElem? (i := 2) rfl)) (by decide) A6.1 (rmKey l Z a0 hw [] o t k u _ _ _ _ 1 1 h0.size T9.heap A6 rfl (by omega)) hh15 (pc := 156) (Ls := #[.val (.int p1), .val (.int p2), .val (.int p3), .val (.int p4), .val (.long q5), .second, .val (.long q6), .second, .val (.ref o), .val (.long pp), .second, .val (.long qq), .second]) (argsL := [(.int (1 : Int32))]) (rest := []) rfl (by rw [hml]; rfl) pd_2 rfl rfl (hb hby at_156) 0 (Nat.le_of_eq rfl) (by decide) (by decide) (by decide) (by decide)
    obtain ⟨rfl, hh16, rfl⟩ := qq16
    refine own_go st16 ?_
    show own_Go p e below _ (T16.setTop (mkF m 159 #[.val (.int p1), .val (.int p2), .val (.int p3), .val (.int p4), .val (.long q5), .second, .val (.long q6), .second, .val (.ref o), .val (.long pp), .second, .val (.long qq), .second] [(.int (keys6 1))]))
    refine own_go (fun tt kk => XS.iloadN X16.here hx rfl (hb hby at_159) rfl kk) ?_
    show own_Go p e below _ (T16.setTop (mkF m 160 #[.val (.int p1), .val (.int p2), .val (.int p3), .val (.int p4), .val (.long q5), .second, .val (.long q6), .second, .val (.ref o), .val (.long pp), .second, .val (.long qq), .second] [(.int p2), (.int (keys6 1))]))
    refine own_go (fun tt kk => XS.icmpNo X16.here hx rfl (hb hby at_160) rfl (teq (own_eq32 (x := (keys6 1)) (y := p2) (i := (keys6 1).toInt) (j := p2.toInt) rfl rfl (by rw [hk7]))).2 kk) ?_
    show own_Go p e below _ (T16.setTop (mkF m 163 #[.val (.int p1), .val (.int p2), .val (.int p3), .val (.int p4), .val (.long q5), .second, .val (.long q6), .second, .val (.ref o), .val (.long pp), .second, .val (.long qq), .second] []))
    refine own_go (fun tt kk => XS.aload X16.here hx rfl (hb hby at_163) rfl rfl kk) ?_
    show own_Go p e below _ (T16.setTop (mkF m 165 #[.val (.int p1), .val (.int p2), .val (.int p3), .val (.int p4), .val (.long q5), .second, .val (.long q6), .second, .val (.ref o), .val (.long pp), .second, .val (.long qq), .second] [(.ref o)]))
    refine own_go (fun tt kk => XS.iconst X16.here hx rfl (hb hby at_165) kk) ?_
    show own_Go p e below _ (T16.setTop (mkF m 166 #[.val (.int p1), .val (.int p2), .val (.int p3), .val (.int p4), .val (.long q5), .second, .val (.long q6), .second, .val (.ref o), .val (.long pp), .second, .val (.long qq), .second] [(.int (1 : Int32)), (.ref o)]))
    obtain ⟨v17, L17, T17, X17, qq17, st17⟩ := own_callV X16 hx hZ hown (hw _ (List.mem_of_getElem? (i := 57) rfl)) (hw _ (List.mem_of_getElem? (i := 58) rfl)) (hw _ (List.mem_of_getElem? (i := 60) rfl)) (hw _ (List.mem_of_getElem? (i := 59) rfl)) (hw _ (List.mem_of_getElem? (i := 61) rfl)) (hw _ (List.mem_of_getElem? (i := 2) rfl)) (by decide) A6.1 (rmSum l Z a0 hw [] o t k u _ _ _ _ 1 1 h0.size T9.heap A6 rfl (by omega)) hh16 (pc := 166) (Ls := #[.val (.int p1), .val (.int p2), .val (.int p3), .val (.int p4), .val (.long q5), .second, .val (.long q6), .second, .val (.ref o), .val (.long pp), .second, .val (.long qq), .second]) (argsL := [(.int (1 : Int32))]) (rest := []) rfl (by rw [hml]; rfl) pd_7 rfl rfl (hb hby at_166) 0 (Nat.le_of_eq rfl) (by decide) (by decide) (by decide) (by decide)
    obtain ⟨rfl, hh17, rfl⟩ := qq17
    refine own_go st17 ?_
    show own_Go p e below _ (T17.setTop (mkF m 169 #[.val (.int p1), .val (.int p2), .val (.int p3), .val (.int p4), .val (.long q5), .second, .val (.long q6), .second, .val (.ref o), .val (.long pp), .second, .val (.long qq), .second] [(.long (sums6 1))]))
    refine own_go (fun tt kk => XS.lload X17.here hx rfl (hb hby at_169) rfl kk) ?_
    show own_Go p e below _ (T17.setTop (mkF m 171 #[.val (.int p1), .val (.int p2), .val (.int p3), .val (.int p4), .val (.long q5), .second, .val (.long q6), .second, .val (.ref o), .val (.long pp), .second, .val (.long qq), .second] [(.long qq), (.long (sums6 1))]))
    refine own_go (fun tt kk => XS.lcmp X17.here hx rfl (hb hby at_171) rfl kk) ?_
    show own_Go p e below _ (T17.setTop (mkF m 172 #[.val (.int p1), .val (.int p2), .val (.int p3), .val (.int p4), .val (.long q5), .second, .val (.long q6), .second, .val (.ref o), .val (.long pp), .second, .val (.long qq), .second] [(.int (lcmpW (sums6 1) qq))]))
    refine own_go (fun tt kk => XS.ifNo X17.here hx rfl (hb hby at_172) rfl ((if0 _ _).trans (teq ((lw_eq (sums6 1) qq).mpr (own_eq64 (x := (sums6 1)) (y := qq) (i := (sums6 1).toInt) (j := qq.toInt) rfl rfl (by rw [hs7])))).2) kk) ?_
    show own_Go p e below _ (T17.setTop (mkF m 175 #[.val (.int p1), .val (.int p2), .val (.int p3), .val (.int p4), .val (.long q5), .second, .val (.long q6), .second, .val (.ref o), .val (.long pp), .second, .val (.long qq), .second] []))
    refine own_go (fun tt kk => XS.iconst X17.here hx rfl (hb hby at_175) kk) ?_
    show own_Go p e below _ (T17.setTop (mkF m 176 #[.val (.int p1), .val (.int p2), .val (.int p3), .val (.int p4), .val (.long q5), .second, .val (.long q6), .second, .val (.ref o), .val (.long pp), .second, .val (.long qq), .second] [(.int (1 : Int32))]))
    refine own_go (fun tt kk => XS.goto X17.here hx rfl (pc0 := 176) (pc' := 180) rfl (hb hby at_176) (by decide) (by decide) kk) ?_
    show own_Go p e below _ (T17.setTop (mkF m 180 #[.val (.int p1), .val (.int p2), .val (.int p3), .val (.int p4), .val (.long q5), .second, .val (.long q6), .second, .val (.ref o), .val (.long pp), .second, .val (.long qq), .second] [(.int (1 : Int32))]))
    exact own_retZ X17 hx hlk hret (by decide) (hb hby at_180) ⟨rfl, (Fr.app (Fr.app (Fr.app (Fr.app (Fr.app (Fr.app (Fr.app (Fr.app (Fr.app (Fr.app (Fr.app (Fr.app (Fr.app (Fr.nil h0.size) N2) Nr1) Nr2) Nr3) Nr4) (Fr.nil h0.size)) Nr5) Nr6) (Fr.nil h0.size)) (Fr.nil h0.size)) (Fr.nil h0.size)) (Fr.nil h0.size)) (Fr.nil h0.size))⟩ (by decide) (by decide)
set_option maxRecDepth 65536 in
set_option maxHeartbeats 40000000 in
theorem comes_1 {Post : Tables → Env → Array Value → State → Outcome → State → Prop} (hpost : ∀ tb e args s v u, (limb_1_1.after args s (.returned v) u = true ∧ limb_1_2.after args s (.returned v) u = true ∧ True) → FrameEnd s (.returned v) u (Jvm.fieldLocs frame_1_writes args s ++ Jvm.arrayLocs frame_1_arrays args s ++ Jvm.staticLocs frame_1_statics s) 16 192 → Post tb e args s (.returned v) u) :
    ArmFor flags0 classFile x code maxLocals ret World_1 tables_1 room_1 Calls_1 rest_1 Pre_1 Post := by
  intro l hfl _ _ p e ha hc hk s m args below hf hA hF happ hP
  obtain ⟨hcalls, hrest, hpre⟩ := hP
  obtain ⟨-, -, -, hnamed, -, -, -, hat⟩ := (Spec.applies_iff hf).mp happ
  obtain ⟨hg, hn⟩ := and_e (Cond.before_iff.mp (show (Jvm.Cond.and given_1 narrow_1).before args s = true from hpre))
  obtain ⟨h1, h2⟩ := and_e hg
  obtain ⟨w0, w1, w2, w3, w4, w5, rfl⟩ : ∃ w0 w1 w2 w3 w4 w5 : Value, args = #[w0, w1, w2, w3, w4, w5] := by
    have hs : args.size = 6 := by simpa [Cond.value, given_1] using h1
    obtain ⟨L⟩ := args
    match L, hs with
    | [w0, w1, w2, w3, w4, w5], _ => exact ⟨w0, w1, w2, w3, w4, w5, rfl⟩
  have hw := fun d (hd : d ∈ tables_1) => atoms_spec (ws := Jvm.Cond.code x code maxLocals ret :: tables_1) hat d (List.mem_cons_of_mem _ hd)
  obtain ⟨g0, h20⟩ := and_e h2
  obtain ⟨i0, e0⟩ := is_v g0
  obtain rfl : w0 = (.int i0) := Option.some.inj e0
  obtain ⟨g1, h21⟩ := and_e h20
  obtain ⟨i1, e1⟩ := is_v g1
  obtain rfl : w1 = (.int i1) := Option.some.inj e1
  obtain ⟨g2, h22⟩ := and_e h21
  obtain ⟨i2, e2⟩ := is_v g2
  obtain rfl : w2 = (.int i2) := Option.some.inj e2
  obtain ⟨g3, h23⟩ := and_e h22
  obtain ⟨i3, e3⟩ := is_v g3
  obtain rfl : w3 = (.int i3) := Option.some.inj e3
  obtain ⟨g4, h24⟩ := and_e h23
  obtain ⟨i4, e4⟩ := isL_v g4
  obtain rfl : w4 = (.long i4) := Option.some.inj e4
  obtain ⟨i5, e5⟩ := isL_v h24
  obtain rfl : w5 = (.long i5) := Option.some.inj e5
  obtain ⟨n, o, h1, h2, h3, _, L, rfl, ⟨rfl, N⟩, hq⟩ := rm0 l s _ hw tables_1 i0 i1 i2 i3 i4 i5 s.heap p e ha hc hk s m _ below hf ((Spec.applies_iff_loose hf).mp happ).1 ⟨rfl, State.Warmed39.refl s, rfl⟩ trivial
  refine ⟨n, _, h1, h2, h3, hpost _ _ _ _ _ _ ⟨Cond.after_iff.mpr rfl, Cond.after_iff.mpr (eq_i res_at (Term.int_eval (1)) rfl), trivial⟩ ⟨hq.1, hq.2.1, (hq.2.2.sift fun y hy => Or.inr (N y hy)).mono (by decide) (by decide)⟩⟩
theorem main_1_1 : Claimed_1_1 := comes_1 fun _ _ _ _ _ _ h hF => ⟨h.1, hF⟩
theorem main_1_2 : Claimed_1_2 := comes_1 fun _ _ _ _ _ _ h hF => ⟨h.2.1, hF⟩
end Jvm.Pilot.@@N@@
namespace Jvm.Pilot.@@N@@
open Jvm Jvm.ClassFile Sem Op Lib Jvm.Free Jvm.Stand Jvm.Pilot.@@N@@.Jvm.D
/-! MADE BY PROGRAM (witnessworld.py) out of the Statement's table words and the real class files: 13 classes; the members and pool entries that the words name. The judged class is class 1, her method 1. -/
namespace start1
open Jvm.ClassFile
def u (s : String) : CpInfo := .utf8 (stringToUtf16 s)
/-- a pool by its gaps: so many unusable entries, then the entry; so many at the end -/
def gap : Nat → List CpInfo → List CpInfo
  | 0, r => r
  | n + 1, r => .unusable :: gap n r
def poolList (es : List (Nat × CpInfo)) (last : Nat) : List CpInfo := es.foldr (fun e r => gap e.1 (e.2 :: r)) (gap last [])
def pool (es : List (Nat × CpInfo)) (last : Nat) : Array CpInfo := ⟨poolList es last⟩
def fileOf (pool : Array CpInfo) (this : Nat) (attrs : Array Attribute := #[]) (ms : Array MethodInfo := #[]) (fl : Nat := 33) (sup : Nat := 0) (ifs : Array Nat := #[]) (fds : Array FieldInfo := #[]) : ClassFile where
  minorVersion := 0
  majorVersion := 65
  constantPool := pool
  accessFlags := fl
  thisClass := this
  superClass := sup
  interfaces := ifs
  fields := fds
  methods := ms
  attributes := attrs
def plain (name : String) (sup : Option ClassId) : Class where
  name := name
  kind := .ordinary
  loader := none
  accessFlags := 33
  super := sup
  interfaces := #[]
  cf := none
  fields := #[]
  methods := #[]
  instanceTypes := #[]
  staticTypes := #[]
  resolved := #[]
  callSites := []
  init := .initialized
  statics := none
  mirror := none

def pool0 : Array CpInfo := pool [(5, u "<init>"), (0, u "()V"), (1, .class_ 10), (1, u "java/lang/Object")] 113

def k0c0 : Code := { maxStack := 0, maxLocals := 1, code := object_method_1_code, exceptionTable := #[], attributes := #[] }
def k0m0 : Method := { name := "<init>", desc := "()V", sig := { parameters := [], returnType := none }, accessFlags := 1, code := some k0c0 }
/-- java/lang/Object -/
def k0 : Class := { plain "java/lang/Object" none with
  accessFlags := 33
  interfaces := #[]
  cf := some (fileOf pool0 8 #[] #[{ accessFlags := 1, nameIndex := 5, descriptorIndex := 6, attributes := #[] }] 33 0 #[] #[])
  fields := #[]
  methods := #[k0m0]
  instanceTypes := #[]
  staticTypes := #[]
  resolved := Array.replicate 124 none
  statics := none }

def pool1 : Array CpInfo := pool [(2, .class_ 4), (0, .nameAndType 5 6), (0, u "java/lang/Object"), (0, u "<init>"), (0, u "()V"), (0, .class_ 8), (0, u "com/example/enabled_step/enabledstep/engine/Tally"), (0, .methodref 7 3), (0, .methodref 7 11), (0, .nameAndType 12 13), (0, u "add"), (0, u "(IJ)V"), (0, .long 2), (1, .long 4), (1, .methodref 7 19), (0, .nameAndType 20 6), (0, u "clear"), (0, .methodref 7 22), (0, .nameAndType 23 24), (0, u "size"), (0, u "()I"), (0, .methodref 7 26), (0, .nameAndType 27 28), (0, u "key"), (0, u "(I)I"), (0, .methodref 7 30), (0, .nameAndType 31 32), (0, u "sum"), (0, u "(I)J"), (0, .class_ 34), (0, u "com/example/enabled_step/enabledstep/engine/TallyClearPinLaw"), (2, u "law"), (0, u "(IIIIJJ)Z")] 3

def k1m0 : Method := { name := "<init>", desc := "()V", sig := { parameters := [], returnType := none }, accessFlags := 1, code := none }
def k1c1 : Code := { maxStack := 6, maxLocals := 13, code := code, exceptionTable := #[], attributes := #[] }
def k1m1 : Method := { name := "law", desc := "(IIIIJJ)Z", sig := { parameters := [.int, .int, .int, .int, .long, .long], returnType := some .boolean }, accessFlags := 9, code := some k1c1 }
/-- com/example/enabled_step/enabledstep/engine/TallyClearPinLaw -/
def k1 : Class := { plain "com/example/enabled_step/enabledstep/engine/TallyClearPinLaw" (some 0) with
  accessFlags := 49
  interfaces := #[]
  cf := some (fileOf pool1 33 #[] #[{ accessFlags := 1, nameIndex := 5, descriptorIndex := 6, attributes := #[] }, { accessFlags := 9, nameIndex := 37, descriptorIndex := 38, attributes := #[] }] 49 2 #[] #[])
  fields := #[]
  methods := #[k1m0, k1m1]
  instanceTypes := #[]
  staticTypes := #[]
  resolved := Array.replicate 42 none
  statics := none }

def pool2 : Array CpInfo := pool [(1, .methodref 2 3), (0, .class_ 4), (0, .nameAndType 5 6), (0, u "java/lang/Object"), (0, u "<init>"), (0, u "()V"), (0, .methodref 8 9), (0, .class_ 10), (0, .nameAndType 11 12), (0, u "com/example/enabled_step/enabledstep/engine/Tally"), (0, u "newTable"), (0, u "(I)[I"), (0, .fieldref 8 14), (0, .nameAndType 15 16), (0, u "table"), (0, u "[I"), (0, .fieldref 8 18), (0, .nameAndType 19 16), (0, u "keys"), (0, .fieldref 8 21), (0, .nameAndType 22 23), (0, u "sums"), (0, u "[J"), (0, .methodref 8 25), (0, .nameAndType 26 27), (0, u "slot"), (0, u "(I)I"), (0, .fieldref 8 29), (0, .nameAndType 30 31), (0, u "size"), (0, u "I"), (1, .class_ 35), (1, u "java/util/Arrays"), (8, .methodref 45 46), (0, .class_ 47), (0, .nameAndType 48 49), (0, u "java/lang/Math"), (0, u "addExact"), (0, u "(JJ)J"), (0, .integer 2654435769), (0, .methodref 33 52), (0, .nameAndType 53 54), (0, u "fill"), (0, u "([II)V"), (0, u "FREE"), (4, u "add"), (0, u "(IJ)V"), (1, u "()I"), (0, u "key"), (0, u "sum"), (0, u "(I)J"), (0, u "clear")] 2

def k2c0 : Code := { maxStack := 2, maxLocals := 1, code := prog_46_method_1_code, exceptionTable := #[], attributes := #[] }
def k2m0 : Method := { name := "<init>", desc := "()V", sig := { parameters := [], returnType := none }, accessFlags := 0, code := some k2c0 }
def k2c1 : Code := { maxStack := 6, maxLocals := 6, code := prog_46_method_2_code, exceptionTable := #[], attributes := #[] }
def k2m1 : Method := { name := "add", desc := "(IJ)V", sig := { parameters := [.int, .long], returnType := none }, accessFlags := 0, code := some k2c1 }
def k2c2 : Code := { maxStack := 1, maxLocals := 1, code := prog_46_method_3_code, exceptionTable := #[], attributes := #[] }
def k2m2 : Method := { name := "size", desc := "()I", sig := { parameters := [], returnType := some .int }, accessFlags := 0, code := some k2c2 }
def k2c3 : Code := { maxStack := 2, maxLocals := 2, code := prog_46_method_4_code, exceptionTable := #[], attributes := #[] }
def k2m3 : Method := { name := "key", desc := "(I)I", sig := { parameters := [.int], returnType := some .int }, accessFlags := 0, code := some k2c3 }
def k2c4 : Code := { maxStack := 2, maxLocals := 2, code := prog_46_method_5_code, exceptionTable := #[], attributes := #[] }
def k2m4 : Method := { name := "sum", desc := "(I)J", sig := { parameters := [.int], returnType := some .long }, accessFlags := 0, code := some k2c4 }
def k2c5 : Code := { maxStack := 4, maxLocals := 2, code := prog_46_method_6_code, exceptionTable := #[], attributes := #[] }
def k2m5 : Method := { name := "clear", desc := "()V", sig := { parameters := [], returnType := none }, accessFlags := 0, code := some k2c5 }
def k2c6 : Code := { maxStack := 3, maxLocals := 5, code := prog_46_method_7_code, exceptionTable := #[], attributes := #[] }
def k2m6 : Method := { name := "slot", desc := "(I)I", sig := { parameters := [.int], returnType := some .int }, accessFlags := 2, code := some k2c6 }
def k2c7 : Code := { maxStack := 2, maxLocals := 2, code := prog_46_method_9_code, exceptionTable := #[], attributes := #[] }
def k2m7 : Method := { name := "newTable", desc := "(I)[I", sig := { parameters := [.int], returnType := some (.array .int) }, accessFlags := 10, code := some k2c7 }
/-- com/example/enabled_step/enabledstep/engine/Tally -/
def k2 : Class := { plain "com/example/enabled_step/enabledstep/engine/Tally" (some 0) with
  accessFlags := 48
  interfaces := #[]
  cf := some (fileOf pool2 8 #[] #[{ accessFlags := 0, nameIndex := 5, descriptorIndex := 6, attributes := #[] }, { accessFlags := 0, nameIndex := 60, descriptorIndex := 61, attributes := #[] }, { accessFlags := 0, nameIndex := 30, descriptorIndex := 63, attributes := #[] }, { accessFlags := 0, nameIndex := 64, descriptorIndex := 27, attributes := #[] }, { accessFlags := 0, nameIndex := 65, descriptorIndex := 66, attributes := #[] }, { accessFlags := 0, nameIndex := 67, descriptorIndex := 6, attributes := #[] }, { accessFlags := 2, nameIndex := 26, descriptorIndex := 27, attributes := #[] }, { accessFlags := 10, nameIndex := 11, descriptorIndex := 12, attributes := #[] }] 48 2 #[] #[{ accessFlags := 26, nameIndex := 55, descriptorIndex := 31, attributes := #[] }, { accessFlags := 2, nameIndex := 15, descriptorIndex := 16, attributes := #[] }, { accessFlags := 2, nameIndex := 19, descriptorIndex := 16, attributes := #[] }, { accessFlags := 2, nameIndex := 22, descriptorIndex := 23, attributes := #[] }, { accessFlags := 2, nameIndex := 30, descriptorIndex := 31, attributes := #[] }])
  fields := #[{ name := "FREE", type := .int, accessFlags := 26, slot := 0, constantValue := 0 }, { name := "table", type := (.array .int), accessFlags := 2, slot := 0, constantValue := 0 }, { name := "keys", type := (.array .int), accessFlags := 2, slot := 1, constantValue := 0 }, { name := "sums", type := (.array .long), accessFlags := 2, slot := 2, constantValue := 0 }, { name := "size", type := .int, accessFlags := 2, slot := 3, constantValue := 0 }]
  methods := #[k2m0, k2m1, k2m2, k2m3, k2m4, k2m5, k2m6, k2m7]
  instanceTypes := #[(.array .int), (.array .int), (.array .long), .int]
  staticTypes := #[.int]
  resolved := Array.replicate 70 none
  statics := none }

def pool3 : Array CpInfo := pool [(2, .class_ 4), (1, u "java/lang/Object"), (0, u "<init>"), (0, u "()V"), (7, .class_ 16), (1, u "java/util/Arrays"), (57, .class_ 76), (1, u "java/util/Arrays$NaturalOrder"), (36, .class_ 115), (1, u "java/util/Arrays$LegacyMergeSort"), (1, u "Z"), (257, .class_ 376), (0, u "java/util/Arrays$ArrayList"), (68, u "$assertionsDisabled"), (269, u "MIN_ARRAY_SORT_GRAN"), (0, u "I"), (2, u "INSERTIONSORT_THRESHOLD"), (120, u "fill"), (4, u "([II)V"), (129, .class_ 976), (0, u "java/util/Arrays$ArrayItr")] 52

def k3m0 : Method := { name := "<init>", desc := "()V", sig := { parameters := [], returnType := none }, accessFlags := 2, code := none }
def k3c1 : Code := { maxStack := 3, maxLocals := 4, code := jdk_65_method_103_code, exceptionTable := #[], attributes := #[] }
def k3m1 : Method := { name := "fill", desc := "([II)V", sig := { parameters := [(.array .int), .int], returnType := none }, accessFlags := 9, code := some k3c1 }
/-- java/util/Arrays -/
def k3 : Class := { plain "java/util/Arrays" (some 0) with
  accessFlags := 49
  interfaces := #[]
  cf := some (fileOf pool3 14 #[.nestMembers #[975, 375, 113, 74]] #[{ accessFlags := 2, nameIndex := 5, descriptorIndex := 6, attributes := #[] }, { accessFlags := 9, nameIndex := 840, descriptorIndex := 845, attributes := #[] }] 49 2 #[] #[{ accessFlags := 26, nameIndex := 715, descriptorIndex := 716, attributes := #[] }, { accessFlags := 26, nameIndex := 719, descriptorIndex := 716, attributes := #[] }, { accessFlags := 4120, nameIndex := 445, descriptorIndex := 117, attributes := #[] }])
  fields := #[{ name := "MIN_ARRAY_SORT_GRAN", type := .int, accessFlags := 26, slot := 0, constantValue := 0 }, { name := "INSERTIONSORT_THRESHOLD", type := .int, accessFlags := 26, slot := 1, constantValue := 0 }, { name := "$assertionsDisabled", type := .boolean, accessFlags := 4120, slot := 2, constantValue := 0 }]
  methods := #[k3m0, k3m1]
  instanceTypes := #[]
  staticTypes := #[.int, .int, .boolean]
  resolved := Array.replicate 1029 none
  statics := none }

def pool4 : Array CpInfo := pool [(1, .class_ 2), (0, u "java/lang/Math"), (1, .class_ 6), (1, u "java/lang/Object"), (0, u "<init>"), (0, u "()V"), (89, .class_ 100), (1, u "java/lang/Math$RandomNumberGeneratorHolder"), (20, u "(JJ)J"), (50, u "negativeZeroFloatBits"), (0, u "J"), (2, u "negativeZeroDoubleBits"), (68, u "$assertionsDisabled"), (0, u "Z"), (91, u "twoToTheDoubleScaleDown"), (0, u "D"), (4, u "twoToTheDoubleScaleUp"), (9, u "E"), (3, u "PI"), (2, u "TAU"), (2, u "DEGREES_TO_RADIANS"), (0, u "RADIANS_TO_DEGREES"), (27, u "addExact")] 66

def k4m0 : Method := { name := "<init>", desc := "()V", sig := { parameters := [], returnType := none }, accessFlags := 2, code := none }
def k4c1 : Code := { maxStack := 6, maxLocals := 6, code := jdk_29_method_25_code, exceptionTable := #[], attributes := #[] }
def k4m1 : Method := { name := "addExact", desc := "(JJ)J", sig := { parameters := [.long, .long], returnType := some .long }, accessFlags := 9, code := some k4c1 }
/-- java/lang/Math -/
def k4 : Class := { plain "java/lang/Math" (some 0) with
  accessFlags := 49
  interfaces := #[]
  cf := some (fileOf pool4 1 #[.nestMembers #[98]] #[{ accessFlags := 2, nameIndex := 7, descriptorIndex := 8, attributes := #[] }, { accessFlags := 9, nameIndex := 393, descriptorIndex := 121, attributes := #[] }] 49 4 #[] #[{ accessFlags := 25, nameIndex := 354, descriptorIndex := 339, attributes := #[] }, { accessFlags := 25, nameIndex := 358, descriptorIndex := 339, attributes := #[] }, { accessFlags := 25, nameIndex := 361, descriptorIndex := 339, attributes := #[] }, { accessFlags := 26, nameIndex := 364, descriptorIndex := 339, attributes := #[] }, { accessFlags := 26, nameIndex := 365, descriptorIndex := 339, attributes := #[] }, { accessFlags := 26, nameIndex := 172, descriptorIndex := 173, attributes := #[] }, { accessFlags := 26, nameIndex := 176, descriptorIndex := 173, attributes := #[] }, { accessFlags := 8, nameIndex := 344, descriptorIndex := 339, attributes := #[] }, { accessFlags := 8, nameIndex := 338, descriptorIndex := 339, attributes := #[] }, { accessFlags := 4120, nameIndex := 245, descriptorIndex := 246, attributes := #[] }])
  fields := #[{ name := "E", type := .double, accessFlags := 25, slot := 0, constantValue := 0 }, { name := "PI", type := .double, accessFlags := 25, slot := 1, constantValue := 0 }, { name := "TAU", type := .double, accessFlags := 25, slot := 2, constantValue := 0 }, { name := "DEGREES_TO_RADIANS", type := .double, accessFlags := 26, slot := 3, constantValue := 0 }, { name := "RADIANS_TO_DEGREES", type := .double, accessFlags := 26, slot := 4, constantValue := 0 }, { name := "negativeZeroFloatBits", type := .long, accessFlags := 26, slot := 5, constantValue := 0 }, { name := "negativeZeroDoubleBits", type := .long, accessFlags := 26, slot := 6, constantValue := 0 }, { name := "twoToTheDoubleScaleUp", type := .double, accessFlags := 8, slot := 7, constantValue := 0 }, { name := "twoToTheDoubleScaleDown", type := .double, accessFlags := 8, slot := 8, constantValue := 0 }, { name := "$assertionsDisabled", type := .boolean, accessFlags := 4120, slot := 9, constantValue := 0 }]
  methods := #[k4m0, k4m1]
  instanceTypes := #[]
  staticTypes := #[.double, .double, .double, .double, .double, .long, .long, .double, .double, .boolean]
  resolved := Array.replicate 460 none
  statics := none }

def pool5 : Array CpInfo := pool [(1, u "java/lang/Cloneable"), (0, .class_ 1), (0, u "java/lang/Object"), (0, .class_ 3)] 3

/-- java/lang/Cloneable -/
def k5 : Class := { plain "java/lang/Cloneable" (some 0) with
  accessFlags := 1537
  interfaces := #[]
  cf := some (fileOf pool5 2 #[] #[] 1537 4 #[] #[])
  fields := #[]
  methods := #[]
  instanceTypes := #[]
  staticTypes := #[]
  resolved := Array.replicate 8 none
  statics := none }

def pool6 : Array CpInfo := pool [(1, u "java/io/Serializable"), (0, .class_ 1), (0, u "java/lang/Object"), (0, .class_ 3)] 3

/-- java/io/Serializable -/
def k6 : Class := { plain "java/io/Serializable" (some 0) with
  accessFlags := 1537
  interfaces := #[]
  cf := some (fileOf pool6 2 #[] #[] 1537 4 #[] #[])
  fields := #[]
  methods := #[]
  instanceTypes := #[]
  staticTypes := #[]
  resolved := Array.replicate 8 none
  statics := none }

/-- the primitive byte -/
def k7 : Class := { plain "byte" none with kind := .primitive 'B', accessFlags := 0x411 }
/-- [B -/
def k8 : Class := { plain "[B" (some 0) with kind := .array 7 .byte, interfaces := #[5, 6], accessFlags := 1041 }

/-- the primitive int -/
def k9 : Class := { plain "int" none with kind := .primitive 'I', accessFlags := 0x411 }
/-- [I -/
def k10 : Class := { plain "[I" (some 0) with kind := .array 9 .int, interfaces := #[5, 6], accessFlags := 1041 }

/-- the primitive long -/
def k11 : Class := { plain "long" none with kind := .primitive 'J', accessFlags := 0x411 }
/-- [J -/
def k12 : Class := { plain "[J" (some 0) with kind := .array 11 .long, interfaces := #[5, 6], accessFlags := 1041 }

def heap : Heap := #[]
def classes : Array Class := #[k0, k1, k2, k3, k4, k5, k6, k7, k8, k9, k10, k11, k12]
def interned : List (Array UInt16 × Addr) := []
def slotsUsed : Nat := 0
def theMethod : MethodId := ⟨1, 1⟩
def args0 : Array Value := #[.int 5, .int 7, .int 9, .int 11, .long 3, .long 4]
def aboutOver (below : List Frame) : State where
  vm := { classes := classes, interned := interned.toArray }
  heap := heap
  slotsUsed := slotsUsed
  threads := #[{ frames := .invoking theMethod args0 :: below }]
def below0 : List Frame := [.native { method := ⟨0, 0⟩, args := #[] }]
def about1 : State := aboutOver below0
def p0 : Program := .bare "" "" ""
def e0 : Env := launch0.env 0 0 0
theorem w_frames : about1.frames = Frame.invoking theMethod args0 :: below0 := rfl
set_option maxRecDepth 65536 in
theorem w_args : argsFit about1.vm theMethod args0 = true := by decide +kernel
set_option maxRecDepth 65536 in
theorem w_heap : heapFits about1 = true := by decide +kernel
set_option maxRecDepth 65536 in
theorem w_runnable : about1.curStatus? = some .runnable := by decide +kernel
set_option maxRecDepth 65536 in
theorem w_alone : about1.alone = true := by decide +kernel
set_option maxRecDepth 65536 in
theorem w_named : about1.methodNamed? x = some theMethod := by decide +kernel
set_option maxRecDepth 65536 in
theorem w_hears : about1.hears theMethod below0 = true := by decide +kernel
set_option maxRecDepth 65536 in
theorem w_ripe : about1.ripe theMethod args0 below0 = true := by decide +kernel
theorem w_running : about1.status = .running := rfl
set_option maxRecDepth 65536 in
theorem w_room : about1.hasRoom e0.platform room_1 = true :=
  launch0.hasRoom_least _ room_1 (by decide +kernel) (by decide +kernel) (by decide +kernel) (by decide +kernel) (by decide +kernel) (by decide +kernel)
theorem allAtoms_all (ts : List Jvm.Cond) (a : Array Jvm.Value) (st : Jvm.State) : (allAtoms ts).before a st = ts.all (fun c => c.before a st) := by
  induction ts with
  | nil => rfl
  | cons c t ih =>
    show (Jvm.Cond.and c (allAtoms t)).before a st = _
    rw [Jvm.Cond.before_and, ih, List.all_cons]
def words1 : List Jvm.Cond := Jvm.Cond.code x code maxLocals ret :: tables_1
/-- a 'code' word, met by the world's own term for the bytes: nothing is compared byte by byte -/
theorem code_word {y : MethodName} {bytes : ByteArray} {mx : Nat} {rt : Option FieldType} {a : Array Value} {s : State} {m : MethodId} {meth : Method} {c : Code} (h1 : s.methodNamed? y = some m) (h2 : s.vm.method? m = some meth) (h3 : meth.code = some c) (h4 : c.code = bytes)
    (h5 : (c.maxLocals == mx && c.exceptionTable.isEmpty && decide (c.maxStack ≤ mostOperands) && decide (meth.sig.returnType = rt) && !meth.locks && decide (parseMethodDescriptor y.desc = some meth.sig)) = true) : (Jvm.Cond.code y bytes mx rt).before a s = true := by
  simp only [Bool.and_eq_true, beq_iff_eq, Bool.not_eq_true', decide_eq_true_eq] at h5
  obtain ⟨⟨⟨⟨⟨g1, g2⟩, g3⟩, g4⟩, g5⟩, g6⟩ := h5
  simp [Cond.before, Cond.holds, Cond.value, h1, h2, h3, h4, g1, g2, g3, g4, g5, g6]
def isCode : Jvm.Cond → Bool
  | .code _ _ _ _ => true
  | _ => false
theorem all_split {L : List Jvm.Cond} {P : Jvm.Cond → Bool} (h1 : L.all (fun c => isCode c || P c) = true) (h2 : ∀ c ∈ L.filter isCode, P c = true) : L.all P = true := by
  refine List.all_eq_true.mpr fun c hc => ?_
  have h := List.all_eq_true.mp h1 c hc
  rcases Bool.eq_false_or_eq_true (isCode c) with hi | hi
  · exact h2 c (List.mem_filter.mpr ⟨hc, hi⟩)
  · simpa [hi] using h
set_option maxRecDepth 65536 in
theorem w_c0 : (Jvm.Cond.code x code maxLocals ret).before args0 about1 = true := code_word (m := ⟨1, 1⟩) (meth := k1m1) (c := k1c1) (by decide +kernel) rfl rfl rfl (by decide +kernel)
set_option maxRecDepth 65536 in
theorem w_c1 : (Jvm.Cond.code ({ cls := "com/example/enabled_step/enabledstep/engine/Tally", name := "<init>", desc := "()V" } : Jvm.MethodName) prog_46_method_1_code (1 : Nat) (Option.none : Option Jvm.ClassFile.FieldType)).before args0 about1 = true := code_word (m := ⟨2, 0⟩) (meth := k2m0) (c := k2c0) (by decide +kernel) rfl rfl rfl (by decide +kernel)
set_option maxRecDepth 65536 in
theorem w_c2 : (Jvm.Cond.code ({ cls := "java/lang/Object", name := "<init>", desc := "()V" } : Jvm.MethodName) object_method_1_code (1 : Nat) (Option.none : Option Jvm.ClassFile.FieldType)).before args0 about1 = true := code_word (m := ⟨0, 0⟩) (meth := k0m0) (c := k0c0) (by decide +kernel) rfl rfl rfl (by decide +kernel)
set_option maxRecDepth 65536 in
theorem w_c3 : (Jvm.Cond.code ({ cls := "com/example/enabled_step/enabledstep/engine/Tally", name := "newTable", desc := "(I)[I" } : Jvm.MethodName) prog_46_method_9_code (2 : Nat) (Option.some (Jvm.ClassFile.FieldType.array Jvm.ClassFile.FieldType.int))).before args0 about1 = true := code_word (m := ⟨2, 7⟩) (meth := k2m7) (c := k2c7) (by decide +kernel) rfl rfl rfl (by decide +kernel)
set_option maxRecDepth 65536 in
theorem w_c4 : (Jvm.Cond.code ({ cls := "java/util/Arrays", name := "fill", desc := "([II)V" } : Jvm.MethodName) jdk_65_method_103_code (4 : Nat) (Option.none : Option Jvm.ClassFile.FieldType)).before args0 about1 = true := code_word (m := ⟨3, 1⟩) (meth := k3m1) (c := k3c1) (by decide +kernel) rfl rfl rfl (by decide +kernel)
set_option maxRecDepth 65536 in
theorem w_c5 : (Jvm.Cond.code ({ cls := "com/example/enabled_step/enabledstep/engine/Tally", name := "add", desc := "(IJ)V" } : Jvm.MethodName) prog_46_method_2_code (6 : Nat) (Option.none : Option Jvm.ClassFile.FieldType)).before args0 about1 = true := code_word (m := ⟨2, 1⟩) (meth := k2m1) (c := k2c1) (by decide +kernel) rfl rfl rfl (by decide +kernel)
set_option maxRecDepth 65536 in
theorem w_c6 : (Jvm.Cond.code ({ cls := "com/example/enabled_step/enabledstep/engine/Tally", name := "slot", desc := "(I)I" } : Jvm.MethodName) prog_46_method_7_code (5 : Nat) (Option.some Jvm.ClassFile.FieldType.int)).before args0 about1 = true := code_word (m := ⟨2, 6⟩) (meth := k2m6) (c := k2c6) (by decide +kernel) rfl rfl rfl (by decide +kernel)
set_option maxRecDepth 65536 in
theorem w_c7 : (Jvm.Cond.code ({ cls := "java/lang/Math", name := "addExact", desc := "(JJ)J" } : Jvm.MethodName) jdk_29_method_25_code (6 : Nat) (Option.some Jvm.ClassFile.FieldType.long)).before args0 about1 = true := code_word (m := ⟨4, 1⟩) (meth := k4m1) (c := k4c1) (by decide +kernel) rfl rfl rfl (by decide +kernel)
set_option maxRecDepth 65536 in
theorem w_c8 : (Jvm.Cond.code ({ cls := "com/example/enabled_step/enabledstep/engine/Tally", name := "clear", desc := "()V" } : Jvm.MethodName) prog_46_method_6_code (2 : Nat) (Option.none : Option Jvm.ClassFile.FieldType)).before args0 about1 = true := code_word (m := ⟨2, 5⟩) (meth := k2m5) (c := k2c5) (by decide +kernel) rfl rfl rfl (by decide +kernel)
set_option maxRecDepth 65536 in
theorem w_c9 : (Jvm.Cond.code ({ cls := "com/example/enabled_step/enabledstep/engine/Tally", name := "size", desc := "()I" } : Jvm.MethodName) prog_46_method_3_code (1 : Nat) (Option.some Jvm.ClassFile.FieldType.int)).before args0 about1 = true := code_word (m := ⟨2, 2⟩) (meth := k2m2) (c := k2c2) (by decide +kernel) rfl rfl rfl (by decide +kernel)
set_option maxRecDepth 65536 in
theorem w_c10 : (Jvm.Cond.code ({ cls := "com/example/enabled_step/enabledstep/engine/Tally", name := "key", desc := "(I)I" } : Jvm.MethodName) prog_46_method_4_code (2 : Nat) (Option.some Jvm.ClassFile.FieldType.int)).before args0 about1 = true := code_word (m := ⟨2, 3⟩) (meth := k2m3) (c := k2c3) (by decide +kernel) rfl rfl rfl (by decide +kernel)
set_option maxRecDepth 65536 in
theorem w_c11 : (Jvm.Cond.code ({ cls := "com/example/enabled_step/enabledstep/engine/Tally", name := "sum", desc := "(I)J" } : Jvm.MethodName) prog_46_method_5_code (2 : Nat) (Option.some Jvm.ClassFile.FieldType.long)).before args0 about1 = true := code_word (m := ⟨2, 4⟩) (meth := k2m4) (c := k2c4) (by decide +kernel) rfl rfl rfl (by decide +kernel)
def codes1 : List Jvm.Cond := [Jvm.Cond.code x code maxLocals ret, Jvm.Cond.code ({ cls := "com/example/enabled_step/enabledstep/engine/Tally", name := "<init>", desc := "()V" } : Jvm.MethodName) prog_46_method_1_code (1 : Nat) (Option.none : Option Jvm.ClassFile.FieldType), Jvm.Cond.code ({ cls := "java/lang/Object", name := "<init>", desc := "()V" } : Jvm.MethodName) object_method_1_code (1 : Nat) (Option.none : Option Jvm.ClassFile.FieldType), Jvm.Cond.code ({ cls := "com/example/enabled_step/enabledstep/engine/Tally", name := "newTable", desc := "(I)[I" } : Jvm.MethodName) prog_46_method_9_code (2 : Nat) (Option.some (Jvm.ClassFile.FieldType.array Jvm.ClassFile.FieldType.int)), Jvm.Cond.code ({ cls := "java/util/Arrays", name := "fill", desc := "([II)V" } : Jvm.MethodName) jdk_65_method_103_code (4 : Nat) (Option.none : Option Jvm.ClassFile.FieldType), Jvm.Cond.code ({ cls := "com/example/enabled_step/enabledstep/engine/Tally", name := "add", desc := "(IJ)V" } : Jvm.MethodName) prog_46_method_2_code (6 : Nat) (Option.none : Option Jvm.ClassFile.FieldType), Jvm.Cond.code ({ cls := "com/example/enabled_step/enabledstep/engine/Tally", name := "slot", desc := "(I)I" } : Jvm.MethodName) prog_46_method_7_code (5 : Nat) (Option.some Jvm.ClassFile.FieldType.int), Jvm.Cond.code ({ cls := "java/lang/Math", name := "addExact", desc := "(JJ)J" } : Jvm.MethodName) jdk_29_method_25_code (6 : Nat) (Option.some Jvm.ClassFile.FieldType.long), Jvm.Cond.code ({ cls := "com/example/enabled_step/enabledstep/engine/Tally", name := "clear", desc := "()V" } : Jvm.MethodName) prog_46_method_6_code (2 : Nat) (Option.none : Option Jvm.ClassFile.FieldType), Jvm.Cond.code ({ cls := "com/example/enabled_step/enabledstep/engine/Tally", name := "size", desc := "()I" } : Jvm.MethodName) prog_46_method_3_code (1 : Nat) (Option.some Jvm.ClassFile.FieldType.int), Jvm.Cond.code ({ cls := "com/example/enabled_step/enabledstep/engine/Tally", name := "key", desc := "(I)I" } : Jvm.MethodName) prog_46_method_4_code (2 : Nat) (Option.some Jvm.ClassFile.FieldType.int), Jvm.Cond.code ({ cls := "com/example/enabled_step/enabledstep/engine/Tally", name := "sum", desc := "(I)J" } : Jvm.MethodName) prog_46_method_5_code (2 : Nat) (Option.some Jvm.ClassFile.FieldType.long)]
set_option maxRecDepth 65536 in
theorem codes_eq : words1.filter isCode = codes1 := rfl
theorem w_codes : ∀ c ∈ words1.filter isCode, c.before args0 about1 = true := by
  rw [codes_eq]
  intro c hc
  simp only [codes1, List.mem_cons, List.not_mem_nil, or_false] at hc
  rcases hc with rfl | rfl | rfl | rfl | rfl | rfl | rfl | rfl | rfl | rfl | rfl | rfl
  · exact w_c0
  · exact w_c1
  · exact w_c2
  · exact w_c3
  · exact w_c4
  · exact w_c5
  · exact w_c6
  · exact w_c7
  · exact w_c8
  · exact w_c9
  · exact w_c10
  · exact w_c11
set_option maxRecDepth 65536 in
theorem w_t1 : (words1.take 24).all (fun c => isCode c || c.before args0 about1) = true := by decide +kernel
set_option maxRecDepth 65536 in
theorem w_t2 : ((words1.drop 24).take 24).all (fun c => isCode c || c.before args0 about1) = true := by decide +kernel
set_option maxRecDepth 65536 in
theorem w_t3 : ((words1.drop 24).drop 24).all (fun c => isCode c || c.before args0 about1) = true := by decide +kernel
theorem w_tables : (allAtoms (Jvm.Cond.code x code maxLocals ret :: tables_1)).before args0 about1 = true := by
  rw [allAtoms_all]
  show words1.all (fun c => c.before args0 about1) = true
  refine all_split ?_ w_codes
  rw [← List.take_append_drop 24 words1, List.all_append, w_t1, ← List.take_append_drop 24 (words1.drop 24), List.all_append, w_t2, w_t3]
  rfl
set_option maxRecDepth 65536 in
theorem w_case : (Jvm.Cond.and given_1 narrow_1).before args0 about1 = true := by decide +kernel
theorem w_applies : (headSpec (Jvm.Cond.code x code maxLocals ret :: tables_1) room_1).applies x e0.platform about1 = true :=
  (Spec.applies_iff w_frames).mpr ⟨w_running, w_runnable, w_alone, w_named, w_hears, w_ripe, w_room, w_tables⟩
theorem atStart : AtStart classFile x code maxLocals ret World_1 tables_1 room_1 Calls_1 rest_1 Pre_1 launch0 p0 e0 about1 theMethod args0 below0 :=
  ⟨lists_1, trivial, launch0.admits_env _ _ _, launch0.least_env, fairChoices_fair.cas, fairChoices_fair.clock, w_frames, w_args, w_heap, w_applies, trivial, trivial, w_case⟩
end start1
theorem witness_1 : WitnessClaimed_1 := ⟨start1.p0, start1.e0, start1.about1, start1.theMethod, start1.args0, start1.below0, start1.atStart⟩
end Jvm.Pilot.@@N@@
