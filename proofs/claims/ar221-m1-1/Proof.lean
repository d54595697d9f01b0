import JvmDerived
import JvmDerived.Pilot.@@N@@Statement
import JvmDerived.Pilot.@@N@@Code
set_option linter.unusedVariables false
set_option linter.unusedSimpArgs false
namespace Jvm.Pilot.@@N@@
open Jvm Jvm.ClassFile Sem Op Lib Jvm.Free Jvm.Stand Jvm.LawKit Jvm.RoadKit Bundle Jvm.Pilot.@@N@@.Jvm.D
theorem own_lt32 {x y : Int32} {i j : Int} (hi : x.toInt = i) (hj : y.toInt = j) (h : i < j) : x < y := by rw [Int32.lt_iff_toInt_lt, hi, hj]; exact h
theorem own_nlt32 {x y : Int32} {i j : Int} (hi : x.toInt = i) (hj : y.toInt = j) (h : ¬ i < j) : ¬ x < y := by rw [Int32.lt_iff_toInt_lt, hi, hj]; exact h
theorem own_eq32 {x y : Int32} {i j : Int} (hi : x.toInt = i) (hj : y.toInt = j) (h : i = j) : x = y := by rw [← Int32.toInt_inj, hi, hj]; exact h
theorem own_neq32 {x y : Int32} {i j : Int} (hi : x.toInt = i) (hj : y.toInt = j) (h : ¬ i = j) : ¬ x = y := by rw [← Int32.toInt_inj, hi, hj]; exact h
theorem own_lt64 {x y : Int64} {i j : Int} (hi : x.toInt = i) (hj : y.toInt = j) (h : i < j) : x < y := by rw [Int64.lt_iff_toInt_lt, hi, hj]; exact h
theorem own_nlt64 {x y : Int64} {i j : Int} (hi : x.toInt = i) (hj : y.toInt = j) (h : ¬ i < j) : ¬ x < y := by rw [Int64.lt_iff_toInt_lt, hi, hj]; exact h
theorem own_eq64 {x y : Int64} {i j : Int} (hi : x.toInt = i) (hj : y.toInt = j) (h : i = j) : x = y := by rw [← Int64.toInt_inj, hi, hj]; exact h
theorem own_neq64 {x y : Int64} {i j : Int} (hi : x.toInt = i) (hj : y.toInt = j) (h : ¬ i = j) : ¬ x = y := by rw [← Int64.toInt_inj, hi, hj]; exact h
/-! OWN LAYER 1: the run goes on (own_Go), a method's contract (own_Met), its entry, its returns, its calls. -/
section OwnGo
variable {p : Program} {l : Launch} {e : Env} {R : Room} {s : State} {m : MethodId} {args : Array Value} {below : List Frame} {meth : Method} {c : Code} {T : State} {locs : List Loc} {cells slots : Nat} {Z : State} {a0 : Array Value} {h : Heap}
/-- from A the run comes to a state of which G holds -/
def own_Go (p : Program) (e : Env) (below : List Frame) (G : State → Prop) (A : State) : Prop := ∃ t, Steps p.tables e below A t ∧ G t
theorem own_go {G : State → Prop} {A B : State} (h : ∀ t, Steps p.tables e below B t → Steps p.tables e below A t) (k : own_Go p e below G B) : own_Go p e below G A := by
  obtain ⟨t, h1, h2⟩ := k; exact ⟨t, h t h1, h2⟩
/-- the invocation from s has ended by a return: what came back, the heap and the places written are as Q says -/
def own_End (below : List Frame) (s : State) (Q : Option Value → Heap → List Loc → Prop) (C N : Nat) (t : State) : Prop := t.status = .running ∧ ∃ v L, Ended t below (.returned v) ∧ Q v t.heap L ∧ FrameEnd s (.returned v) t L C N
/-- a contract of a method at one heap -/
def own_Met (l : Launch) (Z : State) (ws : List Jvm.Cond) (y : MethodName) (bytes : ByteArray) (maxL : Nat) (ret : Option FieldType) (rm : Room) (as' : Array Value) (h : Heap) (Q : Option Value → Heap → List Loc → Prop) : Prop :=
  MetFree l y (head1 (Jvm.Cond.code y bytes maxL ret :: ws) rm) (fun a U => a = as' ∧ Z.Warmed39 U.vm ∧ U.heap = h) (fun _ _ _ _ _ => True) (fun _ U o U' => ∃ v L, o = .returned v ∧ Q v U'.heap L ∧ FrameEnd U o U' L rm.cells rm.slots)
theorem own_met {ws : List Jvm.Cond} {y : MethodName} {bytes : ByteArray} {maxL : Nat} {ret : Option FieldType} {rm : Room} {as' : Array Value} {Q : Option Value → Heap → List Loc → Prop} (hpf : plainFor y = true)
    (body : ∀ (p : Program) (e : Env) (s : State) (m : MethodId) (below : List Frame) (meth : Method) (c : Code) (s₁ : State), p.tables.exec = Jvm.exec → c.code = bytes → c.maxLocals = maxL → s.vm.findClass y.cls = some m.cls → meth.name = y.name → meth.sig.returnType = ret → meth.locks = false → Z.Warmed39 s.vm →
      Stand p l e rm s m as' below meth c s₁ [] 0 0 → s₁.heap = h → own_Go p e below (own_End below s Q rm.cells rm.slots) (s₁.setTop (entryFrame m as' maxL))) :
    own_Met l Z ws y bytes maxL ret rm as' h Q := by
  refine MetFree.of_bodySF hpf hisR ?_
  intro p e s m args below meth c s₁ Bd hml0 hP hK
  obtain ⟨rfl, hZ, hh⟩ := hP
  obtain ⟨t, h1, h2, v, L, h3, h4, h5⟩ := body p e s m below meth c s₁ Bd.exec Bd.bytes hml0 (findClass_of_methodNamed Bd.named) (name_of_methodNamed Bd.named Bd.method).1 Bd.returns Bd.notSynchronized hZ (Stand.of_body Bd) (by rw [← hh, Bd.state]; rfl)
  exact ⟨t, _, h1, h2, h3, v, L, rfl, h4, h5⟩
theorem own_entry {G : State → Prop} {f g : JFrame} (q : f = g) (k : own_Go p e below G (T.setTop g)) : own_Go p e below G (T.setTop f) := q ▸ k
theorem own_ret (X : Stand p l e R s m args below meth c T locs cells slots) (hx : p.tables.exec = Jvm.exec) (hlk : meth.locks = false) {pc : Nat} {Ls : Array Slot} {w : Value} {t : FieldType} {i : Instr} {rest : List Value} (hret : meth.sig.returnType = some t) (hn : narrow t w = w)
    (hi : (i = .ireturn ∧ (t = .int ∨ t = .boolean ∨ t = .byte ∨ t = .char ∨ t = .short) ∧ ∃ z, w = .int z) ∨ (i = .lreturn ∧ t = .long ∧ ∃ z, w = .long z) ∨ (i = .dreturn ∧ t = .double ∧ ∃ z, w = .double z) ∨ (i = .freturn ∧ t = .float ∧ ∃ z, w = .float z) ∨ (i = .areturn ∧ t.isReference = true ∧ w.isRef = true))
    (hd : decode c.code pc = .ok (i, 1)) {Q : Option Value → Heap → List Loc → Prop} {C N : Nat} (hQ : Q (some w) T.heap locs) (hc : cells ≤ C) (hs : slots ≤ N) : own_Go p e below (own_End below s Q C N) (T.setTop (mkF m pc Ls (w :: rest))) := by
  obtain ⟨fs, hr, hrun, hended, hW, hsame⟩ := X.leave (v := some w) (fun h => by rw [hret] at h; cases h) hlk
  exact ⟨_, retOut X hx hret hn hi hd hr, hrun, _, _, hended, hQ, ⟨_, rfl⟩, hW, hsame.mono hc hs⟩
theorem own_retI (X : Stand p l e R s m args below meth c T locs cells slots) (hx : p.tables.exec = Jvm.exec) (hlk : meth.locks = false) {pc : Nat} {Ls : Array Slot} {z : Int32} {rest : List Value} (hret : meth.sig.returnType = some .int)
    (hd : decode c.code pc = .ok (.ireturn, 1)) {Q : Option Value → Heap → List Loc → Prop} {C N : Nat} (hQ : Q (some (.int z)) T.heap locs) (hc : cells ≤ C) (hs : slots ≤ N) : own_Go p e below (own_End below s Q C N) (T.setTop (mkF m pc Ls (.int z :: rest))) :=
  own_ret X hx hlk hret rfl (Or.inl ⟨rfl, Or.inl rfl, z, rfl⟩) hd hQ hc hs
theorem own_retZ (X : Stand p l e R s m args below meth c T locs cells slots) (hx : p.tables.exec = Jvm.exec) (hlk : meth.locks = false) {pc : Nat} {Ls : Array Slot} {z : Int32} {rest : List Value} (hret : meth.sig.returnType = some .boolean) (hz : z &&& 1 = z)
    (hd : decode c.code pc = .ok (.ireturn, 1)) {Q : Option Value → Heap → List Loc → Prop} {C N : Nat} (hQ : Q (some (.int z)) T.heap locs) (hc : cells ≤ C) (hs : slots ≤ N) : own_Go p e below (own_End below s Q C N) (T.setTop (mkF m pc Ls (.int z :: rest))) :=
  own_ret X hx hlk hret (by show Value.int (z &&& 1) = _; rw [hz]) (Or.inl ⟨rfl, Or.inr (Or.inl rfl), z, rfl⟩) hd hQ hc hs
theorem own_retJ (X : Stand p l e R s m args below meth c T locs cells slots) (hx : p.tables.exec = Jvm.exec) (hlk : meth.locks = false) {pc : Nat} {Ls : Array Slot} {z : Int64} {rest : List Value} (hret : meth.sig.returnType = some .long)
    (hd : decode c.code pc = .ok (.lreturn, 1)) {Q : Option Value → Heap → List Loc → Prop} {C N : Nat} (hQ : Q (some (.long z)) T.heap locs) (hc : cells ≤ C) (hs : slots ≤ N) : own_Go p e below (own_End below s Q C N) (T.setTop (mkF m pc Ls (.long z :: rest))) :=
  own_ret X hx hlk hret rfl (Or.inr (Or.inl ⟨rfl, rfl, z, rfl⟩)) hd hQ hc hs
theorem own_retA (X : Stand p l e R s m args below meth c T locs cells slots) (hx : p.tables.exec = Jvm.exec) (hlk : meth.locks = false) {pc : Nat} {Ls : Array Slot} {a : Addr} {t : FieldType} {rest : List Value} (hret : meth.sig.returnType = some t) (ht : t.isReference = true) (hn : narrow t (.ref a) = .ref a)
    (hd : decode c.code pc = .ok (.areturn, 1)) {Q : Option Value → Heap → List Loc → Prop} {C N : Nat} (hQ : Q (some (.ref a)) T.heap locs) (hc : cells ≤ C) (hs : slots ≤ N) : own_Go p e below (own_End below s Q C N) (T.setTop (mkF m pc Ls (.ref a :: rest))) :=
  own_ret X hx hlk hret hn (Or.inr (Or.inr (Or.inr (Or.inr ⟨rfl, ht, rfl⟩)))) hd hQ hc hs
theorem own_retV (X : Stand p l e R s m args below meth c T locs cells slots) (hx : p.tables.exec = Jvm.exec) (hlk : meth.locks = false) {pc : Nat} {Ls : Array Slot} (hret : meth.sig.returnType = none)
    (hd : decode c.code pc = .ok (.return_, 1)) {Q : Option Value → Heap → List Loc → Prop} {C N : Nat} (hQ : Q none T.heap locs) (hc : cells ≤ C) (hs : slots ≤ N) : own_Go p e below (own_End below s Q C N) (T.setTop (mkF m pc Ls [])) := by
  obtain ⟨fs, hr, hrun, hended, hW, hsame⟩ := X.leave (v := none) (fun _ => rfl) hlk
  exact ⟨_, X.returnOut hx hret hd hr, hrun, _, _, hended, hQ, ⟨_, rfl⟩, hW, hsame.mono hc hs⟩
/-- a static method by its contract -/
theorem own_callS (X : Stand p l e R s m args below meth c T locs cells slots) (hx : p.tables.exec = Jvm.exec) (hZ : Z.Warmed39 s.vm) {own : String} {index : Nat} {y : MethodName} {bytes : ByteArray} {maxL : Nat} {ret : Option FieldType} (hown : s.vm.findClass own = some m.cls)
    (w1 : (Jvm.Cond.methodLink own index y).before a0 Z = true) (w2 : (Jvm.Cond.static y).before a0 Z = true) (w3 : (Jvm.Cond.initialized y.cls).before a0 Z = true) (w4 : (Jvm.Cond.code y bytes maxL ret).before a0 Z = true) (hy : y.cls ≠ "java/lang/invoke/MethodHandle" ∧ y.cls ≠ "java/lang/invoke/VarHandle")
    {rm : Room} {as' : Array Value} {Q : Option Value → Heap → List Loc → Prop} (hM : own_Met l Z [] y bytes maxL ret rm as' h Q) (eT : T.heap = h) {pc : Nat} {Ls : Array Slot} {argsL rest st : List Value} (ha : argsL.toArray = as') (hsz : Ls.size = c.maxLocals)
    {ps : List FieldType} {r : Option FieldType} (hpd : parseMethodDescriptor y.desc = some ⟨ps, r⟩) (hpl : argsL.length = ps.length) (hst : st = argsL.reverse ++ rest) (hd : decode c.code pc = .ok (.invokestatic index, 3)) (W : Nat) (hW : (rest.map fun v => v.category).sum ≤ W)
    (hf : rm.frames + 1 ≤ R.frames) (hl : W + (maxL + 11) + rm.locals ≤ R.locals) (hc : cells + rm.cells ≤ R.cells) (hsl : slots + rm.slots ≤ R.slots) :
    ∃ (v : Option Value) (L : List Loc) (T' : State), Stand p l e R s m args below meth c T' (locs ++ L) (cells + rm.cells) (slots + rm.slots) ∧ Q v T'.heap L ∧ ∀ t, Steps p.tables e below (T'.setTop (mkF m (pc + 3) Ls (v.toList ++ rest))) t → Steps p.tables e below (T.setTop (mkF m pc Ls st)) t := by
  subst ha
  obtain ⟨v, _, ⟨T', L', k', n'⟩, -, X', ⟨L, hQ, l1, y1, z1⟩, st'⟩ := Jvm.LawKit.callS X hx (y := y) hown (mvT hZ w1) (mvT hZ w2) (mvT hZ w3) (mvT hZ w4) hy (backOf (W := W) hM hZ w4 w3 hf hl) (g := mkF m pc Ls st) rfl hsz (argsL := argsL) (rest := rest) (lenOf hpd hpl) hst (by show 2 * 0 + _ ≤ _; omega) hd (fun _ _ => ⟨rfl, eT, hc, hsl⟩)
  dsimp only [Pt.U, Pt.locs, Pt.cells, Pt.slots] at X' l1 y1 z1 st' hQ
  subst l1 y1 z1
  exact ⟨v, L, T', X', hQ, st'⟩
/-- an instance method by its contract, the receiver exactly of the class C -/
theorem own_callV (X : Stand p l e R s m args below meth c T locs cells slots) (hx : p.tables.exec = Jvm.exec) (hZ : Z.Warmed39 s.vm) {own C : String} {index : Nat} {y : MethodName} {bytes : ByteArray} {maxL : Nat} {ret : Option FieldType} (hown : s.vm.findClass own = some m.cls)
    (w1 : (Jvm.Cond.methodLink own index y).before a0 Z = true) (w2 : (Jvm.Cond.declares y).before a0 Z = true) (w3 : (Jvm.Cond.selects C y y).before a0 Z = true) (w4 : (Jvm.Cond.instanceMethod y).before a0 Z = true) (w5 : (Jvm.Cond.code y bytes maxL ret).before a0 Z = true) (w6 : (Jvm.Cond.initialized y.cls).before a0 Z = true)
    (hy : y.cls ≠ "java/lang/invoke/MethodHandle" ∧ y.cls ≠ "java/lang/invoke/VarHandle") {b : Addr} (E : Exa Z h b C)
    {rm : Room} {as' : Array Value} {Q : Option Value → Heap → List Loc → Prop} (hM : own_Met l Z [] y bytes maxL ret rm as' h Q) (eT : T.heap = h) {pc : Nat} {Ls : Array Slot} {argsL rest st : List Value} (ha : (.ref b :: argsL).toArray = as') (hsz : Ls.size = c.maxLocals)
    {ps : List FieldType} {r : Option FieldType} (hpd : parseMethodDescriptor y.desc = some ⟨ps, r⟩) (hpl : argsL.length = ps.length) (hst : st = argsL.reverse ++ .ref b :: rest) (hd : decode c.code pc = .ok (.invokevirtual index, 3)) (W : Nat) (hW : (rest.map fun v => v.category).sum ≤ W)
    (hf : rm.frames + 1 ≤ R.frames) (hl : W + (maxL + 11) + rm.locals ≤ R.locals) (hc : cells + rm.cells ≤ R.cells) (hsl : slots + rm.slots ≤ R.slots) :
    ∃ (v : Option Value) (L : List Loc) (T' : State), Stand p l e R s m args below meth c T' (locs ++ L) (cells + rm.cells) (slots + rm.slots) ∧ Q v T'.heap L ∧ ∀ t, Steps p.tables e below (T'.setTop (mkF m (pc + 3) Ls (v.toList ++ rest))) t → Steps p.tables e below (T.setTop (mkF m pc Ls st)) t := by
  subst ha
  obtain ⟨cq, kq, qa, qb, qc⟩ := isOf hZ eT E
  obtain ⟨v, _, ⟨T', L', k', n'⟩, -, X', ⟨L, hQ, l1, y1, z1⟩, st'⟩ := X.virtualBack hx (y := y) (z := y) hown (mvT hZ w1) (mvT hZ w2) (notFace_of_selects (args := #[]) (mvT hZ w3)) (mvT hZ w3) (mvT hZ w4) hy (backOf (W := W) hM hZ w5 w6 hf hl) qa qc (g := mkF m pc Ls st) rfl hsz (Steps.refl _) (argsL := argsL) (rest := rest) (lenOf hpd hpl) hst (by show 2 * 0 + _ ≤ _; omega) hd (fun _ _ => ⟨rfl, eT, hc, hsl⟩)
  dsimp only [Pt.U, Pt.locs, Pt.cells, Pt.slots] at X' l1 y1 z1 st' hQ
  subst l1 y1 z1
  exact ⟨v, L, T', X', hQ, fun t k => st'.trans k⟩
/-- a constructor by its contract -/
theorem own_callI (X : Stand p l e R s m args below meth c T locs cells slots) (hx : p.tables.exec = Jvm.exec) (hZ : Z.Warmed39 s.vm) {own : String} {index : Nat} {y : MethodName} {bytes : ByteArray} {maxL : Nat} (hyn : y.name = "<init>") (hown : s.vm.findClass own = some m.cls)
    (w1 : (Jvm.Cond.methodLink own index y).before a0 Z = true) (w2 : (Jvm.Cond.instanceMethod y).before a0 Z = true) (w3 : (Jvm.Cond.code y bytes maxL none).before a0 Z = true) (w4 : (Jvm.Cond.initialized y.cls).before a0 Z = true) (hy : y.cls ≠ "java/lang/invoke/MethodHandle" ∧ y.cls ≠ "java/lang/invoke/VarHandle") {b : Addr}
    {rm : Room} {as' : Array Value} {Q : Option Value → Heap → List Loc → Prop} (hM : own_Met l Z [] y bytes maxL none rm as' h Q) (eT : T.heap = h) {pc : Nat} {Ls : Array Slot} {argsL rest st : List Value} (ha : (.ref b :: argsL).toArray = as') (hsz : Ls.size = c.maxLocals)
    {ps : List FieldType} {r : Option FieldType} (hpd : parseMethodDescriptor y.desc = some ⟨ps, r⟩) (hpl : argsL.length = ps.length) (hst : st = argsL.reverse ++ .ref b :: rest) (hd : decode c.code pc = .ok (.invokespecial index, 3)) (W : Nat) (hW : (rest.map fun v => v.category).sum ≤ W)
    (hf : rm.frames + 1 ≤ R.frames) (hl : W + (maxL + 11) + rm.locals ≤ R.locals) (hc : cells + rm.cells ≤ R.cells) (hsl : slots + rm.slots ≤ R.slots) :
    ∃ (v : Option Value) (L : List Loc) (T' : State), Stand p l e R s m args below meth c T' (locs ++ L) (cells + rm.cells) (slots + rm.slots) ∧ Q v T'.heap L ∧ ∀ t, Steps p.tables e below (T'.setTop (mkF m (pc + 3) Ls (v.toList ++ rest))) t → Steps p.tables e below (T.setTop (mkF m pc Ls st)) t := by
  subst ha
  obtain ⟨v, _, ⟨T', L', k', n'⟩, -, X', ⟨L, hQ, l1, y1, z1⟩, st'⟩ := X.specialBack hx (y := y) hyn hown (mvT hZ w1) (mvT hZ w2) (mvT hZ w3) hy (backOf (W := W) hM hZ w3 w4 hf hl) (g := mkF m pc Ls st) rfl hsz (Steps.refl _) (a := b) (argsL := argsL) (rest := rest) (lenOf hpd hpl) hst (by show 2 * 0 + _ ≤ _; omega) hd (fun _ _ => ⟨rfl, eT, hc, hsl⟩)
  dsimp only [Pt.U, Pt.locs, Pt.cells, Pt.slots] at X' l1 y1 z1 st' hQ
  subst l1 y1 z1
  exact ⟨v, L, T', X', hQ, fun t k => st'.trans k⟩
end OwnGo
/-! OWN LAYER 2: private calls, arrays by functions, small stack steps. -/
section OwnAr
variable {p : Program} {l : Launch} {e : Env} {R : Room} {s : State} {m : MethodId} {args : Array Value} {below : List Frame} {meth : Method} {c : Code} {T : State} {locs : List Loc} {cells slots : Nat} {Z : State} {a0 : Array Value} {h h' : Heap}
/-- a private method by its contract -/
theorem own_callP (X : Stand p l e R s m args below meth c T locs cells slots) (hx : p.tables.exec = Jvm.exec) (hZ : Z.Warmed39 s.vm) {own : String} {index kk : Nat} {y : MethodName} {bytes : ByteArray} {maxL : Nat} {ret : Option FieldType} (hown : s.vm.findClass own = some m.cls)
    (w1 : (Jvm.Cond.methodLink own index y).before a0 Z = true) (w2 : (Jvm.Cond.instanceMethod y).before a0 Z = true) (w3 : (Jvm.Cond.privateMethod y).before a0 Z = true) (w4 : (Jvm.Cond.instantiable y.cls kk).before a0 Z = true) (w5 : (Jvm.Cond.code y bytes maxL ret).before a0 Z = true) (w6 : (Jvm.Cond.initialized y.cls).before a0 Z = true)
    (hy : y.cls ≠ "java/lang/invoke/MethodHandle" ∧ y.cls ≠ "java/lang/invoke/VarHandle") {b : Addr} {C : String} (E : Exa Z h b C)
    {rm : Room} {as' : Array Value} {Q : Option Value → Heap → List Loc → Prop} (hM : own_Met l Z [] y bytes maxL ret rm as' h Q) (eT : T.heap = h) {pc : Nat} {Ls : Array Slot} {argsL rest st : List Value} (ha : (.ref b :: argsL).toArray = as') (hsz : Ls.size = c.maxLocals)
    {ps : List FieldType} {r : Option FieldType} (hpd : parseMethodDescriptor y.desc = some ⟨ps, r⟩) (hpl : argsL.length = ps.length) (hst : st = argsL.reverse ++ .ref b :: rest) (hd : decode c.code pc = .ok (.invokevirtual index, 3)) (W : Nat) (hW : (rest.map fun v => v.category).sum ≤ W)
    (hf : rm.frames + 1 ≤ R.frames) (hl : W + (maxL + 11) + rm.locals ≤ R.locals) (hc : cells + rm.cells ≤ R.cells) (hsl : slots + rm.slots ≤ R.slots) :
    ∃ (v : Option Value) (L : List Loc) (T' : State), Stand p l e R s m args below meth c T' (locs ++ L) (cells + rm.cells) (slots + rm.slots) ∧ Q v T'.heap L ∧ ∀ t, Steps p.tables e below (T'.setTop (mkF m (pc + 3) Ls (v.toList ++ rest))) t → Steps p.tables e below (T.setTop (mkF m pc Ls st)) t := by
  subst ha
  obtain ⟨cell, q1, q2⟩ := E.cell
  have hp : s.PrivateAt y := Cond.privateMethod_at (mvP hZ w3 (args := #[]))
  have w4s : (Jvm.Cond.instantiable y.cls kk).before args s = true := mvT hZ w4
  obtain ⟨ci, ki, i1, i2, -, i3, -⟩ := Cond.instantiable_spec w4s
  have hsel : (Jvm.Cond.selects y.cls y y).before args s = true := Jvm.Stand.selects_self_of_private i1 i2 (Bool.or_eq_false_iff.mp i3).1 hp (mvT hZ w2) hy
  obtain ⟨v, _, ⟨T', L', k', n'⟩, -, X', ⟨L, hQ, l1, y1, z1⟩, st'⟩ := X.privateBack hx (y := y) hown (mvT hZ w1) (mvT hZ w2) hsel hp (mvT hZ w5) hy (backOf (W := W) hM hZ w5 w6 hf hl) (g := mkF m pc Ls st) rfl hsz (Steps.refl _) (a := b) (by rw [eT]; exact q1) q2 (argsL := argsL) (rest := rest) (lenOf hpd hpl) hst (by show 2 * 0 + _ ≤ _; omega) hd (fun _ _ => ⟨rfl, eT, hc, hsl⟩)
  dsimp only [Pt.U, Pt.locs, Pt.cells, Pt.slots] at X' l1 y1 z1 st' hQ
  subst l1 y1 z1
  exact ⟨v, L, T', X', hQ, fun t k => st'.trans k⟩
/-- the array at a: of the kind ty, n places, place i holds f i -/
def own_Ar (Z : State) (h : Heap) (a : Addr) (ty : FieldType) (n : Nat) (f : Nat → Value) : Prop := n < 2 ^ 31 ∧ ∃ c : Cell, Arr Z h a c ty ∧ c.slots.size = n ∧ ∀ i, i < n → c.slots[i]? = some (f i)
abbrev own_I (g : Nat → Int32) : Nat → Value := fun i => .int (g i)
abbrev own_J (g : Nat → Int64) : Nat → Value := fun i => .long (g i)
def own_upd {α : Type} (g : Nat → α) (j : Nat) (x : α) : Nat → α := fun i => if i = j then x else g i
theorem own_upd_at {α : Type} (g : Nat → α) (j : Nat) (x : α) : own_upd g j x j = x := if_pos rfl
theorem own_upd_ne {α : Type} (g : Nat → α) {i j : Nat} (x : α) (q : i ≠ j) : own_upd g j x i = g i := if_neg q
theorem own_Ar.congr {a : Addr} {ty : FieldType} {n : Nat} {f f' : Nat → Value} (A : own_Ar Z h a ty n f) (q : ∀ i, i < n → f i = f' i) : own_Ar Z h a ty n f' := by
  obtain ⟨hn, cl, A1, A2, A3⟩ := A; exact ⟨hn, cl, A1, A2, fun i hi => by rw [← q i hi]; exact A3 i hi⟩
theorem own_Ar.ext {a : Addr} {ty : FieldType} {n : Nat} {f : Nat → Value} (A : own_Ar Z h a ty n f) (E : Ext h h') : own_Ar Z h' a ty n f := by
  obtain ⟨hn, cl, A1, A2⟩ := A; exact ⟨hn, cl, A1.ext E, A2⟩
theorem own_Ar.other {a b : Addr} {ty : FieldType} {n sl : Nat} {f : Nat → Value} {v : Value} (A : own_Ar Z h b ty n f) (W : Wr h h' a sl v) (q : b ≠ a) : own_Ar Z h' b ty n f := by
  obtain ⟨hn, cl, A1, A2⟩ := A; exact ⟨hn, cl, A1.other W q, A2⟩
theorem own_Ar.keep {a : Addr} {ty : FieldType} {n : Nat} {f : Nat → Value} {ws : List Addr} (A : own_Ar Z h a ty n f) (K : Keep h h' ws) (q : a ∉ ws) : own_Ar Z h' a ty n f := by
  obtain ⟨hn, cl, A1, A2⟩ := A; exact ⟨hn, cl, ⟨K.2.1 a cl A1.1 q, A1.2⟩, A2⟩
theorem own_Ar.lt {a : Addr} {ty : FieldType} {n : Nat} {f : Nat → Value} (A : own_Ar Z h a ty n f) : a < h.size := by obtain ⟨_, cl, A1, -⟩ := A; exact A1.lt
theorem own_Ar.set {a : Addr} {ty : FieldType} {n i : Nat} {f : Nat → Value} {v : Value} (A : own_Ar Z h a ty n f) (W : Wr h h' a i v) : own_Ar Z h' a ty n (own_upd f i v) := by
  obtain ⟨hn, cl, A1, A2, A3⟩ := A
  refine ⟨hn, _, A1.same W, by rw [sz_set]; exact A2, fun j hj => ?_⟩
  simp only [Cell.setSlot, own_upd]
  by_cases q : j = i
  · subst q; rw [if_pos rfl]; simp [A2, hj]
  · rw [if_neg q, Array.getElem?_setIfInBounds_ne (Ne.symm q)]; exact A3 j hj
theorem own_Ar.setI {a : Addr} {n i : Nat} {g : Nat → Int32} {x : Int32} (A : own_Ar Z h a .int n (own_I g)) (W : Wr h h' a i (.int x)) : own_Ar Z h' a .int n (own_I (own_upd g i x)) := (A.set W).congr fun j _ => by
  show own_upd (own_I g) i (.int x) j = .int (own_upd g i x j)
  unfold own_upd; split <;> rfl
theorem own_Ar.setJ {a : Addr} {n i : Nat} {g : Nat → Int64} {x : Int64} (A : own_Ar Z h a .long n (own_J g)) (W : Wr h h' a i (.long x)) : own_Ar Z h' a .long n (own_J (own_upd g i x)) := (A.set W).congr fun j _ => by
  show own_upd (own_J g) i (.long x) j = .long (own_upd g i x j)
  unfold own_upd; split <;> rfl
theorem own_nat {j : Int32} {i : Nat} (hj : j.toInt = i) : j.toNatClampNeg = i ∧ ¬ j < 0 := by
  constructor
  · simp only [Int32.toNatClampNeg]; omega
  · rw [Int32.lt_iff_toInt_lt, hj]; have : (0 : Int32).toInt = 0 := rfl
    omega
theorem own_in {cl : Cell} {j : Int32} {i n : Nat} (hj : j.toInt = i) (hs : cl.slots.size = n) (hi : i < n) : ¬ (j < 0 ∨ cl.slots.size ≤ j.toNatClampNeg) := by
  obtain ⟨q1, q2⟩ := own_nat hj
  rw [q1]
  exact fun r => r.elim q2 (fun r => by omega)
theorem own_gt {a : Addr} {n : Nat} (h : a < n) : n > a := h
theorem own_iaload (X : Stand p l e R s m args below meth c T locs cells slots) (hx : p.tables.exec = Jvm.exec) (hZ : Z.Warmed39 s.vm) (eT : T.heap = h) {a : Addr} {n i : Nat} {g : Nat → Int32} (A : own_Ar Z h a .int n (own_I g)) {j : Int32} (hj : j.toInt = i) (hi : i < n) {pc : Nat} {Ls : Array Slot} {rest : List Value}
    (hd : decode c.code pc = .ok (.iaload, 1)) : ∀ t, Steps p.tables e below (T.setTop (mkF m (pc + 1) Ls (.int (g i) :: rest))) t → Steps p.tables e below (T.setTop (mkF m pc Ls (.int j :: .ref a :: rest))) t := by
  obtain ⟨hn, cl, A1, A2, A3⟩ := A
  intro t k
  exact X.iaload hx (j := j) (v := .int (g i)) (by rw [eT]; exact A1.1) (State.isArrayOf_alike hZ.alike A1.2.1) A1.2.2 (own_in hj A2 hi) (by rw [(own_nat hj).1]; exact A3 i hi) (g := mkF m pc Ls (.int j :: .ref a :: rest)) rfl rfl hd _ k
theorem own_laload (X : Stand p l e R s m args below meth c T locs cells slots) (hx : p.tables.exec = Jvm.exec) (hZ : Z.Warmed39 s.vm) (eT : T.heap = h) {a : Addr} {n i : Nat} {g : Nat → Int64} (A : own_Ar Z h a .long n (own_J g)) {j : Int32} (hj : j.toInt = i) (hi : i < n) {pc : Nat} {Ls : Array Slot} {rest : List Value}
    (hd : decode c.code pc = .ok (.laload, 1)) : ∀ t, Steps p.tables e below (T.setTop (mkF m (pc + 1) Ls (.long (g i) :: rest))) t → Steps p.tables e below (T.setTop (mkF m pc Ls (.int j :: .ref a :: rest))) t := by
  obtain ⟨hn, cl, A1, A2, A3⟩ := A
  intro t k
  exact X.laload hx (j := j) (v := .long (g i)) (by rw [eT]; exact A1.1) (State.isArrayOf_alike hZ.alike A1.2.1) A1.2.2 (own_in hj A2 hi) (by rw [(own_nat hj).1]; exact A3 i hi) (g := mkF m pc Ls (.int j :: .ref a :: rest)) rfl rfl hd _ k
theorem own_alen (X : Stand p l e R s m args below meth c T locs cells slots) (hx : p.tables.exec = Jvm.exec) (hZ : Z.Warmed39 s.vm) (eT : T.heap = h) {a : Addr} {ty : FieldType} {n : Nat} {f : Nat → Value} (A : own_Ar Z h a ty n f) {pc : Nat} {Ls : Array Slot} {rest : List Value}
    (hd : decode c.code pc = .ok (.arraylength, 1)) : ∀ t, Steps p.tables e below (T.setTop (mkF m (pc + 1) Ls (.int n.toInt32 :: rest))) t → Steps p.tables e below (T.setTop (mkF m pc Ls (.ref a :: rest))) t := by
  obtain ⟨hn, cl, A1, A2, A3⟩ := A
  intro t k
  exact X.arraylength hx (by rw [eT]; exact A1.1) (State.isArrayOf_alike hZ.alike A1.2.1) (g := mkF m pc Ls (.ref a :: rest)) rfl rfl hd _ (by rw [A2]; exact k)
theorem own_iastore (X : Stand p l e R s m args below meth c T locs cells slots) (hx : p.tables.exec = Jvm.exec) (hZ : Z.Warmed39 s.vm) (eT : T.heap = h) {a : Addr} {n i : Nat} {g : Nat → Int32} (A : own_Ar Z h a .int n (own_I g)) {j x : Int32} (hj : j.toInt = i) (hi : i < n) {pc : Nat} {Ls : Array Slot} {rest : List Value}
    (hd : decode c.code pc = .ok (.iastore, 1)) : ∃ T' h', Stand p l e R s m args below meth c T' (locs ++ [⟨a, i⟩]) cells slots ∧ T'.heap = h' ∧ Wr h h' a i (.int x) ∧ ∀ t, Steps p.tables e below (T'.setTop (mkF m (pc + 1) Ls rest)) t → Steps p.tables e below (T.setTop (mkF m pc Ls (.int x :: .int j :: .ref a :: rest))) t := by
  obtain ⟨hn, cl, A1, A2, A3⟩ := A
  obtain ⟨T', h', X', e', W', st⟩ := stI X hx hZ eT A1 (j := j) (x := x) (own_in hj A2 hi) (g := mkF m pc Ls (.int x :: .int j :: .ref a :: rest)) rfl rfl hd
  rw [(own_nat hj).1] at X' W'
  exact ⟨T', h', X', e', W', st⟩
theorem own_lastore (X : Stand p l e R s m args below meth c T locs cells slots) (hx : p.tables.exec = Jvm.exec) (hZ : Z.Warmed39 s.vm) (eT : T.heap = h) {a : Addr} {n i : Nat} {g : Nat → Int64} (A : own_Ar Z h a .long n (own_J g)) {j : Int32} {x : Int64} (hj : j.toInt = i) (hi : i < n) {pc : Nat} {Ls : Array Slot} {rest : List Value}
    (hd : decode c.code pc = .ok (.lastore, 1)) : ∃ T' h', Stand p l e R s m args below meth c T' (locs ++ [⟨a, i⟩]) cells slots ∧ T'.heap = h' ∧ Wr h h' a i (.long x) ∧ ∀ t, Steps p.tables e below (T'.setTop (mkF m (pc + 1) Ls rest)) t → Steps p.tables e below (T.setTop (mkF m pc Ls (.long x :: .int j :: .ref a :: rest))) t := by
  obtain ⟨hn, cl, A1, A2, A3⟩ := A
  obtain ⟨T', h', X', e', W', st⟩ := stJ X hx hZ eT A1 (j := j) (x := x) (own_in hj A2 hi) (g := mkF m pc Ls (.long x :: .int j :: .ref a :: rest)) rfl rfl hd
  rw [(own_nat hj).1] at X' W'
  exact ⟨T', h', X', e', W', st⟩
theorem own_newarr (X : Stand p l e R s m args below meth c T locs cells slots) (hx : p.tables.exec = Jvm.exec) (hZ : Z.Warmed39 s.vm) {aty : ArrayType} (w : (Jvm.Cond.arrayClass (newarray.typeOf aty)).before a0 Z = true) (eT : T.heap = h) {n : Int32} {N : Nat} (hN : n.toInt = N) {cap : Nat} (hcap : N ≤ cap) (hb : cap * 8 ≤ 536870912) (hc : cells + 1 ≤ R.cells) (hl : slots + cap ≤ R.slots)
    {pc : Nat} {Ls : Array Slot} {rest : List Value} (hd : decode c.code pc = .ok (.newarray aty, 2)) :
    ∃ T' h', Stand p l e R s m args below meth c T' locs (cells + 1) (slots + cap) ∧ T'.heap = h' ∧ Ext h h' ∧ own_Ar Z h' h.size (newarray.typeOf aty) N (fun _ => defaultValue (newarray.typeOf aty)) ∧
      ∀ t, Steps p.tables e below (T'.setTop (mkF m (pc + 2) Ls (.ref h.size :: rest))) t → Steps p.tables e below (T.setTop (mkF m pc Ls (.int n :: rest))) t := by
  obtain ⟨q1, q2⟩ := own_nat hN
  obtain ⟨T', h', cA, X', e', E', A', st⟩ := newP X hx hZ w eT (g := mkF m pc Ls (.int n :: rest)) rfl hd rfl q2 (cap := cap) (by rw [q1]; exact hcap) hb hc hl
  refine ⟨T', h', X', e', E', ⟨?_, _, A', by rw [sz_new]; exact q1, fun i hi => ?_⟩, st⟩
  · have := n.toInt_lt; omega
  · simp [newA, q1, hi]
theorem own_dup2 {tb : Tables} [Ours tb] {target : State} {g : JFrame} (h : At T m c below) (hx : tb.exec = Jvm.exec) (hg : g.method = m) {x y : Value} {rest : List Value} (hd : decode c.code g.pc = .ok (.dup2, 1)) (hs : g.stack = x :: y :: rest) (hc : x.category = 1) (hc' : y.category = 1)
    (hr : Steps tb e below (T.setTop { g with pc := g.pc + 1, stack := x :: y :: x :: y :: rest }) target) : Steps tb e below (T.setTop g) target := by
  subst hg
  jvm_step h [h.top, hx, hd, hs, hc, hc']
  exact hr
theorem own_dupX2 {tb : Tables} [Ours tb] {target : State} {g : JFrame} (h : At T m c below) (hx : tb.exec = Jvm.exec) (hg : g.method = m) {x y z : Value} {rest : List Value} (hd : decode c.code g.pc = .ok (.dup_x2, 1)) (hs : g.stack = x :: y :: z :: rest) (hc : x.category = 1) (hc' : y.category = 1) (hc'' : z.category = 1)
    (hr : Steps tb e below (T.setTop { g with pc := g.pc + 1, stack := x :: y :: z :: x :: rest }) target) : Steps tb e below (T.setTop g) target := by
  subst hg
  jvm_step h [h.top, hx, hd, hs, hc, hc', hc'']
  exact hr
theorem own_pop2 {tb : Tables} [Ours tb] {target : State} {g : JFrame} (h : At T m c below) (hx : tb.exec = Jvm.exec) (hg : g.method = m) {x : Value} {rest : List Value} (hd : decode c.code g.pc = .ok (.pop2, 1)) (hs : g.stack = x :: rest) (hc : x.category = 2)
    (hr : Steps tb e below (T.setTop { g with pc := g.pc + 1, stack := rest }) target) : Steps tb e below (T.setTop g) target := by
  subst hg
  jvm_step h [h.top, hx, hd, hs, hc]
  exact hr
end OwnAr
/-! OWN LAYER W: methods that may intern a String constant; bytes; Strings of Latin-1 -/
section OwnW
variable {p : Program} {l : Launch} {e : Env} {R : Room} {s : State} {m : MethodId} {args : Array Value} {below : List Frame} {meth : Method} {c : Code} {T : State} {locs : List Loc} {cells slots : Nat} {Z : State} {a0 : Array Value} {h h' : Heap}
def own_EndW (below : List Frame) (s : State) (Q : Option Value → Heap → List Loc → Prop) (C N : Nat) (t : State) : Prop := t.status = .running ∧ ∃ v L, Ended t below (.returned v) ∧ Q v t.heap L ∧ ReturnedEndW s (.returned v) t L C N
def own_MetW (l : Launch) (Z : State) (ws : List Jvm.Cond) (y : MethodName) (bytes : ByteArray) (maxL : Nat) (ret : Option FieldType) (rm : Room) (as' : Array Value) (h : Heap) (Q : Option Value → Heap → List Loc → Prop) : Prop :=
  MetFree l y (head1 (Jvm.Cond.code y bytes maxL ret :: ws) rm) (fun a U => a = as' ∧ Z.Warmed39 U.vm ∧ U.heap = h ∧ IB Z U.vm []) (fun _ _ _ _ _ => True) (fun _ U o U' => ∃ v L, o = .returned v ∧ Q v U'.heap L ∧ ReturnedEndW U o U' L rm.cells rm.slots)
theorem own_metW {ws : List Jvm.Cond} {y : MethodName} {bytes : ByteArray} {maxL : Nat} {ret : Option FieldType} {rm : Room} {as' : Array Value} {Q : Option Value → Heap → List Loc → Prop} (hpf : plainFor y = true)
    (body : ∀ (p : Program) (e : Env) (s : State) (m : MethodId) (below : List Frame) (meth : Method) (c : Code) (s₁ : State), p.tables.exec = Jvm.exec → c.code = bytes → c.maxLocals = maxL → s.vm.findClass y.cls = some m.cls → meth.name = y.name → meth.sig.returnType = ret → meth.locks = false → Z.Warmed39 s.vm →
      Stand p l e rm s m as' below meth c s₁ [] 0 0 → s₁.heap = h → s.heap = h → IB Z s.vm [] → own_Go p e below (own_EndW below s Q rm.cells rm.slots) (s₁.setTop (entryFrame m as' maxL))) :
    own_MetW l Z ws y bytes maxL ret rm as' h Q := by
  refine MetFree.of_bodySF hpf hisR ?_
  intro p e s m args below meth c s₁ Bd hml0 hP hK
  obtain ⟨rfl, hZ, hh, hI⟩ := hP
  obtain ⟨t, h1, h2, v, L, h3, h4, h5⟩ := body p e s m below meth c s₁ Bd.exec Bd.bytes hml0 (findClass_of_methodNamed Bd.named) (name_of_methodNamed Bd.named Bd.method).1 Bd.returns Bd.notSynchronized hZ (Stand.of_body Bd) (by rw [← hh, Bd.state]; rfl) hh hI
  exact ⟨t, _, h1, h2, h3, v, L, rfl, h4, h5⟩
theorem own_retWZ {vm₁ : Vm} (X : Stand p l e R (s.setVm vm₁) m args below meth c T locs cells slots) {n : Nat} (hS : s.Since vm₁ n) (hn : n ≤ T.heap.size) (hx : p.tables.exec = Jvm.exec) (hlk : meth.locks = false) {pc : Nat} {Ls : Array Slot} {z : Int32} {rest : List Value} (hret : meth.sig.returnType = some .boolean) (hz : z &&& 1 = z)
    (hd : decode c.code pc = .ok (.ireturn, 1)) {Q : Option Value → Heap → List Loc → Prop} {C N : Nat} (hQ : Q (some (.int z)) T.heap locs) (hc : cells ≤ C) (hs : slots ≤ N) : own_Go p e below (own_EndW below s Q C N) (T.setTop (mkF m pc Ls (.int z :: rest))) := by
  obtain ⟨fs, hr, hrun, hended, hW⟩ := X.leaveW hS hn (v := some (.int z)) (fun h => by rw [hret] at h; cases h) hlk
  exact ⟨_, retOut X hx hret (by show Value.int (z &&& 1) = _; rw [hz]) (Or.inl ⟨rfl, Or.inr (Or.inl rfl), z, rfl⟩) hd hr, hrun, _, _, hended, hQ, hW.1, hW.2.1, hW.2.2.1, hW.2.2.2.mono hc hs⟩
/-- a return where nothing has been interned -/
theorem own_retZW (X : Stand p l e R s m args below meth c T locs cells slots) (hx : p.tables.exec = Jvm.exec) (hlk : meth.locks = false) {pc : Nat} {Ls : Array Slot} {z : Int32} {rest : List Value} (hret : meth.sig.returnType = some .boolean) (hz : z &&& 1 = z)
    (hd : decode c.code pc = .ok (.ireturn, 1)) {Q : Option Value → Heap → List Loc → Prop} {C N : Nat} (hQ : Q (some (.int z)) T.heap locs) (hc : cells ≤ C) (hs : slots ≤ N) : own_Go p e below (own_EndW below s Q C N) (T.setTop (mkF m pc Ls (.int z :: rest))) := by
  obtain ⟨t, h1, h2, v, L, h3, h4, h5⟩ := own_retZ X hx hlk hret hz hd hQ hc hs
  exact ⟨t, h1, h2, v, L, h3, h4, ReturnedEndW.of_narrow h5.1 h5.2.1 h5.2.2⟩
/-- a static method that may intern, by its contract; the walk itself hasn't interned -/
theorem own_callSW (X : Stand p l e R s m args below meth c T locs cells slots) (hx : p.tables.exec = Jvm.exec) (hZ : Z.Warmed39 s.vm) {own : String} {index : Nat} {y : MethodName} {bytes : ByteArray} {maxL : Nat} {ret : Option FieldType} (hown : s.vm.findClass own = some m.cls)
    (w1 : (Jvm.Cond.methodLink own index y).before a0 Z = true) (w2 : (Jvm.Cond.static y).before a0 Z = true) (w3 : (Jvm.Cond.initialized y.cls).before a0 Z = true) (w4 : (Jvm.Cond.code y bytes maxL ret).before a0 Z = true) (hy : y.cls ≠ "java/lang/invoke/MethodHandle" ∧ y.cls ≠ "java/lang/invoke/VarHandle")
    {rm : Room} {as' : Array Value} {Q : Option Value → Heap → List Loc → Prop} (hM : own_MetW l Z [] y bytes maxL ret rm as' h Q) (hI : IB Z s.vm []) (eT : T.heap = h) {pc : Nat} {Ls : Array Slot} {argsL rest st : List Value} (ha : argsL.toArray = as') (hsz : Ls.size = c.maxLocals)
    {ps : List FieldType} {r : Option FieldType} (hpd : parseMethodDescriptor y.desc = some ⟨ps, r⟩) (hpl : argsL.length = ps.length) (hst : st = argsL.reverse ++ rest) (hd : decode c.code pc = .ok (.invokestatic index, 3)) (W : Nat) (hW : (rest.map fun v => v.category).sum ≤ W)
    (hf : rm.frames + 1 ≤ R.frames) (hl : W + (maxL + 11) + rm.locals ≤ R.locals) (hc : cells + rm.cells ≤ R.cells) (hsl : slots + rm.slots ≤ R.slots) :
    ∃ (v : Option Value) (L : List Loc) (T' : State), Stand p l e R (s.setVm T'.vm) m args below meth c T' (locs ++ L) (cells + rm.cells) (slots + rm.slots) ∧ s.Since T'.vm T'.heap.size ∧ Z.Warmed39 (s.setVm T'.vm).vm ∧ (s.setVm T'.vm).vm.findClass own = some m.cls ∧ Q v T'.heap L ∧
      ∀ t, Steps p.tables e below (T'.setTop (mkF m (pc + 3) Ls (v.toList ++ rest))) t → Steps p.tables e below (T.setTop (mkF m pc Ls st)) t := by
  subst ha
  have hK : BackS l R p e below s args y 3 W (fun A a => a = argsL.toArray ∧ A.U.heap = h ∧ A.cells + rm.cells ≤ R.cells ∧ A.slots + rm.slots ≤ R.slots)
      (fun A _ v B => ∃ L, Q v B.U.heap L ∧ B.locs = A.locs ++ L ∧ B.cells = A.cells + rm.cells ∧ B.slots = A.slots + rm.slots) :=
    BackS.of_freeW (bytes := bytes) (maxL := maxL) (ret := ret) (E := fun _ _ o t L k n => k = rm.cells ∧ n = rm.slots ∧ ∃ v, o = .returned v ∧ Q v t.heap L) hM hf hl
      (fun m meth c A a Y hp => have hU : Z.Warmed39 A.U.vm := wtrans hZ Y.warmed
        ⟨by show (Jvm.Cond.and _ .tt).before a A.U = true; rw [Cond.before_and, mv hU w4]; rfl, mv hU w4, mv hU w3, hp.2.2.1, hp.2.2.2⟩)
      (fun m meth c A a g mk Y hp => ⟨hp.1, wtrans hZ Y.warmed, hp.2.1, by
        obtain ⟨more, e1, e2⟩ := hI
        exact ⟨more, by show A.U.vm.interned = _; rw [Y.warmed.interned_eq]; exact e1, e2⟩⟩) (fun _ _ _ _ _ _ _ _ _ => trivial)
      (fun _ _ _ _ ⟨v, L, h1, h2, h3⟩ => ⟨L, _, _, h3, rfl, rfl, v, h1, h2⟩)
      (fun m meth c A a g mk v t L k n Y hp _ _ ⟨e1, e2, v', e3, e4⟩ => by cases e3; subst e1 e2; exact ⟨L, e4, rfl, rfl, rfl⟩)
  obtain ⟨v, _, ⟨T', L', k', n'⟩, -, X', hS, -, ⟨L, hQ, l1, y1, z1⟩, st'⟩ := callSS X hx (y := y) hown (mvT hZ w1) (mvT hZ w2) (mvT hZ w3) (mvT hZ w4) hy hK (g := mkF m pc Ls st) rfl hsz (argsL := argsL) (rest := rest) (lenOf hpd hpl) hst (by show 2 * 0 + _ ≤ _; omega) hd (fun _ _ => ⟨rfl, eT, hc, hsl⟩)
  dsimp only [Pt.U, Pt.locs, Pt.cells, Pt.slots] at X' l1 y1 z1 st' hQ hS
  subst l1 y1 z1
  exact ⟨v, L, T', X', hS, State.Warmed39.trans hZ hS.1, (hS.1.alike.findClass _ _).trans hown, hQ, fun t k => st'.trans k⟩
theorem own_baload (X : Stand p l e R s m args below meth c T locs cells slots) (hx : p.tables.exec = Jvm.exec) (hZ : Z.Warmed39 s.vm) (eT : T.heap = h) {a : Addr} {n i : Nat} {g : Nat → Int32} (A : own_Ar Z h a .byte n (own_I g)) {j : Int32} (hj : j.toInt = i) (hi : i < n) {pc : Nat} {Ls : Array Slot} {rest : List Value}
    (hd : decode c.code pc = .ok (.baload, 1)) : ∀ t, Steps p.tables e below (T.setTop (mkF m (pc + 1) Ls (.int (g i) :: rest))) t → Steps p.tables e below (T.setTop (mkF m pc Ls (.int j :: .ref a :: rest))) t := by
  obtain ⟨hn, cl, A1, A2, A3⟩ := A
  intro t k
  exact X.baloadBytes hx (j := j) (v := .int (g i)) (by rw [eT]; exact A1.1) (State.isArrayOf_alike hZ.alike A1.2.1) A1.2.2 (own_in hj A2 hi) (by rw [(own_nat hj).1]; exact A3 i hi) (g := mkF m pc Ls (.int j :: .ref a :: rest)) rfl rfl hd _ k
theorem own_Ar.of_arv {a : Addr} {k : ClassId} {ty : FieldType} {z : Int32} {n : Nat} {bs : List Int32} {d : Value} (V : Arv Z h a k ty z (bs.map Value.int) d) (hz : z.toInt = n) (hl : bs.length = n) : own_Ar Z h a ty n (own_I fun i => bs.getD i 0) := by
  obtain ⟨cl, A1, -, A2, -, A3, -⟩ := V
  obtain ⟨q1, q2⟩ := own_nat hz
  refine ⟨by have := z.toInt_lt; omega, cl, A1, by rw [A2]; exact q1, fun i hi => ?_⟩
  rw [A3 i (by rw [A2, q1]; exact hi)]
  congr 1
  show (bs.map Value.int).getD i d = .int (bs.getD i 0)
  rw [List.getD_eq_getElem?_getD, List.getD_eq_getElem?_getD, List.getElem?_map, List.getElem?_eq_getElem (by omega)]
  rfl
abbrev own_ST : String := "java/lang/String"
/-- a Latin-1 String at x: its n bytes at b -/
def own_Str (Z : State) (h : Heap) (x b : Addr) (n : Nat) (f : Nat → Int32) : Prop := Exa Z h x own_ST ∧ Fld Z h x own_ST "coder" "B" (.int 0) ∧ Fld Z h x own_ST "value" "[B" (.ref b) ∧ own_Ar Z h b .byte n (own_I f)
theorem own_Str.ext {x b : Addr} {n : Nat} {f : Nat → Int32} (S : own_Str Z h x b n f) (E : Ext h h') : own_Str Z h' x b n f := ⟨S.1.ext E, S.2.1.ext E, S.2.2.1.ext E, S.2.2.2.ext E⟩
end OwnW
theorem pd_0 : parseMethodDescriptor "(I)Z" = some ⟨[.int], some .boolean⟩ := by decide +kernel
theorem pd_1 : parseMethodDescriptor "(II)I" = some ⟨[.int, .int], some .int⟩ := by decide +kernel
theorem pd_2 : parseMethodDescriptor "([BIII)I" = some ⟨[(.array .byte), .int, .int, .int], some .int⟩ := by decide +kernel
theorem pd_3 : parseMethodDescriptor "()B" = some ⟨[], some .byte⟩ := by decide +kernel
theorem pd_4 : parseMethodDescriptor "()Z" = some ⟨[], some .boolean⟩ := by decide +kernel
theorem pd_5 : parseMethodDescriptor "()I" = some ⟨[], some .int⟩ := by decide +kernel
theorem pd_6 : parseMethodDescriptor "(I)I" = some ⟨[.int], some .int⟩ := by decide +kernel
theorem pd_7 : parseMethodDescriptor "(C)Z" = some ⟨[.char], some .boolean⟩ := by decide +kernel
theorem d10_0 : decode jdk_29_method_65_code 0 = .ok (.iload_n 0, 1) := by decide +kernel
theorem d10_1 : decode jdk_29_method_65_code 1 = .ok (.iload_n 1, 1) := by decide +kernel
theorem d10_2 : decode jdk_29_method_65_code 2 = .ok (.if_icmp .lt 7, 3) := by decide +kernel
theorem d10_5 : decode jdk_29_method_65_code 5 = .ok (.iload_n 0, 1) := by decide +kernel
theorem d10_6 : decode jdk_29_method_65_code 6 = .ok (.goto 4, 3) := by decide +kernel
theorem d10_9 : decode jdk_29_method_65_code 9 = .ok (.iload_n 1, 1) := by decide +kernel
theorem d10_10 : decode jdk_29_method_65_code 10 = .ok (.ireturn, 1) := by decide +kernel
theorem pn_10 : plainFor (⟨"java/lang/Math", "max", "(II)I"⟩ : MethodName) = true := by first | exact plainFor_of_name (by first | (simp [plainName, overriddenIn]; done) | decide +kernel) | decide +kernel
theorem ef_10 (m : MethodId) (x0 : Int32) (x1 : Int32) : entryFrame m #[(.int x0), (.int x1)] 2 = mkF m 0 #[.val (.int x0), .val (.int x1)] [] := by first | (simp [entryFrame, mkF, argsToLocals, Value.category]; done) | rfl
theorem d11_0 : decode jdk_29_method_69_code 0 = .ok (.iload_n 0, 1) := by decide +kernel
theorem d11_1 : decode jdk_29_method_69_code 1 = .ok (.iload_n 1, 1) := by decide +kernel
theorem d11_2 : decode jdk_29_method_69_code 2 = .ok (.if_icmp .gt 7, 3) := by decide +kernel
theorem d11_5 : decode jdk_29_method_69_code 5 = .ok (.iload_n 0, 1) := by decide +kernel
theorem d11_6 : decode jdk_29_method_69_code 6 = .ok (.goto 4, 3) := by decide +kernel
theorem d11_9 : decode jdk_29_method_69_code 9 = .ok (.iload_n 1, 1) := by decide +kernel
theorem d11_10 : decode jdk_29_method_69_code 10 = .ok (.ireturn, 1) := by decide +kernel
theorem pn_11 : plainFor (⟨"java/lang/Math", "min", "(II)I"⟩ : MethodName) = true := by first | exact plainFor_of_name (by first | (simp [plainName, overriddenIn]; done) | decide +kernel) | decide +kernel
theorem ef_11 (m : MethodId) (x0 : Int32) (x1 : Int32) : entryFrame m #[(.int x0), (.int x1)] 2 = mkF m 0 #[.val (.int x0), .val (.int x1)] [] := by first | (simp [entryFrame, mkF, argsToLocals, Value.category]; done) | rfl
theorem d9_0 : decode jdk_43_method_4_code 0 = .ok (.iload_n 0, 1) := by decide +kernel
theorem d9_1 : decode jdk_43_method_4_code 1 = .ok (.ifCond .lt 14, 3) := by decide +kernel
theorem d9_4 : decode jdk_43_method_4_code 4 = .ok (.iload_n 0, 1) := by decide +kernel
theorem d9_5 : decode jdk_43_method_4_code 5 = .ok (.sipush 255, 3) := by decide +kernel
theorem d9_8 : decode jdk_43_method_4_code 8 = .ok (.if_icmp .gt 7, 3) := by decide +kernel
theorem d9_11 : decode jdk_43_method_4_code 11 = .ok (.iconst 1, 1) := by decide +kernel
theorem d9_12 : decode jdk_43_method_4_code 12 = .ok (.goto 4, 3) := by decide +kernel
theorem d9_15 : decode jdk_43_method_4_code 15 = .ok (.iconst 0, 1) := by decide +kernel
theorem d9_16 : decode jdk_43_method_4_code 16 = .ok (.ireturn, 1) := by decide +kernel
theorem pn_9 : plainFor (⟨"java/lang/StringLatin1", "canEncode", "(I)Z"⟩ : MethodName) = true := by first | exact plainFor_of_name (by first | (simp [plainName, overriddenIn]; done) | decide +kernel) | decide +kernel
theorem ef_9 (m : MethodId) (x0 : Int32) : entryFrame m #[(.int x0)] 1 = mkF m 0 #[.val (.int x0)] [] := by first | (simp [entryFrame, mkF, argsToLocals, Value.category]; done) | rfl
theorem d12_0 : decode jdk_43_method_23_code 0 = .ok (.iload_n 1, 1) := by decide +kernel
theorem d12_1 : decode jdk_43_method_23_code 1 = .ok (.i2b, 1) := by decide +kernel
theorem d12_2 : decode jdk_43_method_23_code 2 = .ok (.istore 4, 2) := by decide +kernel
theorem d12_4 : decode jdk_43_method_23_code 4 = .ok (.iload_n 2, 1) := by decide +kernel
theorem d12_5 : decode jdk_43_method_23_code 5 = .ok (.istore 5, 2) := by decide +kernel
theorem d12_7 : decode jdk_43_method_23_code 7 = .ok (.iload 5, 2) := by decide +kernel
theorem d12_9 : decode jdk_43_method_23_code 9 = .ok (.iload_n 3, 1) := by decide +kernel
theorem d12_10 : decode jdk_43_method_23_code 10 = .ok (.if_icmp .ge 21, 3) := by decide +kernel
theorem d12_13 : decode jdk_43_method_23_code 13 = .ok (.aload_n 0, 1) := by decide +kernel
theorem d12_14 : decode jdk_43_method_23_code 14 = .ok (.iload 5, 2) := by decide +kernel
theorem d12_16 : decode jdk_43_method_23_code 16 = .ok (.baload, 1) := by decide +kernel
theorem d12_17 : decode jdk_43_method_23_code 17 = .ok (.iload 4, 2) := by decide +kernel
theorem d12_19 : decode jdk_43_method_23_code 19 = .ok (.if_icmp .ne 6, 3) := by decide +kernel
theorem d12_22 : decode jdk_43_method_23_code 22 = .ok (.iload 5, 2) := by decide +kernel
theorem d12_24 : decode jdk_43_method_23_code 24 = .ok (.ireturn, 1) := by decide +kernel
theorem d12_25 : decode jdk_43_method_23_code 25 = .ok (.iinc 5 1, 3) := by decide +kernel
theorem d12_28 : decode jdk_43_method_23_code 28 = .ok (.goto (-21), 3) := by decide +kernel
theorem d12_31 : decode jdk_43_method_23_code 31 = .ok (.iconst (-1), 1) := by decide +kernel
theorem d12_32 : decode jdk_43_method_23_code 32 = .ok (.ireturn, 1) := by decide +kernel
theorem pn_12 : plainFor (⟨"java/lang/StringLatin1", "indexOfChar", "([BIII)I"⟩ : MethodName) = true := by first | exact plainFor_of_name (by first | (simp [plainName, overriddenIn]; done) | decide +kernel) | decide +kernel
theorem ef_12 (m : MethodId) (x0 : Addr) (x1 : Int32) (x2 : Int32) (x3 : Int32) : entryFrame m #[(.ref x0), (.int x1), (.int x2), (.int x3)] 6 = mkF m 0 #[.val (.ref x0), .val (.int x1), .val (.int x2), .val (.int x3), .unset, .unset] [] := by first | (simp [entryFrame, mkF, argsToLocals, Value.category]; done) | rfl
theorem d8_0 : decode jdk_43_method_22_code 0 = .ok (.iload_n 1, 1) := by decide +kernel
theorem d8_1 : decode jdk_43_method_22_code 1 = .ok (.invokestatic 88, 3) := by decide +kernel
theorem d8_4 : decode jdk_43_method_22_code 4 = .ok (.ifCond .ne 5, 3) := by decide +kernel
theorem d8_7 : decode jdk_43_method_22_code 7 = .ok (.iconst (-1), 1) := by decide +kernel
theorem d8_8 : decode jdk_43_method_22_code 8 = .ok (.ireturn, 1) := by decide +kernel
theorem d8_9 : decode jdk_43_method_22_code 9 = .ok (.iload_n 2, 1) := by decide +kernel
theorem d8_10 : decode jdk_43_method_22_code 10 = .ok (.iconst 0, 1) := by decide +kernel
theorem d8_11 : decode jdk_43_method_22_code 11 = .ok (.invokestatic 92, 3) := by decide +kernel
theorem d8_14 : decode jdk_43_method_22_code 14 = .ok (.istore_n 2, 1) := by decide +kernel
theorem d8_15 : decode jdk_43_method_22_code 15 = .ok (.iload_n 3, 1) := by decide +kernel
theorem d8_16 : decode jdk_43_method_22_code 16 = .ok (.aload_n 0, 1) := by decide +kernel
theorem d8_17 : decode jdk_43_method_22_code 17 = .ok (.arraylength, 1) := by decide +kernel
theorem d8_18 : decode jdk_43_method_22_code 18 = .ok (.invokestatic 38, 3) := by decide +kernel
theorem d8_21 : decode jdk_43_method_22_code 21 = .ok (.istore_n 3, 1) := by decide +kernel
theorem d8_22 : decode jdk_43_method_22_code 22 = .ok (.iload_n 2, 1) := by decide +kernel
theorem d8_23 : decode jdk_43_method_22_code 23 = .ok (.iload_n 3, 1) := by decide +kernel
theorem d8_24 : decode jdk_43_method_22_code 24 = .ok (.if_icmp .lt 5, 3) := by decide +kernel
theorem d8_27 : decode jdk_43_method_22_code 27 = .ok (.iconst (-1), 1) := by decide +kernel
theorem d8_28 : decode jdk_43_method_22_code 28 = .ok (.ireturn, 1) := by decide +kernel
theorem d8_29 : decode jdk_43_method_22_code 29 = .ok (.aload_n 0, 1) := by decide +kernel
theorem d8_30 : decode jdk_43_method_22_code 30 = .ok (.iload_n 1, 1) := by decide +kernel
theorem d8_31 : decode jdk_43_method_22_code 31 = .ok (.iload_n 2, 1) := by decide +kernel
theorem d8_32 : decode jdk_43_method_22_code 32 = .ok (.iload_n 3, 1) := by decide +kernel
theorem d8_33 : decode jdk_43_method_22_code 33 = .ok (.invokestatic 95, 3) := by decide +kernel
theorem d8_36 : decode jdk_43_method_22_code 36 = .ok (.ireturn, 1) := by decide +kernel
theorem pn_8 : plainFor (⟨"java/lang/StringLatin1", "indexOf", "([BIII)I"⟩ : MethodName) = true := by first | exact plainFor_of_name (by first | (simp [plainName, overriddenIn]; done) | decide +kernel) | decide +kernel
theorem ef_8 (m : MethodId) (x0 : Addr) (x1 : Int32) (x2 : Int32) (x3 : Int32) : entryFrame m #[(.ref x0), (.int x1), (.int x2), (.int x3)] 4 = mkF m 0 #[.val (.ref x0), .val (.int x1), .val (.int x2), .val (.int x3)] [] := by first | (simp [entryFrame, mkF, argsToLocals, Value.category]; done) | rfl
theorem d7_0 : decode jdk_42_method_152_code 0 = .ok (.getstatic 38, 3) := by decide +kernel
theorem d7_3 : decode jdk_42_method_152_code 3 = .ok (.ifCond .eq 10, 3) := by decide +kernel
theorem d7_6 : decode jdk_42_method_152_code 6 = .ok (.aload_n 0, 1) := by decide +kernel
theorem d7_7 : decode jdk_42_method_152_code 7 = .ok (.getfield 15, 3) := by decide +kernel
theorem d7_10 : decode jdk_42_method_152_code 10 = .ok (.goto 4, 3) := by decide +kernel
theorem d7_13 : decode jdk_42_method_152_code 13 = .ok (.iconst 1, 1) := by decide +kernel
theorem d7_14 : decode jdk_42_method_152_code 14 = .ok (.ireturn, 1) := by decide +kernel
theorem pn_7 : plainFor (⟨"java/lang/String", "coder", "()B"⟩ : MethodName) = true := by first | exact plainFor_of_name (by first | (simp [plainName, overriddenIn]; done) | decide +kernel) | decide +kernel
theorem ef_7 (m : MethodId) (x0 : Addr) : entryFrame m #[(.ref x0)] 1 = mkF m 0 #[.val (.ref x0)] [] := by first | (simp [entryFrame, mkF, argsToLocals, Value.category]; done) | rfl
theorem d5_0 : decode jdk_42_method_154_code 0 = .ok (.getstatic 38, 3) := by decide +kernel
theorem d5_3 : decode jdk_42_method_154_code 3 = .ok (.ifCond .eq 14, 3) := by decide +kernel
theorem d5_6 : decode jdk_42_method_154_code 6 = .ok (.aload_n 0, 1) := by decide +kernel
theorem d5_7 : decode jdk_42_method_154_code 7 = .ok (.getfield 15, 3) := by decide +kernel
theorem d5_10 : decode jdk_42_method_154_code 10 = .ok (.ifCond .ne 7, 3) := by decide +kernel
theorem d5_13 : decode jdk_42_method_154_code 13 = .ok (.iconst 1, 1) := by decide +kernel
theorem d5_14 : decode jdk_42_method_154_code 14 = .ok (.goto 4, 3) := by decide +kernel
theorem d5_17 : decode jdk_42_method_154_code 17 = .ok (.iconst 0, 1) := by decide +kernel
theorem d5_18 : decode jdk_42_method_154_code 18 = .ok (.ireturn, 1) := by decide +kernel
theorem pn_5 : plainFor (⟨"java/lang/String", "isLatin1", "()Z"⟩ : MethodName) = true := by first | exact plainFor_of_name (by first | (simp [plainName, overriddenIn]; done) | decide +kernel) | decide +kernel
theorem ef_5 (m : MethodId) (x0 : Addr) : entryFrame m #[(.ref x0)] 1 = mkF m 0 #[.val (.ref x0)] [] := by first | (simp [entryFrame, mkF, argsToLocals, Value.category]; done) | rfl
theorem d6_0 : decode jdk_42_method_54_code 0 = .ok (.aload_n 0, 1) := by decide +kernel
theorem d6_1 : decode jdk_42_method_54_code 1 = .ok (.getfield 9, 3) := by decide +kernel
theorem d6_4 : decode jdk_42_method_54_code 4 = .ok (.arraylength, 1) := by decide +kernel
theorem d6_5 : decode jdk_42_method_54_code 5 = .ok (.aload_n 0, 1) := by decide +kernel
theorem d6_6 : decode jdk_42_method_54_code 6 = .ok (.invokevirtual 335, 3) := by decide +kernel
theorem d6_9 : decode jdk_42_method_54_code 9 = .ok (.ishr, 1) := by decide +kernel
theorem d6_10 : decode jdk_42_method_54_code 10 = .ok (.ireturn, 1) := by decide +kernel
theorem pn_6 : plainFor (⟨"java/lang/String", "length", "()I"⟩ : MethodName) = true := by first | exact plainFor_of_name (by first | (simp [plainName, overriddenIn]; done) | decide +kernel) | decide +kernel
theorem ef_6 (m : MethodId) (x0 : Addr) : entryFrame m #[(.ref x0)] 1 = mkF m 0 #[.val (.ref x0)] [] := by first | (simp [entryFrame, mkF, argsToLocals, Value.category]; done) | rfl
theorem d4_0 : decode jdk_42_method_80_code 0 = .ok (.aload_n 0, 1) := by decide +kernel
theorem d4_1 : decode jdk_42_method_80_code 1 = .ok (.invokevirtual 492, 3) := by decide +kernel
theorem d4_4 : decode jdk_42_method_80_code 4 = .ok (.ifCond .eq 19, 3) := by decide +kernel
theorem d4_7 : decode jdk_42_method_80_code 7 = .ok (.aload_n 0, 1) := by decide +kernel
theorem d4_8 : decode jdk_42_method_80_code 8 = .ok (.getfield 9, 3) := by decide +kernel
theorem d4_11 : decode jdk_42_method_80_code 11 = .ok (.iload_n 1, 1) := by decide +kernel
theorem d4_12 : decode jdk_42_method_80_code 12 = .ok (.iload_n 2, 1) := by decide +kernel
theorem d4_13 : decode jdk_42_method_80_code 13 = .ok (.aload_n 0, 1) := by decide +kernel
theorem d4_14 : decode jdk_42_method_80_code 14 = .ok (.invokevirtual 505, 3) := by decide +kernel
theorem d4_17 : decode jdk_42_method_80_code 17 = .ok (.invokestatic 637, 3) := by decide +kernel
theorem d4_20 : decode jdk_42_method_80_code 20 = .ok (.goto 16, 3) := by decide +kernel
theorem d4_23 : decode jdk_42_method_80_code 23 = .ok (.aload_n 0, 1) := by decide +kernel
theorem d4_24 : decode jdk_42_method_80_code 24 = .ok (.getfield 9, 3) := by decide +kernel
theorem d4_27 : decode jdk_42_method_80_code 27 = .ok (.iload_n 1, 1) := by decide +kernel
theorem d4_28 : decode jdk_42_method_80_code 28 = .ok (.iload_n 2, 1) := by decide +kernel
theorem d4_29 : decode jdk_42_method_80_code 29 = .ok (.aload_n 0, 1) := by decide +kernel
theorem d4_30 : decode jdk_42_method_80_code 30 = .ok (.invokevirtual 505, 3) := by decide +kernel
theorem d4_33 : decode jdk_42_method_80_code 33 = .ok (.invokestatic 640, 3) := by decide +kernel
theorem d4_36 : decode jdk_42_method_80_code 36 = .ok (.ireturn, 1) := by decide +kernel
theorem pn_4 : plainFor (⟨"java/lang/String", "indexOf", "(II)I"⟩ : MethodName) = true := by first | exact plainFor_of_name (by first | (simp [plainName, overriddenIn]; done) | decide +kernel) | decide +kernel
theorem ef_4 (m : MethodId) (x0 : Addr) (x1 : Int32) (x2 : Int32) : entryFrame m #[(.ref x0), (.int x1), (.int x2)] 3 = mkF m 0 #[.val (.ref x0), .val (.int x1), .val (.int x2)] [] := by first | (simp [entryFrame, mkF, argsToLocals, Value.category]; done) | rfl
theorem d3_0 : decode jdk_42_method_79_code 0 = .ok (.aload_n 0, 1) := by decide +kernel
theorem d3_1 : decode jdk_42_method_79_code 1 = .ok (.iload_n 1, 1) := by decide +kernel
theorem d3_2 : decode jdk_42_method_79_code 2 = .ok (.iconst 0, 1) := by decide +kernel
theorem d3_3 : decode jdk_42_method_79_code 3 = .ok (.invokevirtual 633, 3) := by decide +kernel
theorem d3_6 : decode jdk_42_method_79_code 6 = .ok (.ireturn, 1) := by decide +kernel
theorem pn_3 : plainFor (⟨"java/lang/String", "indexOf", "(I)I"⟩ : MethodName) = true := by first | exact plainFor_of_name (by first | (simp [plainName, overriddenIn]; done) | decide +kernel) | decide +kernel
theorem ef_3 (m : MethodId) (x0 : Addr) (x1 : Int32) : entryFrame m #[(.ref x0), (.int x1)] 2 = mkF m 0 #[.val (.ref x0), .val (.int x1)] [] := by first | (simp [entryFrame, mkF, argsToLocals, Value.category]; done) | rfl
theorem d2_0 : decode prog_32_method_7_code 0 = .ok (.iload_n 0, 1) := by decide +kernel
theorem d2_1 : decode prog_32_method_7_code 1 = .ok (.bipush 97, 2) := by decide +kernel
theorem d2_3 : decode prog_32_method_7_code 3 = .ok (.if_icmp .lt 9, 3) := by decide +kernel
theorem d2_6 : decode prog_32_method_7_code 6 = .ok (.iload_n 0, 1) := by decide +kernel
theorem d2_7 : decode prog_32_method_7_code 7 = .ok (.bipush 122, 2) := by decide +kernel
theorem d2_9 : decode prog_32_method_7_code 9 = .ok (.if_icmp .le 36, 3) := by decide +kernel
theorem d2_12 : decode prog_32_method_7_code 12 = .ok (.iload_n 0, 1) := by decide +kernel
theorem d2_13 : decode prog_32_method_7_code 13 = .ok (.bipush 65, 2) := by decide +kernel
theorem d2_15 : decode prog_32_method_7_code 15 = .ok (.if_icmp .lt 9, 3) := by decide +kernel
theorem d2_18 : decode prog_32_method_7_code 18 = .ok (.iload_n 0, 1) := by decide +kernel
theorem d2_19 : decode prog_32_method_7_code 19 = .ok (.bipush 90, 2) := by decide +kernel
theorem d2_21 : decode prog_32_method_7_code 21 = .ok (.if_icmp .le 24, 3) := by decide +kernel
theorem d2_24 : decode prog_32_method_7_code 24 = .ok (.iload_n 0, 1) := by decide +kernel
theorem d2_25 : decode prog_32_method_7_code 25 = .ok (.bipush 48, 2) := by decide +kernel
theorem d2_27 : decode prog_32_method_7_code 27 = .ok (.if_icmp .lt 9, 3) := by decide +kernel
theorem d2_30 : decode prog_32_method_7_code 30 = .ok (.iload_n 0, 1) := by decide +kernel
theorem d2_31 : decode prog_32_method_7_code 31 = .ok (.bipush 57, 2) := by decide +kernel
theorem d2_33 : decode prog_32_method_7_code 33 = .ok (.if_icmp .le 12, 3) := by decide +kernel
theorem d2_36 : decode prog_32_method_7_code 36 = .ok (.ldc 131, 2) := by decide +kernel
theorem d2_38 : decode prog_32_method_7_code 38 = .ok (.iload_n 0, 1) := by decide +kernel
theorem d2_39 : decode prog_32_method_7_code 39 = .ok (.invokevirtual 77, 3) := by decide +kernel
theorem d2_42 : decode prog_32_method_7_code 42 = .ok (.ifCond .lt 7, 3) := by decide +kernel
theorem d2_45 : decode prog_32_method_7_code 45 = .ok (.iconst 1, 1) := by decide +kernel
theorem d2_46 : decode prog_32_method_7_code 46 = .ok (.goto 4, 3) := by decide +kernel
theorem d2_49 : decode prog_32_method_7_code 49 = .ok (.iconst 0, 1) := by decide +kernel
theorem d2_50 : decode prog_32_method_7_code 50 = .ok (.ireturn, 1) := by decide +kernel
theorem pn_2 : plainFor (⟨"com/example/vouchgate/vouchgate/core/UrlPath", "isSegmentCharacter", "(C)Z"⟩ : MethodName) = true := by first | exact plainFor_of_name (by first | (simp [plainName, overriddenIn]; done) | decide +kernel) | decide +kernel
theorem ef_2 (m : MethodId) (x0 : Int32) : entryFrame m #[(.int x0)] 1 = mkF m 0 #[.val (.int x0)] [] := by first | (simp [entryFrame, mkF, argsToLocals, Value.category]; done) | rfl
theorem d1_0 : decode prog_32_method_6_code 0 = .ok (.iload_n 0, 1) := by decide +kernel
theorem d1_1 : decode prog_32_method_6_code 1 = .ok (.invokestatic 99, 3) := by decide +kernel
theorem d1_4 : decode prog_32_method_6_code 4 = .ok (.ifCond .ne 9, 3) := by decide +kernel
theorem d1_7 : decode prog_32_method_6_code 7 = .ok (.iload_n 0, 1) := by decide +kernel
theorem d1_8 : decode prog_32_method_6_code 8 = .ok (.bipush 47, 2) := by decide +kernel
theorem d1_10 : decode prog_32_method_6_code 10 = .ok (.if_icmp .ne 7, 3) := by decide +kernel
theorem d1_13 : decode prog_32_method_6_code 13 = .ok (.iconst 1, 1) := by decide +kernel
theorem d1_14 : decode prog_32_method_6_code 14 = .ok (.goto 4, 3) := by decide +kernel
theorem d1_17 : decode prog_32_method_6_code 17 = .ok (.iconst 0, 1) := by decide +kernel
theorem d1_18 : decode prog_32_method_6_code 18 = .ok (.ireturn, 1) := by decide +kernel
theorem pn_1 : plainFor (⟨"com/example/vouchgate/vouchgate/core/UrlPath", "isPathCharacter", "(C)Z"⟩ : MethodName) = true := by first | exact plainFor_of_name (by first | (simp [plainName, overriddenIn]; done) | decide +kernel) | decide +kernel
theorem ef_1 (m : MethodId) (x0 : Int32) : entryFrame m #[(.int x0)] 1 = mkF m 0 #[.val (.int x0)] [] := by first | (simp [entryFrame, mkF, argsToLocals, Value.category]; done) | rfl
theorem d13_0 : decode method_2_code 0 = .ok (.iload_n 0, 1) := by decide +kernel
theorem d13_1 : decode method_2_code 1 = .ok (.bipush 33, 2) := by decide +kernel
theorem d13_3 : decode method_2_code 3 = .ok (.if_icmp .lt 9, 3) := by decide +kernel
theorem d13_6 : decode method_2_code 6 = .ok (.iload_n 0, 1) := by decide +kernel
theorem d13_7 : decode method_2_code 7 = .ok (.bipush 126, 2) := by decide +kernel
theorem d13_9 : decode method_2_code 9 = .ok (.if_icmp .le 5, 3) := by decide +kernel
theorem d13_12 : decode method_2_code 12 = .ok (.iconst 0, 1) := by decide +kernel
theorem d13_13 : decode method_2_code 13 = .ok (.ireturn, 1) := by decide +kernel
theorem d13_14 : decode method_2_code 14 = .ok (.iload_n 0, 1) := by decide +kernel
theorem d13_15 : decode method_2_code 15 = .ok (.bipush 34, 2) := by decide +kernel
theorem d13_17 : decode method_2_code 17 = .ok (.if_icmp .eq 15, 3) := by decide +kernel
theorem d13_20 : decode method_2_code 20 = .ok (.iload_n 0, 1) := by decide +kernel
theorem d13_21 : decode method_2_code 21 = .ok (.bipush 35, 2) := by decide +kernel
theorem d13_23 : decode method_2_code 23 = .ok (.if_icmp .eq 9, 3) := by decide +kernel
theorem d13_26 : decode method_2_code 26 = .ok (.iload_n 0, 1) := by decide +kernel
theorem d13_27 : decode method_2_code 27 = .ok (.bipush 37, 2) := by decide +kernel
theorem d13_29 : decode method_2_code 29 = .ok (.if_icmp .ne 5, 3) := by decide +kernel
theorem d13_32 : decode method_2_code 32 = .ok (.iconst 0, 1) := by decide +kernel
theorem d13_33 : decode method_2_code 33 = .ok (.ireturn, 1) := by decide +kernel
theorem d13_34 : decode method_2_code 34 = .ok (.iload_n 0, 1) := by decide +kernel
theorem d13_35 : decode method_2_code 35 = .ok (.bipush 60, 2) := by decide +kernel
theorem d13_37 : decode method_2_code 37 = .ok (.if_icmp .eq 15, 3) := by decide +kernel
theorem d13_40 : decode method_2_code 40 = .ok (.iload_n 0, 1) := by decide +kernel
theorem d13_41 : decode method_2_code 41 = .ok (.bipush 62, 2) := by decide +kernel
theorem d13_43 : decode method_2_code 43 = .ok (.if_icmp .eq 9, 3) := by decide +kernel
theorem d13_46 : decode method_2_code 46 = .ok (.iload_n 0, 1) := by decide +kernel
theorem d13_47 : decode method_2_code 47 = .ok (.bipush 63, 2) := by decide +kernel
theorem d13_49 : decode method_2_code 49 = .ok (.if_icmp .ne 5, 3) := by decide +kernel
theorem d13_52 : decode method_2_code 52 = .ok (.iconst 0, 1) := by decide +kernel
theorem d13_53 : decode method_2_code 53 = .ok (.ireturn, 1) := by decide +kernel
theorem d13_54 : decode method_2_code 54 = .ok (.iload_n 0, 1) := by decide +kernel
theorem d13_55 : decode method_2_code 55 = .ok (.bipush 91, 2) := by decide +kernel
theorem d13_57 : decode method_2_code 57 = .ok (.if_icmp .lt 11, 3) := by decide +kernel
theorem d13_60 : decode method_2_code 60 = .ok (.iload_n 0, 1) := by decide +kernel
theorem d13_61 : decode method_2_code 61 = .ok (.bipush 94, 2) := by decide +kernel
theorem d13_63 : decode method_2_code 63 = .ok (.if_icmp .gt 5, 3) := by decide +kernel
theorem d13_66 : decode method_2_code 66 = .ok (.iconst 0, 1) := by decide +kernel
theorem d13_67 : decode method_2_code 67 = .ok (.ireturn, 1) := by decide +kernel
theorem d13_68 : decode method_2_code 68 = .ok (.iload_n 0, 1) := by decide +kernel
theorem d13_69 : decode method_2_code 69 = .ok (.bipush 96, 2) := by decide +kernel
theorem d13_71 : decode method_2_code 71 = .ok (.if_icmp .ne 5, 3) := by decide +kernel
theorem d13_74 : decode method_2_code 74 = .ok (.iconst 0, 1) := by decide +kernel
theorem d13_75 : decode method_2_code 75 = .ok (.ireturn, 1) := by decide +kernel
theorem d13_76 : decode method_2_code 76 = .ok (.iload_n 0, 1) := by decide +kernel
theorem d13_77 : decode method_2_code 77 = .ok (.bipush 123, 2) := by decide +kernel
theorem d13_79 : decode method_2_code 79 = .ok (.if_icmp .lt 11, 3) := by decide +kernel
theorem d13_82 : decode method_2_code 82 = .ok (.iload_n 0, 1) := by decide +kernel
theorem d13_83 : decode method_2_code 83 = .ok (.bipush 125, 2) := by decide +kernel
theorem d13_85 : decode method_2_code 85 = .ok (.if_icmp .gt 5, 3) := by decide +kernel
theorem d13_88 : decode method_2_code 88 = .ok (.iconst 0, 1) := by decide +kernel
theorem d13_89 : decode method_2_code 89 = .ok (.ireturn, 1) := by decide +kernel
theorem d13_90 : decode method_2_code 90 = .ok (.iconst 1, 1) := by decide +kernel
theorem d13_91 : decode method_2_code 91 = .ok (.ireturn, 1) := by decide +kernel
theorem pn_13 : plainFor (⟨"com/example/vouchgate/vouchgate/core/UrlPathIsPathCharacterPinLaw", "expected", "(C)Z"⟩ : MethodName) = true := by first | exact plainFor_of_name (by first | (simp [plainName, overriddenIn]; done) | decide +kernel) | decide +kernel
theorem ef_13 (m : MethodId) (x0 : Int32) : entryFrame m #[(.int x0)] 1 = mkF m 0 #[.val (.int x0)] [] := by first | (simp [entryFrame, mkF, argsToLocals, Value.category]; done) | rfl
theorem pn_0 : plainFor (⟨"com/example/vouchgate/vouchgate/core/UrlPathIsPathCharacterPinLaw", "law", "(I)Z"⟩ : MethodName) = true := by first | exact plainFor_of_name (by first | (simp [plainName, overriddenIn]; done) | decide +kernel) | decide +kernel
theorem ef_0 (m : MethodId) (x0 : Int32) : entryFrame m #[(.int x0)] maxLocals = mkF m 0 #[.val (.int x0), .unset] [] := by first | (simp [entryFrame, mkF, argsToLocals, Value.category, maxLocals]; done) | rfl
/-! the constant's text is read off the sheet's own word -/
def own_txt : String := match tables_1[7]? with
  | some (Jvm.Cond.stringLink _ _ t) => t
  | _ => ""
def own_bytes : List Int32 := own_txt.toList.map fun c => Jvm.Lit.byteI c.toNat.toUInt16
theorem own_len : own_bytes.length = 17 := by decide +kernel
theorem own_small : ∀ c ∈ own_txt.toList, c.toNat < 256 := by decide +kernel
theorem own_vals : own_txt.toList.map (fun c => Value.int (Jvm.Lit.byteI c.toNat.toUInt16)) = own_bytes.map Value.int := by unfold own_bytes; rw [List.map_map]; rfl
theorem own_wS {Z : State} {a0 : Array Value} (hw : ∀ d ∈ tables_1, d.before a0 Z = true) : ∀ a ∈ Bundle.stringAtoms, a.before a0 Z = true := by
  intro d hd
  simp only [Bundle.stringAtoms, List.mem_cons, List.not_mem_nil, or_false] at hd
  rcases hd with rfl | rfl | rfl | rfl | rfl | rfl | rfl
  · exact hw _ (List.mem_of_getElem? (i := 8) rfl)
  · exact hw _ (List.mem_of_getElem? (i := 9) rfl)
  · exact hw _ (List.mem_of_getElem? (i := 10) rfl)
  · exact hw _ (List.mem_of_getElem? (i := 11) rfl)
  · exact hw _ (List.mem_of_getElem? (i := 12) rfl)
  · exact hw _ (List.mem_of_getElem? (i := 13) rfl)
  · exact hw _ (List.mem_of_getElem? (i := 14) rfl)
/-- the byte that (byte) c is, is among the constant's -/
def own_isIn (k : Nat) : Bool := own_bytes.any fun b => b.toInt == (if k < 128 then (k : Int) else (k : Int) - 256)
def own_alnum (k : Int) : Prop := (97 ≤ k ∧ k ≤ 122) ∨ (65 ≤ k ∧ k ≤ 90) ∨ (48 ≤ k ∧ k ≤ 57)
def own_exp (k : Int) : Prop := 33 ≤ k ∧ k ≤ 126 ∧ k ≠ 34 ∧ k ≠ 35 ∧ k ≠ 37 ∧ k ≠ 60 ∧ k ≠ 62 ∧ k ≠ 63 ∧ ¬ (91 ≤ k ∧ k ≤ 94) ∧ k ≠ 96 ∧ ¬ (123 ≤ k ∧ k ≤ 125)
instance (k : Int) : Decidable (own_alnum k) := by unfold own_alnum; exact inferInstance
instance (k : Int) : Decidable (own_exp k) := by unfold own_exp; exact inferInstance
def own_seg (k : Int) : Prop := own_alnum k ∨ (k ≤ 255 ∧ own_isIn k.toNat = true)
theorem own_table : ∀ k : Fin 256, (own_alnum (k.val : Int) ∨ own_isIn k.val = true ∨ k.val = 47) ↔ own_exp (k.val : Int) := by decide +kernel
theorem own_agree {k : Int} (h0 : 0 ≤ k) : (own_seg k ∨ k = 47) ↔ own_exp k := by
  by_cases h : k ≤ 255
  · have q := own_table ⟨k.toNat, by omega⟩
    simp only [show ((k.toNat : Nat) : Int) = k by omega] at q
    rw [← q]; unfold own_seg
    constructor
    · rintro ((r | ⟨_, r⟩) | r)
      · exact Or.inl r
      · exact Or.inr (Or.inl r)
      · exact Or.inr (Or.inr (by omega))
    · rintro (r | r | r)
      · exact Or.inl (Or.inl r)
      · exact Or.inl (Or.inr ⟨h, r⟩)
      · exact Or.inr (by omega)
  · unfold own_seg own_alnum own_exp
    constructor
    · rintro ((r | ⟨r, _⟩) | r) <;> omega
    · intro r; omega
theorem own_isIn_iff {c : Int32} (h0 : 0 ≤ c.toInt) (h1 : c.toInt ≤ 255) : own_isIn c.toInt.toNat = true ↔ ∃ i, i < 17 ∧ own_bytes.getD i 0 = c.toInt8.toInt32 := by
  have q := c_i2b c
  have e : c.toInt8.toInt32.toInt = if c.toInt.toNat < 128 then ((c.toInt.toNat : Nat) : Int) else ((c.toInt.toNat : Nat) : Int) - 256 := by split <;> omega
  unfold own_isIn
  rw [List.any_eq_true]
  constructor
  · rintro ⟨b, hb, r⟩
    obtain ⟨i, hi, r'⟩ := List.getElem_of_mem hb
    refine ⟨i, by rw [own_len] at hi; exact hi, ?_⟩
    rw [List.getD_eq_getElem?_getD, List.getElem?_eq_getElem hi, Option.getD_some, r']
    rw [beq_iff_eq, ← e] at r
    exact Int32.toInt_inj.mp r
  · rintro ⟨i, hi, r⟩
    have hi' : i < own_bytes.length := by rw [own_len]; exact hi
    rw [List.getD_eq_getElem?_getD, List.getElem?_eq_getElem hi', Option.getD_some] at r
    exact ⟨own_bytes[i], List.getElem_mem hi', by rw [beq_iff_eq, ← e, r]⟩
set_option maxRecDepth 65536 in
set_option maxHeartbeats 40000000 in
theorem rmMax (l : Launch) (Z : State) (a0 : Array Value) (hw : ∀ d ∈ tables_1, d.before a0 Z = true) (ws : List Jvm.Cond) (x1 x2 : Int32) (h0 : Heap)  :
    own_Met l Z ws (⟨"java/lang/Math", "max", "(II)I"⟩ : MethodName) jdk_29_method_65_code 2 (some .int) ({ frames := 0, cells := 0, slots := 0, locals := 0 } : Room) #[(.int x1), (.int x2)] h0 (fun v h L => ∃ z : Int32, v = some (.int z) ∧ ((z = x1 ∧ x2.toInt ≤ x1.toInt) ∨ (z = x2 ∧ x1.toInt < x2.toInt)) ∧ h = h0 ∧ L = []) := by
  refine own_met pn_10 ?_
  intro p e s m below meth c s₁ hx hby hml hown hnm hret hlk hZ X0 e0
  refine own_entry (ef_10 m x1 x2) ?_
  show own_Go p e below _ (s₁.setTop (mkF m 0 #[.val (.int x1), .val (.int x2)] []))
  refine own_go (fun tt kk => XS.iloadN X0.here hx rfl (hb hby d10_0) rfl kk) ?_
  show own_Go p e below _ (s₁.setTop (mkF m 1 #[.val (.int x1), .val (.int x2)] [(.int x1)]))
  refine own_go (fun tt kk => XS.iloadN X0.here hx rfl (hb hby d10_1) rfl kk) ?_
  show own_Go p e below _ (s₁.setTop (mkF m 2 #[.val (.int x1), .val (.int x2)] [(.int x2), (.int x1)]))
  by_cases hc2 : x1.toInt < x2.toInt
  · refine own_go (fun tt kk => XS.icmpYes X0.here hx rfl (pc0 := 2) (pc' := 9) rfl (hb hby d10_2) rfl (tlt (own_lt32 (x := x1) (y := x2) (i := x1.toInt) (j := x2.toInt) rfl rfl hc2)).1 (by decide) (by decide) kk) ?_
    show own_Go p e below _ (s₁.setTop (mkF m 9 #[.val (.int x1), .val (.int x2)] []))
    refine own_go (fun tt kk => XS.iloadN X0.here hx rfl (hb hby d10_9) rfl kk) ?_
    show own_Go p e below _ (s₁.setTop (mkF m 10 #[.val (.int x1), .val (.int x2)] [(.int x2)]))
    exact own_retI X0 hx hlk hret (hb hby d10_10) ⟨x2, rfl, by first | exact Or.inl ⟨rfl, by omega⟩ | exact Or.inr ⟨rfl, by omega⟩, e0, rfl⟩ (by decide) (by decide)
  · refine own_go (fun tt kk => XS.icmpNo X0.here hx rfl (hb hby d10_2) rfl (flt (own_nlt32 (x := x1) (y := x2) (i := x1.toInt) (j := x2.toInt) rfl rfl hc2)).1 kk) ?_
    show own_Go p e below _ (s₁.setTop (mkF m 5 #[.val (.int x1), .val (.int x2)] []))
    refine own_go (fun tt kk => XS.iloadN X0.here hx rfl (hb hby d10_5) rfl kk) ?_
    show own_Go p e below _ (s₁.setTop (mkF m 6 #[.val (.int x1), .val (.int x2)] [(.int x1)]))
    refine own_go (fun tt kk => XS.goto X0.here hx rfl (pc0 := 6) (pc' := 10) rfl (hb hby d10_6) (by decide) (by decide) kk) ?_
    show own_Go p e below _ (s₁.setTop (mkF m 10 #[.val (.int x1), .val (.int x2)] [(.int x1)]))
    exact own_retI X0 hx hlk hret (hb hby d10_10) ⟨x1, rfl, by first | exact Or.inl ⟨rfl, by omega⟩ | exact Or.inr ⟨rfl, by omega⟩, e0, rfl⟩ (by decide) (by decide)
set_option maxRecDepth 65536 in
set_option maxHeartbeats 40000000 in
theorem rmMin (l : Launch) (Z : State) (a0 : Array Value) (hw : ∀ d ∈ tables_1, d.before a0 Z = true) (ws : List Jvm.Cond) (x1 x2 : Int32) (h0 : Heap)  :
    own_Met l Z ws (⟨"java/lang/Math", "min", "(II)I"⟩ : MethodName) jdk_29_method_69_code 2 (some .int) ({ frames := 0, cells := 0, slots := 0, locals := 0 } : Room) #[(.int x1), (.int x2)] h0 (fun v h L => ∃ z : Int32, v = some (.int z) ∧ ((z = x1 ∧ x1.toInt ≤ x2.toInt) ∨ (z = x2 ∧ x2.toInt < x1.toInt)) ∧ h = h0 ∧ L = []) := by
  refine own_met pn_11 ?_
  intro p e s m below meth c s₁ hx hby hml hown hnm hret hlk hZ X0 e0
  refine own_entry (ef_11 m x1 x2) ?_
  show own_Go p e below _ (s₁.setTop (mkF m 0 #[.val (.int x1), .val (.int x2)] []))
  refine own_go (fun tt kk => XS.iloadN X0.here hx rfl (hb hby d11_0) rfl kk) ?_
  show own_Go p e below _ (s₁.setTop (mkF m 1 #[.val (.int x1), .val (.int x2)] [(.int x1)]))
  refine own_go (fun tt kk => XS.iloadN X0.here hx rfl (hb hby d11_1) rfl kk) ?_
  show own_Go p e below _ (s₁.setTop (mkF m 2 #[.val (.int x1), .val (.int x2)] [(.int x2), (.int x1)]))
  by_cases hc2 : x2.toInt < x1.toInt
  · refine own_go (fun tt kk => XS.icmpYes X0.here hx rfl (pc0 := 2) (pc' := 9) rfl (hb hby d11_2) rfl (tlt (own_lt32 (x := x2) (y := x1) (i := x2.toInt) (j := x1.toInt) rfl rfl hc2)).2.2.1 (by decide) (by decide) kk) ?_
    show own_Go p e below _ (s₁.setTop (mkF m 9 #[.val (.int x1), .val (.int x2)] []))
    refine own_go (fun tt kk => XS.iloadN X0.here hx rfl (hb hby d11_9) rfl kk) ?_
    show own_Go p e below _ (s₁.setTop (mkF m 10 #[.val (.int x1), .val (.int x2)] [(.int x2)]))
    exact own_retI X0 hx hlk hret (hb hby d11_10) ⟨x2, rfl, by first | exact Or.inl ⟨rfl, by omega⟩ | exact Or.inr ⟨rfl, by omega⟩, e0, rfl⟩ (by decide) (by decide)
  · refine own_go (fun tt kk => XS.icmpNo X0.here hx rfl (hb hby d11_2) rfl (flt (own_nlt32 (x := x2) (y := x1) (i := x2.toInt) (j := x1.toInt) rfl rfl hc2)).2.2.1 kk) ?_
    show own_Go p e below _ (s₁.setTop (mkF m 5 #[.val (.int x1), .val (.int x2)] []))
    refine own_go (fun tt kk => XS.iloadN X0.here hx rfl (hb hby d11_5) rfl kk) ?_
    show own_Go p e below _ (s₁.setTop (mkF m 6 #[.val (.int x1), .val (.int x2)] [(.int x1)]))
    refine own_go (fun tt kk => XS.goto X0.here hx rfl (pc0 := 6) (pc' := 10) rfl (hb hby d11_6) (by decide) (by decide) kk) ?_
    show own_Go p e below _ (s₁.setTop (mkF m 10 #[.val (.int x1), .val (.int x2)] [(.int x1)]))
    exact own_retI X0 hx hlk hret (hb hby d11_10) ⟨x1, rfl, by first | exact Or.inl ⟨rfl, by omega⟩ | exact Or.inr ⟨rfl, by omega⟩, e0, rfl⟩ (by decide) (by decide)
set_option maxRecDepth 65536 in
set_option maxHeartbeats 40000000 in
theorem rmCan (l : Launch) (Z : State) (a0 : Array Value) (hw : ∀ d ∈ tables_1, d.before a0 Z = true) (ws : List Jvm.Cond) (x1 : Int32) (h0 : Heap)  :
    own_Met l Z ws (⟨"java/lang/StringLatin1", "canEncode", "(I)Z"⟩ : MethodName) jdk_43_method_4_code 1 (some .boolean) ({ frames := 0, cells := 0, slots := 0, locals := 0 } : Room) #[(.int x1)] h0 (fun v h L => ∃ z : Int32, v = some (.int z) ∧ ((z = 1 ∧ (0 ≤ x1.toInt ∧ x1.toInt ≤ 255)) ∨ (z = 0 ∧ ¬ (0 ≤ x1.toInt ∧ x1.toInt ≤ 255))) ∧ h = h0 ∧ L = []) := by
  refine own_met pn_9 ?_
  intro p e s m below meth c s₁ hx hby hml hown hnm hret hlk hZ X0 e0
  refine own_entry (ef_9 m x1) ?_
  show own_Go p e below _ (s₁.setTop (mkF m 0 #[.val (.int x1)] []))
  refine own_go (fun tt kk => XS.iloadN X0.here hx rfl (hb hby d9_0) rfl kk) ?_
  show own_Go p e below _ (s₁.setTop (mkF m 1 #[.val (.int x1)] [(.int x1)]))
  by_cases hc1 : x1.toInt < 0
  · refine own_go (fun tt kk => XS.ifYes X0.here hx rfl (pc0 := 1) (pc' := 15) rfl (hb hby d9_1) rfl ((if0 _ _).trans (tlt (own_lt32 (x := x1) (y := (0 : Int32)) (i := x1.toInt) (j := 0) rfl rfl hc1)).1) (by decide) (by decide) kk) ?_
    show own_Go p e below _ (s₁.setTop (mkF m 15 #[.val (.int x1)] []))
    refine own_go (fun tt kk => XS.iconst X0.here hx rfl (hb hby d9_15) kk) ?_
    show own_Go p e below _ (s₁.setTop (mkF m 16 #[.val (.int x1)] [(.int (0 : Int32))]))
    exact own_retZ X0 hx hlk hret (by decide) (hb hby d9_16) ⟨(0 : Int32), rfl, by first | exact Or.inl ⟨rfl, by omega⟩ | exact Or.inr ⟨rfl, by omega⟩, e0, rfl⟩ (by decide) (by decide)
  · refine own_go (fun tt kk => XS.ifNo X0.here hx rfl (hb hby d9_1) rfl ((if0 _ _).trans (flt (own_nlt32 (x := x1) (y := (0 : Int32)) (i := x1.toInt) (j := 0) rfl rfl hc1)).1) kk) ?_
    show own_Go p e below _ (s₁.setTop (mkF m 4 #[.val (.int x1)] []))
    refine own_go (fun tt kk => XS.iloadN X0.here hx rfl (hb hby d9_4) rfl kk) ?_
    show own_Go p e below _ (s₁.setTop (mkF m 5 #[.val (.int x1)] [(.int x1)]))
    refine own_go (fun tt kk => XS.sipush X0.here hx rfl (hb hby d9_5) kk) ?_
    show own_Go p e below _ (s₁.setTop (mkF m 8 #[.val (.int x1)] [(.int (255 : Int32)), (.int x1)]))
    by_cases hc8 : 255 < x1.toInt
    · refine own_go (fun tt kk => XS.icmpYes X0.here hx rfl (pc0 := 8) (pc' := 15) rfl (hb hby d9_8) rfl (tlt (own_lt32 (x := (255 : Int32)) (y := x1) (i := 255) (j := x1.toInt) rfl rfl hc8)).2.2.1 (by decide) (by decide) kk) ?_
      show own_Go p e below _ (s₁.setTop (mkF m 15 #[.val (.int x1)] []))
      refine own_go (fun tt kk => XS.iconst X0.here hx rfl (hb hby d9_15) kk) ?_
      show own_Go p e below _ (s₁.setTop (mkF m 16 #[.val (.int x1)] [(.int (0 : Int32))]))
      exact own_retZ X0 hx hlk hret (by decide) (hb hby d9_16) ⟨(0 : Int32), rfl, by first | exact Or.inl ⟨rfl, by omega⟩ | exact Or.inr ⟨rfl, by omega⟩, e0, rfl⟩ (by decide) (by decide)
    · refine own_go (fun tt kk => XS.icmpNo X0.here hx rfl (hb hby d9_8) rfl (flt (own_nlt32 (x := (255 : Int32)) (y := x1) (i := 255) (j := x1.toInt) rfl rfl hc8)).2.2.1 kk) ?_
      show own_Go p e below _ (s₁.setTop (mkF m 11 #[.val (.int x1)] []))
      refine own_go (fun tt kk => XS.iconst X0.here hx rfl (hb hby d9_11) kk) ?_
      show own_Go p e below _ (s₁.setTop (mkF m 12 #[.val (.int x1)] [(.int (1 : Int32))]))
      refine own_go (fun tt kk => XS.goto X0.here hx rfl (pc0 := 12) (pc' := 16) rfl (hb hby d9_12) (by decide) (by decide) kk) ?_
      show own_Go p e below _ (s₁.setTop (mkF m 16 #[.val (.int x1)] [(.int (1 : Int32))]))
      exact own_retZ X0 hx hlk hret (by decide) (hb hby d9_16) ⟨(1 : Int32), rfl, by first | exact Or.inl ⟨rfl, by omega⟩ | exact Or.inr ⟨rfl, by omega⟩, e0, rfl⟩ (by decide) (by decide)
set_option maxRecDepth 65536 in
set_option maxHeartbeats 40000000 in
theorem rmExp (l : Launch) (Z : State) (a0 : Array Value) (hw : ∀ d ∈ tables_1, d.before a0 Z = true) (ws : List Jvm.Cond) (x1 : Int32) (h0 : Heap)  :
    own_Met l Z ws (⟨"com/example/vouchgate/vouchgate/core/UrlPathIsPathCharacterPinLaw", "expected", "(C)Z"⟩ : MethodName) method_2_code 1 (some .boolean) ({ frames := 0, cells := 0, slots := 0, locals := 0 } : Room) #[(.int x1)] h0 (fun v h L => ∃ z : Int32, v = some (.int z) ∧ ((z = 1 ∧ own_exp x1.toInt) ∨ (z = 0 ∧ ¬ own_exp x1.toInt)) ∧ h = h0 ∧ L = []) := by
  refine own_met pn_13 ?_
  intro p e s m below meth c s₁ hx hby hml hown hnm hret hlk hZ X0 e0
  refine own_entry (ef_13 m x1) ?_
  show own_Go p e below _ (s₁.setTop (mkF m 0 #[.val (.int x1)] []))
  refine own_go (fun tt kk => XS.iloadN X0.here hx rfl (hb hby d13_0) rfl kk) ?_
  show own_Go p e below _ (s₁.setTop (mkF m 1 #[.val (.int x1)] [(.int x1)]))
  refine own_go (fun tt kk => XS.bipush X0.here hx rfl (hb hby d13_1) kk) ?_
  show own_Go p e below _ (s₁.setTop (mkF m 3 #[.val (.int x1)] [(.int (33 : Int32)), (.int x1)]))
  by_cases hc3 : x1.toInt < 33
  · refine own_go (fun tt kk => XS.icmpYes X0.here hx rfl (pc0 := 3) (pc' := 12) rfl (hb hby d13_3) rfl (tlt (own_lt32 (x := x1) (y := (33 : Int32)) (i := x1.toInt) (j := 33) rfl rfl hc3)).1 (by decide) (by decide) kk) ?_
    show own_Go p e below _ (s₁.setTop (mkF m 12 #[.val (.int x1)] []))
    refine own_go (fun tt kk => XS.iconst X0.here hx rfl (hb hby d13_12) kk) ?_
    show own_Go p e below _ (s₁.setTop (mkF m 13 #[.val (.int x1)] [(.int (0 : Int32))]))
    exact own_retZ X0 hx hlk hret (by decide) (hb hby d13_13) ⟨(0 : Int32), rfl, by unfold own_exp; first | exact Or.inl ⟨rfl, by omega⟩ | exact Or.inr ⟨rfl, by omega⟩, e0, rfl⟩ (by decide) (by decide)
  · refine own_go (fun tt kk => XS.icmpNo X0.here hx rfl (hb hby d13_3) rfl (flt (own_nlt32 (x := x1) (y := (33 : Int32)) (i := x1.toInt) (j := 33) rfl rfl hc3)).1 kk) ?_
    show own_Go p e below _ (s₁.setTop (mkF m 6 #[.val (.int x1)] []))
    refine own_go (fun tt kk => XS.iloadN X0.here hx rfl (hb hby d13_6) rfl kk) ?_
    show own_Go p e below _ (s₁.setTop (mkF m 7 #[.val (.int x1)] [(.int x1)]))
    refine own_go (fun tt kk => XS.bipush X0.here hx rfl (hb hby d13_7) kk) ?_
    show own_Go p e below _ (s₁.setTop (mkF m 9 #[.val (.int x1)] [(.int (126 : Int32)), (.int x1)]))
    by_cases hc9 : 126 < x1.toInt
    · refine own_go (fun tt kk => XS.icmpNo X0.here hx rfl (hb hby d13_9) rfl (tlt (own_lt32 (x := (126 : Int32)) (y := x1) (i := 126) (j := x1.toInt) rfl rfl hc9)).2.2.2 kk) ?_
      show own_Go p e below _ (s₁.setTop (mkF m 12 #[.val (.int x1)] []))
      refine own_go (fun tt kk => XS.iconst X0.here hx rfl (hb hby d13_12) kk) ?_
      show own_Go p e below _ (s₁.setTop (mkF m 13 #[.val (.int x1)] [(.int (0 : Int32))]))
      exact own_retZ X0 hx hlk hret (by decide) (hb hby d13_13) ⟨(0 : Int32), rfl, by unfold own_exp; first | exact Or.inl ⟨rfl, by omega⟩ | exact Or.inr ⟨rfl, by omega⟩, e0, rfl⟩ (by decide) (by decide)
    · refine own_go (fun tt kk => XS.icmpYes X0.here hx rfl (pc0 := 9) (pc' := 14) rfl (hb hby d13_9) rfl (flt (own_nlt32 (x := (126 : Int32)) (y := x1) (i := 126) (j := x1.toInt) rfl rfl hc9)).2.2.2 (by decide) (by decide) kk) ?_
      show own_Go p e below _ (s₁.setTop (mkF m 14 #[.val (.int x1)] []))
      refine own_go (fun tt kk => XS.iloadN X0.here hx rfl (hb hby d13_14) rfl kk) ?_
      show own_Go p e below _ (s₁.setTop (mkF m 15 #[.val (.int x1)] [(.int x1)]))
      refine own_go (fun tt kk => XS.bipush X0.here hx rfl (hb hby d13_15) kk) ?_
      show own_Go p e below _ (s₁.setTop (mkF m 17 #[.val (.int x1)] [(.int (34 : Int32)), (.int x1)]))
      by_cases hc17 : x1.toInt = 34
      · refine own_go (fun tt kk => XS.icmpYes X0.here hx rfl (pc0 := 17) (pc' := 32) rfl (hb hby d13_17) rfl (teq (own_eq32 (x := x1) (y := (34 : Int32)) (i := x1.toInt) (j := 34) rfl rfl hc17)).1 (by decide) (by decide) kk) ?_
        show own_Go p e below _ (s₁.setTop (mkF m 32 #[.val (.int x1)] []))
        refine own_go (fun tt kk => XS.iconst X0.here hx rfl (hb hby d13_32) kk) ?_
        show own_Go p e below _ (s₁.setTop (mkF m 33 #[.val (.int x1)] [(.int (0 : Int32))]))
        exact own_retZ X0 hx hlk hret (by decide) (hb hby d13_33) ⟨(0 : Int32), rfl, by unfold own_exp; first | exact Or.inl ⟨rfl, by omega⟩ | exact Or.inr ⟨rfl, by omega⟩, e0, rfl⟩ (by decide) (by decide)
      · refine own_go (fun tt kk => XS.icmpNo X0.here hx rfl (hb hby d13_17) rfl (feq (own_neq32 (x := x1) (y := (34 : Int32)) (i := x1.toInt) (j := 34) rfl rfl hc17)).1 kk) ?_
        show own_Go p e below _ (s₁.setTop (mkF m 20 #[.val (.int x1)] []))
        refine own_go (fun tt kk => XS.iloadN X0.here hx rfl (hb hby d13_20) rfl kk) ?_
        show own_Go p e below _ (s₁.setTop (mkF m 21 #[.val (.int x1)] [(.int x1)]))
        refine own_go (fun tt kk => XS.bipush X0.here hx rfl (hb hby d13_21) kk) ?_
        show own_Go p e below _ (s₁.setTop (mkF m 23 #[.val (.int x1)] [(.int (35 : Int32)), (.int x1)]))
        by_cases hc23 : x1.toInt = 35
        · refine own_go (fun tt kk => XS.icmpYes X0.here hx rfl (pc0 := 23) (pc' := 32) rfl (hb hby d13_23) rfl (teq (own_eq32 (x := x1) (y := (35 : Int32)) (i := x1.toInt) (j := 35) rfl rfl hc23)).1 (by decide) (by decide) kk) ?_
          show own_Go p e below _ (s₁.setTop (mkF m 32 #[.val (.int x1)] []))
          refine own_go (fun tt kk => XS.iconst X0.here hx rfl (hb hby d13_32) kk) ?_
          show own_Go p e below _ (s₁.setTop (mkF m 33 #[.val (.int x1)] [(.int (0 : Int32))]))
          exact own_retZ X0 hx hlk hret (by decide) (hb hby d13_33) ⟨(0 : Int32), rfl, by unfold own_exp; first | exact Or.inl ⟨rfl, by omega⟩ | exact Or.inr ⟨rfl, by omega⟩, e0, rfl⟩ (by decide) (by decide)
        · refine own_go (fun tt kk => XS.icmpNo X0.here hx rfl (hb hby d13_23) rfl (feq (own_neq32 (x := x1) (y := (35 : Int32)) (i := x1.toInt) (j := 35) rfl rfl hc23)).1 kk) ?_
          show own_Go p e below _ (s₁.setTop (mkF m 26 #[.val (.int x1)] []))
          refine own_go (fun tt kk => XS.iloadN X0.here hx rfl (hb hby d13_26) rfl kk) ?_
          show own_Go p e below _ (s₁.setTop (mkF m 27 #[.val (.int x1)] [(.int x1)]))
          refine own_go (fun tt kk => XS.bipush X0.here hx rfl (hb hby d13_27) kk) ?_
          show own_Go p e below _ (s₁.setTop (mkF m 29 #[.val (.int x1)] [(.int (37 : Int32)), (.int x1)]))
          by_cases hc29 : x1.toInt = 37
          · refine own_go (fun tt kk => XS.icmpNo X0.here hx rfl (hb hby d13_29) rfl (teq (own_eq32 (x := x1) (y := (37 : Int32)) (i := x1.toInt) (j := 37) rfl rfl hc29)).2 kk) ?_
            show own_Go p e below _ (s₁.setTop (mkF m 32 #[.val (.int x1)] []))
            refine own_go (fun tt kk => XS.iconst X0.here hx rfl (hb hby d13_32) kk) ?_
            show own_Go p e below _ (s₁.setTop (mkF m 33 #[.val (.int x1)] [(.int (0 : Int32))]))
            exact own_retZ X0 hx hlk hret (by decide) (hb hby d13_33) ⟨(0 : Int32), rfl, by unfold own_exp; first | exact Or.inl ⟨rfl, by omega⟩ | exact Or.inr ⟨rfl, by omega⟩, e0, rfl⟩ (by decide) (by decide)
          · refine own_go (fun tt kk => XS.icmpYes X0.here hx rfl (pc0 := 29) (pc' := 34) rfl (hb hby d13_29) rfl (feq (own_neq32 (x := x1) (y := (37 : Int32)) (i := x1.toInt) (j := 37) rfl rfl hc29)).2 (by decide) (by decide) kk) ?_
            show own_Go p e below _ (s₁.setTop (mkF m 34 #[.val (.int x1)] []))
            refine own_go (fun tt kk => XS.iloadN X0.here hx rfl (hb hby d13_34) rfl kk) ?_
            show own_Go p e below _ (s₁.setTop (mkF m 35 #[.val (.int x1)] [(.int x1)]))
            refine own_go (fun tt kk => XS.bipush X0.here hx rfl (hb hby d13_35) kk) ?_
            show own_Go p e below _ (s₁.setTop (mkF m 37 #[.val (.int x1)] [(.int (60 : Int32)), (.int x1)]))
            by_cases hc37 : x1.toInt = 60
            · refine own_go (fun tt kk => XS.icmpYes X0.here hx rfl (pc0 := 37) (pc' := 52) rfl (hb hby d13_37) rfl (teq (own_eq32 (x := x1) (y := (60 : Int32)) (i := x1.toInt) (j := 60) rfl rfl hc37)).1 (by decide) (by decide) kk) ?_
              show own_Go p e below _ (s₁.setTop (mkF m 52 #[.val (.int x1)] []))
              refine own_go (fun tt kk => XS.iconst X0.here hx rfl (hb hby d13_52) kk) ?_
              show own_Go p e below _ (s₁.setTop (mkF m 53 #[.val (.int x1)] [(.int (0 : Int32))]))
              exact own_retZ X0 hx hlk hret (by decide) (hb hby d13_53) ⟨(0 : Int32), rfl, by unfold own_exp; first | exact Or.inl ⟨rfl, by omega⟩ | exact Or.inr ⟨rfl, by omega⟩, e0, rfl⟩ (by decide) (by decide)
            · refine own_go (fun tt kk => XS.icmpNo X0.here hx rfl (hb hby d13_37) rfl (feq (own_neq32 (x := x1) (y := (60 : Int32)) (i := x1.toInt) (j := 60) rfl rfl hc37)).1 kk) ?_
              show own_Go p e below _ (s₁.setTop (mkF m 40 #[.val (.int x1)] []))
              refine own_go (fun tt kk => XS.iloadN X0.here hx rfl (hb hby d13_40) rfl kk) ?_
              show own_Go p e below _ (s₁.setTop (mkF m 41 #[.val (.int x1)] [(.int x1)]))
              refine own_go (fun tt kk => XS.bipush X0.here hx rfl (hb hby d13_41) kk) ?_
              show own_Go p e below _ (s₁.setTop (mkF m 43 #[.val (.int x1)] [(.int (62 : Int32)), (.int x1)]))
              by_cases hc43 : x1.toInt = 62
              · refine own_go (fun tt kk => XS.icmpYes X0.here hx rfl (pc0 := 43) (pc' := 52) rfl (hb hby d13_43) rfl (teq (own_eq32 (x := x1) (y := (62 : Int32)) (i := x1.toInt) (j := 62) rfl rfl hc43)).1 (by decide) (by decide) kk) ?_
                show own_Go p e below _ (s₁.setTop (mkF m 52 #[.val (.int x1)] []))
                refine own_go (fun tt kk => XS.iconst X0.here hx rfl (hb hby d13_52) kk) ?_
                show own_Go p e below _ (s₁.setTop (mkF m 53 #[.val (.int x1)] [(.int (0 : Int32))]))
                exact own_retZ X0 hx hlk hret (by decide) (hb hby d13_53) ⟨(0 : Int32), rfl, by unfold own_exp; first | exact Or.inl ⟨rfl, by omega⟩ | exact Or.inr ⟨rfl, by omega⟩, e0, rfl⟩ (by decide) (by decide)
              · refine own_go (fun tt kk => XS.icmpNo X0.here hx rfl (hb hby d13_43) rfl (feq (own_neq32 (x := x1) (y := (62 : Int32)) (i := x1.toInt) (j := 62) rfl rfl hc43)).1 kk) ?_
                show own_Go p e below _ (s₁.setTop (mkF m 46 #[.val (.int x1)] []))
                refine own_go (fun tt kk => XS.iloadN X0.here hx rfl (hb hby d13_46) rfl kk) ?_
                show own_Go p e below _ (s₁.setTop (mkF m 47 #[.val (.int x1)] [(.int x1)]))
                refine own_go (fun tt kk => XS.bipush X0.here hx rfl (hb hby d13_47) kk) ?_
                show own_Go p e below _ (s₁.setTop (mkF m 49 #[.val (.int x1)] [(.int (63 : Int32)), (.int x1)]))
                by_cases hc49 : x1.toInt = 63
                · refine own_go (fun tt kk => XS.icmpNo X0.here hx rfl (hb hby d13_49) rfl (teq (own_eq32 (x := x1) (y := (63 : Int32)) (i := x1.toInt) (j := 63) rfl rfl hc49)).2 kk) ?_
                  show own_Go p e below _ (s₁.setTop (mkF m 52 #[.val (.int x1)] []))
                  refine own_go (fun tt kk => XS.iconst X0.here hx rfl (hb hby d13_52) kk) ?_
                  show own_Go p e below _ (s₁.setTop (mkF m 53 #[.val (.int x1)] [(.int (0 : Int32))]))
                  exact own_retZ X0 hx hlk hret (by decide) (hb hby d13_53) ⟨(0 : Int32), rfl, by unfold own_exp; first | exact Or.inl ⟨rfl, by omega⟩ | exact Or.inr ⟨rfl, by omega⟩, e0, rfl⟩ (by decide) (by decide)
                · refine own_go (fun tt kk => XS.icmpYes X0.here hx rfl (pc0 := 49) (pc' := 54) rfl (hb hby d13_49) rfl (feq (own_neq32 (x := x1) (y := (63 : Int32)) (i := x1.toInt) (j := 63) rfl rfl hc49)).2 (by decide) (by decide) kk) ?_
                  show own_Go p e below _ (s₁.setTop (mkF m 54 #[.val (.int x1)] []))
                  refine own_go (fun tt kk => XS.iloadN X0.here hx rfl (hb hby d13_54) rfl kk) ?_
                  show own_Go p e below _ (s₁.setTop (mkF m 55 #[.val (.int x1)] [(.int x1)]))
                  refine own_go (fun tt kk => XS.bipush X0.here hx rfl (hb hby d13_55) kk) ?_
                  show own_Go p e below _ (s₁.setTop (mkF m 57 #[.val (.int x1)] [(.int (91 : Int32)), (.int x1)]))
                  by_cases hc57 : x1.toInt < 91
                  · refine own_go (fun tt kk => XS.icmpYes X0.here hx rfl (pc0 := 57) (pc' := 68) rfl (hb hby d13_57) rfl (tlt (own_lt32 (x := x1) (y := (91 : Int32)) (i := x1.toInt) (j := 91) rfl rfl hc57)).1 (by decide) (by decide) kk) ?_
                    show own_Go p e below _ (s₁.setTop (mkF m 68 #[.val (.int x1)] []))
                    refine own_go (fun tt kk => XS.iloadN X0.here hx rfl (hb hby d13_68) rfl kk) ?_
                    show own_Go p e below _ (s₁.setTop (mkF m 69 #[.val (.int x1)] [(.int x1)]))
                    refine own_go (fun tt kk => XS.bipush X0.here hx rfl (hb hby d13_69) kk) ?_
                    show own_Go p e below _ (s₁.setTop (mkF m 71 #[.val (.int x1)] [(.int (96 : Int32)), (.int x1)]))
                    by_cases hc71 : x1.toInt = 96
                    · refine own_go (fun tt kk => XS.icmpNo X0.here hx rfl (hb hby d13_71) rfl (teq (own_eq32 (x := x1) (y := (96 : Int32)) (i := x1.toInt) (j := 96) rfl rfl hc71)).2 kk) ?_
                      show own_Go p e below _ (s₁.setTop (mkF m 74 #[.val (.int x1)] []))
                      refine own_go (fun tt kk => XS.iconst X0.here hx rfl (hb hby d13_74) kk) ?_
                      show own_Go p e below _ (s₁.setTop (mkF m 75 #[.val (.int x1)] [(.int (0 : Int32))]))
                      exact own_retZ X0 hx hlk hret (by decide) (hb hby d13_75) ⟨(0 : Int32), rfl, by unfold own_exp; first | exact Or.inl ⟨rfl, by omega⟩ | exact Or.inr ⟨rfl, by omega⟩, e0, rfl⟩ (by decide) (by decide)
                    · refine own_go (fun tt kk => XS.icmpYes X0.here hx rfl (pc0 := 71) (pc' := 76) rfl (hb hby d13_71) rfl (feq (own_neq32 (x := x1) (y := (96 : Int32)) (i := x1.toInt) (j := 96) rfl rfl hc71)).2 (by decide) (by decide) kk) ?_
                      show own_Go p e below _ (s₁.setTop (mkF m 76 #[.val (.int x1)] []))
                      refine own_go (fun tt kk => XS.iloadN X0.here hx rfl (hb hby d13_76) rfl kk) ?_
                      show own_Go p e below _ (s₁.setTop (mkF m 77 #[.val (.int x1)] [(.int x1)]))
                      refine own_go (fun tt kk => XS.bipush X0.here hx rfl (hb hby d13_77) kk) ?_
                      show own_Go p e below _ (s₁.setTop (mkF m 79 #[.val (.int x1)] [(.int (123 : Int32)), (.int x1)]))
                      by_cases hc79 : x1.toInt < 123
                      · refine own_go (fun tt kk => XS.icmpYes X0.here hx rfl (pc0 := 79) (pc' := 90) rfl (hb hby d13_79) rfl (tlt (own_lt32 (x := x1) (y := (123 : Int32)) (i := x1.toInt) (j := 123) rfl rfl hc79)).1 (by decide) (by decide) kk) ?_
                        show own_Go p e below _ (s₁.setTop (mkF m 90 #[.val (.int x1)] []))
                        refine own_go (fun tt kk => XS.iconst X0.here hx rfl (hb hby d13_90) kk) ?_
                        show own_Go p e below _ (s₁.setTop (mkF m 91 #[.val (.int x1)] [(.int (1 : Int32))]))
                        exact own_retZ X0 hx hlk hret (by decide) (hb hby d13_91) ⟨(1 : Int32), rfl, by unfold own_exp; first | exact Or.inl ⟨rfl, by omega⟩ | exact Or.inr ⟨rfl, by omega⟩, e0, rfl⟩ (by decide) (by decide)
                      · refine own_go (fun tt kk => XS.icmpNo X0.here hx rfl (hb hby d13_79) rfl (flt (own_nlt32 (x := x1) (y := (123 : Int32)) (i := x1.toInt) (j := 123) rfl rfl hc79)).1 kk) ?_
                        show own_Go p e below _ (s₁.setTop (mkF m 82 #[.val (.int x1)] []))
                        refine own_go (fun tt kk => XS.iloadN X0.here hx rfl (hb hby d13_82) rfl kk) ?_
                        show own_Go p e below _ (s₁.setTop (mkF m 83 #[.val (.int x1)] [(.int x1)]))
                        refine own_go (fun tt kk => XS.bipush X0.here hx rfl (hb hby d13_83) kk) ?_
                        show own_Go p e below _ (s₁.setTop (mkF m 85 #[.val (.int x1)] [(.int (125 : Int32)), (.int x1)]))
                        by_cases hc85 : 125 < x1.toInt
                        · refine own_go (fun tt kk => XS.icmpYes X0.here hx rfl (pc0 := 85) (pc' := 90) rfl (hb hby d13_85) rfl (tlt (own_lt32 (x := (125 : Int32)) (y := x1) (i := 125) (j := x1.toInt) rfl rfl hc85)).2.2.1 (by decide) (by decide) kk) ?_
                          show own_Go p e below _ (s₁.setTop (mkF m 90 #[.val (.int x1)] []))
                          refine own_go (fun tt kk => XS.iconst X0.here hx rfl (hb hby d13_90) kk) ?_
                          show own_Go p e below _ (s₁.setTop (mkF m 91 #[.val (.int x1)] [(.int (1 : Int32))]))
                          exact own_retZ X0 hx hlk hret (by decide) (hb hby d13_91) ⟨(1 : Int32), rfl, by unfold own_exp; first | exact Or.inl ⟨rfl, by omega⟩ | exact Or.inr ⟨rfl, by omega⟩, e0, rfl⟩ (by decide) (by decide)
                        · refine own_go (fun tt kk => XS.icmpNo X0.here hx rfl (hb hby d13_85) rfl (flt (own_nlt32 (x := (125 : Int32)) (y := x1) (i := 125) (j := x1.toInt) rfl rfl hc85)).2.2.1 kk) ?_
                          show own_Go p e below _ (s₁.setTop (mkF m 88 #[.val (.int x1)] []))
                          refine own_go (fun tt kk => XS.iconst X0.here hx rfl (hb hby d13_88) kk) ?_
                          show own_Go p e below _ (s₁.setTop (mkF m 89 #[.val (.int x1)] [(.int (0 : Int32))]))
                          exact own_retZ X0 hx hlk hret (by decide) (hb hby d13_89) ⟨(0 : Int32), rfl, by unfold own_exp; first | exact Or.inl ⟨rfl, by omega⟩ | exact Or.inr ⟨rfl, by omega⟩, e0, rfl⟩ (by decide) (by decide)
                  · refine own_go (fun tt kk => XS.icmpNo X0.here hx rfl (hb hby d13_57) rfl (flt (own_nlt32 (x := x1) (y := (91 : Int32)) (i := x1.toInt) (j := 91) rfl rfl hc57)).1 kk) ?_
                    show own_Go p e below _ (s₁.setTop (mkF m 60 #[.val (.int x1)] []))
                    refine own_go (fun tt kk => XS.iloadN X0.here hx rfl (hb hby d13_60) rfl kk) ?_
                    show own_Go p e below _ (s₁.setTop (mkF m 61 #[.val (.int x1)] [(.int x1)]))
                    refine own_go (fun tt kk => XS.bipush X0.here hx rfl (hb hby d13_61) kk) ?_
                    show own_Go p e below _ (s₁.setTop (mkF m 63 #[.val (.int x1)] [(.int (94 : Int32)), (.int x1)]))
                    by_cases hc63 : 94 < x1.toInt
                    · refine own_go (fun tt kk => XS.icmpYes X0.here hx rfl (pc0 := 63) (pc' := 68) rfl (hb hby d13_63) rfl (tlt (own_lt32 (x := (94 : Int32)) (y := x1) (i := 94) (j := x1.toInt) rfl rfl hc63)).2.2.1 (by decide) (by decide) kk) ?_
                      show own_Go p e below _ (s₁.setTop (mkF m 68 #[.val (.int x1)] []))
                      refine own_go (fun tt kk => XS.iloadN X0.here hx rfl (hb hby d13_68) rfl kk) ?_
                      show own_Go p e below _ (s₁.setTop (mkF m 69 #[.val (.int x1)] [(.int x1)]))
                      refine own_go (fun tt kk => XS.bipush X0.here hx rfl (hb hby d13_69) kk) ?_
                      show own_Go p e below _ (s₁.setTop (mkF m 71 #[.val (.int x1)] [(.int (96 : Int32)), (.int x1)]))
                      by_cases hc71 : x1.toInt = 96
                      · refine own_go (fun tt kk => XS.icmpNo X0.here hx rfl (hb hby d13_71) rfl (teq (own_eq32 (x := x1) (y := (96 : Int32)) (i := x1.toInt) (j := 96) rfl rfl hc71)).2 kk) ?_
                        show own_Go p e below _ (s₁.setTop (mkF m 74 #[.val (.int x1)] []))
                        refine own_go (fun tt kk => XS.iconst X0.here hx rfl (hb hby d13_74) kk) ?_
                        show own_Go p e below _ (s₁.setTop (mkF m 75 #[.val (.int x1)] [(.int (0 : Int32))]))
                        exact own_retZ X0 hx hlk hret (by decide) (hb hby d13_75) ⟨(0 : Int32), rfl, by unfold own_exp; first | exact Or.inl ⟨rfl, by omega⟩ | exact Or.inr ⟨rfl, by omega⟩, e0, rfl⟩ (by decide) (by decide)
                      · refine own_go (fun tt kk => XS.icmpYes X0.here hx rfl (pc0 := 71) (pc' := 76) rfl (hb hby d13_71) rfl (feq (own_neq32 (x := x1) (y := (96 : Int32)) (i := x1.toInt) (j := 96) rfl rfl hc71)).2 (by decide) (by decide) kk) ?_
                        show own_Go p e below _ (s₁.setTop (mkF m 76 #[.val (.int x1)] []))
                        refine own_go (fun tt kk => XS.iloadN X0.here hx rfl (hb hby d13_76) rfl kk) ?_
                        show own_Go p e below _ (s₁.setTop (mkF m 77 #[.val (.int x1)] [(.int x1)]))
                        refine own_go (fun tt kk => XS.bipush X0.here hx rfl (hb hby d13_77) kk) ?_
                        show own_Go p e below _ (s₁.setTop (mkF m 79 #[.val (.int x1)] [(.int (123 : Int32)), (.int x1)]))
                        by_cases hc79 : x1.toInt < 123
                        · refine own_go (fun tt kk => XS.icmpYes X0.here hx rfl (pc0 := 79) (pc' := 90) rfl (hb hby d13_79) rfl (tlt (own_lt32 (x := x1) (y := (123 : Int32)) (i := x1.toInt) (j := 123) rfl rfl hc79)).1 (by decide) (by decide) kk) ?_
                          show own_Go p e below _ (s₁.setTop (mkF m 90 #[.val (.int x1)] []))
                          refine own_go (fun tt kk => XS.iconst X0.here hx rfl (hb hby d13_90) kk) ?_
                          show own_Go p e below _ (s₁.setTop (mkF m 91 #[.val (.int x1)] [(.int (1 : Int32))]))
                          exact own_retZ X0 hx hlk hret (by decide) (hb hby d13_91) ⟨(1 : Int32), rfl, by unfold own_exp; first | exact Or.inl ⟨rfl, by omega⟩ | exact Or.inr ⟨rfl, by omega⟩, e0, rfl⟩ (by decide) (by decide)
                        · refine own_go (fun tt kk => XS.icmpNo X0.here hx rfl (hb hby d13_79) rfl (flt (own_nlt32 (x := x1) (y := (123 : Int32)) (i := x1.toInt) (j := 123) rfl rfl hc79)).1 kk) ?_
                          show own_Go p e below _ (s₁.setTop (mkF m 82 #[.val (.int x1)] []))
                          refine own_go (fun tt kk => XS.iloadN X0.here hx rfl (hb hby d13_82) rfl kk) ?_
                          show own_Go p e below _ (s₁.setTop (mkF m 83 #[.val (.int x1)] [(.int x1)]))
                          refine own_go (fun tt kk => XS.bipush X0.here hx rfl (hb hby d13_83) kk) ?_
                          show own_Go p e below _ (s₁.setTop (mkF m 85 #[.val (.int x1)] [(.int (125 : Int32)), (.int x1)]))
                          by_cases hc85 : 125 < x1.toInt
                          · refine own_go (fun tt kk => XS.icmpYes X0.here hx rfl (pc0 := 85) (pc' := 90) rfl (hb hby d13_85) rfl (tlt (own_lt32 (x := (125 : Int32)) (y := x1) (i := 125) (j := x1.toInt) rfl rfl hc85)).2.2.1 (by decide) (by decide) kk) ?_
                            show own_Go p e below _ (s₁.setTop (mkF m 90 #[.val (.int x1)] []))
                            refine own_go (fun tt kk => XS.iconst X0.here hx rfl (hb hby d13_90) kk) ?_
                            show own_Go p e below _ (s₁.setTop (mkF m 91 #[.val (.int x1)] [(.int (1 : Int32))]))
                            exact own_retZ X0 hx hlk hret (by decide) (hb hby d13_91) ⟨(1 : Int32), rfl, by unfold own_exp; first | exact Or.inl ⟨rfl, by omega⟩ | exact Or.inr ⟨rfl, by omega⟩, e0, rfl⟩ (by decide) (by decide)
                          · refine own_go (fun tt kk => XS.icmpNo X0.here hx rfl (hb hby d13_85) rfl (flt (own_nlt32 (x := (125 : Int32)) (y := x1) (i := 125) (j := x1.toInt) rfl rfl hc85)).2.2.1 kk) ?_
                            show own_Go p e below _ (s₁.setTop (mkF m 88 #[.val (.int x1)] []))
                            refine own_go (fun tt kk => XS.iconst X0.here hx rfl (hb hby d13_88) kk) ?_
                            show own_Go p e below _ (s₁.setTop (mkF m 89 #[.val (.int x1)] [(.int (0 : Int32))]))
                            exact own_retZ X0 hx hlk hret (by decide) (hb hby d13_89) ⟨(0 : Int32), rfl, by unfold own_exp; first | exact Or.inl ⟨rfl, by omega⟩ | exact Or.inr ⟨rfl, by omega⟩, e0, rfl⟩ (by decide) (by decide)
                    · refine own_go (fun tt kk => XS.icmpNo X0.here hx rfl (hb hby d13_63) rfl (flt (own_nlt32 (x := (94 : Int32)) (y := x1) (i := 94) (j := x1.toInt) rfl rfl hc63)).2.2.1 kk) ?_
                      show own_Go p e below _ (s₁.setTop (mkF m 66 #[.val (.int x1)] []))
                      refine own_go (fun tt kk => XS.iconst X0.here hx rfl (hb hby d13_66) kk) ?_
                      show own_Go p e below _ (s₁.setTop (mkF m 67 #[.val (.int x1)] [(.int (0 : Int32))]))
                      exact own_retZ X0 hx hlk hret (by decide) (hb hby d13_67) ⟨(0 : Int32), rfl, by unfold own_exp; first | exact Or.inl ⟨rfl, by omega⟩ | exact Or.inr ⟨rfl, by omega⟩, e0, rfl⟩ (by decide) (by decide)
set_option maxRecDepth 65536 in
set_option maxHeartbeats 40000000 in
theorem rmIdxC (l : Launch) (Z : State) (a0 : Array Value) (hw : ∀ d ∈ tables_1, d.before a0 Z = true) (ws : List Jvm.Cond) (a1 : Addr) (n : Nat) (g : Nat → Int32) (p2 p3 p4 : Int32) (h0 : Heap) (A : own_Ar Z h0 a1 .byte n (own_I g)) (h3 : p3.toInt = 0) (h4 : p4.toInt = n) :
    own_Met l Z ws (⟨"java/lang/StringLatin1", "indexOfChar", "([BIII)I"⟩ : MethodName) jdk_43_method_23_code 6 (some .int) ({ frames := 0, cells := 0, slots := 0, locals := 0 } : Room) #[(.ref a1), (.int p2), (.int p3), (.int p4)] h0 (fun v h L => ∃ z : Int32, v = some (.int z) ∧ ((∃ i, i < n ∧ g i = p2.toInt8.toInt32 ∧ z.toInt = i) ∨ ((∀ i, i < n → ¬ g i = p2.toInt8.toInt32) ∧ z = -1)) ∧ h = h0 ∧ L = []) := by
  refine own_met pn_12 ?_
  intro p e s m below meth c s₁ hx hby hml hown hnm hret hlk hZ X0 e0
  refine own_entry (ef_12 m a1 p2 p3 p4) ?_
  show own_Go p e below _ (s₁.setTop (mkF m 0 #[.val (.ref a1), .val (.int p2), .val (.int p3), .val (.int p4), .unset, .unset] []))
  refine own_go (fun tt kk => XS.iloadN X0.here hx rfl (hb hby d12_0) rfl kk) ?_
  show own_Go p e below _ (s₁.setTop (mkF m 1 #[.val (.ref a1), .val (.int p2), .val (.int p3), .val (.int p4), .unset, .unset] [(.int p2)]))
  refine own_go (fun tt kk => XS.i2b X0.here hx rfl (hb hby d12_1) rfl kk) ?_
  show own_Go p e below _ (s₁.setTop (mkF m 2 #[.val (.ref a1), .val (.int p2), .val (.int p3), .val (.int p4), .unset, .unset] [(.int (p2.toInt8.toInt32))]))
  refine own_go (fun tt kk => XS.istore X0.here hx rfl (hb hby d12_2) rfl (l' := #[.val (.ref a1), .val (.int p2), .val (.int p3), .val (.int p4), .val (.int (p2.toInt8.toInt32)), .unset]) rfl kk) ?_
  show own_Go p e below _ (s₁.setTop (mkF m 4 #[.val (.ref a1), .val (.int p2), .val (.int p3), .val (.int p4), .val (.int (p2.toInt8.toInt32)), .unset] []))
  refine own_go (fun tt kk => XS.iloadN X0.here hx rfl (hb hby d12_4) rfl kk) ?_
  show own_Go p e below _ (s₁.setTop (mkF m 5 #[.val (.ref a1), .val (.int p2), .val (.int p3), .val (.int p4), .val (.int (p2.toInt8.toInt32)), .unset] [(.int p3)]))
  refine own_go (fun tt kk => XS.istore X0.here hx rfl (hb hby d12_5) rfl (l' := #[.val (.ref a1), .val (.int p2), .val (.int p3), .val (.int p4), .val (.int (p2.toInt8.toInt32)), .val (.int p3)]) rfl kk) ?_
  show own_Go p e below _ (s₁.setTop (mkF m 7 #[.val (.ref a1), .val (.int p2), .val (.int p3), .val (.int p4), .val (.int (p2.toInt8.toInt32)), .val (.int p3)] []))
  suffices loop : ∀ (r i : Nat) (j : Int32) (T : State), i + r = n → j.toInt = i → (∀ k, k < i → ¬ g k = p2.toInt8.toInt32) → Stand p l e _ s m _ below meth c T [] 0 0 → T.heap = h0 → own_Go p e below (own_End below s (fun v h L => ∃ z : Int32, v = some (.int z) ∧ ((∃ i, i < n ∧ g i = p2.toInt8.toInt32 ∧ z.toInt = i) ∨ ((∀ i, i < n → ¬ g i = p2.toInt8.toInt32) ∧ z = -1)) ∧ h = h0 ∧ L = []) 0 0) (T.setTop (mkF m 7 #[.val (.ref a1), .val (.int p2), .val (.int p3), .val (.int p4), .val (.int (p2.toInt8.toInt32)), .val (.int j)] [])) by
    exact loop n 0 p3 _ (by omega) h3 (fun k hk => absurd hk (Nat.not_lt_zero _)) X0 e0
  intro r
  induction r with
  | zero =>
    intro i j T hi hj hk X e1
    show own_Go p e below _ (T.setTop (mkF m 7 #[.val (.ref a1), .val (.int p2), .val (.int p3), .val (.int p4), .val (.int (p2.toInt8.toInt32)), .val (.int j)] []))
    refine own_go (fun tt kk => XS.iload X.here hx rfl (hb hby d12_7) rfl kk) ?_
    show own_Go p e below _ (T.setTop (mkF m 9 #[.val (.ref a1), .val (.int p2), .val (.int p3), .val (.int p4), .val (.int (p2.toInt8.toInt32)), .val (.int j)] [(.int j)]))
    refine own_go (fun tt kk => XS.iloadN X.here hx rfl (hb hby d12_9) rfl kk) ?_
    show own_Go p e below _ (T.setTop (mkF m 10 #[.val (.ref a1), .val (.int p2), .val (.int p3), .val (.int p4), .val (.int (p2.toInt8.toInt32)), .val (.int j)] [(.int p4), (.int j)]))
    refine own_go (fun tt kk => XS.icmpYes X.here hx rfl (pc0 := 10) (pc' := 31) rfl (hb hby d12_10) rfl (flt (own_nlt32 (x := j) (y := p4) (i := j.toInt) (j := p4.toInt) rfl rfl (by omega))).2.1 (by decide) (by decide) kk) ?_
    show own_Go p e below _ (T.setTop (mkF m 31 #[.val (.ref a1), .val (.int p2), .val (.int p3), .val (.int p4), .val (.int (p2.toInt8.toInt32)), .val (.int j)] []))
    refine own_go (fun tt kk => XS.iconst X.here hx rfl (hb hby d12_31) kk) ?_
    show own_Go p e below _ (T.setTop (mkF m 32 #[.val (.ref a1), .val (.int p2), .val (.int p3), .val (.int p4), .val (.int (p2.toInt8.toInt32)), .val (.int j)] [(.int (-1 : Int32))]))
    exact own_retI X hx hlk hret (hb hby d12_32) ⟨-1, rfl, Or.inr ⟨fun k hk' => hk k (by omega), rfl⟩, e1, rfl⟩ (by decide) (by decide)
  | succ r ih =>
    intro i j T hi hj hk X e1
    show own_Go p e below _ (T.setTop (mkF m 7 #[.val (.ref a1), .val (.int p2), .val (.int p3), .val (.int p4), .val (.int (p2.toInt8.toInt32)), .val (.int j)] []))
    have F1 := c_iadd j 1
    have F2 : (1 : Int32).toInt = 1 := rfl
    have F3 := A.1
    have F4 := rng32 (j + 1)
    refine own_go (fun tt kk => XS.iload X.here hx rfl (hb hby d12_7) rfl kk) ?_
    show own_Go p e below _ (T.setTop (mkF m 9 #[.val (.ref a1), .val (.int p2), .val (.int p3), .val (.int p4), .val (.int (p2.toInt8.toInt32)), .val (.int j)] [(.int j)]))
    refine own_go (fun tt kk => XS.iloadN X.here hx rfl (hb hby d12_9) rfl kk) ?_
    show own_Go p e below _ (T.setTop (mkF m 10 #[.val (.ref a1), .val (.int p2), .val (.int p3), .val (.int p4), .val (.int (p2.toInt8.toInt32)), .val (.int j)] [(.int p4), (.int j)]))
    refine own_go (fun tt kk => XS.icmpNo X.here hx rfl (hb hby d12_10) rfl (tlt (own_lt32 (x := j) (y := p4) (i := j.toInt) (j := p4.toInt) rfl rfl (by omega))).2.1 kk) ?_
    show own_Go p e below _ (T.setTop (mkF m 13 #[.val (.ref a1), .val (.int p2), .val (.int p3), .val (.int p4), .val (.int (p2.toInt8.toInt32)), .val (.int j)] []))
    refine own_go (fun tt kk => XS.aloadN X.here hx rfl (hb hby d12_13) rfl rfl kk) ?_
    show own_Go p e below _ (T.setTop (mkF m 14 #[.val (.ref a1), .val (.int p2), .val (.int p3), .val (.int p4), .val (.int (p2.toInt8.toInt32)), .val (.int j)] [(.ref a1)]))
    refine own_go (fun tt kk => XS.iload X.here hx rfl (hb hby d12_14) rfl kk) ?_
    show own_Go p e below _ (T.setTop (mkF m 16 #[.val (.ref a1), .val (.int p2), .val (.int p3), .val (.int p4), .val (.int (p2.toInt8.toInt32)), .val (.int j)] [(.int j), (.ref a1)]))
    refine own_go (own_baload X hx hZ e1 A (j := j) hj (by omega) (pc := 16) (Ls := #[.val (.ref a1), .val (.int p2), .val (.int p3), .val (.int p4), .val (.int (p2.toInt8.toInt32)), .val (.int j)]) (rest := []) (hb hby d12_16)) ?_
    show own_Go p e below _ (T.setTop (mkF m 17 #[.val (.ref a1), .val (.int p2), .val (.int p3), .val (.int p4), .val (.int (p2.toInt8.toInt32)), .val (.int j)] [(.int (g i))]))
    refine own_go (fun tt kk => XS.iload X.here hx rfl (hb hby d12_17) rfl kk) ?_
    show own_Go p e below _ (T.setTop (mkF m 19 #[.val (.ref a1), .val (.int p2), .val (.int p3), .val (.int p4), .val (.int (p2.toInt8.toInt32)), .val (.int j)] [(.int (p2.toInt8.toInt32)), (.int (g i))]))
    by_cases hc19 : (g i).toInt = (p2.toInt8.toInt32).toInt
    · refine own_go (fun tt kk => XS.icmpNo X.here hx rfl (hb hby d12_19) rfl (teq (own_eq32 (x := (g i)) (y := (p2.toInt8.toInt32)) (i := (g i).toInt) (j := (p2.toInt8.toInt32).toInt) rfl rfl hc19)).2 kk) ?_
      show own_Go p e below _ (T.setTop (mkF m 22 #[.val (.ref a1), .val (.int p2), .val (.int p3), .val (.int p4), .val (.int (p2.toInt8.toInt32)), .val (.int j)] []))
      refine own_go (fun tt kk => XS.iload X.here hx rfl (hb hby d12_22) rfl kk) ?_
      show own_Go p e below _ (T.setTop (mkF m 24 #[.val (.ref a1), .val (.int p2), .val (.int p3), .val (.int p4), .val (.int (p2.toInt8.toInt32)), .val (.int j)] [(.int j)]))
      exact own_retI X hx hlk hret (hb hby d12_24) ⟨j, rfl, Or.inl ⟨i, by omega, Int32.toInt_inj.mp hc19, hj⟩, e1, rfl⟩ (by decide) (by decide)
    · refine own_go (fun tt kk => XS.icmpYes X.here hx rfl (pc0 := 19) (pc' := 25) rfl (hb hby d12_19) rfl (feq (own_neq32 (x := (g i)) (y := (p2.toInt8.toInt32)) (i := (g i).toInt) (j := (p2.toInt8.toInt32).toInt) rfl rfl hc19)).2 (by decide) (by decide) kk) ?_
      show own_Go p e below _ (T.setTop (mkF m 25 #[.val (.ref a1), .val (.int p2), .val (.int p3), .val (.int p4), .val (.int (p2.toInt8.toInt32)), .val (.int j)] []))
      refine own_go (fun tt kk => XS.iinc X.here hx rfl (hb hby d12_25) rfl (l' := #[.val (.ref a1), .val (.int p2), .val (.int p3), .val (.int p4), .val (.int (p2.toInt8.toInt32)), .val (.int (j + (1 : Int32)))]) rfl kk) ?_
      show own_Go p e below _ (T.setTop (mkF m 28 #[.val (.ref a1), .val (.int p2), .val (.int p3), .val (.int p4), .val (.int (p2.toInt8.toInt32)), .val (.int (j + (1 : Int32)))] []))
      refine own_go (fun tt kk => XS.goto X.here hx rfl (pc0 := 28) (pc' := 7) rfl (hb hby d12_28) (by decide) (by decide) kk) ?_
      show own_Go p e below _ (T.setTop (mkF m 7 #[.val (.ref a1), .val (.int p2), .val (.int p3), .val (.int p4), .val (.int (p2.toInt8.toInt32)), .val (.int (j + (1 : Int32)))] []))
      exact ih (i + 1) (j + 1) _ (by omega) (by omega) (fun k hk' => by
        rcases Nat.lt_succ_iff_lt_or_eq.mp hk' with q | q
        · exact hk k q
        · rw [q]; exact fun z => hc19 (by rw [z])) X e1
set_option maxRecDepth 65536 in
set_option maxHeartbeats 40000000 in
theorem rmIdx4 (l : Launch) (Z : State) (a0 : Array Value) (hw : ∀ d ∈ tables_1, d.before a0 Z = true) (ws : List Jvm.Cond) (a1 : Addr) (n : Nat) (g : Nat → Int32) (p2 p3 p4 : Int32) (h0 : Heap) (A : own_Ar Z h0 a1 .byte n (own_I g)) (h2 : 0 ≤ p2.toInt) (h3 : p3.toInt = 0) (h4 : p4.toInt = n) (hn : 0 < n) :
    own_Met l Z ws (⟨"java/lang/StringLatin1", "indexOf", "([BIII)I"⟩ : MethodName) jdk_43_method_22_code 4 (some .int) ({ frames := 1, cells := 0, slots := 0, locals := 20 } : Room) #[(.ref a1), (.int p2), (.int p3), (.int p4)] h0 (fun v h L => ∃ z : Int32, v = some (.int z) ∧ ((0 ≤ z.toInt ∧ p2.toInt ≤ 255 ∧ ∃ i, i < n ∧ g i = p2.toInt8.toInt32) ∨ (z.toInt < 0 ∧ ¬ (p2.toInt ≤ 255 ∧ ∃ i, i < n ∧ g i = p2.toInt8.toInt32))) ∧ h = h0 ∧ L = []) := by
  refine own_met pn_8 ?_
  intro p e s m below meth c s₁ hx hby hml hown hnm hret hlk hZ X0 e0
  refine own_entry (ef_8 m a1 p2 p3 p4) ?_
  show own_Go p e below _ (s₁.setTop (mkF m 0 #[.val (.ref a1), .val (.int p2), .val (.int p3), .val (.int p4)] []))
  have hnn : n.toInt32.toInt = n := len_toInt A.1
  have z32 : (0 : Int32).toInt = 0 := rfl
  have m32 : (-1 : Int32).toInt = -1 := rfl
  have o32 : (1 : Int32).toInt = 1 := rfl
  refine own_go (fun tt kk => XS.iloadN X0.here hx rfl (hb hby d8_0) rfl kk) ?_
  show own_Go p e below _ (s₁.setTop (mkF m 1 #[.val (.ref a1), .val (.int p2), .val (.int p3), .val (.int p4)] [(.int p2)]))
  obtain ⟨v1, L1, T1, X1, qq1, st1⟩ := own_callS X0 hx hZ hown (hw _ (List.mem_of_getElem? (i := 47) rfl)) (hw _ (List.mem_of_getElem? (i := 48) rfl)) (hw _ (List.mem_of_getElem? (i := 45) rfl)) (hw _ (List.mem_of_getElem? (i := 49) rfl)) (by decide) (rmCan l Z a0 hw [] p2 h0) e0 (pc := 1) (Ls := #[.val (.ref a1), .val (.int p2), .val (.int p3), .val (.int p4)]) (argsL := [(.int p2)]) (rest := []) rfl (by rw [hml]; rfl) pd_0 rfl rfl (hb hby d8_1) 0 (Nat.le_of_eq rfl) (by decide) (by decide) (by decide) (by decide)
  obtain ⟨z1, rfl, hz1, hh1, rfl⟩ := qq1
  refine own_go st1 ?_
  show own_Go p e below _ (T1.setTop (mkF m 4 #[.val (.ref a1), .val (.int p2), .val (.int p3), .val (.int p4)] [(.int z1)]))
  by_cases hc4 : z1.toInt = 0
  · refine own_go (fun tt kk => XS.ifNo X1.here hx rfl (hb hby d8_4) rfl ((if0 _ _).trans (teq (own_eq32 (x := z1) (y := (0 : Int32)) (i := z1.toInt) (j := 0) rfl rfl hc4)).2) kk) ?_
    show own_Go p e below _ (T1.setTop (mkF m 7 #[.val (.ref a1), .val (.int p2), .val (.int p3), .val (.int p4)] []))
    refine own_go (fun tt kk => XS.iconst X1.here hx rfl (hb hby d8_7) kk) ?_
    show own_Go p e below _ (T1.setTop (mkF m 8 #[.val (.ref a1), .val (.int p2), .val (.int p3), .val (.int p4)] [(.int (-1 : Int32))]))
    exact own_retI X1 hx hlk hret (hb hby d8_8) ⟨-1, rfl, Or.inr ⟨by omega, fun q => by rcases hz1 with ⟨rfl, _⟩ | ⟨_, r⟩; omega; omega⟩, hh1, rfl⟩ (by decide) (by decide)
  · refine own_go (fun tt kk => XS.ifYes X1.here hx rfl (pc0 := 4) (pc' := 9) rfl (hb hby d8_4) rfl ((if0 _ _).trans (feq (own_neq32 (x := z1) (y := (0 : Int32)) (i := z1.toInt) (j := 0) rfl rfl hc4)).2) (by decide) (by decide) kk) ?_
    show own_Go p e below _ (T1.setTop (mkF m 9 #[.val (.ref a1), .val (.int p2), .val (.int p3), .val (.int p4)] []))
    have h255 : p2.toInt ≤ 255 := by rcases hz1 with ⟨_, r⟩ | ⟨rfl, _⟩; omega; omega
    refine own_go (fun tt kk => XS.iloadN X1.here hx rfl (hb hby d8_9) rfl kk) ?_
    show own_Go p e below _ (T1.setTop (mkF m 10 #[.val (.ref a1), .val (.int p2), .val (.int p3), .val (.int p4)] [(.int p3)]))
    refine own_go (fun tt kk => XS.iconst X1.here hx rfl (hb hby d8_10) kk) ?_
    show own_Go p e below _ (T1.setTop (mkF m 11 #[.val (.ref a1), .val (.int p2), .val (.int p3), .val (.int p4)] [(.int (0 : Int32)), (.int p3)]))
    obtain ⟨v2, L2, T2, X2, qq2, st2⟩ := own_callS X1 hx hZ hown (hw _ (List.mem_of_getElem? (i := 50) rfl)) (hw _ (List.mem_of_getElem? (i := 51) rfl)) (hw _ (List.mem_of_getElem? (i := 52) rfl)) (hw _ (List.mem_of_getElem? (i := 53) rfl)) (by decide) (rmMax l Z a0 hw [] p3 (0 : Int32) h0) hh1 (pc := 11) (Ls := #[.val (.ref a1), .val (.int p2), .val (.int p3), .val (.int p4)]) (argsL := [(.int p3), (.int (0 : Int32))]) (rest := []) rfl (by rw [hml]; rfl) pd_1 rfl rfl (hb hby d8_11) 0 (Nat.le_of_eq rfl) (by decide) (by decide) (by decide) (by decide)
    obtain ⟨z2, rfl, hz2, hh2, rfl⟩ := qq2
    refine own_go st2 ?_
    show own_Go p e below _ (T2.setTop (mkF m 14 #[.val (.ref a1), .val (.int p2), .val (.int p3), .val (.int p4)] [(.int z2)]))
    have k3 : z2.toInt = 0 := by rcases hz2 with ⟨rfl, _⟩ | ⟨rfl, _⟩ <;> omega
    refine own_go (fun tt kk => XS.istoreN X2.here hx rfl (hb hby d8_14) rfl (l' := #[.val (.ref a1), .val (.int p2), .val (.int z2), .val (.int p4)]) rfl kk) ?_
    show own_Go p e below _ (T2.setTop (mkF m 15 #[.val (.ref a1), .val (.int p2), .val (.int z2), .val (.int p4)] []))
    refine own_go (fun tt kk => XS.iloadN X2.here hx rfl (hb hby d8_15) rfl kk) ?_
    show own_Go p e below _ (T2.setTop (mkF m 16 #[.val (.ref a1), .val (.int p2), .val (.int z2), .val (.int p4)] [(.int p4)]))
    refine own_go (fun tt kk => XS.aloadN X2.here hx rfl (hb hby d8_16) rfl rfl kk) ?_
    show own_Go p e below _ (T2.setTop (mkF m 17 #[.val (.ref a1), .val (.int p2), .val (.int z2), .val (.int p4)] [(.ref a1), (.int p4)]))
    refine own_go (own_alen X2 hx hZ hh2 A (pc := 17) (Ls := #[.val (.ref a1), .val (.int p2), .val (.int z2), .val (.int p4)]) (rest := [(.int p4)]) (hb hby d8_17)) ?_
    show own_Go p e below _ (T2.setTop (mkF m 18 #[.val (.ref a1), .val (.int p2), .val (.int z2), .val (.int p4)] [(.int n.toInt32), (.int p4)]))
    obtain ⟨v3, L3, T3, X3, qq3, st3⟩ := own_callS X2 hx hZ hown (hw _ (List.mem_of_getElem? (i := 54) rfl)) (hw _ (List.mem_of_getElem? (i := 55) rfl)) (hw _ (List.mem_of_getElem? (i := 52) rfl)) (hw _ (List.mem_of_getElem? (i := 56) rfl)) (by decide) (rmMin l Z a0 hw [] p4 n.toInt32 h0) hh2 (pc := 18) (Ls := #[.val (.ref a1), .val (.int p2), .val (.int z2), .val (.int p4)]) (argsL := [(.int p4), (.int n.toInt32)]) (rest := []) rfl (by rw [hml]; rfl) pd_1 rfl rfl (hb hby d8_18) 0 (Nat.le_of_eq rfl) (by decide) (by decide) (by decide) (by decide)
    obtain ⟨z3, rfl, hz3, hh3, rfl⟩ := qq3
    refine own_go st3 ?_
    show own_Go p e below _ (T3.setTop (mkF m 21 #[.val (.ref a1), .val (.int p2), .val (.int z2), .val (.int p4)] [(.int z3)]))
    have k4 : z3.toInt = n := by rcases hz3 with ⟨rfl, _⟩ | ⟨rfl, _⟩ <;> omega
    refine own_go (fun tt kk => XS.istoreN X3.here hx rfl (hb hby d8_21) rfl (l' := #[.val (.ref a1), .val (.int p2), .val (.int z2), .val (.int z3)]) rfl kk) ?_
    show own_Go p e below _ (T3.setTop (mkF m 22 #[.val (.ref a1), .val (.int p2), .val (.int z2), .val (.int z3)] []))
    refine own_go (fun tt kk => XS.iloadN X3.here hx rfl (hb hby d8_22) rfl kk) ?_
    show own_Go p e below _ (T3.setTop (mkF m 23 #[.val (.ref a1), .val (.int p2), .val (.int z2), .val (.int z3)] [(.int z2)]))
    refine own_go (fun tt kk => XS.iloadN X3.here hx rfl (hb hby d8_23) rfl kk) ?_
    show own_Go p e below _ (T3.setTop (mkF m 24 #[.val (.ref a1), .val (.int p2), .val (.int z2), .val (.int z3)] [(.int z3), (.int z2)]))
    refine own_go (fun tt kk => XS.icmpYes X3.here hx rfl (pc0 := 24) (pc' := 29) rfl (hb hby d8_24) rfl (tlt (own_lt32 (x := z2) (y := z3) (i := z2.toInt) (j := z3.toInt) rfl rfl (by omega))).1 (by decide) (by decide) kk) ?_
    show own_Go p e below _ (T3.setTop (mkF m 29 #[.val (.ref a1), .val (.int p2), .val (.int z2), .val (.int z3)] []))
    refine own_go (fun tt kk => XS.aloadN X3.here hx rfl (hb hby d8_29) rfl rfl kk) ?_
    show own_Go p e below _ (T3.setTop (mkF m 30 #[.val (.ref a1), .val (.int p2), .val (.int z2), .val (.int z3)] [(.ref a1)]))
    refine own_go (fun tt kk => XS.iloadN X3.here hx rfl (hb hby d8_30) rfl kk) ?_
    show own_Go p e below _ (T3.setTop (mkF m 31 #[.val (.ref a1), .val (.int p2), .val (.int z2), .val (.int z3)] [(.int p2), (.ref a1)]))
    refine own_go (fun tt kk => XS.iloadN X3.here hx rfl (hb hby d8_31) rfl kk) ?_
    show own_Go p e below _ (T3.setTop (mkF m 32 #[.val (.ref a1), .val (.int p2), .val (.int z2), .val (.int z3)] [(.int z2), (.int p2), (.ref a1)]))
    refine own_go (fun tt kk => XS.iloadN X3.here hx rfl (hb hby d8_32) rfl kk) ?_
    show own_Go p e below _ (T3.setTop (mkF m 33 #[.val (.ref a1), .val (.int p2), .val (.int z2), .val (.int z3)] [(.int z3), (.int z2), (.int p2), (.ref a1)]))
    obtain ⟨v4, L4, T4, X4, qq4, st4⟩ := own_callS X3 hx hZ hown (hw _ (List.mem_of_getElem? (i := 57) rfl)) (hw _ (List.mem_of_getElem? (i := 58) rfl)) (hw _ (List.mem_of_getElem? (i := 45) rfl)) (hw _ (List.mem_of_getElem? (i := 59) rfl)) (by decide) (rmIdxC l Z a0 hw [] a1 n g p2 z2 z3 h0 A k3 k4) hh3 (pc := 33) (Ls := #[.val (.ref a1), .val (.int p2), .val (.int z2), .val (.int z3)]) (argsL := [(.ref a1), (.int p2), (.int z2), (.int z3)]) (rest := []) rfl (by rw [hml]; rfl) pd_2 rfl rfl (hb hby d8_33) 0 (Nat.le_of_eq rfl) (by decide) (by decide) (by decide) (by decide)
    obtain ⟨z4, rfl, hz4, hh4, rfl⟩ := qq4
    refine own_go st4 ?_
    show own_Go p e below _ (T4.setTop (mkF m 36 #[.val (.ref a1), .val (.int p2), .val (.int z2), .val (.int z3)] [(.int z4)]))
    exact own_retI X4 hx hlk hret (hb hby d8_36) ⟨z4, rfl, by
      rcases hz4 with ⟨i, q1, q2, q3⟩ | ⟨q1, rfl⟩
      · exact Or.inl ⟨by omega, h255, i, q1, q2⟩
      · exact Or.inr ⟨by omega, fun ⟨_, i, r1, r2⟩ => q1 i r1 r2⟩, hh4, rfl⟩ (by decide) (by decide)
set_option maxRecDepth 65536 in
set_option maxHeartbeats 40000000 in
theorem rmCod (l : Launch) (Z : State) (a0 : Array Value) (hw : ∀ d ∈ tables_1, d.before a0 Z = true) (ws : List Jvm.Cond) (x1 b1 : Addr) (n : Nat) (g : Nat → Int32) (cz : Int32) (h0 : Heap) (S : own_Str Z h0 x1 b1 n g) (SC : Sta Z h0 own_ST "COMPACT_STRINGS" "Z" (.int cz)) (hcz : ¬ cz = 0) :
    own_Met l Z ws (⟨"java/lang/String", "coder", "()B"⟩ : MethodName) jdk_42_method_152_code 1 (some .byte) ({ frames := 0, cells := 0, slots := 0, locals := 0 } : Room) #[(.ref x1)] h0 (fun v h L => v = some (.int 0) ∧ h = h0 ∧ L = []) := by
  refine own_met pn_7 ?_
  intro p e s m below meth c s₁ hx hby hml hown hnm hret hlk hZ X0 e0
  refine own_entry (ef_7 m x1) ?_
  show own_Go p e below _ (s₁.setTop (mkF m 0 #[.val (.ref x1)] []))
  obtain ⟨T1, X1, e1, st1⟩ := getS (host := "") X0 hx hZ hown (hw _ (List.mem_of_getElem? (i := 30) rfl)) Via.refl e0 SC (g := (mkF m 0 #[.val (.ref x1)] [])) rfl (hb hby d7_0)
  refine own_go st1 ?_
  show own_Go p e below _ (T1.setTop (mkF m 3 #[.val (.ref x1)] [(.int cz)]))
  refine own_go (fun tt kk => XS.ifNo X1.here hx rfl (hb hby d7_3) rfl ((if0 _ _).trans (feq (own_neq32 (x := cz) (y := (0 : Int32)) (i := cz.toInt) (j := 0) rfl rfl (fun q => hcz (Int32.toInt_inj.mp q)))).1) kk) ?_
  show own_Go p e below _ (T1.setTop (mkF m 6 #[.val (.ref x1)] []))
  refine own_go (fun tt kk => XS.aloadN X1.here hx rfl (hb hby d7_6) rfl rfl kk) ?_
  show own_Go p e below _ (T1.setTop (mkF m 7 #[.val (.ref x1)] [(.ref x1)]))
  obtain ⟨T2, X2, e2, st2⟩ := getF X1 hx hZ hown (host := "") (Or.inl (hw _ (List.mem_of_getElem? (i := 31) rfl))) Via.refl e1 S.2.1 (g := (mkF m 7 #[.val (.ref x1)] [(.ref x1)])) rfl rfl (hb hby d7_7)
  refine own_go st2 ?_
  show own_Go p e below _ (T2.setTop (mkF m 10 #[.val (.ref x1)] [(.int (0 : Int32))]))
  refine own_go (fun tt kk => XS.goto X2.here hx rfl (pc0 := 10) (pc' := 14) rfl (hb hby d7_10) (by decide) (by decide) kk) ?_
  show own_Go p e below _ (T2.setTop (mkF m 14 #[.val (.ref x1)] [(.int (0 : Int32))]))
  exact own_ret X2 hx hlk hret (by decide) (Or.inl ⟨rfl, Or.inr (Or.inr (Or.inl rfl)), _, rfl⟩) (hb hby d7_14) ⟨rfl, e2, rfl⟩ (by decide) (by decide)
set_option maxRecDepth 65536 in
set_option maxHeartbeats 40000000 in
theorem rmLat (l : Launch) (Z : State) (a0 : Array Value) (hw : ∀ d ∈ tables_1, d.before a0 Z = true) (ws : List Jvm.Cond) (x1 b1 : Addr) (n : Nat) (g : Nat → Int32) (cz : Int32) (h0 : Heap) (S : own_Str Z h0 x1 b1 n g) (SC : Sta Z h0 own_ST "COMPACT_STRINGS" "Z" (.int cz)) (hcz : ¬ cz = 0) :
    own_Met l Z ws (⟨"java/lang/String", "isLatin1", "()Z"⟩ : MethodName) jdk_42_method_154_code 1 (some .boolean) ({ frames := 0, cells := 0, slots := 0, locals := 0 } : Room) #[(.ref x1)] h0 (fun v h L => v = some (.int 1) ∧ h = h0 ∧ L = []) := by
  refine own_met pn_5 ?_
  intro p e s m below meth c s₁ hx hby hml hown hnm hret hlk hZ X0 e0
  refine own_entry (ef_5 m x1) ?_
  show own_Go p e below _ (s₁.setTop (mkF m 0 #[.val (.ref x1)] []))
  obtain ⟨T1, X1, e1, st1⟩ := getS (host := "") X0 hx hZ hown (hw _ (List.mem_of_getElem? (i := 30) rfl)) Via.refl e0 SC (g := (mkF m 0 #[.val (.ref x1)] [])) rfl (hb hby d5_0)
  refine own_go st1 ?_
  show own_Go p e below _ (T1.setTop (mkF m 3 #[.val (.ref x1)] [(.int cz)]))
  refine own_go (fun tt kk => XS.ifNo X1.here hx rfl (hb hby d5_3) rfl ((if0 _ _).trans (feq (own_neq32 (x := cz) (y := (0 : Int32)) (i := cz.toInt) (j := 0) rfl rfl (fun q => hcz (Int32.toInt_inj.mp q)))).1) kk) ?_
  show own_Go p e below _ (T1.setTop (mkF m 6 #[.val (.ref x1)] []))
  refine own_go (fun tt kk => XS.aloadN X1.here hx rfl (hb hby d5_6) rfl rfl kk) ?_
  show own_Go p e below _ (T1.setTop (mkF m 7 #[.val (.ref x1)] [(.ref x1)]))
  obtain ⟨T2, X2, e2, st2⟩ := getF X1 hx hZ hown (host := "") (Or.inl (hw _ (List.mem_of_getElem? (i := 31) rfl))) Via.refl e1 S.2.1 (g := (mkF m 7 #[.val (.ref x1)] [(.ref x1)])) rfl rfl (hb hby d5_7)
  refine own_go st2 ?_
  show own_Go p e below _ (T2.setTop (mkF m 10 #[.val (.ref x1)] [(.int (0 : Int32))]))
  refine own_go (fun tt kk => XS.ifNo X2.here hx rfl (hb hby d5_10) rfl ((if0 _ _).trans (teq (own_eq32 (x := (0 : Int32)) (y := (0 : Int32)) (i := 0) (j := 0) rfl rfl rfl)).2) kk) ?_
  show own_Go p e below _ (T2.setTop (mkF m 13 #[.val (.ref x1)] []))
  refine own_go (fun tt kk => XS.iconst X2.here hx rfl (hb hby d5_13) kk) ?_
  show own_Go p e below _ (T2.setTop (mkF m 14 #[.val (.ref x1)] [(.int (1 : Int32))]))
  refine own_go (fun tt kk => XS.goto X2.here hx rfl (pc0 := 14) (pc' := 18) rfl (hb hby d5_14) (by decide) (by decide) kk) ?_
  show own_Go p e below _ (T2.setTop (mkF m 18 #[.val (.ref x1)] [(.int (1 : Int32))]))
  exact own_retZ X2 hx hlk hret (by decide) (hb hby d5_18) ⟨rfl, e2, rfl⟩ (by decide) (by decide)
set_option maxRecDepth 65536 in
set_option maxHeartbeats 40000000 in
theorem rmLen (l : Launch) (Z : State) (a0 : Array Value) (hw : ∀ d ∈ tables_1, d.before a0 Z = true) (ws : List Jvm.Cond) (x1 b1 : Addr) (n : Nat) (g : Nat → Int32) (cz : Int32) (h0 : Heap) (S : own_Str Z h0 x1 b1 n g) (SC : Sta Z h0 own_ST "COMPACT_STRINGS" "Z" (.int cz)) (hcz : ¬ cz = 0) :
    own_Met l Z ws (⟨"java/lang/String", "length", "()I"⟩ : MethodName) jdk_42_method_54_code 1 (some .int) ({ frames := 1, cells := 0, slots := 0, locals := 14 } : Room) #[(.ref x1)] h0 (fun v h L => ∃ z : Int32, v = some (.int z) ∧ z.toInt = n ∧ h = h0 ∧ L = []) := by
  refine own_met pn_6 ?_
  intro p e s m below meth c s₁ hx hby hml hown hnm hret hlk hZ X0 e0
  refine own_entry (ef_6 m x1) ?_
  show own_Go p e below _ (s₁.setTop (mkF m 0 #[.val (.ref x1)] []))
  refine own_go (fun tt kk => XS.aloadN X0.here hx rfl (hb hby d6_0) rfl rfl kk) ?_
  show own_Go p e below _ (s₁.setTop (mkF m 1 #[.val (.ref x1)] [(.ref x1)]))
  obtain ⟨T1, X1, e1, st1⟩ := getF X0 hx hZ hown (host := "") (Or.inl (hw _ (List.mem_of_getElem? (i := 32) rfl))) Via.refl e0 S.2.2.1 (g := (mkF m 1 #[.val (.ref x1)] [(.ref x1)])) rfl rfl (hb hby d6_1)
  refine own_go st1 ?_
  show own_Go p e below _ (T1.setTop (mkF m 4 #[.val (.ref x1)] [(.ref b1)]))
  refine own_go (own_alen X1 hx hZ e1 S.2.2.2 (pc := 4) (Ls := #[.val (.ref x1)]) (rest := []) (hb hby d6_4)) ?_
  show own_Go p e below _ (T1.setTop (mkF m 5 #[.val (.ref x1)] [(.int n.toInt32)]))
  refine own_go (fun tt kk => XS.aloadN X1.here hx rfl (hb hby d6_5) rfl rfl kk) ?_
  show own_Go p e below _ (T1.setTop (mkF m 6 #[.val (.ref x1)] [(.ref x1), (.int n.toInt32)]))
  obtain ⟨v2, L2, T2, X2, qq2, st2⟩ := own_callV X1 hx hZ hown (hw _ (List.mem_of_getElem? (i := 38) rfl)) (hw _ (List.mem_of_getElem? (i := 39) rfl)) (hw _ (List.mem_of_getElem? (i := 41) rfl)) (hw _ (List.mem_of_getElem? (i := 40) rfl)) (hw _ (List.mem_of_getElem? (i := 42) rfl)) (hw _ (List.mem_of_getElem? (i := 8) rfl)) (by decide) S.1 (rmCod l Z a0 hw [] x1 b1 n g cz h0 S SC hcz) e1 (pc := 6) (Ls := #[.val (.ref x1)]) (argsL := []) (rest := [(.int n.toInt32)]) rfl (by rw [hml]; rfl) pd_3 rfl rfl (hb hby d6_6) 1 (Nat.le_of_eq rfl) (by decide) (by decide) (by decide) (by decide)
  obtain ⟨rfl, hh2, rfl⟩ := qq2
  refine own_go st2 ?_
  show own_Go p e below _ (T2.setTop (mkF m 9 #[.val (.ref x1)] [(.int (0 : Int32)), (.int n.toInt32)]))
  refine own_go (fun tt kk => XS.ishr X2.here hx rfl (hb hby d6_9) rfl kk) ?_
  show own_Go p e below _ (T2.setTop (mkF m 10 #[.val (.ref x1)] [(.int (n.toInt32 >>> ((0 : Int32) &&& 31)))]))
  have q1 := c_ishr n.toInt32 0 0 (by decide)
  have q2 : n.toInt32.toInt = n := len_toInt S.2.2.2.1
  exact own_retI X2 hx hlk hret (hb hby d6_10) ⟨_, rfl, by rw [q1, q2]; simp, hh2, rfl⟩ (by decide) (by decide)
set_option maxRecDepth 65536 in
set_option maxHeartbeats 40000000 in
theorem rmIdx2 (l : Launch) (Z : State) (a0 : Array Value) (hw : ∀ d ∈ tables_1, d.before a0 Z = true) (ws : List Jvm.Cond) (x1 b1 : Addr) (n : Nat) (g : Nat → Int32) (cz : Int32) (p2 p3 : Int32) (h0 : Heap) (S : own_Str Z h0 x1 b1 n g) (SC : Sta Z h0 own_ST "COMPACT_STRINGS" "Z" (.int cz)) (hcz : ¬ cz = 0) (h2 : 0 ≤ p2.toInt) (h3 : p3.toInt = 0) (hn : 0 < n) :
    own_Met l Z ws (⟨"java/lang/String", "indexOf", "(II)I"⟩ : MethodName) jdk_42_method_80_code 3 (some .int) ({ frames := 2, cells := 0, slots := 0, locals := 36 } : Room) #[(.ref x1), (.int p2), (.int p3)] h0 (fun v h L => ∃ z : Int32, v = some (.int z) ∧ ((0 ≤ z.toInt ∧ p2.toInt ≤ 255 ∧ ∃ i, i < n ∧ g i = p2.toInt8.toInt32) ∨ (z.toInt < 0 ∧ ¬ (p2.toInt ≤ 255 ∧ ∃ i, i < n ∧ g i = p2.toInt8.toInt32))) ∧ h = h0 ∧ L = []) := by
  refine own_met pn_4 ?_
  intro p e s m below meth c s₁ hx hby hml hown hnm hret hlk hZ X0 e0
  refine own_entry (ef_4 m x1 p2 p3) ?_
  show own_Go p e below _ (s₁.setTop (mkF m 0 #[.val (.ref x1), .val (.int p2), .val (.int p3)] []))
  refine own_go (fun tt kk => XS.aloadN X0.here hx rfl (hb hby d4_0) rfl rfl kk) ?_
  show own_Go p e below _ (s₁.setTop (mkF m 1 #[.val (.ref x1), .val (.int p2), .val (.int p3)] [(.ref x1)]))
  obtain ⟨v1, L1, T1, X1, qq1, st1⟩ := own_callV X0 hx hZ hown (hw _ (List.mem_of_getElem? (i := 25) rfl)) (hw _ (List.mem_of_getElem? (i := 26) rfl)) (hw _ (List.mem_of_getElem? (i := 28) rfl)) (hw _ (List.mem_of_getElem? (i := 27) rfl)) (hw _ (List.mem_of_getElem? (i := 29) rfl)) (hw _ (List.mem_of_getElem? (i := 8) rfl)) (by decide) S.1 (rmLat l Z a0 hw [] x1 b1 n g cz h0 S SC hcz) e0 (pc := 1) (Ls := #[.val (.ref x1), .val (.int p2), .val (.int p3)]) (argsL := []) (rest := []) rfl (by rw [hml]; rfl) pd_4 rfl rfl (hb hby d4_1) 0 (Nat.le_of_eq rfl) (by decide) (by decide) (by decide) (by decide)
  obtain ⟨rfl, hh1, rfl⟩ := qq1
  refine own_go st1 ?_
  show own_Go p e below _ (T1.setTop (mkF m 4 #[.val (.ref x1), .val (.int p2), .val (.int p3)] [(.int (1 : Int32))]))
  refine own_go (fun tt kk => XS.ifNo X1.here hx rfl (hb hby d4_4) rfl ((if0 _ _).trans (feq (own_neq32 (x := (1 : Int32)) (y := (0 : Int32)) (i := 1) (j := 0) rfl rfl (by decide))).1) kk) ?_
  show own_Go p e below _ (T1.setTop (mkF m 7 #[.val (.ref x1), .val (.int p2), .val (.int p3)] []))
  refine own_go (fun tt kk => XS.aloadN X1.here hx rfl (hb hby d4_7) rfl rfl kk) ?_
  show own_Go p e below _ (T1.setTop (mkF m 8 #[.val (.ref x1), .val (.int p2), .val (.int p3)] [(.ref x1)]))
  obtain ⟨T2, X2, e2, st2⟩ := getF X1 hx hZ hown (host := "") (Or.inl (hw _ (List.mem_of_getElem? (i := 32) rfl))) Via.refl hh1 S.2.2.1 (g := (mkF m 8 #[.val (.ref x1), .val (.int p2), .val (.int p3)] [(.ref x1)])) rfl rfl (hb hby d4_8)
  refine own_go st2 ?_
  show own_Go p e below _ (T2.setTop (mkF m 11 #[.val (.ref x1), .val (.int p2), .val (.int p3)] [(.ref b1)]))
  refine own_go (fun tt kk => XS.iloadN X2.here hx rfl (hb hby d4_11) rfl kk) ?_
  show own_Go p e below _ (T2.setTop (mkF m 12 #[.val (.ref x1), .val (.int p2), .val (.int p3)] [(.int p2), (.ref b1)]))
  refine own_go (fun tt kk => XS.iloadN X2.here hx rfl (hb hby d4_12) rfl kk) ?_
  show own_Go p e below _ (T2.setTop (mkF m 13 #[.val (.ref x1), .val (.int p2), .val (.int p3)] [(.int p3), (.int p2), (.ref b1)]))
  refine own_go (fun tt kk => XS.aloadN X2.here hx rfl (hb hby d4_13) rfl rfl kk) ?_
  show own_Go p e below _ (T2.setTop (mkF m 14 #[.val (.ref x1), .val (.int p2), .val (.int p3)] [(.ref x1), (.int p3), (.int p2), (.ref b1)]))
  obtain ⟨v3, L3, T3, X3, qq3, st3⟩ := own_callV X2 hx hZ hown (hw _ (List.mem_of_getElem? (i := 33) rfl)) (hw _ (List.mem_of_getElem? (i := 34) rfl)) (hw _ (List.mem_of_getElem? (i := 36) rfl)) (hw _ (List.mem_of_getElem? (i := 35) rfl)) (hw _ (List.mem_of_getElem? (i := 37) rfl)) (hw _ (List.mem_of_getElem? (i := 8) rfl)) (by decide) S.1 (rmLen l Z a0 hw [] x1 b1 n g cz h0 S SC hcz) e2 (pc := 14) (Ls := #[.val (.ref x1), .val (.int p2), .val (.int p3)]) (argsL := []) (rest := [(.int p3), (.int p2), (.ref b1)]) rfl (by rw [hml]; rfl) pd_5 rfl rfl (hb hby d4_14) 3 (Nat.le_of_eq rfl) (by decide) (by decide) (by decide) (by decide)
  obtain ⟨z3, rfl, hz3, hh3, rfl⟩ := qq3
  refine own_go st3 ?_
  show own_Go p e below _ (T3.setTop (mkF m 17 #[.val (.ref x1), .val (.int p2), .val (.int p3)] [(.int z3), (.int p3), (.int p2), (.ref b1)]))
  obtain ⟨v4, L4, T4, X4, qq4, st4⟩ := own_callS X3 hx hZ hown (hw _ (List.mem_of_getElem? (i := 43) rfl)) (hw _ (List.mem_of_getElem? (i := 44) rfl)) (hw _ (List.mem_of_getElem? (i := 45) rfl)) (hw _ (List.mem_of_getElem? (i := 46) rfl)) (by decide) (rmIdx4 l Z a0 hw [] b1 n g p2 p3 z3 h0 S.2.2.2 h2 h3 hz3 hn) hh3 (pc := 17) (Ls := #[.val (.ref x1), .val (.int p2), .val (.int p3)]) (argsL := [(.ref b1), (.int p2), (.int p3), (.int z3)]) (rest := []) rfl (by rw [hml]; rfl) pd_2 rfl rfl (hb hby d4_17) 0 (Nat.le_of_eq rfl) (by decide) (by decide) (by decide) (by decide)
  obtain ⟨z4, rfl, hz4, hh4, rfl⟩ := qq4
  refine own_go st4 ?_
  show own_Go p e below _ (T4.setTop (mkF m 20 #[.val (.ref x1), .val (.int p2), .val (.int p3)] [(.int z4)]))
  refine own_go (fun tt kk => XS.goto X4.here hx rfl (pc0 := 20) (pc' := 36) rfl (hb hby d4_20) (by decide) (by decide) kk) ?_
  show own_Go p e below _ (T4.setTop (mkF m 36 #[.val (.ref x1), .val (.int p2), .val (.int p3)] [(.int z4)]))
  exact own_retI X4 hx hlk hret (hb hby d4_36) ⟨_, rfl, hz4, hh4, rfl⟩ (by decide) (by decide)
set_option maxRecDepth 65536 in
set_option maxHeartbeats 40000000 in
theorem rmIdx1 (l : Launch) (Z : State) (a0 : Array Value) (hw : ∀ d ∈ tables_1, d.before a0 Z = true) (ws : List Jvm.Cond) (x1 b1 : Addr) (n : Nat) (g : Nat → Int32) (cz : Int32) (p2 : Int32) (h0 : Heap) (S : own_Str Z h0 x1 b1 n g) (SC : Sta Z h0 own_ST "COMPACT_STRINGS" "Z" (.int cz)) (hcz : ¬ cz = 0) (h2 : 0 ≤ p2.toInt) (hn : 0 < n) :
    own_Met l Z ws (⟨"java/lang/String", "indexOf", "(I)I"⟩ : MethodName) jdk_42_method_79_code 2 (some .int) ({ frames := 3, cells := 0, slots := 0, locals := 50 } : Room) #[(.ref x1), (.int p2)] h0 (fun v h L => ∃ z : Int32, v = some (.int z) ∧ ((0 ≤ z.toInt ∧ p2.toInt ≤ 255 ∧ ∃ i, i < n ∧ g i = p2.toInt8.toInt32) ∨ (z.toInt < 0 ∧ ¬ (p2.toInt ≤ 255 ∧ ∃ i, i < n ∧ g i = p2.toInt8.toInt32))) ∧ h = h0 ∧ L = []) := by
  refine own_met pn_3 ?_
  intro p e s m below meth c s₁ hx hby hml hown hnm hret hlk hZ X0 e0
  refine own_entry (ef_3 m x1 p2) ?_
  show own_Go p e below _ (s₁.setTop (mkF m 0 #[.val (.ref x1), .val (.int p2)] []))
  refine own_go (fun tt kk => XS.aloadN X0.here hx rfl (hb hby d3_0) rfl rfl kk) ?_
  show own_Go p e below _ (s₁.setTop (mkF m 1 #[.val (.ref x1), .val (.int p2)] [(.ref x1)]))
  refine own_go (fun tt kk => XS.iloadN X0.here hx rfl (hb hby d3_1) rfl kk) ?_
  show own_Go p e below _ (s₁.setTop (mkF m 2 #[.val (.ref x1), .val (.int p2)] [(.int p2), (.ref x1)]))
  refine own_go (fun tt kk => XS.iconst X0.here hx rfl (hb hby d3_2) kk) ?_
  show own_Go p e below _ (s₁.setTop (mkF m 3 #[.val (.ref x1), .val (.int p2)] [(.int (0 : Int32)), (.int p2), (.ref x1)]))
  obtain ⟨v1, L1, T1, X1, qq1, st1⟩ := own_callV X0 hx hZ hown (hw _ (List.mem_of_getElem? (i := 20) rfl)) (hw _ (List.mem_of_getElem? (i := 21) rfl)) (hw _ (List.mem_of_getElem? (i := 23) rfl)) (hw _ (List.mem_of_getElem? (i := 22) rfl)) (hw _ (List.mem_of_getElem? (i := 24) rfl)) (hw _ (List.mem_of_getElem? (i := 8) rfl)) (by decide) S.1 (rmIdx2 l Z a0 hw [] x1 b1 n g cz p2 0 h0 S SC hcz h2 rfl hn) e0 (pc := 3) (Ls := #[.val (.ref x1), .val (.int p2)]) (argsL := [(.int p2), (.int (0 : Int32))]) (rest := []) rfl (by rw [hml]; rfl) pd_1 rfl rfl (hb hby d3_3) 0 (Nat.le_of_eq rfl) (by decide) (by decide) (by decide) (by decide)
  obtain ⟨z1, rfl, hz1, hh1, rfl⟩ := qq1
  refine own_go st1 ?_
  show own_Go p e below _ (T1.setTop (mkF m 6 #[.val (.ref x1), .val (.int p2)] [(.int z1)]))
  exact own_retI X1 hx hlk hret (hb hby d3_6) ⟨_, rfl, hz1, hh1, rfl⟩ (by decide) (by decide)
set_option maxRecDepth 65536 in
set_option maxHeartbeats 40000000 in
theorem rmSeg (l : Launch) (Z : State) (a0 : Array Value) (hw : ∀ d ∈ tables_1, d.before a0 Z = true) (ws : List Jvm.Cond) (p1 cz : Int32) (h0 : Heap) (hkp : ∀ (b : Addr) (cl : Cell), Z.heap[b]? = some cl → h0[b]? = some cl) (SC : Sta Z h0 own_ST "COMPACT_STRINGS" "Z" (.int cz)) (hcz : ¬ cz = 0) (hch : Jvm.Lit.constHeld Z "com/example/vouchgate/vouchgate/core/UrlPath" 131) (hcw : Jvm.Lit.compactW.before a0 Z = true) (hp0 : 0 ≤ p1.toInt) :
    own_MetW l Z ws (⟨"com/example/vouchgate/vouchgate/core/UrlPath", "isSegmentCharacter", "(C)Z"⟩ : MethodName) prog_32_method_7_code 1 (some .boolean) ({ frames := 4, cells := 2, slots := 72, locals := 64 } : Room) #[(.int p1)] h0 (fun v h L => ∃ z : Int32, v = some (.int z) ∧ ((z = 1 ∧ own_seg p1.toInt) ∨ (z = 0 ∧ ¬ own_seg p1.toInt)) ∧ Ext h0 h ∧ L = []) := by
  refine own_metW pn_2 ?_
  intro p e s m below meth c s₁ hx hby hml hown hnm hret hlk hZ X0 e0 hh0 hI
  refine own_entry (ef_2 m p1) ?_
  show own_Go p e below _ (s₁.setTop (mkF m 0 #[.val (.int p1)] []))
  refine own_go (fun tt kk => XS.iloadN X0.here hx rfl (hb hby d2_0) rfl kk) ?_
  show own_Go p e below _ (s₁.setTop (mkF m 1 #[.val (.int p1)] [(.int p1)]))
  refine own_go (fun tt kk => XS.bipush X0.here hx rfl (hb hby d2_1) kk) ?_
  show own_Go p e below _ (s₁.setTop (mkF m 3 #[.val (.int p1)] [(.int (97 : Int32)), (.int p1)]))
  by_cases hc3 : p1.toInt < 97
  · refine own_go (fun tt kk => XS.icmpYes X0.here hx rfl (pc0 := 3) (pc' := 12) rfl (hb hby d2_3) rfl (tlt (own_lt32 (x := p1) (y := (97 : Int32)) (i := p1.toInt) (j := 97) rfl rfl hc3)).1 (by decide) (by decide) kk) ?_
    show own_Go p e below _ (s₁.setTop (mkF m 12 #[.val (.int p1)] []))
    refine own_go (fun tt kk => XS.iloadN X0.here hx rfl (hb hby d2_12) rfl kk) ?_
    show own_Go p e below _ (s₁.setTop (mkF m 13 #[.val (.int p1)] [(.int p1)]))
    refine own_go (fun tt kk => XS.bipush X0.here hx rfl (hb hby d2_13) kk) ?_
    show own_Go p e below _ (s₁.setTop (mkF m 15 #[.val (.int p1)] [(.int (65 : Int32)), (.int p1)]))
    by_cases hc15 : p1.toInt < 65
    · refine own_go (fun tt kk => XS.icmpYes X0.here hx rfl (pc0 := 15) (pc' := 24) rfl (hb hby d2_15) rfl (tlt (own_lt32 (x := p1) (y := (65 : Int32)) (i := p1.toInt) (j := 65) rfl rfl hc15)).1 (by decide) (by decide) kk) ?_
      show own_Go p e below _ (s₁.setTop (mkF m 24 #[.val (.int p1)] []))
      refine own_go (fun tt kk => XS.iloadN X0.here hx rfl (hb hby d2_24) rfl kk) ?_
      show own_Go p e below _ (s₁.setTop (mkF m 25 #[.val (.int p1)] [(.int p1)]))
      refine own_go (fun tt kk => XS.bipush X0.here hx rfl (hb hby d2_25) kk) ?_
      show own_Go p e below _ (s₁.setTop (mkF m 27 #[.val (.int p1)] [(.int (48 : Int32)), (.int p1)]))
      by_cases hc27 : p1.toInt < 48
      · refine own_go (fun tt kk => XS.icmpYes X0.here hx rfl (pc0 := 27) (pc' := 36) rfl (hb hby d2_27) rfl (tlt (own_lt32 (x := p1) (y := (48 : Int32)) (i := p1.toInt) (j := 48) rfl rfl hc27)).1 (by decide) (by decide) kk) ?_
        show own_Go p e below _ (s₁.setTop (mkF m 36 #[.val (.int p1)] []))
        have hal : ¬ own_alnum p1.toInt := by unfold own_alnum; omega
        obtain ⟨aa, T1, h1, k1, bb, kk, X1, e1, E1, S1, sz1, hZ1, hown1, Q1, Q2, Q3, Q4, -, -, -, st1⟩ := ldcSV (s := s) (vm0 := s.vm) (Ts := []) X0 hx hZ hown (hw _ (List.mem_of_getElem? (i := 7) rfl)) (own_wS hw) e0 ((State.WarmedH.refl s).since h0.size) (Nat.le_refl _) (Fr.nil _) (fun b cl q => by rw [hh0]; exact hkp b cl q) hI List.not_mem_nil hch hcw (vs := own_bytes.map Value.int) (z := 17) ⟨own_small, own_vals⟩ (by decide) (by rw [List.length_map, own_len]; rfl) (g := (mkF m 36 #[.val (.int p1)] [])) rfl (hb hby d2_36) (n := 68) (by decide +kernel) (by decide) (by decide) (by decide)
        have SS : own_Str Z h1 aa bb 17 (fun i => own_bytes.getD i 0) := ⟨Q1, Q2, Q3, own_Ar.of_arv Q4 rfl own_len⟩
        refine own_go st1 ?_
        show own_Go p e below _ (T1.setTop (mkF m 38 #[.val (.int p1)] [(.ref aa)]))
        refine own_go (fun tt kk => XS.iloadN X1.here hx rfl (hb hby d2_38) rfl kk) ?_
        show own_Go p e below _ (T1.setTop (mkF m 39 #[.val (.int p1)] [(.int p1), (.ref aa)]))
        obtain ⟨v2, L2, T2, X2, qq2, st2⟩ := own_callV X1 hx hZ1 hown1 (hw _ (List.mem_of_getElem? (i := 15) rfl)) (hw _ (List.mem_of_getElem? (i := 16) rfl)) (hw _ (List.mem_of_getElem? (i := 18) rfl)) (hw _ (List.mem_of_getElem? (i := 17) rfl)) (hw _ (List.mem_of_getElem? (i := 19) rfl)) (hw _ (List.mem_of_getElem? (i := 8) rfl)) (by decide) SS.1 (rmIdx1 l Z a0 hw [] aa bb 17 (fun i => own_bytes.getD i 0) cz p1 h1 SS (SC.ext E1) hcz hp0 (by omega)) e1 (pc := 39) (Ls := #[.val (.int p1)]) (argsL := [(.int p1)]) (rest := []) rfl (by rw [hml]; rfl) pd_6 rfl rfl (hb hby d2_39) 0 (Nat.le_of_eq rfl) (by decide) (by decide) (by decide) (by decide)
        obtain ⟨z2, rfl, hz2, hh2, rfl⟩ := qq2
        refine own_go st2 ?_
        show own_Go p e below _ (T2.setTop (mkF m 42 #[.val (.int p1)] [(.int z2)]))
        by_cases hc42 : z2.toInt < 0
        · refine own_go (fun tt kk => XS.ifYes X2.here hx rfl (pc0 := 42) (pc' := 49) rfl (hb hby d2_42) rfl ((if0 _ _).trans (tlt (own_lt32 (x := z2) (y := (0 : Int32)) (i := z2.toInt) (j := 0) rfl rfl hc42)).1) (by decide) (by decide) kk) ?_
          show own_Go p e below _ (T2.setTop (mkF m 49 #[.val (.int p1)] []))
          refine own_go (fun tt kk => XS.iconst X2.here hx rfl (hb hby d2_49) kk) ?_
          show own_Go p e below _ (T2.setTop (mkF m 50 #[.val (.int p1)] [(.int (0 : Int32))]))
          exact own_retWZ X2 S1 (by rw [hh2]; exact sz1) hx hlk hret (by decide) (hb hby d2_50) ⟨0, rfl, Or.inr ⟨rfl, fun q => by
            rcases q with q | ⟨q1, q2⟩
            · exact hal q
            · have q3 := (own_isIn_iff hp0 q1).mp q2
              rcases hz2 with ⟨r1, _⟩ | ⟨_, r2⟩
              · omega
              · exact r2 ⟨q1, q3⟩⟩, by rw [hh2]; exact E1, rfl⟩ (by decide) (by decide)
        · refine own_go (fun tt kk => XS.ifNo X2.here hx rfl (hb hby d2_42) rfl ((if0 _ _).trans (flt (own_nlt32 (x := z2) (y := (0 : Int32)) (i := z2.toInt) (j := 0) rfl rfl hc42)).1) kk) ?_
          show own_Go p e below _ (T2.setTop (mkF m 45 #[.val (.int p1)] []))
          refine own_go (fun tt kk => XS.iconst X2.here hx rfl (hb hby d2_45) kk) ?_
          show own_Go p e below _ (T2.setTop (mkF m 46 #[.val (.int p1)] [(.int (1 : Int32))]))
          refine own_go (fun tt kk => XS.goto X2.here hx rfl (pc0 := 46) (pc' := 50) rfl (hb hby d2_46) (by decide) (by decide) kk) ?_
          show own_Go p e below _ (T2.setTop (mkF m 50 #[.val (.int p1)] [(.int (1 : Int32))]))
          exact own_retWZ X2 S1 (by rw [hh2]; exact sz1) hx hlk hret (by decide) (hb hby d2_50) ⟨1, rfl, Or.inl ⟨rfl, Or.inr (by
            rcases hz2 with ⟨_, r1, r2⟩ | ⟨r1, _⟩
            · exact ⟨r1, (own_isIn_iff hp0 r1).mpr r2⟩
            · omega)⟩, by rw [hh2]; exact E1, rfl⟩ (by decide) (by decide)
      · refine own_go (fun tt kk => XS.icmpNo X0.here hx rfl (hb hby d2_27) rfl (flt (own_nlt32 (x := p1) (y := (48 : Int32)) (i := p1.toInt) (j := 48) rfl rfl hc27)).1 kk) ?_
        show own_Go p e below _ (s₁.setTop (mkF m 30 #[.val (.int p1)] []))
        refine own_go (fun tt kk => XS.iloadN X0.here hx rfl (hb hby d2_30) rfl kk) ?_
        show own_Go p e below _ (s₁.setTop (mkF m 31 #[.val (.int p1)] [(.int p1)]))
        refine own_go (fun tt kk => XS.bipush X0.here hx rfl (hb hby d2_31) kk) ?_
        show own_Go p e below _ (s₁.setTop (mkF m 33 #[.val (.int p1)] [(.int (57 : Int32)), (.int p1)]))
        by_cases hc33 : 57 < p1.toInt
        · refine own_go (fun tt kk => XS.icmpNo X0.here hx rfl (hb hby d2_33) rfl (tlt (own_lt32 (x := (57 : Int32)) (y := p1) (i := 57) (j := p1.toInt) rfl rfl hc33)).2.2.2 kk) ?_
          show own_Go p e below _ (s₁.setTop (mkF m 36 #[.val (.int p1)] []))
          have hal : ¬ own_alnum p1.toInt := by unfold own_alnum; omega
          obtain ⟨aa, T3, h3, k3, bb, kk, X3, e3, E3, S3, sz3, hZ3, hown3, Q1, Q2, Q3, Q4, -, -, -, st3⟩ := ldcSV (s := s) (vm0 := s.vm) (Ts := []) X0 hx hZ hown (hw _ (List.mem_of_getElem? (i := 7) rfl)) (own_wS hw) e0 ((State.WarmedH.refl s).since h0.size) (Nat.le_refl _) (Fr.nil _) (fun b cl q => by rw [hh0]; exact hkp b cl q) hI List.not_mem_nil hch hcw (vs := own_bytes.map Value.int) (z := 17) ⟨own_small, own_vals⟩ (by decide) (by rw [List.length_map, own_len]; rfl) (g := (mkF m 36 #[.val (.int p1)] [])) rfl (hb hby d2_36) (n := 68) (by decide +kernel) (by decide) (by decide) (by decide)
          have SS : own_Str Z h3 aa bb 17 (fun i => own_bytes.getD i 0) := ⟨Q1, Q2, Q3, own_Ar.of_arv Q4 rfl own_len⟩
          refine own_go st3 ?_
          show own_Go p e below _ (T3.setTop (mkF m 38 #[.val (.int p1)] [(.ref aa)]))
          refine own_go (fun tt kk => XS.iloadN X3.here hx rfl (hb hby d2_38) rfl kk) ?_
          show own_Go p e below _ (T3.setTop (mkF m 39 #[.val (.int p1)] [(.int p1), (.ref aa)]))
          obtain ⟨v4, L4, T4, X4, qq4, st4⟩ := own_callV X3 hx hZ3 hown3 (hw _ (List.mem_of_getElem? (i := 15) rfl)) (hw _ (List.mem_of_getElem? (i := 16) rfl)) (hw _ (List.mem_of_getElem? (i := 18) rfl)) (hw _ (List.mem_of_getElem? (i := 17) rfl)) (hw _ (List.mem_of_getElem? (i := 19) rfl)) (hw _ (List.mem_of_getElem? (i := 8) rfl)) (by decide) SS.1 (rmIdx1 l Z a0 hw [] aa bb 17 (fun i => own_bytes.getD i 0) cz p1 h3 SS (SC.ext E3) hcz hp0 (by omega)) e3 (pc := 39) (Ls := #[.val (.int p1)]) (argsL := [(.int p1)]) (rest := []) rfl (by rw [hml]; rfl) pd_6 rfl rfl (hb hby d2_39) 0 (Nat.le_of_eq rfl) (by decide) (by decide) (by decide) (by decide)
          obtain ⟨z4, rfl, hz4, hh4, rfl⟩ := qq4
          refine own_go st4 ?_
          show own_Go p e below _ (T4.setTop (mkF m 42 #[.val (.int p1)] [(.int z4)]))
          by_cases hc42 : z4.toInt < 0
          · refine own_go (fun tt kk => XS.ifYes X4.here hx rfl (pc0 := 42) (pc' := 49) rfl (hb hby d2_42) rfl ((if0 _ _).trans (tlt (own_lt32 (x := z4) (y := (0 : Int32)) (i := z4.toInt) (j := 0) rfl rfl hc42)).1) (by decide) (by decide) kk) ?_
            show own_Go p e below _ (T4.setTop (mkF m 49 #[.val (.int p1)] []))
            refine own_go (fun tt kk => XS.iconst X4.here hx rfl (hb hby d2_49) kk) ?_
            show own_Go p e below _ (T4.setTop (mkF m 50 #[.val (.int p1)] [(.int (0 : Int32))]))
            exact own_retWZ X4 S3 (by rw [hh4]; exact sz3) hx hlk hret (by decide) (hb hby d2_50) ⟨0, rfl, Or.inr ⟨rfl, fun q => by
              rcases q with q | ⟨q1, q2⟩
              · exact hal q
              · have q3 := (own_isIn_iff hp0 q1).mp q2
                rcases hz4 with ⟨r1, _⟩ | ⟨_, r2⟩
                · omega
                · exact r2 ⟨q1, q3⟩⟩, by rw [hh4]; exact E3, rfl⟩ (by decide) (by decide)
          · refine own_go (fun tt kk => XS.ifNo X4.here hx rfl (hb hby d2_42) rfl ((if0 _ _).trans (flt (own_nlt32 (x := z4) (y := (0 : Int32)) (i := z4.toInt) (j := 0) rfl rfl hc42)).1) kk) ?_
            show own_Go p e below _ (T4.setTop (mkF m 45 #[.val (.int p1)] []))
            refine own_go (fun tt kk => XS.iconst X4.here hx rfl (hb hby d2_45) kk) ?_
            show own_Go p e below _ (T4.setTop (mkF m 46 #[.val (.int p1)] [(.int (1 : Int32))]))
            refine own_go (fun tt kk => XS.goto X4.here hx rfl (pc0 := 46) (pc' := 50) rfl (hb hby d2_46) (by decide) (by decide) kk) ?_
            show own_Go p e below _ (T4.setTop (mkF m 50 #[.val (.int p1)] [(.int (1 : Int32))]))
            exact own_retWZ X4 S3 (by rw [hh4]; exact sz3) hx hlk hret (by decide) (hb hby d2_50) ⟨1, rfl, Or.inl ⟨rfl, Or.inr (by
              rcases hz4 with ⟨_, r1, r2⟩ | ⟨r1, _⟩
              · exact ⟨r1, (own_isIn_iff hp0 r1).mpr r2⟩
              · omega)⟩, by rw [hh4]; exact E3, rfl⟩ (by decide) (by decide)
        · refine own_go (fun tt kk => XS.icmpYes X0.here hx rfl (pc0 := 33) (pc' := 45) rfl (hb hby d2_33) rfl (flt (own_nlt32 (x := (57 : Int32)) (y := p1) (i := 57) (j := p1.toInt) rfl rfl hc33)).2.2.2 (by decide) (by decide) kk) ?_
          show own_Go p e below _ (s₁.setTop (mkF m 45 #[.val (.int p1)] []))
          refine own_go (fun tt kk => XS.iconst X0.here hx rfl (hb hby d2_45) kk) ?_
          show own_Go p e below _ (s₁.setTop (mkF m 46 #[.val (.int p1)] [(.int (1 : Int32))]))
          refine own_go (fun tt kk => XS.goto X0.here hx rfl (pc0 := 46) (pc' := 50) rfl (hb hby d2_46) (by decide) (by decide) kk) ?_
          show own_Go p e below _ (s₁.setTop (mkF m 50 #[.val (.int p1)] [(.int (1 : Int32))]))
          exact own_retZW X0 hx hlk hret (by decide) (hb hby d2_50) ⟨1, rfl, Or.inl ⟨rfl, Or.inl (by unfold own_alnum; omega)⟩, by rw [e0]; exact ⟨Nat.le_refl _, fun _ _ q => q⟩, rfl⟩ (by decide) (by decide)
    · refine own_go (fun tt kk => XS.icmpNo X0.here hx rfl (hb hby d2_15) rfl (flt (own_nlt32 (x := p1) (y := (65 : Int32)) (i := p1.toInt) (j := 65) rfl rfl hc15)).1 kk) ?_
      show own_Go p e below _ (s₁.setTop (mkF m 18 #[.val (.int p1)] []))
      refine own_go (fun tt kk => XS.iloadN X0.here hx rfl (hb hby d2_18) rfl kk) ?_
      show own_Go p e below _ (s₁.setTop (mkF m 19 #[.val (.int p1)] [(.int p1)]))
      refine own_go (fun tt kk => XS.bipush X0.here hx rfl (hb hby d2_19) kk) ?_
      show own_Go p e below _ (s₁.setTop (mkF m 21 #[.val (.int p1)] [(.int (90 : Int32)), (.int p1)]))
      by_cases hc21 : 90 < p1.toInt
      · refine own_go (fun tt kk => XS.icmpNo X0.here hx rfl (hb hby d2_21) rfl (tlt (own_lt32 (x := (90 : Int32)) (y := p1) (i := 90) (j := p1.toInt) rfl rfl hc21)).2.2.2 kk) ?_
        show own_Go p e below _ (s₁.setTop (mkF m 24 #[.val (.int p1)] []))
        refine own_go (fun tt kk => XS.iloadN X0.here hx rfl (hb hby d2_24) rfl kk) ?_
        show own_Go p e below _ (s₁.setTop (mkF m 25 #[.val (.int p1)] [(.int p1)]))
        refine own_go (fun tt kk => XS.bipush X0.here hx rfl (hb hby d2_25) kk) ?_
        show own_Go p e below _ (s₁.setTop (mkF m 27 #[.val (.int p1)] [(.int (48 : Int32)), (.int p1)]))
        by_cases hc27 : p1.toInt < 48
        · refine own_go (fun tt kk => XS.icmpYes X0.here hx rfl (pc0 := 27) (pc' := 36) rfl (hb hby d2_27) rfl (tlt (own_lt32 (x := p1) (y := (48 : Int32)) (i := p1.toInt) (j := 48) rfl rfl hc27)).1 (by decide) (by decide) kk) ?_
          show own_Go p e below _ (s₁.setTop (mkF m 36 #[.val (.int p1)] []))
          have hal : ¬ own_alnum p1.toInt := by unfold own_alnum; omega
          obtain ⟨aa, T5, h5, k5, bb, kk, X5, e5, E5, S5, sz5, hZ5, hown5, Q1, Q2, Q3, Q4, -, -, -, st5⟩ := ldcSV (s := s) (vm0 := s.vm) (Ts := []) X0 hx hZ hown (hw _ (List.mem_of_getElem? (i := 7) rfl)) (own_wS hw) e0 ((State.WarmedH.refl s).since h0.size) (Nat.le_refl _) (Fr.nil _) (fun b cl q => by rw [hh0]; exact hkp b cl q) hI List.not_mem_nil hch hcw (vs := own_bytes.map Value.int) (z := 17) ⟨own_small, own_vals⟩ (by decide) (by rw [List.length_map, own_len]; rfl) (g := (mkF m 36 #[.val (.int p1)] [])) rfl (hb hby d2_36) (n := 68) (by decide +kernel) (by decide) (by decide) (by decide)
          have SS : own_Str Z h5 aa bb 17 (fun i => own_bytes.getD i 0) := ⟨Q1, Q2, Q3, own_Ar.of_arv Q4 rfl own_len⟩
          refine own_go st5 ?_
          show own_Go p e below _ (T5.setTop (mkF m 38 #[.val (.int p1)] [(.ref aa)]))
          refine own_go (fun tt kk => XS.iloadN X5.here hx rfl (hb hby d2_38) rfl kk) ?_
          show own_Go p e below _ (T5.setTop (mkF m 39 #[.val (.int p1)] [(.int p1), (.ref aa)]))
          obtain ⟨v6, L6, T6, X6, qq6, st6⟩ := own_callV X5 hx hZ5 hown5 (hw _ (List.mem_of_getElem? (i := 15) rfl)) (hw _ (List.mem_of_getElem? (i := 16) rfl)) (hw _ (List.mem_of_getElem? (i := 18) rfl)) (hw _ (List.mem_of_getElem? (i := 17) rfl)) (hw _ (List.mem_of_getElem? (i := 19) rfl)) (hw _ (List.mem_of_getElem? (i := 8) rfl)) (by decide) SS.1 (rmIdx1 l Z a0 hw [] aa bb 17 (fun i => own_bytes.getD i 0) cz p1 h5 SS (SC.ext E5) hcz hp0 (by omega)) e5 (pc := 39) (Ls := #[.val (.int p1)]) (argsL := [(.int p1)]) (rest := []) rfl (by rw [hml]; rfl) pd_6 rfl rfl (hb hby d2_39) 0 (Nat.le_of_eq rfl) (by decide) (by decide) (by decide) (by decide)
          obtain ⟨z6, rfl, hz6, hh6, rfl⟩ := qq6
          refine own_go st6 ?_
          show own_Go p e below _ (T6.setTop (mkF m 42 #[.val (.int p1)] [(.int z6)]))
          by_cases hc42 : z6.toInt < 0
          · refine own_go (fun tt kk => XS.ifYes X6.here hx rfl (pc0 := 42) (pc' := 49) rfl (hb hby d2_42) rfl ((if0 _ _).trans (tlt (own_lt32 (x := z6) (y := (0 : Int32)) (i := z6.toInt) (j := 0) rfl rfl hc42)).1) (by decide) (by decide) kk) ?_
            show own_Go p e below _ (T6.setTop (mkF m 49 #[.val (.int p1)] []))
            refine own_go (fun tt kk => XS.iconst X6.here hx rfl (hb hby d2_49) kk) ?_
            show own_Go p e below _ (T6.setTop (mkF m 50 #[.val (.int p1)] [(.int (0 : Int32))]))
            exact own_retWZ X6 S5 (by rw [hh6]; exact sz5) hx hlk hret (by decide) (hb hby d2_50) ⟨0, rfl, Or.inr ⟨rfl, fun q => by
              rcases q with q | ⟨q1, q2⟩
              · exact hal q
              · have q3 := (own_isIn_iff hp0 q1).mp q2
                rcases hz6 with ⟨r1, _⟩ | ⟨_, r2⟩
                · omega
                · exact r2 ⟨q1, q3⟩⟩, by rw [hh6]; exact E5, rfl⟩ (by decide) (by decide)
          · refine own_go (fun tt kk => XS.ifNo X6.here hx rfl (hb hby d2_42) rfl ((if0 _ _).trans (flt (own_nlt32 (x := z6) (y := (0 : Int32)) (i := z6.toInt) (j := 0) rfl rfl hc42)).1) kk) ?_
            show own_Go p e below _ (T6.setTop (mkF m 45 #[.val (.int p1)] []))
            refine own_go (fun tt kk => XS.iconst X6.here hx rfl (hb hby d2_45) kk) ?_
            show own_Go p e below _ (T6.setTop (mkF m 46 #[.val (.int p1)] [(.int (1 : Int32))]))
            refine own_go (fun tt kk => XS.goto X6.here hx rfl (pc0 := 46) (pc' := 50) rfl (hb hby d2_46) (by decide) (by decide) kk) ?_
            show own_Go p e below _ (T6.setTop (mkF m 50 #[.val (.int p1)] [(.int (1 : Int32))]))
            exact own_retWZ X6 S5 (by rw [hh6]; exact sz5) hx hlk hret (by decide) (hb hby d2_50) ⟨1, rfl, Or.inl ⟨rfl, Or.inr (by
              rcases hz6 with ⟨_, r1, r2⟩ | ⟨r1, _⟩
              · exact ⟨r1, (own_isIn_iff hp0 r1).mpr r2⟩
              · omega)⟩, by rw [hh6]; exact E5, rfl⟩ (by decide) (by decide)
        · refine own_go (fun tt kk => XS.icmpNo X0.here hx rfl (hb hby d2_27) rfl (flt (own_nlt32 (x := p1) (y := (48 : Int32)) (i := p1.toInt) (j := 48) rfl rfl hc27)).1 kk) ?_
          show own_Go p e below _ (s₁.setTop (mkF m 30 #[.val (.int p1)] []))
          refine own_go (fun tt kk => XS.iloadN X0.here hx rfl (hb hby d2_30) rfl kk) ?_
          show own_Go p e below _ (s₁.setTop (mkF m 31 #[.val (.int p1)] [(.int p1)]))
          refine own_go (fun tt kk => XS.bipush X0.here hx rfl (hb hby d2_31) kk) ?_
          show own_Go p e below _ (s₁.setTop (mkF m 33 #[.val (.int p1)] [(.int (57 : Int32)), (.int p1)]))
          by_cases hc33 : 57 < p1.toInt
          · refine own_go (fun tt kk => XS.icmpNo X0.here hx rfl (hb hby d2_33) rfl (tlt (own_lt32 (x := (57 : Int32)) (y := p1) (i := 57) (j := p1.toInt) rfl rfl hc33)).2.2.2 kk) ?_
            show own_Go p e below _ (s₁.setTop (mkF m 36 #[.val (.int p1)] []))
            have hal : ¬ own_alnum p1.toInt := by unfold own_alnum; omega
            obtain ⟨aa, T7, h7, k7, bb, kk, X7, e7, E7, S7, sz7, hZ7, hown7, Q1, Q2, Q3, Q4, -, -, -, st7⟩ := ldcSV (s := s) (vm0 := s.vm) (Ts := []) X0 hx hZ hown (hw _ (List.mem_of_getElem? (i := 7) rfl)) (own_wS hw) e0 ((State.WarmedH.refl s).since h0.size) (Nat.le_refl _) (Fr.nil _) (fun b cl q => by rw [hh0]; exact hkp b cl q) hI List.not_mem_nil hch hcw (vs := own_bytes.map Value.int) (z := 17) ⟨own_small, own_vals⟩ (by decide) (by rw [List.length_map, own_len]; rfl) (g := (mkF m 36 #[.val (.int p1)] [])) rfl (hb hby d2_36) (n := 68) (by decide +kernel) (by decide) (by decide) (by decide)
            have SS : own_Str Z h7 aa bb 17 (fun i => own_bytes.getD i 0) := ⟨Q1, Q2, Q3, own_Ar.of_arv Q4 rfl own_len⟩
            refine own_go st7 ?_
            show own_Go p e below _ (T7.setTop (mkF m 38 #[.val (.int p1)] [(.ref aa)]))
            refine own_go (fun tt kk => XS.iloadN X7.here hx rfl (hb hby d2_38) rfl kk) ?_
            show own_Go p e below _ (T7.setTop (mkF m 39 #[.val (.int p1)] [(.int p1), (.ref aa)]))
            obtain ⟨v8, L8, T8, X8, qq8, st8⟩ := own_callV X7 hx hZ7 hown7 (hw _ (List.mem_of_getElem? (i := 15) rfl)) (hw _ (List.mem_of_getElem? (i := 16) rfl)) (hw _ (List.mem_of_getElem? (i := 18) rfl)) (hw _ (List.mem_of_getElem? (i := 17) rfl)) (hw _ (List.mem_of_getElem? (i := 19) rfl)) (hw _ (List.mem_of_getElem? (i := 8) rfl)) (by decide) SS.1 (rmIdx1 l Z a0 hw [] aa bb 17 (fun i => own_bytes.getD i 0) cz p1 h7 SS (SC.ext E7) hcz hp0 (by omega)) e7 (pc := 39) (Ls := #[.val (.int p1)]) (argsL := [(.int p1)]) (rest := []) rfl (by rw [hml]; rfl) pd_6 rfl rfl (hb hby d2_39) 0 (Nat.le_of_eq rfl) (by decide) (by decide) (by decide) (by decide)
            obtain ⟨z8, rfl, hz8, hh8, rfl⟩ := qq8
            refine own_go st8 ?_
            show own_Go p e below _ (T8.setTop (mkF m 42 #[.val (.int p1)] [(.int z8)]))
            by_cases hc42 : z8.toInt < 0
            · refine own_go (fun tt kk => XS.ifYes X8.here hx rfl (pc0 := 42) (pc' := 49) rfl (hb hby d2_42) rfl ((if0 _ _).trans (tlt (own_lt32 (x := z8) (y := (0 : Int32)) (i := z8.toInt) (j := 0) rfl rfl hc42)).1) (by decide) (by decide) kk) ?_
              show own_Go p e below _ (T8.setTop (mkF m 49 #[.val (.int p1)] []))
              refine own_go (fun tt kk => XS.iconst X8.here hx rfl (hb hby d2_49) kk) ?_
              show own_Go p e below _ (T8.setTop (mkF m 50 #[.val (.int p1)] [(.int (0 : Int32))]))
              exact own_retWZ X8 S7 (by rw [hh8]; exact sz7) hx hlk hret (by decide) (hb hby d2_50) ⟨0, rfl, Or.inr ⟨rfl, fun q => by
                rcases q with q | ⟨q1, q2⟩
                · exact hal q
                · have q3 := (own_isIn_iff hp0 q1).mp q2
                  rcases hz8 with ⟨r1, _⟩ | ⟨_, r2⟩
                  · omega
                  · exact r2 ⟨q1, q3⟩⟩, by rw [hh8]; exact E7, rfl⟩ (by decide) (by decide)
            · refine own_go (fun tt kk => XS.ifNo X8.here hx rfl (hb hby d2_42) rfl ((if0 _ _).trans (flt (own_nlt32 (x := z8) (y := (0 : Int32)) (i := z8.toInt) (j := 0) rfl rfl hc42)).1) kk) ?_
              show own_Go p e below _ (T8.setTop (mkF m 45 #[.val (.int p1)] []))
              refine own_go (fun tt kk => XS.iconst X8.here hx rfl (hb hby d2_45) kk) ?_
              show own_Go p e below _ (T8.setTop (mkF m 46 #[.val (.int p1)] [(.int (1 : Int32))]))
              refine own_go (fun tt kk => XS.goto X8.here hx rfl (pc0 := 46) (pc' := 50) rfl (hb hby d2_46) (by decide) (by decide) kk) ?_
              show own_Go p e below _ (T8.setTop (mkF m 50 #[.val (.int p1)] [(.int (1 : Int32))]))
              exact own_retWZ X8 S7 (by rw [hh8]; exact sz7) hx hlk hret (by decide) (hb hby d2_50) ⟨1, rfl, Or.inl ⟨rfl, Or.inr (by
                rcases hz8 with ⟨_, r1, r2⟩ | ⟨r1, _⟩
                · exact ⟨r1, (own_isIn_iff hp0 r1).mpr r2⟩
                · omega)⟩, by rw [hh8]; exact E7, rfl⟩ (by decide) (by decide)
          · refine own_go (fun tt kk => XS.icmpYes X0.here hx rfl (pc0 := 33) (pc' := 45) rfl (hb hby d2_33) rfl (flt (own_nlt32 (x := (57 : Int32)) (y := p1) (i := 57) (j := p1.toInt) rfl rfl hc33)).2.2.2 (by decide) (by decide) kk) ?_
            show own_Go p e below _ (s₁.setTop (mkF m 45 #[.val (.int p1)] []))
            refine own_go (fun tt kk => XS.iconst X0.here hx rfl (hb hby d2_45) kk) ?_
            show own_Go p e below _ (s₁.setTop (mkF m 46 #[.val (.int p1)] [(.int (1 : Int32))]))
            refine own_go (fun tt kk => XS.goto X0.here hx rfl (pc0 := 46) (pc' := 50) rfl (hb hby d2_46) (by decide) (by decide) kk) ?_
            show own_Go p e below _ (s₁.setTop (mkF m 50 #[.val (.int p1)] [(.int (1 : Int32))]))
            exact own_retZW X0 hx hlk hret (by decide) (hb hby d2_50) ⟨1, rfl, Or.inl ⟨rfl, Or.inl (by unfold own_alnum; omega)⟩, by rw [e0]; exact ⟨Nat.le_refl _, fun _ _ q => q⟩, rfl⟩ (by decide) (by decide)
      · refine own_go (fun tt kk => XS.icmpYes X0.here hx rfl (pc0 := 21) (pc' := 45) rfl (hb hby d2_21) rfl (flt (own_nlt32 (x := (90 : Int32)) (y := p1) (i := 90) (j := p1.toInt) rfl rfl hc21)).2.2.2 (by decide) (by decide) kk) ?_
        show own_Go p e below _ (s₁.setTop (mkF m 45 #[.val (.int p1)] []))
        refine own_go (fun tt kk => XS.iconst X0.here hx rfl (hb hby d2_45) kk) ?_
        show own_Go p e below _ (s₁.setTop (mkF m 46 #[.val (.int p1)] [(.int (1 : Int32))]))
        refine own_go (fun tt kk => XS.goto X0.here hx rfl (pc0 := 46) (pc' := 50) rfl (hb hby d2_46) (by decide) (by decide) kk) ?_
        show own_Go p e below _ (s₁.setTop (mkF m 50 #[.val (.int p1)] [(.int (1 : Int32))]))
        exact own_retZW X0 hx hlk hret (by decide) (hb hby d2_50) ⟨1, rfl, Or.inl ⟨rfl, Or.inl (by unfold own_alnum; omega)⟩, by rw [e0]; exact ⟨Nat.le_refl _, fun _ _ q => q⟩, rfl⟩ (by decide) (by decide)
  · refine own_go (fun tt kk => XS.icmpNo X0.here hx rfl (hb hby d2_3) rfl (flt (own_nlt32 (x := p1) (y := (97 : Int32)) (i := p1.toInt) (j := 97) rfl rfl hc3)).1 kk) ?_
    show own_Go p e below _ (s₁.setTop (mkF m 6 #[.val (.int p1)] []))
    refine own_go (fun tt kk => XS.iloadN X0.here hx rfl (hb hby d2_6) rfl kk) ?_
    show own_Go p e below _ (s₁.setTop (mkF m 7 #[.val (.int p1)] [(.int p1)]))
    refine own_go (fun tt kk => XS.bipush X0.here hx rfl (hb hby d2_7) kk) ?_
    show own_Go p e below _ (s₁.setTop (mkF m 9 #[.val (.int p1)] [(.int (122 : Int32)), (.int p1)]))
    by_cases hc9 : 122 < p1.toInt
    · refine own_go (fun tt kk => XS.icmpNo X0.here hx rfl (hb hby d2_9) rfl (tlt (own_lt32 (x := (122 : Int32)) (y := p1) (i := 122) (j := p1.toInt) rfl rfl hc9)).2.2.2 kk) ?_
      show own_Go p e below _ (s₁.setTop (mkF m 12 #[.val (.int p1)] []))
      refine own_go (fun tt kk => XS.iloadN X0.here hx rfl (hb hby d2_12) rfl kk) ?_
      show own_Go p e below _ (s₁.setTop (mkF m 13 #[.val (.int p1)] [(.int p1)]))
      refine own_go (fun tt kk => XS.bipush X0.here hx rfl (hb hby d2_13) kk) ?_
      show own_Go p e below _ (s₁.setTop (mkF m 15 #[.val (.int p1)] [(.int (65 : Int32)), (.int p1)]))
      by_cases hc15 : p1.toInt < 65
      · refine own_go (fun tt kk => XS.icmpYes X0.here hx rfl (pc0 := 15) (pc' := 24) rfl (hb hby d2_15) rfl (tlt (own_lt32 (x := p1) (y := (65 : Int32)) (i := p1.toInt) (j := 65) rfl rfl hc15)).1 (by decide) (by decide) kk) ?_
        show own_Go p e below _ (s₁.setTop (mkF m 24 #[.val (.int p1)] []))
        refine own_go (fun tt kk => XS.iloadN X0.here hx rfl (hb hby d2_24) rfl kk) ?_
        show own_Go p e below _ (s₁.setTop (mkF m 25 #[.val (.int p1)] [(.int p1)]))
        refine own_go (fun tt kk => XS.bipush X0.here hx rfl (hb hby d2_25) kk) ?_
        show own_Go p e below _ (s₁.setTop (mkF m 27 #[.val (.int p1)] [(.int (48 : Int32)), (.int p1)]))
        by_cases hc27 : p1.toInt < 48
        · refine own_go (fun tt kk => XS.icmpYes X0.here hx rfl (pc0 := 27) (pc' := 36) rfl (hb hby d2_27) rfl (tlt (own_lt32 (x := p1) (y := (48 : Int32)) (i := p1.toInt) (j := 48) rfl rfl hc27)).1 (by decide) (by decide) kk) ?_
          show own_Go p e below _ (s₁.setTop (mkF m 36 #[.val (.int p1)] []))
          have hal : ¬ own_alnum p1.toInt := by unfold own_alnum; omega
          obtain ⟨aa, T9, h9, k9, bb, kk, X9, e9, E9, S9, sz9, hZ9, hown9, Q1, Q2, Q3, Q4, -, -, -, st9⟩ := ldcSV (s := s) (vm0 := s.vm) (Ts := []) X0 hx hZ hown (hw _ (List.mem_of_getElem? (i := 7) rfl)) (own_wS hw) e0 ((State.WarmedH.refl s).since h0.size) (Nat.le_refl _) (Fr.nil _) (fun b cl q => by rw [hh0]; exact hkp b cl q) hI List.not_mem_nil hch hcw (vs := own_bytes.map Value.int) (z := 17) ⟨own_small, own_vals⟩ (by decide) (by rw [List.length_map, own_len]; rfl) (g := (mkF m 36 #[.val (.int p1)] [])) rfl (hb hby d2_36) (n := 68) (by decide +kernel) (by decide) (by decide) (by decide)
          have SS : own_Str Z h9 aa bb 17 (fun i => own_bytes.getD i 0) := ⟨Q1, Q2, Q3, own_Ar.of_arv Q4 rfl own_len⟩
          refine own_go st9 ?_
          show own_Go p e below _ (T9.setTop (mkF m 38 #[.val (.int p1)] [(.ref aa)]))
          refine own_go (fun tt kk => XS.iloadN X9.here hx rfl (hb hby d2_38) rfl kk) ?_
          show own_Go p e below _ (T9.setTop (mkF m 39 #[.val (.int p1)] [(.int p1), (.ref aa)]))
          obtain ⟨v10, L10, T10, X10, qq10, st10⟩ := own_callV X9 hx hZ9 hown9 (hw _ (List.mem_of_getElem? (i := 15) rfl)) (hw _ (List.mem_of_getElem? (i := 16) rfl)) (hw _ (List.mem_of_getElem? (i := 18) rfl)) (hw _ (List.mem_of_getElem? (i := 17) rfl)) (hw _ (List.mem_of_getElem? (i := 19) rfl)) (hw _ (List.mem_of_getElem? (i := 8) rfl)) (by decide) SS.1 (rmIdx1 l Z a0 hw [] aa bb 17 (fun i => own_bytes.getD i 0) cz p1 h9 SS (SC.ext E9) hcz hp0 (by omega)) e9 (pc := 39) (Ls := #[.val (.int p1)]) (argsL := [(.int p1)]) (rest := []) rfl (by rw [hml]; rfl) pd_6 rfl rfl (hb hby d2_39) 0 (Nat.le_of_eq rfl) (by decide) (by decide) (by decide) (by decide)
          obtain ⟨z10, rfl, hz10, hh10, rfl⟩ := qq10
          refine own_go st10 ?_
          show own_Go p e below _ (T10.setTop (mkF m 42 #[.val (.int p1)] [(.int z10)]))
          by_cases hc42 : z10.toInt < 0
          · refine own_go (fun tt kk => XS.ifYes X10.here hx rfl (pc0 := 42) (pc' := 49) rfl (hb hby d2_42) rfl ((if0 _ _).trans (tlt (own_lt32 (x := z10) (y := (0 : Int32)) (i := z10.toInt) (j := 0) rfl rfl hc42)).1) (by decide) (by decide) kk) ?_
            show own_Go p e below _ (T10.setTop (mkF m 49 #[.val (.int p1)] []))
            refine own_go (fun tt kk => XS.iconst X10.here hx rfl (hb hby d2_49) kk) ?_
            show own_Go p e below _ (T10.setTop (mkF m 50 #[.val (.int p1)] [(.int (0 : Int32))]))
            exact own_retWZ X10 S9 (by rw [hh10]; exact sz9) hx hlk hret (by decide) (hb hby d2_50) ⟨0, rfl, Or.inr ⟨rfl, fun q => by
              rcases q with q | ⟨q1, q2⟩
              · exact hal q
              · have q3 := (own_isIn_iff hp0 q1).mp q2
                rcases hz10 with ⟨r1, _⟩ | ⟨_, r2⟩
                · omega
                · exact r2 ⟨q1, q3⟩⟩, by rw [hh10]; exact E9, rfl⟩ (by decide) (by decide)
          · refine own_go (fun tt kk => XS.ifNo X10.here hx rfl (hb hby d2_42) rfl ((if0 _ _).trans (flt (own_nlt32 (x := z10) (y := (0 : Int32)) (i := z10.toInt) (j := 0) rfl rfl hc42)).1) kk) ?_
            show own_Go p e below _ (T10.setTop (mkF m 45 #[.val (.int p1)] []))
            refine own_go (fun tt kk => XS.iconst X10.here hx rfl (hb hby d2_45) kk) ?_
            show own_Go p e below _ (T10.setTop (mkF m 46 #[.val (.int p1)] [(.int (1 : Int32))]))
            refine own_go (fun tt kk => XS.goto X10.here hx rfl (pc0 := 46) (pc' := 50) rfl (hb hby d2_46) (by decide) (by decide) kk) ?_
            show own_Go p e below _ (T10.setTop (mkF m 50 #[.val (.int p1)] [(.int (1 : Int32))]))
            exact own_retWZ X10 S9 (by rw [hh10]; exact sz9) hx hlk hret (by decide) (hb hby d2_50) ⟨1, rfl, Or.inl ⟨rfl, Or.inr (by
              rcases hz10 with ⟨_, r1, r2⟩ | ⟨r1, _⟩
              · exact ⟨r1, (own_isIn_iff hp0 r1).mpr r2⟩
              · omega)⟩, by rw [hh10]; exact E9, rfl⟩ (by decide) (by decide)
        · refine own_go (fun tt kk => XS.icmpNo X0.here hx rfl (hb hby d2_27) rfl (flt (own_nlt32 (x := p1) (y := (48 : Int32)) (i := p1.toInt) (j := 48) rfl rfl hc27)).1 kk) ?_
          show own_Go p e below _ (s₁.setTop (mkF m 30 #[.val (.int p1)] []))
          refine own_go (fun tt kk => XS.iloadN X0.here hx rfl (hb hby d2_30) rfl kk) ?_
          show own_Go p e below _ (s₁.setTop (mkF m 31 #[.val (.int p1)] [(.int p1)]))
          refine own_go (fun tt kk => XS.bipush X0.here hx rfl (hb hby d2_31) kk) ?_
          show own_Go p e below _ (s₁.setTop (mkF m 33 #[.val (.int p1)] [(.int (57 : Int32)), (.int p1)]))
          by_cases hc33 : 57 < p1.toInt
          · refine own_go (fun tt kk => XS.icmpNo X0.here hx rfl (hb hby d2_33) rfl (tlt (own_lt32 (x := (57 : Int32)) (y := p1) (i := 57) (j := p1.toInt) rfl rfl hc33)).2.2.2 kk) ?_
            show own_Go p e below _ (s₁.setTop (mkF m 36 #[.val (.int p1)] []))
            have hal : ¬ own_alnum p1.toInt := by unfold own_alnum; omega
            obtain ⟨aa, T11, h11, k11, bb, kk, X11, e11, E11, S11, sz11, hZ11, hown11, Q1, Q2, Q3, Q4, -, -, -, st11⟩ := ldcSV (s := s) (vm0 := s.vm) (Ts := []) X0 hx hZ hown (hw _ (List.mem_of_getElem? (i := 7) rfl)) (own_wS hw) e0 ((State.WarmedH.refl s).since h0.size) (Nat.le_refl _) (Fr.nil _) (fun b cl q => by rw [hh0]; exact hkp b cl q) hI List.not_mem_nil hch hcw (vs := own_bytes.map Value.int) (z := 17) ⟨own_small, own_vals⟩ (by decide) (by rw [List.length_map, own_len]; rfl) (g := (mkF m 36 #[.val (.int p1)] [])) rfl (hb hby d2_36) (n := 68) (by decide +kernel) (by decide) (by decide) (by decide)
            have SS : own_Str Z h11 aa bb 17 (fun i => own_bytes.getD i 0) := ⟨Q1, Q2, Q3, own_Ar.of_arv Q4 rfl own_len⟩
            refine own_go st11 ?_
            show own_Go p e below _ (T11.setTop (mkF m 38 #[.val (.int p1)] [(.ref aa)]))
            refine own_go (fun tt kk => XS.iloadN X11.here hx rfl (hb hby d2_38) rfl kk) ?_
            show own_Go p e below _ (T11.setTop (mkF m 39 #[.val (.int p1)] [(.int p1), (.ref aa)]))
            obtain ⟨v12, L12, T12, X12, qq12, st12⟩ := own_callV X11 hx hZ11 hown11 (hw _ (List.mem_of_getElem? (i := 15) rfl)) (hw _ (List.mem_of_getElem? (i := 16) rfl)) (hw _ (List.mem_of_getElem? (i := 18) rfl)) (hw _ (List.mem_of_getElem? (i := 17) rfl)) (hw _ (List.mem_of_getElem? (i := 19) rfl)) (hw _ (List.mem_of_getElem? (i := 8) rfl)) (by decide) SS.1 (rmIdx1 l Z a0 hw [] aa bb 17 (fun i => own_bytes.getD i 0) cz p1 h11 SS (SC.ext E11) hcz hp0 (by omega)) e11 (pc := 39) (Ls := #[.val (.int p1)]) (argsL := [(.int p1)]) (rest := []) rfl (by rw [hml]; rfl) pd_6 rfl rfl (hb hby d2_39) 0 (Nat.le_of_eq rfl) (by decide) (by decide) (by decide) (by decide)
            obtain ⟨z12, rfl, hz12, hh12, rfl⟩ := qq12
            refine own_go st12 ?_
            show own_Go p e below _ (T12.setTop (mkF m 42 #[.val (.int p1)] [(.int z12)]))
            by_cases hc42 : z12.toInt < 0
            · refine own_go (fun tt kk => XS.ifYes X12.here hx rfl (pc0 := 42) (pc' := 49) rfl (hb hby d2_42) rfl ((if0 _ _).trans (tlt (own_lt32 (x := z12) (y := (0 : Int32)) (i := z12.toInt) (j := 0) rfl rfl hc42)).1) (by decide) (by decide) kk) ?_
              show own_Go p e below _ (T12.setTop (mkF m 49 #[.val (.int p1)] []))
              refine own_go (fun tt kk => XS.iconst X12.here hx rfl (hb hby d2_49) kk) ?_
              show own_Go p e below _ (T12.setTop (mkF m 50 #[.val (.int p1)] [(.int (0 : Int32))]))
              exact own_retWZ X12 S11 (by rw [hh12]; exact sz11) hx hlk hret (by decide) (hb hby d2_50) ⟨0, rfl, Or.inr ⟨rfl, fun q => by
                rcases q with q | ⟨q1, q2⟩
                · exact hal q
                · have q3 := (own_isIn_iff hp0 q1).mp q2
                  rcases hz12 with ⟨r1, _⟩ | ⟨_, r2⟩
                  · omega
                  · exact r2 ⟨q1, q3⟩⟩, by rw [hh12]; exact E11, rfl⟩ (by decide) (by decide)
            · refine own_go (fun tt kk => XS.ifNo X12.here hx rfl (hb hby d2_42) rfl ((if0 _ _).trans (flt (own_nlt32 (x := z12) (y := (0 : Int32)) (i := z12.toInt) (j := 0) rfl rfl hc42)).1) kk) ?_
              show own_Go p e below _ (T12.setTop (mkF m 45 #[.val (.int p1)] []))
              refine own_go (fun tt kk => XS.iconst X12.here hx rfl (hb hby d2_45) kk) ?_
              show own_Go p e below _ (T12.setTop (mkF m 46 #[.val (.int p1)] [(.int (1 : Int32))]))
              refine own_go (fun tt kk => XS.goto X12.here hx rfl (pc0 := 46) (pc' := 50) rfl (hb hby d2_46) (by decide) (by decide) kk) ?_
              show own_Go p e below _ (T12.setTop (mkF m 50 #[.val (.int p1)] [(.int (1 : Int32))]))
              exact own_retWZ X12 S11 (by rw [hh12]; exact sz11) hx hlk hret (by decide) (hb hby d2_50) ⟨1, rfl, Or.inl ⟨rfl, Or.inr (by
                rcases hz12 with ⟨_, r1, r2⟩ | ⟨r1, _⟩
                · exact ⟨r1, (own_isIn_iff hp0 r1).mpr r2⟩
                · omega)⟩, by rw [hh12]; exact E11, rfl⟩ (by decide) (by decide)
          · refine own_go (fun tt kk => XS.icmpYes X0.here hx rfl (pc0 := 33) (pc' := 45) rfl (hb hby d2_33) rfl (flt (own_nlt32 (x := (57 : Int32)) (y := p1) (i := 57) (j := p1.toInt) rfl rfl hc33)).2.2.2 (by decide) (by decide) kk) ?_
            show own_Go p e below _ (s₁.setTop (mkF m 45 #[.val (.int p1)] []))
            refine own_go (fun tt kk => XS.iconst X0.here hx rfl (hb hby d2_45) kk) ?_
            show own_Go p e below _ (s₁.setTop (mkF m 46 #[.val (.int p1)] [(.int (1 : Int32))]))
            refine own_go (fun tt kk => XS.goto X0.here hx rfl (pc0 := 46) (pc' := 50) rfl (hb hby d2_46) (by decide) (by decide) kk) ?_
            show own_Go p e below _ (s₁.setTop (mkF m 50 #[.val (.int p1)] [(.int (1 : Int32))]))
            exact own_retZW X0 hx hlk hret (by decide) (hb hby d2_50) ⟨1, rfl, Or.inl ⟨rfl, Or.inl (by unfold own_alnum; omega)⟩, by rw [e0]; exact ⟨Nat.le_refl _, fun _ _ q => q⟩, rfl⟩ (by decide) (by decide)
      · refine own_go (fun tt kk => XS.icmpNo X0.here hx rfl (hb hby d2_15) rfl (flt (own_nlt32 (x := p1) (y := (65 : Int32)) (i := p1.toInt) (j := 65) rfl rfl hc15)).1 kk) ?_
        show own_Go p e below _ (s₁.setTop (mkF m 18 #[.val (.int p1)] []))
        refine own_go (fun tt kk => XS.iloadN X0.here hx rfl (hb hby d2_18) rfl kk) ?_
        show own_Go p e below _ (s₁.setTop (mkF m 19 #[.val (.int p1)] [(.int p1)]))
        refine own_go (fun tt kk => XS.bipush X0.here hx rfl (hb hby d2_19) kk) ?_
        show own_Go p e below _ (s₁.setTop (mkF m 21 #[.val (.int p1)] [(.int (90 : Int32)), (.int p1)]))
        by_cases hc21 : 90 < p1.toInt
        · refine own_go (fun tt kk => XS.icmpNo X0.here hx rfl (hb hby d2_21) rfl (tlt (own_lt32 (x := (90 : Int32)) (y := p1) (i := 90) (j := p1.toInt) rfl rfl hc21)).2.2.2 kk) ?_
          show own_Go p e below _ (s₁.setTop (mkF m 24 #[.val (.int p1)] []))
          refine own_go (fun tt kk => XS.iloadN X0.here hx rfl (hb hby d2_24) rfl kk) ?_
          show own_Go p e below _ (s₁.setTop (mkF m 25 #[.val (.int p1)] [(.int p1)]))
          refine own_go (fun tt kk => XS.bipush X0.here hx rfl (hb hby d2_25) kk) ?_
          show own_Go p e below _ (s₁.setTop (mkF m 27 #[.val (.int p1)] [(.int (48 : Int32)), (.int p1)]))
          by_cases hc27 : p1.toInt < 48
          · refine own_go (fun tt kk => XS.icmpYes X0.here hx rfl (pc0 := 27) (pc' := 36) rfl (hb hby d2_27) rfl (tlt (own_lt32 (x := p1) (y := (48 : Int32)) (i := p1.toInt) (j := 48) rfl rfl hc27)).1 (by decide) (by decide) kk) ?_
            show own_Go p e below _ (s₁.setTop (mkF m 36 #[.val (.int p1)] []))
            have hal : ¬ own_alnum p1.toInt := by unfold own_alnum; omega
            obtain ⟨aa, T13, h13, k13, bb, kk, X13, e13, E13, S13, sz13, hZ13, hown13, Q1, Q2, Q3, Q4, -, -, -, st13⟩ := ldcSV (s := s) (vm0 := s.vm) (Ts := []) X0 hx hZ hown (hw _ (List.mem_of_getElem? (i := 7) rfl)) (own_wS hw) e0 ((State.WarmedH.refl s).since h0.size) (Nat.le_refl _) (Fr.nil _) (fun b cl q => by rw [hh0]; exact hkp b cl q) hI List.not_mem_nil hch hcw (vs := own_bytes.map Value.int) (z := 17) ⟨own_small, own_vals⟩ (by decide) (by rw [List.length_map, own_len]; rfl) (g := (mkF m 36 #[.val (.int p1)] [])) rfl (hb hby d2_36) (n := 68) (by decide +kernel) (by decide) (by decide) (by decide)
            have SS : own_Str Z h13 aa bb 17 (fun i => own_bytes.getD i 0) := ⟨Q1, Q2, Q3, own_Ar.of_arv Q4 rfl own_len⟩
            refine own_go st13 ?_
            show own_Go p e below _ (T13.setTop (mkF m 38 #[.val (.int p1)] [(.ref aa)]))
            refine own_go (fun tt kk => XS.iloadN X13.here hx rfl (hb hby d2_38) rfl kk) ?_
            show own_Go p e below _ (T13.setTop (mkF m 39 #[.val (.int p1)] [(.int p1), (.ref aa)]))
            obtain ⟨v14, L14, T14, X14, qq14, st14⟩ := own_callV X13 hx hZ13 hown13 (hw _ (List.mem_of_getElem? (i := 15) rfl)) (hw _ (List.mem_of_getElem? (i := 16) rfl)) (hw _ (List.mem_of_getElem? (i := 18) rfl)) (hw _ (List.mem_of_getElem? (i := 17) rfl)) (hw _ (List.mem_of_getElem? (i := 19) rfl)) (hw _ (List.mem_of_getElem? (i := 8) rfl)) (by decide) SS.1 (rmIdx1 l Z a0 hw [] aa bb 17 (fun i => own_bytes.getD i 0) cz p1 h13 SS (SC.ext E13) hcz hp0 (by omega)) e13 (pc := 39) (Ls := #[.val (.int p1)]) (argsL := [(.int p1)]) (rest := []) rfl (by rw [hml]; rfl) pd_6 rfl rfl (hb hby d2_39) 0 (Nat.le_of_eq rfl) (by decide) (by decide) (by decide) (by decide)
            obtain ⟨z14, rfl, hz14, hh14, rfl⟩ := qq14
            refine own_go st14 ?_
            show own_Go p e below _ (T14.setTop (mkF m 42 #[.val (.int p1)] [(.int z14)]))
            by_cases hc42 : z14.toInt < 0
            · refine own_go (fun tt kk => XS.ifYes X14.here hx rfl (pc0 := 42) (pc' := 49) rfl (hb hby d2_42) rfl ((if0 _ _).trans (tlt (own_lt32 (x := z14) (y := (0 : Int32)) (i := z14.toInt) (j := 0) rfl rfl hc42)).1) (by decide) (by decide) kk) ?_
              show own_Go p e below _ (T14.setTop (mkF m 49 #[.val (.int p1)] []))
              refine own_go (fun tt kk => XS.iconst X14.here hx rfl (hb hby d2_49) kk) ?_
              show own_Go p e below _ (T14.setTop (mkF m 50 #[.val (.int p1)] [(.int (0 : Int32))]))
              exact own_retWZ X14 S13 (by rw [hh14]; exact sz13) hx hlk hret (by decide) (hb hby d2_50) ⟨0, rfl, Or.inr ⟨rfl, fun q => by
                rcases q with q | ⟨q1, q2⟩
                · exact hal q
                · have q3 := (own_isIn_iff hp0 q1).mp q2
                  rcases hz14 with ⟨r1, _⟩ | ⟨_, r2⟩
                  · omega
                  · exact r2 ⟨q1, q3⟩⟩, by rw [hh14]; exact E13, rfl⟩ (by decide) (by decide)
            · refine own_go (fun tt kk => XS.ifNo X14.here hx rfl (hb hby d2_42) rfl ((if0 _ _).trans (flt (own_nlt32 (x := z14) (y := (0 : Int32)) (i := z14.toInt) (j := 0) rfl rfl hc42)).1) kk) ?_
              show own_Go p e below _ (T14.setTop (mkF m 45 #[.val (.int p1)] []))
              refine own_go (fun tt kk => XS.iconst X14.here hx rfl (hb hby d2_45) kk) ?_
              show own_Go p e below _ (T14.setTop (mkF m 46 #[.val (.int p1)] [(.int (1 : Int32))]))
              refine own_go (fun tt kk => XS.goto X14.here hx rfl (pc0 := 46) (pc' := 50) rfl (hb hby d2_46) (by decide) (by decide) kk) ?_
              show own_Go p e below _ (T14.setTop (mkF m 50 #[.val (.int p1)] [(.int (1 : Int32))]))
              exact own_retWZ X14 S13 (by rw [hh14]; exact sz13) hx hlk hret (by decide) (hb hby d2_50) ⟨1, rfl, Or.inl ⟨rfl, Or.inr (by
                rcases hz14 with ⟨_, r1, r2⟩ | ⟨r1, _⟩
                · exact ⟨r1, (own_isIn_iff hp0 r1).mpr r2⟩
                · omega)⟩, by rw [hh14]; exact E13, rfl⟩ (by decide) (by decide)
          · refine own_go (fun tt kk => XS.icmpNo X0.here hx rfl (hb hby d2_27) rfl (flt (own_nlt32 (x := p1) (y := (48 : Int32)) (i := p1.toInt) (j := 48) rfl rfl hc27)).1 kk) ?_
            show own_Go p e below _ (s₁.setTop (mkF m 30 #[.val (.int p1)] []))
            refine own_go (fun tt kk => XS.iloadN X0.here hx rfl (hb hby d2_30) rfl kk) ?_
            show own_Go p e below _ (s₁.setTop (mkF m 31 #[.val (.int p1)] [(.int p1)]))
            refine own_go (fun tt kk => XS.bipush X0.here hx rfl (hb hby d2_31) kk) ?_
            show own_Go p e below _ (s₁.setTop (mkF m 33 #[.val (.int p1)] [(.int (57 : Int32)), (.int p1)]))
            by_cases hc33 : 57 < p1.toInt
            · refine own_go (fun tt kk => XS.icmpNo X0.here hx rfl (hb hby d2_33) rfl (tlt (own_lt32 (x := (57 : Int32)) (y := p1) (i := 57) (j := p1.toInt) rfl rfl hc33)).2.2.2 kk) ?_
              show own_Go p e below _ (s₁.setTop (mkF m 36 #[.val (.int p1)] []))
              have hal : ¬ own_alnum p1.toInt := by unfold own_alnum; omega
              obtain ⟨aa, T15, h15, k15, bb, kk, X15, e15, E15, S15, sz15, hZ15, hown15, Q1, Q2, Q3, Q4, -, -, -, st15⟩ := ldcSV (s := s) (vm0 := s.vm) (Ts := []) X0 hx hZ hown (hw _ (List.mem_of_getElem? (i := 7) rfl)) (own_wS hw) e0 ((State.WarmedH.refl s).since h0.size) (Nat.le_refl _) (Fr.nil _) (fun b cl q => by rw [hh0]; exact hkp b cl q) hI List.not_mem_nil hch hcw (vs := own_bytes.map Value.int) (z := 17) ⟨own_small, own_vals⟩ (by decide) (by rw [List.length_map, own_len]; rfl) (g := (mkF m 36 #[.val (.int p1)] [])) rfl (hb hby d2_36) (n := 68) (by decide +kernel) (by decide) (by decide) (by decide)
              have SS : own_Str Z h15 aa bb 17 (fun i => own_bytes.getD i 0) := ⟨Q1, Q2, Q3, own_Ar.of_arv Q4 rfl own_len⟩
              refine own_go st15 ?_
              show own_Go p e below _ (T15.setTop (mkF m 38 #[.val (.int p1)] [(.ref aa)]))
              refine own_go (fun tt kk => XS.iloadN X15.here hx rfl (hb hby d2_38) rfl kk) ?_
              show own_Go p e below _ (T15.setTop (mkF m 39 #[.val (.int p1)] [(.int p1), (.ref aa)]))
              obtain ⟨v16, L16, T16, X16, qq16, st16⟩ := own_callV X15 hx hZ15 hown15 (hw _ (List.mem_of_getElem? (i := 15) rfl)) (hw _ (List.mem_of_getElem? (i := 16) rfl)) (hw _ (List.mem_of_getElem? (i := 18) rfl)) (hw _ (List.mem_of_getElem? (i := 17) rfl)) (hw _ (List.mem_of_getElem? (i := 19) rfl)) (hw _ (List.mem_of_getElem? (i := 8) rfl)) (by decide) SS.1 (rmIdx1 l Z a0 hw [] aa bb 17 (fun i => own_bytes.getD i 0) cz p1 h15 SS (SC.ext E15) hcz hp0 (by omega)) e15 (pc := 39) (Ls := #[.val (.int p1)]) (argsL := [(.int p1)]) (rest := []) rfl (by rw [hml]; rfl) pd_6 rfl rfl (hb hby d2_39) 0 (Nat.le_of_eq rfl) (by decide) (by decide) (by decide) (by decide)
              obtain ⟨z16, rfl, hz16, hh16, rfl⟩ := qq16
              refine own_go st16 ?_
              show own_Go p e below _ (T16.setTop (mkF m 42 #[.val (.int p1)] [(.int z16)]))
              by_cases hc42 : z16.toInt < 0
              · refine own_go (fun tt kk => XS.ifYes X16.here hx rfl (pc0 := 42) (pc' := 49) rfl (hb hby d2_42) rfl ((if0 _ _).trans (tlt (own_lt32 (x := z16) (y := (0 : Int32)) (i := z16.toInt) (j := 0) rfl rfl hc42)).1) (by decide) (by decide) kk) ?_
                show own_Go p e below _ (T16.setTop (mkF m 49 #[.val (.int p1)] []))
                refine own_go (fun tt kk => XS.iconst X16.here hx rfl (hb hby d2_49) kk) ?_
                show own_Go p e below _ (T16.setTop (mkF m 50 #[.val (.int p1)] [(.int (0 : Int32))]))
                exact own_retWZ X16 S15 (by rw [hh16]; exact sz15) hx hlk hret (by decide) (hb hby d2_50) ⟨0, rfl, Or.inr ⟨rfl, fun q => by
                  rcases q with q | ⟨q1, q2⟩
                  · exact hal q
                  · have q3 := (own_isIn_iff hp0 q1).mp q2
                    rcases hz16 with ⟨r1, _⟩ | ⟨_, r2⟩
                    · omega
                    · exact r2 ⟨q1, q3⟩⟩, by rw [hh16]; exact E15, rfl⟩ (by decide) (by decide)
              · refine own_go (fun tt kk => XS.ifNo X16.here hx rfl (hb hby d2_42) rfl ((if0 _ _).trans (flt (own_nlt32 (x := z16) (y := (0 : Int32)) (i := z16.toInt) (j := 0) rfl rfl hc42)).1) kk) ?_
                show own_Go p e below _ (T16.setTop (mkF m 45 #[.val (.int p1)] []))
                refine own_go (fun tt kk => XS.iconst X16.here hx rfl (hb hby d2_45) kk) ?_
                show own_Go p e below _ (T16.setTop (mkF m 46 #[.val (.int p1)] [(.int (1 : Int32))]))
                refine own_go (fun tt kk => XS.goto X16.here hx rfl (pc0 := 46) (pc' := 50) rfl (hb hby d2_46) (by decide) (by decide) kk) ?_
                show own_Go p e below _ (T16.setTop (mkF m 50 #[.val (.int p1)] [(.int (1 : Int32))]))
                exact own_retWZ X16 S15 (by rw [hh16]; exact sz15) hx hlk hret (by decide) (hb hby d2_50) ⟨1, rfl, Or.inl ⟨rfl, Or.inr (by
                  rcases hz16 with ⟨_, r1, r2⟩ | ⟨r1, _⟩
                  · exact ⟨r1, (own_isIn_iff hp0 r1).mpr r2⟩
                  · omega)⟩, by rw [hh16]; exact E15, rfl⟩ (by decide) (by decide)
            · refine own_go (fun tt kk => XS.icmpYes X0.here hx rfl (pc0 := 33) (pc' := 45) rfl (hb hby d2_33) rfl (flt (own_nlt32 (x := (57 : Int32)) (y := p1) (i := 57) (j := p1.toInt) rfl rfl hc33)).2.2.2 (by decide) (by decide) kk) ?_
              show own_Go p e below _ (s₁.setTop (mkF m 45 #[.val (.int p1)] []))
              refine own_go (fun tt kk => XS.iconst X0.here hx rfl (hb hby d2_45) kk) ?_
              show own_Go p e below _ (s₁.setTop (mkF m 46 #[.val (.int p1)] [(.int (1 : Int32))]))
              refine own_go (fun tt kk => XS.goto X0.here hx rfl (pc0 := 46) (pc' := 50) rfl (hb hby d2_46) (by decide) (by decide) kk) ?_
              show own_Go p e below _ (s₁.setTop (mkF m 50 #[.val (.int p1)] [(.int (1 : Int32))]))
              exact own_retZW X0 hx hlk hret (by decide) (hb hby d2_50) ⟨1, rfl, Or.inl ⟨rfl, Or.inl (by unfold own_alnum; omega)⟩, by rw [e0]; exact ⟨Nat.le_refl _, fun _ _ q => q⟩, rfl⟩ (by decide) (by decide)
        · refine own_go (fun tt kk => XS.icmpYes X0.here hx rfl (pc0 := 21) (pc' := 45) rfl (hb hby d2_21) rfl (flt (own_nlt32 (x := (90 : Int32)) (y := p1) (i := 90) (j := p1.toInt) rfl rfl hc21)).2.2.2 (by decide) (by decide) kk) ?_
          show own_Go p e below _ (s₁.setTop (mkF m 45 #[.val (.int p1)] []))
          refine own_go (fun tt kk => XS.iconst X0.here hx rfl (hb hby d2_45) kk) ?_
          show own_Go p e below _ (s₁.setTop (mkF m 46 #[.val (.int p1)] [(.int (1 : Int32))]))
          refine own_go (fun tt kk => XS.goto X0.here hx rfl (pc0 := 46) (pc' := 50) rfl (hb hby d2_46) (by decide) (by decide) kk) ?_
          show own_Go p e below _ (s₁.setTop (mkF m 50 #[.val (.int p1)] [(.int (1 : Int32))]))
          exact own_retZW X0 hx hlk hret (by decide) (hb hby d2_50) ⟨1, rfl, Or.inl ⟨rfl, Or.inl (by unfold own_alnum; omega)⟩, by rw [e0]; exact ⟨Nat.le_refl _, fun _ _ q => q⟩, rfl⟩ (by decide) (by decide)
    · refine own_go (fun tt kk => XS.icmpYes X0.here hx rfl (pc0 := 9) (pc' := 45) rfl (hb hby d2_9) rfl (flt (own_nlt32 (x := (122 : Int32)) (y := p1) (i := 122) (j := p1.toInt) rfl rfl hc9)).2.2.2 (by decide) (by decide) kk) ?_
      show own_Go p e below _ (s₁.setTop (mkF m 45 #[.val (.int p1)] []))
      refine own_go (fun tt kk => XS.iconst X0.here hx rfl (hb hby d2_45) kk) ?_
      show own_Go p e below _ (s₁.setTop (mkF m 46 #[.val (.int p1)] [(.int (1 : Int32))]))
      refine own_go (fun tt kk => XS.goto X0.here hx rfl (pc0 := 46) (pc' := 50) rfl (hb hby d2_46) (by decide) (by decide) kk) ?_
      show own_Go p e below _ (s₁.setTop (mkF m 50 #[.val (.int p1)] [(.int (1 : Int32))]))
      exact own_retZW X0 hx hlk hret (by decide) (hb hby d2_50) ⟨1, rfl, Or.inl ⟨rfl, Or.inl (by unfold own_alnum; omega)⟩, by rw [e0]; exact ⟨Nat.le_refl _, fun _ _ q => q⟩, rfl⟩ (by decide) (by decide)
set_option maxRecDepth 65536 in
set_option maxHeartbeats 40000000 in
theorem rmPath (l : Launch) (Z : State) (a0 : Array Value) (hw : ∀ d ∈ tables_1, d.before a0 Z = true) (ws : List Jvm.Cond) (p1 cz : Int32) (h0 : Heap) (hkp : ∀ (b : Addr) (cl : Cell), Z.heap[b]? = some cl → h0[b]? = some cl) (SC : Sta Z h0 own_ST "COMPACT_STRINGS" "Z" (.int cz)) (hcz : ¬ cz = 0) (hch : Jvm.Lit.constHeld Z "com/example/vouchgate/vouchgate/core/UrlPath" 131) (hcw : Jvm.Lit.compactW.before a0 Z = true) (hp0 : 0 ≤ p1.toInt) :
    own_MetW l Z ws (⟨"com/example/vouchgate/vouchgate/core/UrlPath", "isPathCharacter", "(C)Z"⟩ : MethodName) prog_32_method_6_code 1 (some .boolean) ({ frames := 5, cells := 2, slots := 72, locals := 76 } : Room) #[(.int p1)] h0 (fun v h L => ∃ z : Int32, v = some (.int z) ∧ ((z = 1 ∧ own_exp p1.toInt) ∨ (z = 0 ∧ ¬ own_exp p1.toInt)) ∧ Ext h0 h ∧ L = []) := by
  refine own_metW pn_1 ?_
  intro p e s m below meth c s₁ hx hby hml hown hnm hret hlk hZ X0 e0 hh0 hI
  refine own_entry (ef_1 m p1) ?_
  show own_Go p e below _ (s₁.setTop (mkF m 0 #[.val (.int p1)] []))
  have ag := own_agree hp0
  have o32 : (1 : Int32).toInt = 1 := rfl
  have z32 : (0 : Int32).toInt = 0 := rfl
  refine own_go (fun tt kk => XS.iloadN X0.here hx rfl (hb hby d1_0) rfl kk) ?_
  show own_Go p e below _ (s₁.setTop (mkF m 1 #[.val (.int p1)] [(.int p1)]))
  obtain ⟨v1, L1, T1, X1, S1, hZ1, hown1, qq1, st1⟩ := own_callSW X0 hx hZ hown (hw _ (List.mem_of_getElem? (i := 4) rfl)) (hw _ (List.mem_of_getElem? (i := 5) rfl)) (hw _ (List.mem_of_getElem? (i := 2) rfl)) (hw _ (List.mem_of_getElem? (i := 6) rfl)) (by decide) (rmSeg l Z a0 hw [] p1 cz h0 hkp SC hcz hch hcw hp0) hI e0 (pc := 1) (Ls := #[.val (.int p1)]) (argsL := [(.int p1)]) (rest := []) rfl (by rw [hml]; rfl) pd_7 rfl rfl (hb hby d1_1) 0 (Nat.le_of_eq rfl) (by decide) (by decide) (by decide) (by decide)
  obtain ⟨z1, rfl, hz1, E1, rfl⟩ := qq1
  refine own_go st1 ?_
  show own_Go p e below _ (T1.setTop (mkF m 4 #[.val (.int p1)] [(.int z1)]))
  by_cases hc4 : z1.toInt = 0
  · refine own_go (fun tt kk => XS.ifNo X1.here hx rfl (hb hby d1_4) rfl ((if0 _ _).trans (teq (own_eq32 (x := z1) (y := (0 : Int32)) (i := z1.toInt) (j := 0) rfl rfl hc4)).2) kk) ?_
    show own_Go p e below _ (T1.setTop (mkF m 7 #[.val (.int p1)] []))
    have nseg : ¬ own_seg p1.toInt := by rcases hz1 with ⟨rfl, _⟩ | ⟨_, r⟩; omega; exact r
    refine own_go (fun tt kk => XS.iloadN X1.here hx rfl (hb hby d1_7) rfl kk) ?_
    show own_Go p e below _ (T1.setTop (mkF m 8 #[.val (.int p1)] [(.int p1)]))
    refine own_go (fun tt kk => XS.bipush X1.here hx rfl (hb hby d1_8) kk) ?_
    show own_Go p e below _ (T1.setTop (mkF m 10 #[.val (.int p1)] [(.int (47 : Int32)), (.int p1)]))
    by_cases hc10 : p1.toInt = 47
    · refine own_go (fun tt kk => XS.icmpNo X1.here hx rfl (hb hby d1_10) rfl (teq (own_eq32 (x := p1) (y := (47 : Int32)) (i := p1.toInt) (j := 47) rfl rfl hc10)).2 kk) ?_
      show own_Go p e below _ (T1.setTop (mkF m 13 #[.val (.int p1)] []))
      refine own_go (fun tt kk => XS.iconst X1.here hx rfl (hb hby d1_13) kk) ?_
      show own_Go p e below _ (T1.setTop (mkF m 14 #[.val (.int p1)] [(.int (1 : Int32))]))
      refine own_go (fun tt kk => XS.goto X1.here hx rfl (pc0 := 14) (pc' := 18) rfl (hb hby d1_14) (by decide) (by decide) kk) ?_
      show own_Go p e below _ (T1.setTop (mkF m 18 #[.val (.int p1)] [(.int (1 : Int32))]))
      exact own_retWZ X1 S1 (Nat.le_refl _) hx hlk hret (by decide) (hb hby d1_18) ⟨1, rfl, Or.inl ⟨rfl, ag.mp (Or.inr hc10)⟩, E1, rfl⟩ (by decide) (by decide)
    · refine own_go (fun tt kk => XS.icmpYes X1.here hx rfl (pc0 := 10) (pc' := 17) rfl (hb hby d1_10) rfl (feq (own_neq32 (x := p1) (y := (47 : Int32)) (i := p1.toInt) (j := 47) rfl rfl hc10)).2 (by decide) (by decide) kk) ?_
      show own_Go p e below _ (T1.setTop (mkF m 17 #[.val (.int p1)] []))
      refine own_go (fun tt kk => XS.iconst X1.here hx rfl (hb hby d1_17) kk) ?_
      show own_Go p e below _ (T1.setTop (mkF m 18 #[.val (.int p1)] [(.int (0 : Int32))]))
      exact own_retWZ X1 S1 (Nat.le_refl _) hx hlk hret (by decide) (hb hby d1_18) ⟨0, rfl, Or.inr ⟨rfl, fun q => (ag.mpr q).elim nseg hc10⟩, E1, rfl⟩ (by decide) (by decide)
  · refine own_go (fun tt kk => XS.ifYes X1.here hx rfl (pc0 := 4) (pc' := 13) rfl (hb hby d1_4) rfl ((if0 _ _).trans (feq (own_neq32 (x := z1) (y := (0 : Int32)) (i := z1.toInt) (j := 0) rfl rfl hc4)).2) (by decide) (by decide) kk) ?_
    show own_Go p e below _ (T1.setTop (mkF m 13 #[.val (.int p1)] []))
    have sg : own_seg p1.toInt := by rcases hz1 with ⟨_, r⟩ | ⟨rfl, _⟩; exact r; omega
    refine own_go (fun tt kk => XS.iconst X1.here hx rfl (hb hby d1_13) kk) ?_
    show own_Go p e below _ (T1.setTop (mkF m 14 #[.val (.int p1)] [(.int (1 : Int32))]))
    refine own_go (fun tt kk => XS.goto X1.here hx rfl (pc0 := 14) (pc' := 18) rfl (hb hby d1_14) (by decide) (by decide) kk) ?_
    show own_Go p e below _ (T1.setTop (mkF m 18 #[.val (.int p1)] [(.int (1 : Int32))]))
    exact own_retWZ X1 S1 (Nat.le_refl _) hx hlk hret (by decide) (hb hby d1_18) ⟨1, rfl, Or.inl ⟨rfl, ag.mp (Or.inl sg)⟩, E1, rfl⟩ (by decide) (by decide)
set_option maxRecDepth 65536 in
set_option maxHeartbeats 40000000 in
theorem rm0 (l : Launch) (Z : State) (a0 : Array Value) (hw : ∀ d ∈ tables_1, d.before a0 Z = true) (ws : List Jvm.Cond) (p1 cz : Int32) (h0 : Heap) (hkp : ∀ (b : Addr) (cl : Cell), Z.heap[b]? = some cl → h0[b]? = some cl) (SC : Sta Z h0 own_ST "COMPACT_STRINGS" "Z" (.int cz)) (hcz : ¬ cz = 0) (hch : Jvm.Lit.constHeld Z "com/example/vouchgate/vouchgate/core/UrlPath" 131) (hcw : Jvm.Lit.compactW.before a0 Z = true) :
    own_MetW l Z ws x code maxLocals ret room_1 #[(.int p1)] h0 (fun v h L => v = some (.int 1) ∧ Fr h0.size L) := by
  refine own_metW pn_0 ?_
  intro p e s m below meth c s₁ hx hby hml hown hnm hret hlk hZ X0 e0 hh0 hI
  refine own_entry (ef_0 m p1) ?_
  show own_Go p e below _ (s₁.setTop (mkF m 0 #[.val (.int p1), .unset] []))
  have F1 := c_i2c p1
  refine own_go (fun tt kk => XS.iloadN X0.here hx rfl (hb hby at_0) rfl kk) ?_
  show own_Go p e below _ (s₁.setTop (mkF m 1 #[.val (.int p1), .unset] [(.int p1)]))
  refine own_go (fun tt kk => XS.i2c X0.here hx rfl (hb hby at_1) rfl kk) ?_
  show own_Go p e below _ (s₁.setTop (mkF m 2 #[.val (.int p1), .unset] [(.int (p1.toUInt32.toUInt16.toUInt32.toInt32))]))
  refine own_go (fun tt kk => XS.istoreN X0.here hx rfl (hb hby at_2) rfl (l' := #[.val (.int p1), .val (.int (p1.toUInt32.toUInt16.toUInt32.toInt32))]) rfl kk) ?_
  show own_Go p e below _ (s₁.setTop (mkF m 3 #[.val (.int p1), .val (.int (p1.toUInt32.toUInt16.toUInt32.toInt32))] []))
  refine own_go (fun tt kk => XS.iloadN X0.here hx rfl (hb hby at_3) rfl kk) ?_
  show own_Go p e below _ (s₁.setTop (mkF m 4 #[.val (.int p1), .val (.int (p1.toUInt32.toUInt16.toUInt32.toInt32))] [(.int (p1.toUInt32.toUInt16.toUInt32.toInt32))]))
  obtain ⟨v1, L1, T1, X1, S1, hZ1, hown1, qq1, st1⟩ := own_callSW X0 hx hZ hown (hw _ (List.mem_of_getElem? (i := 0) rfl)) (hw _ (List.mem_of_getElem? (i := 1) rfl)) (hw _ (List.mem_of_getElem? (i := 2) rfl)) (hw _ (List.mem_of_getElem? (i := 3) rfl)) (by decide) (rmPath l Z a0 hw [] (p1.toUInt32.toUInt16.toUInt32.toInt32) cz h0 hkp SC hcz hch hcw (by omega)) hI e0 (pc := 4) (Ls := #[.val (.int p1), .val (.int (p1.toUInt32.toUInt16.toUInt32.toInt32))]) (argsL := [(.int (p1.toUInt32.toUInt16.toUInt32.toInt32))]) (rest := []) rfl (by rw [hml]; rfl) pd_7 rfl rfl (hb hby at_4) 0 (Nat.le_of_eq rfl) (by decide) (by decide) (by decide) (by decide)
  obtain ⟨z1, rfl, hz1, E1, rfl⟩ := qq1
  refine own_go st1 ?_
  show own_Go p e below _ (T1.setTop (mkF m 7 #[.val (.int p1), .val (.int (p1.toUInt32.toUInt16.toUInt32.toInt32))] [(.int z1)]))
  refine own_go (fun tt kk => XS.iloadN X1.here hx rfl (hb hby at_7) rfl kk) ?_
  show own_Go p e below _ (T1.setTop (mkF m 8 #[.val (.int p1), .val (.int (p1.toUInt32.toUInt16.toUInt32.toInt32))] [(.int (p1.toUInt32.toUInt16.toUInt32.toInt32)), (.int z1)]))
  obtain ⟨v2, L2, T2, X2, qq2, st2⟩ := own_callS X1 hx hZ1 hown1 (hw _ (List.mem_of_getElem? (i := 60) rfl)) (hw _ (List.mem_of_getElem? (i := 61) rfl)) (hw _ (List.mem_of_getElem? (i := 62) rfl)) (hw _ (List.mem_of_getElem? (i := 63) rfl)) (by decide) (rmExp l Z a0 hw [] (p1.toUInt32.toUInt16.toUInt32.toInt32) T1.heap) (rfl : T1.heap = _) (pc := 8) (Ls := #[.val (.int p1), .val (.int (p1.toUInt32.toUInt16.toUInt32.toInt32))]) (argsL := [(.int (p1.toUInt32.toUInt16.toUInt32.toInt32))]) (rest := [(.int z1)]) rfl (by rw [hml]; rfl) pd_7 rfl rfl (hb hby at_8) 1 (Nat.le_of_eq rfl) (by decide) (by decide) (by decide) (by decide)
  obtain ⟨z2, rfl, hz2, hh2, rfl⟩ := qq2
  refine own_go st2 ?_
  show own_Go p e below _ (T2.setTop (mkF m 11 #[.val (.int p1), .val (.int (p1.toUInt32.toUInt16.toUInt32.toInt32))] [(.int z2), (.int z1)]))
  have same : z1 = z2 := by
    rcases hz1 with ⟨rfl, r⟩ | ⟨rfl, r⟩ <;> rcases hz2 with ⟨rfl, r'⟩ | ⟨rfl, r'⟩ <;> first | rfl | exact absurd r r' | exact absurd r' r
  refine own_go (fun tt kk => XS.icmpNo X2.here hx rfl (hb hby at_11) rfl (teq (own_eq32 (x := z1) (y := z2) (i := z1.toInt) (j := z2.toInt) rfl rfl (by rw [same]))).2 kk) ?_
  show own_Go p e below _ (T2.setTop (mkF m 14 #[.val (.int p1), .val (.int (p1.toUInt32.toUInt16.toUInt32.toInt32))] []))
  refine own_go (fun tt kk => XS.iconst X2.here hx rfl (hb hby at_14) kk) ?_
  show own_Go p e below _ (T2.setTop (mkF m 15 #[.val (.int p1), .val (.int (p1.toUInt32.toUInt16.toUInt32.toInt32))] [(.int (1 : Int32))]))
  refine own_go (fun tt kk => XS.goto X2.here hx rfl (pc0 := 15) (pc' := 19) rfl (hb hby at_15) (by decide) (by decide) kk) ?_
  show own_Go p e below _ (T2.setTop (mkF m 19 #[.val (.int p1), .val (.int (p1.toUInt32.toUInt16.toUInt32.toInt32))] [(.int (1 : Int32))]))
  exact own_retWZ X2 S1 (by rw [hh2]; exact Nat.le_refl _) hx hlk hret (by decide) (hb hby at_19) ⟨rfl, Fr.app (Fr.app (Fr.nil _) (Fr.nil _)) (Fr.nil _)⟩ (by decide) (by decide)
set_option maxRecDepth 65536 in
set_option maxHeartbeats 40000000 in
theorem comes_1 {Post : Tables → Env → Array Value → State → Outcome → State → Prop} (hpost : ∀ tb e args s v u, (limb_1_1.after args s (.returned v) u = true ∧ limb_1_2.after args s (.returned v) u = true ∧ True) → ReturnedEndW s (.returned v) u (Jvm.fieldLocs frame_1_writes args s ++ Jvm.arrayLocs frame_1_arrays args s ++ Jvm.staticLocs frame_1_statics s) 8 1088 → Post tb e args s (.returned v) u) :
    ArmFor flags0 classFile x code maxLocals ret World_1 tables_1 room_1 Calls_1 rest_1 Pre_1 Post := by
  intro l hfl _ _ p e ha hc hk s m args below hf hA hF happ hP
  obtain ⟨hcalls, hrest, hpre⟩ := hP
  obtain ⟨-, -, -, hnamed, -, -, -, hat⟩ := (Spec.applies_iff hf).mp happ
  obtain ⟨hg, hn⟩ := and_e (Cond.before_iff.mp (show (Jvm.Cond.and given_1 narrow_1).before args s = true from hpre))
  obtain ⟨h1, h2⟩ := and_e hg
  obtain ⟨w0, rfl⟩ : ∃ w0 : Value, args = #[w0] := by
    have hs : args.size = 1 := by simpa [Cond.value, given_1] using h1
    obtain ⟨L⟩ := args
    match L, hs with
    | [w0], _ => exact ⟨w0, rfl⟩
  have hw := fun d (hd : d ∈ tables_1) => atoms_spec (ws := Jvm.Cond.code x code maxLocals ret :: tables_1) hat d (List.mem_cons_of_mem _ hd)
  obtain ⟨i0, e0⟩ := is_v h2
  obtain rfl : w0 = (.int i0) := Option.some.inj e0
  obtain ⟨hsets, hown0⟩ := atoms_of _ (rest_1_c_eq ▸ (show rest_1_c.before _ s = true from hrest))
  have n5 := not_v (Cond.before_iff.mp (hsets _ (List.mem_of_getElem? (i := 2) rfl)))
  obtain ⟨cz, ecz⟩ := is_v (Cond.before_iff.mp (hsets _ (List.mem_of_getElem? (i := 1) rfl)))
  have SC : Sta s s.heap "java/lang/String" "COMPACT_STRINGS" "Z" (.int cz) := Sta.start ecz (Or.inl (hsets _ (List.mem_of_getElem? (i := 0) rfl)))
  have hcz : ¬ (cz = (0 : Int32)) := gotF (Cond.eq_ints ecz (Term.int_eval (0))) n5
  have hch : Jvm.Lit.constHeld s "com/example/vouchgate/vouchgate/core/UrlPath" 131 := hcalls.1 _ (List.mem_of_getElem? (i := 0) rfl)
  have hcw : Jvm.Lit.compactW.before _ s = true := hsets _ (List.mem_of_getElem? (i := 2) rfl)
  obtain ⟨n, o, h1, h2, h3, _, L, rfl, ⟨rfl, N⟩, hq⟩ := rm0 l s _ hw tables_1 i0 cz s.heap (fun _ _ q => q) SC hcz hch hcw p e ha hc hk s m _ below hf ((Spec.applies_iff_loose hf).mp happ).1 ⟨rfl, State.Warmed39.refl s, rfl, IB.start⟩ trivial
  refine ⟨n, _, h1, h2, h3, hpost _ _ _ _ _ _ ⟨Cond.after_iff.mpr rfl, Cond.after_iff.mpr (eq_i res_at (Term.int_eval (1)) rfl), trivial⟩ ⟨hq.1, hq.2.1, hq.2.2.1, (hq.2.2.2.sift fun y hy => Or.inr (N y hy)).mono (by decide) (by decide)⟩⟩
theorem main_1_1 : Claimed_1_1 := comes_1 fun _ _ _ _ _ _ h hF => ⟨h.1, hF⟩
theorem main_1_2 : Claimed_1_2 := comes_1 fun _ _ _ _ _ _ h hF => ⟨h.2.1, hF⟩
end Jvm.Pilot.@@N@@
namespace Jvm.Pilot.@@N@@
open Jvm Jvm.ClassFile Sem Op Lib Jvm.Free Jvm.Stand Jvm.Pilot.@@N@@.Jvm.D
/-! MADE BY PROGRAM (witnessworld.py) out of the Statement's table words and the real class files: 18 classes; the members and pool entries that the words name. The judged class is class 1, her method 2. -/
namespace start1
open Jvm.ClassFile
def u (s : String) : CpInfo := .utf8 (stringToUtf16 s)
/-- a pool by its gaps: so many unusable entries, then the entry; so many at the end -/
def gap : Nat → List CpInfo → List CpInfo
  | 0, r => r
  | n + 1, r => .unusable :: gap n r
def poolList (es : List (Nat × CpInfo)) (last : Nat) : List CpInfo := es.foldr (fun e r => gap e.1 (e.2 :: r)) (gap last [])
def pool (es : List (Nat × CpInfo)) (last : Nat) : Array CpInfo := ⟨poolList es last⟩
def fileOf (pool : Array CpInfo) (this : Nat) (attrs : Array Attribute := #[]) (ms : Array MethodInfo := #[]) (fl : Nat := 33) (sup : Nat := 0) (ifs : Array Nat := #[]) (fds : Array FieldInfo := #[]) : ClassFile where
  minorVersion := 0
  majorVersion := 65
  constantPool := pool
  accessFlags := fl
  thisClass := this
  superClass := sup
  interfaces := ifs
  fields := fds
  methods := ms
  attributes := attrs
def plain (name : String) (sup : Option ClassId) : Class where
  name := name
  kind := .ordinary
  loader := none
  accessFlags := 33
  super := sup
  interfaces := #[]
  cf := none
  fields := #[]
  methods := #[]
  instanceTypes := #[]
  staticTypes := #[]
  resolved := #[]
  callSites := []
  init := .initialized
  statics := none
  mirror := none

def pool0 : Array CpInfo := pool [(5, u "<init>"), (0, u "()V"), (1, .class_ 10), (1, u "java/lang/Object")] 113

def k0m0 : Method := { name := "<init>", desc := "()V", sig := { parameters := [], returnType := none }, accessFlags := 1, code := none }
/-- java/lang/Object -/
def k0 : Class := { plain "java/lang/Object" none with
  accessFlags := 33
  interfaces := #[]
  cf := some (fileOf pool0 8 #[] #[{ accessFlags := 1, nameIndex := 5, descriptorIndex := 6, attributes := #[] }] 33 0 #[] #[])
  fields := #[]
  methods := #[k0m0]
  instanceTypes := #[]
  staticTypes := #[]
  resolved := Array.replicate 124 none
  statics := none }

def pool1 : Array CpInfo := pool [(2, .class_ 4), (1, u "java/lang/Object"), (0, u "<init>"), (0, u "()V"), (0, .methodref 8 9), (0, .class_ 10), (0, .nameAndType 11 12), (0, u "com/example/vouchgate/vouchgate/core/UrlPath"), (0, u "isPathCharacter"), (0, u "(C)Z"), (0, .methodref 14 15), (0, .class_ 16), (0, .nameAndType 17 12), (0, u "com/example/vouchgate/vouchgate/core/UrlPathIsPathCharacterPinLaw"), (0, u "expected"), (3, u "law"), (0, u "(I)Z")] 2

def k1m0 : Method := { name := "<init>", desc := "()V", sig := { parameters := [], returnType := none }, accessFlags := 2, code := none }
def k1c1 : Code := { maxStack := 2, maxLocals := 1, code := method_2_code, exceptionTable := #[], attributes := #[] }
def k1m1 : Method := { name := "expected", desc := "(C)Z", sig := { parameters := [.char], returnType := some .boolean }, accessFlags := 10, code := some k1c1 }
def k1c2 : Code := { maxStack := 2, maxLocals := 2, code := code, exceptionTable := #[], attributes := #[] }
def k1m2 : Method := { name := "law", desc := "(I)Z", sig := { parameters := [.int], returnType := some .boolean }, accessFlags := 9, code := some k1c2 }
/-- com/example/vouchgate/vouchgate/core/UrlPathIsPathCharacterPinLaw -/
def k1 : Class := { plain "com/example/vouchgate/vouchgate/core/UrlPathIsPathCharacterPinLaw" (some 0) with
  accessFlags := 49
  interfaces := #[]
  cf := some (fileOf pool1 14 #[] #[{ accessFlags := 2, nameIndex := 5, descriptorIndex := 6, attributes := #[] }, { accessFlags := 10, nameIndex := 17, descriptorIndex := 12, attributes := #[] }, { accessFlags := 9, nameIndex := 21, descriptorIndex := 22, attributes := #[] }] 49 2 #[] #[])
  fields := #[]
  methods := #[k1m0, k1m1, k1m2]
  instanceTypes := #[]
  staticTypes := #[]
  resolved := Array.replicate 25 none
  statics := none }

def pool2 : Array CpInfo := pool [(2, .class_ 4), (1, u "java/lang/Object"), (0, u "<init>"), (0, u "()V"), (3, .class_ 12), (1, u "java/lang/String"), (20, .class_ 35), (1, u "com/example/vouchgate/vouchgate/core/UrlPath"), (41, .methodref 10 78), (0, .nameAndType 79 80), (0, u "indexOf"), (0, u "(I)I"), (18, .methodref 33 100), (0, .nameAndType 101 102), (0, u "isSegmentCharacter"), (0, u "(C)Z"), (28, .string 132), (0, u "-._~!$&'()*+,;=:@"), (10, u "PUNCTUATION"), (0, u "Ljava/lang/String;"), (1, u "NO_ESCAPE"), (10, u "isPathCharacter")] 18

def k2m0 : Method := { name := "<init>", desc := "()V", sig := { parameters := [], returnType := none }, accessFlags := 2, code := none }
def k2c1 : Code := { maxStack := 2, maxLocals := 1, code := prog_32_method_6_code, exceptionTable := #[], attributes := #[] }
def k2m1 : Method := { name := "isPathCharacter", desc := "(C)Z", sig := { parameters := [.char], returnType := some .boolean }, accessFlags := 8, code := some k2c1 }
def k2c2 : Code := { maxStack := 2, maxLocals := 1, code := prog_32_method_7_code, exceptionTable := #[], attributes := #[] }
def k2m2 : Method := { name := "isSegmentCharacter", desc := "(C)Z", sig := { parameters := [.char], returnType := some .boolean }, accessFlags := 10, code := some k2c2 }
/-- com/example/vouchgate/vouchgate/core/UrlPath -/
def k2 : Class := { plain "com/example/vouchgate/vouchgate/core/UrlPath" (some 0) with
  accessFlags := 48
  interfaces := #[]
  cf := some (fileOf pool2 33 #[] #[{ accessFlags := 2, nameIndex := 5, descriptorIndex := 6, attributes := #[] }, { accessFlags := 8, nameIndex := 157, descriptorIndex := 102, attributes := #[] }, { accessFlags := 10, nameIndex := 101, descriptorIndex := 102, attributes := #[] }] 48 2 #[] #[{ accessFlags := 26, nameIndex := 143, descriptorIndex := 144, attributes := #[] }, { accessFlags := 24, nameIndex := 146, descriptorIndex := 144, attributes := #[] }])
  fields := #[{ name := "PUNCTUATION", type := (.object "java/lang/String"), accessFlags := 26, slot := 0, constantValue := 0 }, { name := "NO_ESCAPE", type := (.object "java/lang/String"), accessFlags := 24, slot := 1, constantValue := 0 }]
  methods := #[k2m0, k2m1, k2m2]
  instanceTypes := #[]
  staticTypes := #[(.object "java/lang/String"), (.object "java/lang/String")]
  resolved := Array.replicate 176 none
  statics := none }

def pool3 : Array CpInfo := pool [(1, .class_ 2), (0, u "java/io/Serializable"), (0, .class_ 4), (0, u "java/lang/Object")] 2

/-- java/io/Serializable -/
def k3 : Class := { plain "java/io/Serializable" (some 0) with
  accessFlags := 1537
  interfaces := #[]
  cf := some (fileOf pool3 1 #[] #[] 1537 3 #[] #[])
  fields := #[]
  methods := #[]
  instanceTypes := #[]
  staticTypes := #[]
  resolved := Array.replicate 7 none
  statics := none }

def pool4 : Array CpInfo := pool [(1, .class_ 2), (0, u "java/lang/Comparable"), (0, .class_ 4), (0, u "java/lang/Object")] 7

/-- java/lang/Comparable -/
def k4 : Class := { plain "java/lang/Comparable" (some 0) with
  accessFlags := 1537
  interfaces := #[]
  cf := some (fileOf pool4 1 #[] #[] 1537 3 #[] #[])
  fields := #[]
  methods := #[]
  instanceTypes := #[]
  staticTypes := #[]
  resolved := Array.replicate 12 none
  statics := none }

def pool5 : Array CpInfo := pool [(2, .class_ 4), (1, u "java/lang/CharSequence"), (42, .class_ 48), (0, u "java/lang/CharSequence$1CodePointIterator"), (10, .class_ 60), (0, u "java/lang/CharSequence$1CharIterator"), (5, .class_ 67), (0, u "java/lang/Object")] 63

/-- java/lang/CharSequence -/
def k5 : Class := { plain "java/lang/CharSequence" (some 0) with
  accessFlags := 1537
  interfaces := #[]
  cf := some (fileOf pool5 2 #[.nestMembers #[47, 59]] #[] 1537 66 #[] #[])
  fields := #[]
  methods := #[]
  instanceTypes := #[]
  staticTypes := #[]
  resolved := Array.replicate 131 none
  statics := none }

def pool6 : Array CpInfo := pool [(1, .class_ 2), (0, u "java/lang/constant/Constable"), (0, .class_ 4), (0, u "java/lang/Object")] 6

/-- java/lang/constant/Constable -/
def k6 : Class := { plain "java/lang/constant/Constable" (some 0) with
  accessFlags := 1537
  interfaces := #[]
  cf := some (fileOf pool6 1 #[] #[] 1537 3 #[] #[])
  fields := #[]
  methods := #[]
  instanceTypes := #[]
  staticTypes := #[]
  resolved := Array.replicate 11 none
  statics := none }

def pool7 : Array CpInfo := pool [(1, .class_ 2), (0, u "java/lang/constant/ConstantDesc"), (0, .class_ 4), (0, u "java/lang/Object")] 32

/-- java/lang/constant/ConstantDesc -/
def k7 : Class := { plain "java/lang/constant/ConstantDesc" (some 0) with
  accessFlags := 1537
  interfaces := #[]
  cf := some (fileOf pool7 1 #[] #[] 1537 3 #[] #[])
  fields := #[]
  methods := #[]
  instanceTypes := #[]
  staticTypes := #[]
  resolved := Array.replicate 37 none
  statics := none }

def pool8 : Array CpInfo := pool [(2, .class_ 4), (1, u "java/lang/Object"), (0, u "<init>"), (0, u "()V"), (2, .fieldref 10 11), (0, .class_ 12), (0, .nameAndType 13 14), (0, u "java/lang/String"), (0, u "value"), (0, u "[B"), (0, .fieldref 10 16), (0, .nameAndType 17 18), (0, u "coder"), (0, u "B"), (2, u "hash"), (0, u "I"), (2, u "hashIsZero"), (0, u "Z"), (11, .fieldref 10 39), (0, .nameAndType 40 26), (0, u "COMPACT_STRINGS"), (66, .class_ 109), (1, u "java/lang/StringLatin1"), (32, u "()Z"), (191, u "()I"), (0, .methodref 10 336), (0, .nameAndType 17 337), (0, u "()B"), (154, .methodref 10 493), (0, .nameAndType 494 142), (0, u "isLatin1"), (10, .methodref 10 506), (0, .nameAndType 507 334), (0, u "length"), (67, .class_ 576), (0, u "java/lang/CharSequence"), (22, u "CASE_INSENSITIVE_ORDER"), (0, u "Ljava/util/Comparator;"), (32, .methodref 10 634), (0, .nameAndType 635 636), (0, u "indexOf"), (0, u "(II)I"), (0, .methodref 107 638), (0, .nameAndType 635 639), (0, u "([BIII)I"), (125, u "(I)I"), (335, u "serialPersistentFields"), (0, u "[Ljava/io/ObjectStreamField;"), (0, .class_ 1104), (0, u "java/lang/String$CaseInsensitiveComparator"), (1, .class_ 1107), (0, u "java/io/Serializable"), (0, .class_ 1109), (0, u "java/lang/Comparable"), (0, .class_ 1111), (0, u "java/lang/constant/Constable"), (0, .class_ 1113), (0, u "java/lang/constant/ConstantDesc"), (2, u "serialVersionUID"), (0, u "J"), (3, u "REPL"), (0, u "C"), (2, u "LATIN1"), (1, u "UTF16")] 323

def k8m0 : Method := { name := "<init>", desc := "()V", sig := { parameters := [], returnType := none }, accessFlags := 1, code := none }
def k8c1 : Code := { maxStack := 2, maxLocals := 1, code := jdk_42_method_54_code, exceptionTable := #[], attributes := #[] }
def k8m1 : Method := { name := "length", desc := "()I", sig := { parameters := [], returnType := some .int }, accessFlags := 1, code := some k8c1 }
def k8c2 : Code := { maxStack := 3, maxLocals := 2, code := jdk_42_method_79_code, exceptionTable := #[], attributes := #[] }
def k8m2 : Method := { name := "indexOf", desc := "(I)I", sig := { parameters := [.int], returnType := some .int }, accessFlags := 1, code := some k8c2 }
def k8c3 : Code := { maxStack := 4, maxLocals := 3, code := jdk_42_method_80_code, exceptionTable := #[], attributes := #[] }
def k8m3 : Method := { name := "indexOf", desc := "(II)I", sig := { parameters := [.int, .int], returnType := some .int }, accessFlags := 1, code := some k8c3 }
def k8c4 : Code := { maxStack := 1, maxLocals := 1, code := jdk_42_method_152_code, exceptionTable := #[], attributes := #[] }
def k8m4 : Method := { name := "coder", desc := "()B", sig := { parameters := [], returnType := some .byte }, accessFlags := 0, code := some k8c4 }
def k8c5 : Code := { maxStack := 1, maxLocals := 1, code := jdk_42_method_154_code, exceptionTable := #[], attributes := #[] }
def k8m5 : Method := { name := "isLatin1", desc := "()Z", sig := { parameters := [], returnType := some .boolean }, accessFlags := 0, code := some k8c5 }
/-- java/lang/String -/
def k8 : Class := { plain "java/lang/String" (some 0) with
  accessFlags := 49
  interfaces := #[3, 4, 5, 6, 7]
  cf := some (fileOf pool8 10 #[.nestMembers #[1103]] #[{ accessFlags := 1, nameIndex := 5, descriptorIndex := 6, attributes := #[] }, { accessFlags := 1, nameIndex := 507, descriptorIndex := 334, attributes := #[] }, { accessFlags := 1, nameIndex := 635, descriptorIndex := 765, attributes := #[] }, { accessFlags := 1, nameIndex := 635, descriptorIndex := 636, attributes := #[] }, { accessFlags := 0, nameIndex := 17, descriptorIndex := 337, attributes := #[] }, { accessFlags := 0, nameIndex := 494, descriptorIndex := 142, attributes := #[] }] 49 2 #[1106, 1108, 575, 1110, 1112] #[{ accessFlags := 18, nameIndex := 13, descriptorIndex := 14, attributes := #[] }, { accessFlags := 18, nameIndex := 17, descriptorIndex := 18, attributes := #[] }, { accessFlags := 2, nameIndex := 21, descriptorIndex := 22, attributes := #[] }, { accessFlags := 2, nameIndex := 25, descriptorIndex := 26, attributes := #[] }, { accessFlags := 26, nameIndex := 1116, descriptorIndex := 1117, attributes := #[] }, { accessFlags := 24, nameIndex := 40, descriptorIndex := 26, attributes := #[] }, { accessFlags := 26, nameIndex := 1101, descriptorIndex := 1102, attributes := #[] }, { accessFlags := 26, nameIndex := 1121, descriptorIndex := 1122, attributes := #[] }, { accessFlags := 25, nameIndex := 599, descriptorIndex := 600, attributes := #[] }, { accessFlags := 24, nameIndex := 1125, descriptorIndex := 18, attributes := #[] }, { accessFlags := 24, nameIndex := 1127, descriptorIndex := 18, attributes := #[] }])
  fields := #[{ name := "value", type := (.array .byte), accessFlags := 18, slot := 0, constantValue := 0 }, { name := "coder", type := .byte, accessFlags := 18, slot := 1, constantValue := 0 }, { name := "hash", type := .int, accessFlags := 2, slot := 2, constantValue := 0 }, { name := "hashIsZero", type := .boolean, accessFlags := 2, slot := 3, constantValue := 0 }, { name := "serialVersionUID", type := .long, accessFlags := 26, slot := 0, constantValue := 0 }, { name := "COMPACT_STRINGS", type := .boolean, accessFlags := 24, slot := 1, constantValue := 0 }, { name := "serialPersistentFields", type := (.array (.object "java/io/ObjectStreamField")), accessFlags := 26, slot := 2, constantValue := 0 }, { name := "REPL", type := .char, accessFlags := 26, slot := 3, constantValue := 0 }, { name := "CASE_INSENSITIVE_ORDER", type := (.object "java/util/Comparator"), accessFlags := 25, slot := 4, constantValue := 0 }, { name := "LATIN1", type := .byte, accessFlags := 24, slot := 5, constantValue := 0 }, { name := "UTF16", type := .byte, accessFlags := 24, slot := 6, constantValue := 0 }]
  methods := #[k8m0, k8m1, k8m2, k8m3, k8m4, k8m5]
  instanceTypes := #[(.array .byte), .byte, .int, .boolean]
  staticTypes := #[.long, .boolean, (.array (.object "java/io/ObjectStreamField")), .char, (.object "java/util/Comparator"), .byte, .byte]
  resolved := Array.replicate 1451 none
  statics := some 0 }

def pool9 : Array CpInfo := pool [(4, .class_ 6), (1, u "java/lang/Object"), (0, u "<init>"), (0, u "()V"), (5, .class_ 16), (1, u "java/lang/StringLatin1"), (21, .methodref 39 40), (0, .class_ 41), (0, .nameAndType 42 43), (0, u "java/lang/Math"), (0, u "min"), (0, u "(II)I"), (44, .methodref 14 89), (0, .nameAndType 90 91), (0, u "canEncode"), (0, u "(I)Z"), (0, .methodref 39 93), (0, .nameAndType 94 43), (0, u "max"), (0, .methodref 14 96), (0, .nameAndType 97 98), (0, u "indexOfChar"), (0, u "([BIII)I"), (2, u "indexOf"), (19, u "$assertionsDisabled"), (0, u "Z"), (98, .class_ 223), (1, u "java/lang/StringLatin1$LinesSpliterator"), (166, .class_ 391), (0, u "java/lang/StringLatin1$CharsSpliterator")] 3

def k9m0 : Method := { name := "<init>", desc := "()V", sig := { parameters := [], returnType := none }, accessFlags := 0, code := none }
def k9c1 : Code := { maxStack := 2, maxLocals := 1, code := jdk_43_method_4_code, exceptionTable := #[], attributes := #[] }
def k9m1 : Method := { name := "canEncode", desc := "(I)Z", sig := { parameters := [.int], returnType := some .boolean }, accessFlags := 9, code := some k9c1 }
def k9c2 : Code := { maxStack := 4, maxLocals := 4, code := jdk_43_method_22_code, exceptionTable := #[], attributes := #[] }
def k9m2 : Method := { name := "indexOf", desc := "([BIII)I", sig := { parameters := [(.array .byte), .int, .int, .int], returnType := some .int }, accessFlags := 9, code := some k9c2 }
def k9c3 : Code := { maxStack := 2, maxLocals := 6, code := jdk_43_method_23_code, exceptionTable := #[], attributes := #[] }
def k9m3 : Method := { name := "indexOfChar", desc := "([BIII)I", sig := { parameters := [(.array .byte), .int, .int, .int], returnType := some .int }, accessFlags := 10, code := some k9c3 }
/-- java/lang/StringLatin1 -/
def k9 : Class := { plain "java/lang/StringLatin1" (some 0) with
  accessFlags := 48
  interfaces := #[]
  cf := some (fileOf pool9 14 #[.nestMembers #[390, 221]] #[{ accessFlags := 0, nameIndex := 7, descriptorIndex := 8, attributes := #[] }, { accessFlags := 9, nameIndex := 90, descriptorIndex := 91, attributes := #[] }, { accessFlags := 9, nameIndex := 101, descriptorIndex := 98, attributes := #[] }, { accessFlags := 10, nameIndex := 97, descriptorIndex := 98, attributes := #[] }] 48 4 #[] #[{ accessFlags := 4120, nameIndex := 121, descriptorIndex := 122, attributes := #[] }])
  fields := #[{ name := "$assertionsDisabled", type := .boolean, accessFlags := 4120, slot := 0, constantValue := 0 }]
  methods := #[k9m0, k9m1, k9m2, k9m3]
  instanceTypes := #[]
  staticTypes := #[.boolean]
  resolved := Array.replicate 395 none
  statics := none }

def pool10 : Array CpInfo := pool [(1, .class_ 2), (0, u "java/lang/Math"), (1, .class_ 6), (1, u "java/lang/Object"), (0, u "<init>"), (0, u "()V"), (89, .class_ 100), (1, u "java/lang/Math$RandomNumberGeneratorHolder"), (71, u "negativeZeroFloatBits"), (0, u "J"), (2, u "negativeZeroDoubleBits"), (21, u "max"), (2, u "min"), (43, u "$assertionsDisabled"), (0, u "Z"), (88, u "(II)I"), (2, u "twoToTheDoubleScaleDown"), (0, u "D"), (4, u "twoToTheDoubleScaleUp"), (9, u "E"), (3, u "PI"), (2, u "TAU"), (2, u "DEGREES_TO_RADIANS"), (0, u "RADIANS_TO_DEGREES")] 94

def k10m0 : Method := { name := "<init>", desc := "()V", sig := { parameters := [], returnType := none }, accessFlags := 2, code := none }
def k10c1 : Code := { maxStack := 2, maxLocals := 2, code := jdk_29_method_65_code, exceptionTable := #[], attributes := #[] }
def k10m1 : Method := { name := "max", desc := "(II)I", sig := { parameters := [.int, .int], returnType := some .int }, accessFlags := 9, code := some k10c1 }
def k10c2 : Code := { maxStack := 2, maxLocals := 2, code := jdk_29_method_69_code, exceptionTable := #[], attributes := #[] }
def k10m2 : Method := { name := "min", desc := "(II)I", sig := { parameters := [.int, .int], returnType := some .int }, accessFlags := 9, code := some k10c2 }
/-- java/lang/Math -/
def k10 : Class := { plain "java/lang/Math" (some 0) with
  accessFlags := 49
  interfaces := #[]
  cf := some (fileOf pool10 1 #[.nestMembers #[98]] #[{ accessFlags := 2, nameIndex := 7, descriptorIndex := 8, attributes := #[] }, { accessFlags := 9, nameIndex := 198, descriptorIndex := 335, attributes := #[] }, { accessFlags := 9, nameIndex := 201, descriptorIndex := 335, attributes := #[] }] 49 4 #[] #[{ accessFlags := 25, nameIndex := 354, descriptorIndex := 339, attributes := #[] }, { accessFlags := 25, nameIndex := 358, descriptorIndex := 339, attributes := #[] }, { accessFlags := 25, nameIndex := 361, descriptorIndex := 339, attributes := #[] }, { accessFlags := 26, nameIndex := 364, descriptorIndex := 339, attributes := #[] }, { accessFlags := 26, nameIndex := 365, descriptorIndex := 339, attributes := #[] }, { accessFlags := 26, nameIndex := 172, descriptorIndex := 173, attributes := #[] }, { accessFlags := 26, nameIndex := 176, descriptorIndex := 173, attributes := #[] }, { accessFlags := 8, nameIndex := 344, descriptorIndex := 339, attributes := #[] }, { accessFlags := 8, nameIndex := 338, descriptorIndex := 339, attributes := #[] }, { accessFlags := 4120, nameIndex := 245, descriptorIndex := 246, attributes := #[] }])
  fields := #[{ name := "E", type := .double, accessFlags := 25, slot := 0, constantValue := 0 }, { name := "PI", type := .double, accessFlags := 25, slot := 1, constantValue := 0 }, { name := "TAU", type := .double, accessFlags := 25, slot := 2, constantValue := 0 }, { name := "DEGREES_TO_RADIANS", type := .double, accessFlags := 26, slot := 3, constantValue := 0 }, { name := "RADIANS_TO_DEGREES", type := .double, accessFlags := 26, slot := 4, constantValue := 0 }, { name := "negativeZeroFloatBits", type := .long, accessFlags := 26, slot := 5, constantValue := 0 }, { name := "negativeZeroDoubleBits", type := .long, accessFlags := 26, slot := 6, constantValue := 0 }, { name := "twoToTheDoubleScaleUp", type := .double, accessFlags := 8, slot := 7, constantValue := 0 }, { name := "twoToTheDoubleScaleDown", type := .double, accessFlags := 8, slot := 8, constantValue := 0 }, { name := "$assertionsDisabled", type := .boolean, accessFlags := 4120, slot := 9, constantValue := 0 }]
  methods := #[k10m0, k10m1, k10m2]
  instanceTypes := #[]
  staticTypes := #[.double, .double, .double, .double, .double, .long, .long, .double, .double, .boolean]
  resolved := Array.replicate 460 none
  statics := none }

def pool11 : Array CpInfo := pool [(2, .class_ 4), (1, u "java/lang/Object"), (0, u "<init>"), (0, u "()V"), (17, .class_ 26), (1, u "jdk/internal/util/Preconditions"), (28, .class_ 56), (0, u "jdk/internal/util/Preconditions$4"), (57, .class_ 115), (0, u "jdk/internal/util/Preconditions$1"), (7, u "SIOOBE_FORMATTER"), (0, u "Ljava/util/function/BiFunction;"), (0, .class_ 126), (0, u "jdk/internal/util/Preconditions$2"), (3, u "AIOOBE_FORMATTER"), (0, .class_ 132), (0, u "jdk/internal/util/Preconditions$3"), (3, u "IOOBE_FORMATTER")] 57

def k11m0 : Method := { name := "<init>", desc := "()V", sig := { parameters := [], returnType := none }, accessFlags := 1, code := none }
/-- jdk/internal/util/Preconditions -/
def k11 : Class := { plain "jdk/internal/util/Preconditions" (some 0) with
  accessFlags := 33
  interfaces := #[]
  cf := some (fileOf pool11 24 #[.nestMembers #[55, 131, 125, 114]] #[{ accessFlags := 1, nameIndex := 5, descriptorIndex := 6, attributes := #[] }] 33 2 #[] #[{ accessFlags := 25, nameIndex := 123, descriptorIndex := 124, attributes := #[] }, { accessFlags := 25, nameIndex := 130, descriptorIndex := 124, attributes := #[] }, { accessFlags := 25, nameIndex := 136, descriptorIndex := 124, attributes := #[] }])
  fields := #[{ name := "SIOOBE_FORMATTER", type := (.object "java/util/function/BiFunction"), accessFlags := 25, slot := 0, constantValue := 0 }, { name := "AIOOBE_FORMATTER", type := (.object "java/util/function/BiFunction"), accessFlags := 25, slot := 1, constantValue := 0 }, { name := "IOOBE_FORMATTER", type := (.object "java/util/function/BiFunction"), accessFlags := 25, slot := 2, constantValue := 0 }]
  methods := #[k11m0]
  instanceTypes := #[]
  staticTypes := #[(.object "java/util/function/BiFunction"), (.object "java/util/function/BiFunction"), (.object "java/util/function/BiFunction")]
  resolved := Array.replicate 194 none
  statics := some 1 }

def pool12 : Array CpInfo := pool [(9, u "<init>"), (6, .class_ 18), (1, u "java/lang/Object"), (0, u "()V"), (1, .class_ 23), (1, u "jdk/internal/util/ArraysSupport"), (0, u "LOG2_ARRAY_LONG_INDEX_SCALE"), (0, u "I"), (2, u "U"), (0, u "Ljdk/internal/misc/Unsafe;"), (8, u "BIG_ENDIAN"), (0, u "Z"), (8, u "LOG2_BYTE_BIT_SIZE"), (4, u "LOG2_ARRAY_INT_INDEX_SCALE"), (54, u "JLA"), (0, u "Ljdk/internal/access/JavaLangAccess;"), (11, u "LOG2_ARRAY_BOOLEAN_INDEX_SCALE"), (9, u "LOG2_ARRAY_BYTE_INDEX_SCALE"), (5, u "LOG2_ARRAY_CHAR_INDEX_SCALE"), (5, u "LOG2_ARRAY_SHORT_INDEX_SCALE"), (18, u "LOG2_ARRAY_FLOAT_INDEX_SCALE"), (24, u "LOG2_ARRAY_DOUBLE_INDEX_SCALE"), (89, u "T_BOOLEAN"), (2, u "T_CHAR"), (1, u "T_FLOAT"), (1, u "T_DOUBLE"), (1, u "T_BYTE"), (1, u "T_SHORT"), (1, u "T_INT"), (1, u "T_LONG"), (1, u "SOFT_MAX_ARRAY_LENGTH")] 83

def k12m0 : Method := { name := "<init>", desc := "()V", sig := { parameters := [], returnType := none }, accessFlags := 2, code := none }
/-- jdk/internal/util/ArraysSupport -/
def k12 : Class := { plain "jdk/internal/util/ArraysSupport" (some 0) with
  accessFlags := 33
  interfaces := #[]
  cf := some (fileOf pool12 21 #[] #[{ accessFlags := 2, nameIndex := 9, descriptorIndex := 19, attributes := #[] }] 33 16 #[] #[{ accessFlags := 24, nameIndex := 28, descriptorIndex := 29, attributes := #[] }, { accessFlags := 26, nameIndex := 38, descriptorIndex := 39, attributes := #[] }, { accessFlags := 25, nameIndex := 121, descriptorIndex := 25, attributes := #[] }, { accessFlags := 25, nameIndex := 131, descriptorIndex := 25, attributes := #[] }, { accessFlags := 25, nameIndex := 137, descriptorIndex := 25, attributes := #[] }, { accessFlags := 25, nameIndex := 143, descriptorIndex := 25, attributes := #[] }, { accessFlags := 25, nameIndex := 53, descriptorIndex := 25, attributes := #[] }, { accessFlags := 25, nameIndex := 24, descriptorIndex := 25, attributes := #[] }, { accessFlags := 25, nameIndex := 162, descriptorIndex := 25, attributes := #[] }, { accessFlags := 25, nameIndex := 187, descriptorIndex := 25, attributes := #[] }, { accessFlags := 26, nameIndex := 48, descriptorIndex := 25, attributes := #[] }, { accessFlags := 25, nameIndex := 277, descriptorIndex := 25, attributes := #[] }, { accessFlags := 25, nameIndex := 280, descriptorIndex := 25, attributes := #[] }, { accessFlags := 25, nameIndex := 282, descriptorIndex := 25, attributes := #[] }, { accessFlags := 25, nameIndex := 284, descriptorIndex := 25, attributes := #[] }, { accessFlags := 25, nameIndex := 286, descriptorIndex := 25, attributes := #[] }, { accessFlags := 25, nameIndex := 288, descriptorIndex := 25, attributes := #[] }, { accessFlags := 25, nameIndex := 290, descriptorIndex := 25, attributes := #[] }, { accessFlags := 25, nameIndex := 292, descriptorIndex := 25, attributes := #[] }, { accessFlags := 26, nameIndex := 108, descriptorIndex := 109, attributes := #[] }, { accessFlags := 25, nameIndex := 294, descriptorIndex := 25, attributes := #[] }])
  fields := #[{ name := "U", type := (.object "jdk/internal/misc/Unsafe"), accessFlags := 24, slot := 0, constantValue := 0 }, { name := "BIG_ENDIAN", type := .boolean, accessFlags := 26, slot := 1, constantValue := 0 }, { name := "LOG2_ARRAY_BOOLEAN_INDEX_SCALE", type := .int, accessFlags := 25, slot := 2, constantValue := 0 }, { name := "LOG2_ARRAY_BYTE_INDEX_SCALE", type := .int, accessFlags := 25, slot := 3, constantValue := 0 }, { name := "LOG2_ARRAY_CHAR_INDEX_SCALE", type := .int, accessFlags := 25, slot := 4, constantValue := 0 }, { name := "LOG2_ARRAY_SHORT_INDEX_SCALE", type := .int, accessFlags := 25, slot := 5, constantValue := 0 }, { name := "LOG2_ARRAY_INT_INDEX_SCALE", type := .int, accessFlags := 25, slot := 6, constantValue := 0 }, { name := "LOG2_ARRAY_LONG_INDEX_SCALE", type := .int, accessFlags := 25, slot := 7, constantValue := 0 }, { name := "LOG2_ARRAY_FLOAT_INDEX_SCALE", type := .int, accessFlags := 25, slot := 8, constantValue := 0 }, { name := "LOG2_ARRAY_DOUBLE_INDEX_SCALE", type := .int, accessFlags := 25, slot := 9, constantValue := 0 }, { name := "LOG2_BYTE_BIT_SIZE", type := .int, accessFlags := 26, slot := 10, constantValue := 0 }, { name := "T_BOOLEAN", type := .int, accessFlags := 25, slot := 11, constantValue := 0 }, { name := "T_CHAR", type := .int, accessFlags := 25, slot := 12, constantValue := 0 }, { name := "T_FLOAT", type := .int, accessFlags := 25, slot := 13, constantValue := 0 }, { name := "T_DOUBLE", type := .int, accessFlags := 25, slot := 14, constantValue := 0 }, { name := "T_BYTE", type := .int, accessFlags := 25, slot := 15, constantValue := 0 }, { name := "T_SHORT", type := .int, accessFlags := 25, slot := 16, constantValue := 0 }, { name := "T_INT", type := .int, accessFlags := 25, slot := 17, constantValue := 0 }, { name := "T_LONG", type := .int, accessFlags := 25, slot := 18, constantValue := 0 }, { name := "JLA", type := (.object "jdk/internal/access/JavaLangAccess"), accessFlags := 26, slot := 19, constantValue := 0 }, { name := "SOFT_MAX_ARRAY_LENGTH", type := .int, accessFlags := 25, slot := 20, constantValue := 0 }]
  methods := #[k12m0]
  instanceTypes := #[]
  staticTypes := #[(.object "jdk/internal/misc/Unsafe"), .boolean, .int, .int, .int, .int, .int, .int, .int, .int, .int, .int, .int, .int, .int, .int, .int, .int, .int, (.object "jdk/internal/access/JavaLangAccess"), .int]
  resolved := Array.replicate 378 none
  statics := none }

def pool13 : Array CpInfo := pool [(1, u "java/lang/Cloneable"), (0, .class_ 1), (0, u "java/lang/Object"), (0, .class_ 3)] 3

/-- java/lang/Cloneable -/
def k13 : Class := { plain "java/lang/Cloneable" (some 0) with
  accessFlags := 1537
  interfaces := #[]
  cf := some (fileOf pool13 2 #[] #[] 1537 4 #[] #[])
  fields := #[]
  methods := #[]
  instanceTypes := #[]
  staticTypes := #[]
  resolved := Array.replicate 8 none
  statics := none }

/-- the primitive byte -/
def k14 : Class := { plain "byte" none with kind := .primitive 'B', accessFlags := 0x411 }
/-- [B -/
def k15 : Class := { plain "[B" (some 0) with kind := .array 14 .byte, interfaces := #[13, 3], accessFlags := 1041 }

/-- the primitive int -/
def k16 : Class := { plain "int" none with kind := .primitive 'I', accessFlags := 0x411 }
/-- [I -/
def k17 : Class := { plain "[I" (some 0) with kind := .array 16 .int, interfaces := #[13, 3], accessFlags := 1041 }

def heap : Heap := #[{ cls := 8, slots := #[.long 0, .int 1, .null, .int 0, .null, .int 0, .int 0], vm := .statics 8 },
  { cls := 11, slots := #[.null, .null, .null], vm := .statics 11 }]
def classes : Array Class := #[k0, k1, k2, k3, k4, k5, k6, k7, k8, k9, k10, k11, k12, k13, k14, k15, k16, k17]
def interned : List (Array UInt16 × Addr) := []
def slotsUsed : Nat := 10
def theMethod : MethodId := ⟨1, 2⟩
def args0 : Array Value := #[.int 5]
def aboutOver (below : List Frame) : State where
  vm := { classes := classes, interned := interned.toArray }
  heap := heap
  slotsUsed := slotsUsed
  threads := #[{ frames := .invoking theMethod args0 :: below }]
def below0 : List Frame := [.native { method := ⟨0, 0⟩, args := #[] }]
def about1 : State := aboutOver below0
def p0 : Program := .bare "" "" ""
def e0 : Env := launch0.env 0 0 0
theorem w_frames : about1.frames = Frame.invoking theMethod args0 :: below0 := rfl
set_option maxRecDepth 65536 in
theorem w_args : argsFit about1.vm theMethod args0 = true := by decide +kernel
set_option maxRecDepth 65536 in
theorem w_heap : heapFits about1 = true := by decide +kernel
set_option maxRecDepth 65536 in
theorem w_runnable : about1.curStatus? = some .runnable := by decide +kernel
set_option maxRecDepth 65536 in
theorem w_alone : about1.alone = true := by decide +kernel
set_option maxRecDepth 65536 in
theorem w_named : about1.methodNamed? x = some theMethod := by decide +kernel
set_option maxRecDepth 65536 in
theorem w_hears : about1.hears theMethod below0 = true := by decide +kernel
set_option maxRecDepth 65536 in
theorem w_ripe : about1.ripe theMethod args0 below0 = true := by decide +kernel
theorem w_running : about1.status = .running := rfl
set_option maxRecDepth 65536 in
theorem w_room : about1.hasRoom e0.platform room_1 = true :=
  launch0.hasRoom_least _ room_1 (by decide +kernel) (by decide +kernel) (by decide +kernel) (by decide +kernel) (by decide +kernel) (by decide +kernel)
theorem allAtoms_all (ts : List Jvm.Cond) (a : Array Jvm.Value) (st : Jvm.State) : (allAtoms ts).before a st = ts.all (fun c => c.before a st) := by
  induction ts with
  | nil => rfl
  | cons c t ih =>
    show (Jvm.Cond.and c (allAtoms t)).before a st = _
    rw [Jvm.Cond.before_and, ih, List.all_cons]
def words1 : List Jvm.Cond := Jvm.Cond.code x code maxLocals ret :: tables_1
/-- a 'code' word, met by the world's own term for the bytes: nothing is compared byte by byte -/
theorem code_word {y : MethodName} {bytes : ByteArray} {mx : Nat} {rt : Option FieldType} {a : Array Value} {s : State} {m : MethodId} {meth : Method} {c : Code} (h1 : s.methodNamed? y = some m) (h2 : s.vm.method? m = some meth) (h3 : meth.code = some c) (h4 : c.code = bytes)
    (h5 : (c.maxLocals == mx && c.exceptionTable.isEmpty && decide (c.maxStack ≤ mostOperands) && decide (meth.sig.returnType = rt) && !meth.locks && decide (parseMethodDescriptor y.desc = some meth.sig)) = true) : (Jvm.Cond.code y bytes mx rt).before a s = true := by
  simp only [Bool.and_eq_true, beq_iff_eq, Bool.not_eq_true', decide_eq_true_eq] at h5
  obtain ⟨⟨⟨⟨⟨g1, g2⟩, g3⟩, g4⟩, g5⟩, g6⟩ := h5
  simp [Cond.before, Cond.holds, Cond.value, h1, h2, h3, h4, g1, g2, g3, g4, g5, g6]
def isCode : Jvm.Cond → Bool
  | .code _ _ _ _ => true
  | _ => false
theorem all_split {L : List Jvm.Cond} {P : Jvm.Cond → Bool} (h1 : L.all (fun c => isCode c || P c) = true) (h2 : ∀ c ∈ L.filter isCode, P c = true) : L.all P = true := by
  refine List.all_eq_true.mpr fun c hc => ?_
  have h := List.all_eq_true.mp h1 c hc
  rcases Bool.eq_false_or_eq_true (isCode c) with hi | hi
  · exact h2 c (List.mem_filter.mpr ⟨hc, hi⟩)
  · simpa [hi] using h
set_option maxRecDepth 65536 in
theorem w_c0 : (Jvm.Cond.code x code maxLocals ret).before args0 about1 = true := code_word (m := ⟨1, 2⟩) (meth := k1m2) (c := k1c2) (by decide +kernel) rfl rfl rfl (by decide +kernel)
set_option maxRecDepth 65536 in
theorem w_c1 : (Jvm.Cond.code ({ cls := "com/example/vouchgate/vouchgate/core/UrlPath", name := "isPathCharacter", desc := "(C)Z" } : Jvm.MethodName) prog_32_method_6_code (1 : Nat) (Option.some Jvm.ClassFile.FieldType.boolean)).before args0 about1 = true := code_word (m := ⟨2, 1⟩) (meth := k2m1) (c := k2c1) (by decide +kernel) rfl rfl rfl (by decide +kernel)
set_option maxRecDepth 65536 in
theorem w_c2 : (Jvm.Cond.code ({ cls := "com/example/vouchgate/vouchgate/core/UrlPath", name := "isSegmentCharacter", desc := "(C)Z" } : Jvm.MethodName) prog_32_method_7_code (1 : Nat) (Option.some Jvm.ClassFile.FieldType.boolean)).before args0 about1 = true := code_word (m := ⟨2, 2⟩) (meth := k2m2) (c := k2c2) (by decide +kernel) rfl rfl rfl (by decide +kernel)
set_option maxRecDepth 65536 in
theorem w_c3 : (Jvm.Cond.code ({ cls := "java/lang/String", name := "indexOf", desc := "(I)I" } : Jvm.MethodName) jdk_42_method_79_code (2 : Nat) (Option.some Jvm.ClassFile.FieldType.int)).before args0 about1 = true := code_word (m := ⟨8, 2⟩) (meth := k8m2) (c := k8c2) (by decide +kernel) rfl rfl rfl (by decide +kernel)
set_option maxRecDepth 65536 in
theorem w_c4 : (Jvm.Cond.code ({ cls := "java/lang/String", name := "indexOf", desc := "(II)I" } : Jvm.MethodName) jdk_42_method_80_code (3 : Nat) (Option.some Jvm.ClassFile.FieldType.int)).before args0 about1 = true := code_word (m := ⟨8, 3⟩) (meth := k8m3) (c := k8c3) (by decide +kernel) rfl rfl rfl (by decide +kernel)
set_option maxRecDepth 65536 in
theorem w_c5 : (Jvm.Cond.code ({ cls := "java/lang/String", name := "isLatin1", desc := "()Z" } : Jvm.MethodName) jdk_42_method_154_code (1 : Nat) (Option.some Jvm.ClassFile.FieldType.boolean)).before args0 about1 = true := code_word (m := ⟨8, 5⟩) (meth := k8m5) (c := k8c5) (by decide +kernel) rfl rfl rfl (by decide +kernel)
set_option maxRecDepth 65536 in
theorem w_c6 : (Jvm.Cond.code ({ cls := "java/lang/String", name := "length", desc := "()I" } : Jvm.MethodName) jdk_42_method_54_code (1 : Nat) (Option.some Jvm.ClassFile.FieldType.int)).before args0 about1 = true := code_word (m := ⟨8, 1⟩) (meth := k8m1) (c := k8c1) (by decide +kernel) rfl rfl rfl (by decide +kernel)
set_option maxRecDepth 65536 in
theorem w_c7 : (Jvm.Cond.code ({ cls := "java/lang/String", name := "coder", desc := "()B" } : Jvm.MethodName) jdk_42_method_152_code (1 : Nat) (Option.some Jvm.ClassFile.FieldType.byte)).before args0 about1 = true := code_word (m := ⟨8, 4⟩) (meth := k8m4) (c := k8c4) (by decide +kernel) rfl rfl rfl (by decide +kernel)
set_option maxRecDepth 65536 in
theorem w_c8 : (Jvm.Cond.code ({ cls := "java/lang/StringLatin1", name := "indexOf", desc := "([BIII)I" } : Jvm.MethodName) jdk_43_method_22_code (4 : Nat) (Option.some Jvm.ClassFile.FieldType.int)).before args0 about1 = true := code_word (m := ⟨9, 2⟩) (meth := k9m2) (c := k9c2) (by decide +kernel) rfl rfl rfl (by decide +kernel)
set_option maxRecDepth 65536 in
theorem w_c9 : (Jvm.Cond.code ({ cls := "java/lang/StringLatin1", name := "canEncode", desc := "(I)Z" } : Jvm.MethodName) jdk_43_method_4_code (1 : Nat) (Option.some Jvm.ClassFile.FieldType.boolean)).before args0 about1 = true := code_word (m := ⟨9, 1⟩) (meth := k9m1) (c := k9c1) (by decide +kernel) rfl rfl rfl (by decide +kernel)
set_option maxRecDepth 65536 in
theorem w_c10 : (Jvm.Cond.code ({ cls := "java/lang/Math", name := "max", desc := "(II)I" } : Jvm.MethodName) jdk_29_method_65_code (2 : Nat) (Option.some Jvm.ClassFile.FieldType.int)).before args0 about1 = true := code_word (m := ⟨10, 1⟩) (meth := k10m1) (c := k10c1) (by decide +kernel) rfl rfl rfl (by decide +kernel)
set_option maxRecDepth 65536 in
theorem w_c11 : (Jvm.Cond.code ({ cls := "java/lang/Math", name := "min", desc := "(II)I" } : Jvm.MethodName) jdk_29_method_69_code (2 : Nat) (Option.some Jvm.ClassFile.FieldType.int)).before args0 about1 = true := code_word (m := ⟨10, 2⟩) (meth := k10m2) (c := k10c2) (by decide +kernel) rfl rfl rfl (by decide +kernel)
set_option maxRecDepth 65536 in
theorem w_c12 : (Jvm.Cond.code ({ cls := "java/lang/StringLatin1", name := "indexOfChar", desc := "([BIII)I" } : Jvm.MethodName) jdk_43_method_23_code (6 : Nat) (Option.some Jvm.ClassFile.FieldType.int)).before args0 about1 = true := code_word (m := ⟨9, 3⟩) (meth := k9m3) (c := k9c3) (by decide +kernel) rfl rfl rfl (by decide +kernel)
set_option maxRecDepth 65536 in
theorem w_c13 : (Jvm.Cond.code ({ cls := "com/example/vouchgate/vouchgate/core/UrlPathIsPathCharacterPinLaw", name := "expected", desc := "(C)Z" } : Jvm.MethodName) method_2_code (1 : Nat) (Option.some Jvm.ClassFile.FieldType.boolean)).before args0 about1 = true := code_word (m := ⟨1, 1⟩) (meth := k1m1) (c := k1c1) (by decide +kernel) rfl rfl rfl (by decide +kernel)
def codes1 : List Jvm.Cond := [Jvm.Cond.code x code maxLocals ret, Jvm.Cond.code ({ cls := "com/example/vouchgate/vouchgate/core/UrlPath", name := "isPathCharacter", desc := "(C)Z" } : Jvm.MethodName) prog_32_method_6_code (1 : Nat) (Option.some Jvm.ClassFile.FieldType.boolean), Jvm.Cond.code ({ cls := "com/example/vouchgate/vouchgate/core/UrlPath", name := "isSegmentCharacter", desc := "(C)Z" } : Jvm.MethodName) prog_32_method_7_code (1 : Nat) (Option.some Jvm.ClassFile.FieldType.boolean), Jvm.Cond.code ({ cls := "java/lang/String", name := "indexOf", desc := "(I)I" } : Jvm.MethodName) jdk_42_method_79_code (2 : Nat) (Option.some Jvm.ClassFile.FieldType.int), Jvm.Cond.code ({ cls := "java/lang/String", name := "indexOf", desc := "(II)I" } : Jvm.MethodName) jdk_42_method_80_code (3 : Nat) (Option.some Jvm.ClassFile.FieldType.int), Jvm.Cond.code ({ cls := "java/lang/String", name := "isLatin1", desc := "()Z" } : Jvm.MethodName) jdk_42_method_154_code (1 : Nat) (Option.some Jvm.ClassFile.FieldType.boolean), Jvm.Cond.code ({ cls := "java/lang/String", name := "length", desc := "()I" } : Jvm.MethodName) jdk_42_method_54_code (1 : Nat) (Option.some Jvm.ClassFile.FieldType.int), Jvm.Cond.code ({ cls := "java/lang/String", name := "coder", desc := "()B" } : Jvm.MethodName) jdk_42_method_152_code (1 : Nat) (Option.some Jvm.ClassFile.FieldType.byte), Jvm.Cond.code ({ cls := "java/lang/StringLatin1", name := "indexOf", desc := "([BIII)I" } : Jvm.MethodName) jdk_43_method_22_code (4 : Nat) (Option.some Jvm.ClassFile.FieldType.int), Jvm.Cond.code ({ cls := "java/lang/StringLatin1", name := "canEncode", desc := "(I)Z" } : Jvm.MethodName) jdk_43_method_4_code (1 : Nat) (Option.some Jvm.ClassFile.FieldType.boolean), Jvm.Cond.code ({ cls := "java/lang/Math", name := "max", desc := "(II)I" } : Jvm.MethodName) jdk_29_method_65_code (2 : Nat) (Option.some Jvm.ClassFile.FieldType.int), Jvm.Cond.code ({ cls := "java/lang/Math", name := "min", desc := "(II)I" } : Jvm.MethodName) jdk_29_method_69_code (2 : Nat) (Option.some Jvm.ClassFile.FieldType.int), Jvm.Cond.code ({ cls := "java/lang/StringLatin1", name := "indexOfChar", desc := "([BIII)I" } : Jvm.MethodName) jdk_43_method_23_code (6 : Nat) (Option.some Jvm.ClassFile.FieldType.int), Jvm.Cond.code ({ cls := "com/example/vouchgate/vouchgate/core/UrlPathIsPathCharacterPinLaw", name := "expected", desc := "(C)Z" } : Jvm.MethodName) method_2_code (1 : Nat) (Option.some Jvm.ClassFile.FieldType.boolean)]
set_option maxRecDepth 65536 in
theorem codes_eq : words1.filter isCode = codes1 := rfl
theorem w_codes : ∀ c ∈ words1.filter isCode, c.before args0 about1 = true := by
  rw [codes_eq]
  intro c hc
  simp only [codes1, List.mem_cons, List.not_mem_nil, or_false] at hc
  rcases hc with rfl | rfl | rfl | rfl | rfl | rfl | rfl | rfl | rfl | rfl | rfl | rfl | rfl | rfl
  · exact w_c0
  · exact w_c1
  · exact w_c2
  · exact w_c3
  · exact w_c4
  · exact w_c5
  · exact w_c6
  · exact w_c7
  · exact w_c8
  · exact w_c9
  · exact w_c10
  · exact w_c11
  · exact w_c12
  · exact w_c13
set_option maxRecDepth 65536 in
theorem w_t1 : (words1.take 24).all (fun c => isCode c || c.before args0 about1) = true := by decide +kernel
set_option maxRecDepth 65536 in
theorem w_t2 : ((words1.drop 24).take 24).all (fun c => isCode c || c.before args0 about1) = true := by decide +kernel
set_option maxRecDepth 65536 in
theorem w_t3 : ((words1.drop 24).drop 24).all (fun c => isCode c || c.before args0 about1) = true := by decide +kernel
theorem w_tables : (allAtoms (Jvm.Cond.code x code maxLocals ret :: tables_1)).before args0 about1 = true := by
  rw [allAtoms_all]
  show words1.all (fun c => c.before args0 about1) = true
  refine all_split ?_ w_codes
  rw [← List.take_append_drop 24 words1, List.all_append, w_t1, ← List.take_append_drop 24 (words1.drop 24), List.all_append, w_t2, w_t3]
  rfl
set_option maxRecDepth 65536 in
theorem w_rest : rest_1_c.before args0 about1 = true := by decide +kernel
set_option maxRecDepth 65536 in
theorem w_case : (Jvm.Cond.and given_1 narrow_1).before args0 about1 = true := by decide +kernel
set_option maxRecDepth 65536 in
theorem w_consts : constsHeld consts_1 about1 := Jvm.Lit.constsHeldB_iff.mp (by decide +kernel)
theorem w_applies : (headSpec (Jvm.Cond.code x code maxLocals ret :: tables_1) room_1).applies x e0.platform about1 = true :=
  (Spec.applies_iff w_frames).mpr ⟨w_running, w_runnable, w_alone, w_named, w_hears, w_ripe, w_room, w_tables⟩
theorem atStart : AtStart classFile x code maxLocals ret World_1 tables_1 room_1 Calls_1 rest_1 Pre_1 launch0 p0 e0 about1 theMethod args0 below0 :=
  ⟨lists_1, trivial, launch0.admits_env _ _ _, launch0.least_env, fairChoices_fair.cas, fairChoices_fair.clock, w_frames, w_args, w_heap, w_applies, ⟨w_consts, trivial⟩, w_rest, w_case⟩
end start1
theorem witness_1 : WitnessClaimed_1 := ⟨start1.p0, start1.e0, start1.about1, start1.theMethod, start1.args0, start1.below0, start1.atStart⟩
end Jvm.Pilot.@@N@@
