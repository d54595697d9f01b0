import JvmDerived
import JvmDerived.Pilot.@@N@@Statement
import JvmDerived.Pilot.@@N@@Code
set_option linter.unusedVariables false
set_option linter.unusedSimpArgs false
namespace Jvm.Pilot.@@N@@
open Jvm Jvm.ClassFile Sem Op Lib Jvm.Free Jvm.Stand Jvm.LawKit Jvm.RoadKit Bundle Jvm.Pilot.@@N@@.Jvm.D
theorem own_lt32 {x y : Int32} {i j : Int} (hi : x.toInt = i) (hj : y.toInt = j) (h : i < j) : x < y := by rw [Int32.lt_iff_toInt_lt, hi, hj]; exact h
theorem own_nlt32 {x y : Int32} {i j : Int} (hi : x.toInt = i) (hj : y.toInt = j) (h : ¬ i < j) : ¬ x < y := by rw [Int32.lt_iff_toInt_lt, hi, hj]; exact h
theorem own_eq32 {x y : Int32} {i j : Int} (hi : x.toInt = i) (hj : y.toInt = j) (h : i = j) : x = y := by rw [← Int32.toInt_inj, hi, hj]; exact h
theorem own_neq32 {x y : Int32} {i j : Int} (hi : x.toInt = i) (hj : y.toInt = j) (h : ¬ i = j) : ¬ x = y := by rw [← Int32.toInt_inj, hi, hj]; exact h
theorem own_lt64 {x y : Int64} {i j : Int} (hi : x.toInt = i) (hj : y.toInt = j) (h : i < j) : x < y := by rw [Int64.lt_iff_toInt_lt, hi, hj]; exact h
theorem own_nlt64 {x y : Int64} {i j : Int} (hi : x.toInt = i) (hj : y.toInt = j) (h : ¬ i < j) : ¬ x < y := by rw [Int64.lt_iff_toInt_lt, hi, hj]; exact h
theorem own_eq64 {x y : Int64} {i j : Int} (hi : x.toInt = i) (hj : y.toInt = j) (h : i = j) : x = y := by rw [← Int64.toInt_inj, hi, hj]; exact h
theorem own_neq64 {x y : Int64} {i j : Int} (hi : x.toInt = i) (hj : y.toInt = j) (h : ¬ i = j) : ¬ x = y := by rw [← Int64.toInt_inj, hi, hj]; exact h
/-! OWN LAYER 1: the run goes on (own_Go), a method's contract (own_Met), its entry, its returns, its calls. -/
section OwnGo
variable {p : Program} {l : Launch} {e : Env} {R : Room} {s : State} {m : MethodId} {args : Array Value} {below : List Frame} {meth : Method} {c : Code} {T : State} {locs : List Loc} {cells slots : Nat} {Z : State} {a0 : Array Value} {h : Heap}
/-- from A the run comes to a state of which G holds -/
def own_Go (p : Program) (e : Env) (below : List Frame) (G : State → Prop) (A : State) : Prop := ∃ t, Steps p.tables e below A t ∧ G t
theorem own_go {G : State → Prop} {A B : State} (h : ∀ t, Steps p.tables e below B t → Steps p.tables e below A t) (k : own_Go p e below G B) : own_Go p e below G A := by
  obtain ⟨t, h1, h2⟩ := k; exact ⟨t, h t h1, h2⟩
/-- the invocation from s has ended by a return: what came back, the heap and the places written are as Q says -/
def own_End (below : List Frame) (s : State) (Q : Option Value → Heap → List Loc → Prop) (C N : Nat) (t : State) : Prop := t.status = .running ∧ ∃ v L, Ended t below (.returned v) ∧ Q v t.heap L ∧ FrameEnd s (.returned v) t L C N
/-- a contract of a method at one heap -/
def own_Met (l : Launch) (Z : State) (ws : List Jvm.Cond) (y : MethodName) (bytes : ByteArray) (maxL : Nat) (ret : Option FieldType) (rm : Room) (as' : Array Value) (h : Heap) (Q : Option Value → Heap → List Loc → Prop) : Prop :=
  MetFree l y (head1 (Jvm.Cond.code y bytes maxL ret :: ws) rm) (fun a U => a = as' ∧ Z.Warmed39 U.vm ∧ U.heap = h) (fun _ _ _ _ _ => True) (fun _ U o U' => ∃ v L, o = .returned v ∧ Q v U'.heap L ∧ FrameEnd U o U' L rm.cells rm.slots)
theorem own_met {ws : List Jvm.Cond} {y : MethodName} {bytes : ByteArray} {maxL : Nat} {ret : Option FieldType} {rm : Room} {as' : Array Value} {Q : Option Value → Heap → List Loc → Prop} (hpf : plainFor y = true)
    (body : ∀ (p : Program) (e : Env) (s : State) (m : MethodId) (below : List Frame) (meth : Method) (c : Code) (s₁ : State), p.tables.exec = Jvm.exec → c.code = bytes → c.maxLocals = maxL → s.vm.findClass y.cls = some m.cls → meth.name = y.name → meth.sig.returnType = ret → meth.locks = false → Z.Warmed39 s.vm →
      Stand p l e rm s m as' below meth c s₁ [] 0 0 → s₁.heap = h → own_Go p e below (own_End below s Q rm.cells rm.slots) (s₁.setTop (entryFrame m as' maxL))) :
    own_Met l Z ws y bytes maxL ret rm as' h Q := by
  refine MetFree.of_bodySF hpf hisR ?_
  intro p e s m args below meth c s₁ Bd hml0 hP hK
  obtain ⟨rfl, hZ, hh⟩ := hP
  obtain ⟨t, h1, h2, v, L, h3, h4, h5⟩ := body p e s m below meth c s₁ Bd.exec Bd.bytes hml0 (findClass_of_methodNamed Bd.named) (name_of_methodNamed Bd.named Bd.method).1 Bd.returns Bd.notSynchronized hZ (Stand.of_body Bd) (by rw [← hh, Bd.state]; rfl)
  exact ⟨t, _, h1, h2, h3, v, L, rfl, h4, h5⟩
theorem own_entry {G : State → Prop} {f g : JFrame} (q : f = g) (k : own_Go p e below G (T.setTop g)) : own_Go p e below G (T.setTop f) := q ▸ k
theorem own_ret (X : Stand p l e R s m args below meth c T locs cells slots) (hx : p.tables.exec = Jvm.exec) (hlk : meth.locks = false) {pc : Nat} {Ls : Array Slot} {w : Value} {t : FieldType} {i : Instr} {rest : List Value} (hret : meth.sig.returnType = some t) (hn : narrow t w = w)
    (hi : (i = .ireturn ∧ (t = .int ∨ t = .boolean ∨ t = .byte ∨ t = .char ∨ t = .short) ∧ ∃ z, w = .int z) ∨ (i = .lreturn ∧ t = .long ∧ ∃ z, w = .long z) ∨ (i = .dreturn ∧ t = .double ∧ ∃ z, w = .double z) ∨ (i = .freturn ∧ t = .float ∧ ∃ z, w = .float z) ∨ (i = .areturn ∧ t.isReference = true ∧ w.isRef = true))
    (hd : decode c.code pc = .ok (i, 1)) {Q : Option Value → Heap → List Loc → Prop} {C N : Nat} (hQ : Q (some w) T.heap locs) (hc : cells ≤ C) (hs : slots ≤ N) : own_Go p e below (own_End below s Q C N) (T.setTop (mkF m pc Ls (w :: rest))) := by
  obtain ⟨fs, hr, hrun, hended, hW, hsame⟩ := X.leave (v := some w) (fun h => by rw [hret] at h; cases h) hlk
  exact ⟨_, retOut X hx hret hn hi hd hr, hrun, _, _, hended, hQ, ⟨_, rfl⟩, hW, hsame.mono hc hs⟩
theorem own_retI (X : Stand p l e R s m args below meth c T locs cells slots) (hx : p.tables.exec = Jvm.exec) (hlk : meth.locks = false) {pc : Nat} {Ls : Array Slot} {z : Int32} {rest : List Value} (hret : meth.sig.returnType = some .int)
    (hd : decode c.code pc = .ok (.ireturn, 1)) {Q : Option Value → Heap → List Loc → Prop} {C N : Nat} (hQ : Q (some (.int z)) T.heap locs) (hc : cells ≤ C) (hs : slots ≤ N) : own_Go p e below (own_End below s Q C N) (T.setTop (mkF m pc Ls (.int z :: rest))) :=
  own_ret X hx hlk hret rfl (Or.inl ⟨rfl, Or.inl rfl, z, rfl⟩) hd hQ hc hs
theorem own_retZ (X : Stand p l e R s m args below meth c T locs cells slots) (hx : p.tables.exec = Jvm.exec) (hlk : meth.locks = false) {pc : Nat} {Ls : Array Slot} {z : Int32} {rest : List Value} (hret : meth.sig.returnType = some .boolean) (hz : z &&& 1 = z)
    (hd : decode c.code pc = .ok (.ireturn, 1)) {Q : Option Value → Heap → List Loc → Prop} {C N : Nat} (hQ : Q (some (.int z)) T.heap locs) (hc : cells ≤ C) (hs : slots ≤ N) : own_Go p e below (own_End below s Q C N) (T.setTop (mkF m pc Ls (.int z :: rest))) :=
  own_ret X hx hlk hret (by show Value.int (z &&& 1) = _; rw [hz]) (Or.inl ⟨rfl, Or.inr (Or.inl rfl), z, rfl⟩) hd hQ hc hs
theorem own_retJ (X : Stand p l e R s m args below meth c T locs cells slots) (hx : p.tables.exec = Jvm.exec) (hlk : meth.locks = false) {pc : Nat} {Ls : Array Slot} {z : Int64} {rest : List Value} (hret : meth.sig.returnType = some .long)
    (hd : decode c.code pc = .ok (.lreturn, 1)) {Q : Option Value → Heap → List Loc → Prop} {C N : Nat} (hQ : Q (some (.long z)) T.heap locs) (hc : cells ≤ C) (hs : slots ≤ N) : own_Go p e below (own_End below s Q C N) (T.setTop (mkF m pc Ls (.long z :: rest))) :=
  own_ret X hx hlk hret rfl (Or.inr (Or.inl ⟨rfl, rfl, z, rfl⟩)) hd hQ hc hs
theorem own_retA (X : Stand p l e R s m args below meth c T locs cells slots) (hx : p.tables.exec = Jvm.exec) (hlk : meth.locks = false) {pc : Nat} {Ls : Array Slot} {a : Addr} {t : FieldType} {rest : List Value} (hret : meth.sig.returnType = some t) (ht : t.isReference = true) (hn : narrow t (.ref a) = .ref a)
    (hd : decode c.code pc = .ok (.areturn, 1)) {Q : Option Value → Heap → List Loc → Prop} {C N : Nat} (hQ : Q (some (.ref a)) T.heap locs) (hc : cells ≤ C) (hs : slots ≤ N) : own_Go p e below (own_End below s Q C N) (T.setTop (mkF m pc Ls (.ref a :: rest))) :=
  own_ret X hx hlk hret hn (Or.inr (Or.inr (Or.inr (Or.inr ⟨rfl, ht, rfl⟩)))) hd hQ hc hs
theorem own_retV (X : Stand p l e R s m args below meth c T locs cells slots) (hx : p.tables.exec = Jvm.exec) (hlk : meth.locks = false) {pc : Nat} {Ls : Array Slot} (hret : meth.sig.returnType = none)
    (hd : decode c.code pc = .ok (.return_, 1)) {Q : Option Value → Heap → List Loc → Prop} {C N : Nat} (hQ : Q none T.heap locs) (hc : cells ≤ C) (hs : slots ≤ N) : own_Go p e below (own_End below s Q C N) (T.setTop (mkF m pc Ls [])) := by
  obtain ⟨fs, hr, hrun, hended, hW, hsame⟩ := X.leave (v := none) (fun _ => rfl) hlk
  exact ⟨_, X.returnOut hx hret hd hr, hrun, _, _, hended, hQ, ⟨_, rfl⟩, hW, hsame.mono hc hs⟩
/-- a static method by its contract -/
theorem own_callS (X : Stand p l e R s m args below meth c T locs cells slots) (hx : p.tables.exec = Jvm.exec) (hZ : Z.Warmed39 s.vm) {own : String} {index : Nat} {y : MethodName} {bytes : ByteArray} {maxL : Nat} {ret : Option FieldType} (hown : s.vm.findClass own = some m.cls)
    (w1 : (Jvm.Cond.methodLink own index y).before a0 Z = true) (w2 : (Jvm.Cond.static y).before a0 Z = true) (w3 : (Jvm.Cond.initialized y.cls).before a0 Z = true) (w4 : (Jvm.Cond.code y bytes maxL ret).before a0 Z = true) (hy : y.cls ≠ "java/lang/invoke/MethodHandle" ∧ y.cls ≠ "java/lang/invoke/VarHandle")
    {rm : Room} {as' : Array Value} {Q : Option Value → Heap → List Loc → Prop} (hM : own_Met l Z [] y bytes maxL ret rm as' h Q) (eT : T.heap = h) {pc : Nat} {Ls : Array Slot} {argsL rest st : List Value} (ha : argsL.toArray = as') (hsz : Ls.size = c.maxLocals)
    {ps : List FieldType} {r : Option FieldType} (hpd : parseMethodDescriptor y.desc = some ⟨ps, r⟩) (hpl : argsL.length = ps.length) (hst : st = argsL.reverse ++ rest) (hd : decode c.code pc = .ok (.invokestatic index, 3)) (W : Nat) (hW : (rest.map fun v => v.category).sum ≤ W)
    (hf : rm.frames + 1 ≤ R.frames) (hl : W + (maxL + 11) + rm.locals ≤ R.locals) (hc : cells + rm.cells ≤ R.cells) (hsl : slots + rm.slots ≤ R.slots) :
    ∃ (v : Option Value) (L : List Loc) (T' : State), Stand p l e R s m args below meth c T' (locs ++ L) (cells + rm.cells) (slots + rm.slots) ∧ Q v T'.heap L ∧ ∀ t, Steps p.tables e below (T'.setTop (mkF m (pc + 3) Ls (v.toList ++ rest))) t → Steps p.tables e below (T.setTop (mkF m pc Ls st)) t := by
  subst ha
  obtain ⟨v, _, ⟨T', L', k', n'⟩, -, X', ⟨L, hQ, l1, y1, z1⟩, st'⟩ := Jvm.LawKit.callS X hx (y := y) hown (mvT hZ w1) (mvT hZ w2) (mvT hZ w3) (mvT hZ w4) hy (backOf (W := W) hM hZ w4 w3 hf hl) (g := mkF m pc Ls st) rfl hsz (argsL := argsL) (rest := rest) (lenOf hpd hpl) hst (by show 2 * 0 + _ ≤ _; omega) hd (fun _ _ => ⟨rfl, eT, hc, hsl⟩)
  dsimp only [Pt.U, Pt.locs, Pt.cells, Pt.slots] at X' l1 y1 z1 st' hQ
  subst l1 y1 z1
  exact ⟨v, L, T', X', hQ, st'⟩
/-- an instance method by its contract, the receiver exactly of the class C -/
theorem own_callV (X : Stand p l e R s m args below meth c T locs cells slots) (hx : p.tables.exec = Jvm.exec) (hZ : Z.Warmed39 s.vm) {own C : String} {index : Nat} {y : MethodName} {bytes : ByteArray} {maxL : Nat} {ret : Option FieldType} (hown : s.vm.findClass own = some m.cls)
    (w1 : (Jvm.Cond.methodLink own index y).before a0 Z = true) (w2 : (Jvm.Cond.declares y).before a0 Z = true) (w3 : (Jvm.Cond.selects C y y).before a0 Z = true) (w4 : (Jvm.Cond.instanceMethod y).before a0 Z = true) (w5 : (Jvm.Cond.code y bytes maxL ret).before a0 Z = true) (w6 : (Jvm.Cond.initialized y.cls).before a0 Z = true)
    (hy : y.cls ≠ "java/lang/invoke/MethodHandle" ∧ y.cls ≠ "java/lang/invoke/VarHandle") {b : Addr} (E : Exa Z h b C)
    {rm : Room} {as' : Array Value} {Q : Option Value → Heap → List Loc → Prop} (hM : own_Met l Z [] y bytes maxL ret rm as' h Q) (eT : T.heap = h) {pc : Nat} {Ls : Array Slot} {argsL rest st : List Value} (ha : (.ref b :: argsL).toArray = as') (hsz : Ls.size = c.maxLocals)
    {ps : List FieldType} {r : Option FieldType} (hpd : parseMethodDescriptor y.desc = some ⟨ps, r⟩) (hpl : argsL.length = ps.length) (hst : st = argsL.reverse ++ .ref b :: rest) (hd : decode c.code pc = .ok (.invokevirtual index, 3)) (W : Nat) (hW : (rest.map fun v => v.category).sum ≤ W)
    (hf : rm.frames + 1 ≤ R.frames) (hl : W + (maxL + 11) + rm.locals ≤ R.locals) (hc : cells + rm.cells ≤ R.cells) (hsl : slots + rm.slots ≤ R.slots) :
    ∃ (v : Option Value) (L : List Loc) (T' : State), Stand p l e R s m args below meth c T' (locs ++ L) (cells + rm.cells) (slots + rm.slots) ∧ Q v T'.heap L ∧ ∀ t, Steps p.tables e below (T'.setTop (mkF m (pc + 3) Ls (v.toList ++ rest))) t → Steps p.tables e below (T.setTop (mkF m pc Ls st)) t := by
  subst ha
  obtain ⟨cq, kq, qa, qb, qc⟩ := isOf hZ eT E
  obtain ⟨v, _, ⟨T', L', k', n'⟩, -, X', ⟨L, hQ, l1, y1, z1⟩, st'⟩ := X.virtualBack hx (y := y) (z := y) hown (mvT hZ w1) (mvT hZ w2) (notFace_of_selects (args := #[]) (mvT hZ w3)) (mvT hZ w3) (mvT hZ w4) hy (backOf (W := W) hM hZ w5 w6 hf hl) qa qc (g := mkF m pc Ls st) rfl hsz (Steps.refl _) (argsL := argsL) (rest := rest) (lenOf hpd hpl) hst (by show 2 * 0 + _ ≤ _; omega) hd (fun _ _ => ⟨rfl, eT, hc, hsl⟩)
  dsimp only [Pt.U, Pt.locs, Pt.cells, Pt.slots] at X' l1 y1 z1 st' hQ
  subst l1 y1 z1
  exact ⟨v, L, T', X', hQ, fun t k => st'.trans k⟩
/-- a constructor by its contract -/
theorem own_callI (X : Stand p l e R s m args below meth c T locs cells slots) (hx : p.tables.exec = Jvm.exec) (hZ : Z.Warmed39 s.vm) {own : String} {index : Nat} {y : MethodName} {bytes : ByteArray} {maxL : Nat} (hyn : y.name = "<init>") (hown : s.vm.findClass own = some m.cls)
    (w1 : (Jvm.Cond.methodLink own index y).before a0 Z = true) (w2 : (Jvm.Cond.instanceMethod y).before a0 Z = true) (w3 : (Jvm.Cond.code y bytes maxL none).before a0 Z = true) (w4 : (Jvm.Cond.initialized y.cls).before a0 Z = true) (hy : y.cls ≠ "java/lang/invoke/MethodHandle" ∧ y.cls ≠ "java/lang/invoke/VarHandle") {b : Addr}
    {rm : Room} {as' : Array Value} {Q : Option Value → Heap → List Loc → Prop} (hM : own_Met l Z [] y bytes maxL none rm as' h Q) (eT : T.heap = h) {pc : Nat} {Ls : Array Slot} {argsL rest st : List Value} (ha : (.ref b :: argsL).toArray = as') (hsz : Ls.size = c.maxLocals)
    {ps : List FieldType} {r : Option FieldType} (hpd : parseMethodDescriptor y.desc = some ⟨ps, r⟩) (hpl : argsL.length = ps.length) (hst : st = argsL.reverse ++ .ref b :: rest) (hd : decode c.code pc = .ok (.invokespecial index, 3)) (W : Nat) (hW : (rest.map fun v => v.category).sum ≤ W)
    (hf : rm.frames + 1 ≤ R.frames) (hl : W + (maxL + 11) + rm.locals ≤ R.locals) (hc : cells + rm.cells ≤ R.cells) (hsl : slots + rm.slots ≤ R.slots) :
    ∃ (v : Option Value) (L : List Loc) (T' : State), Stand p l e R s m args below meth c T' (locs ++ L) (cells + rm.cells) (slots + rm.slots) ∧ Q v T'.heap L ∧ ∀ t, Steps p.tables e below (T'.setTop (mkF m (pc + 3) Ls (v.toList ++ rest))) t → Steps p.tables e below (T.setTop (mkF m pc Ls st)) t := by
  subst ha
  obtain ⟨v, _, ⟨T', L', k', n'⟩, -, X', ⟨L, hQ, l1, y1, z1⟩, st'⟩ := X.specialBack hx (y := y) hyn hown (mvT hZ w1) (mvT hZ w2) (mvT hZ w3) hy (backOf (W := W) hM hZ w3 w4 hf hl) (g := mkF m pc Ls st) rfl hsz (Steps.refl _) (a := b) (argsL := argsL) (rest := rest) (lenOf hpd hpl) hst (by show 2 * 0 + _ ≤ _; omega) hd (fun _ _ => ⟨rfl, eT, hc, hsl⟩)
  dsimp only [Pt.U, Pt.locs, Pt.cells, Pt.slots] at X' l1 y1 z1 st' hQ
  subst l1 y1 z1
  exact ⟨v, L, T', X', hQ, fun t k => st'.trans k⟩
end OwnGo
/-! OWN LAYER 2: private calls, arrays by functions, small stack steps. -/
section OwnAr
variable {p : Program} {l : Launch} {e : Env} {R : Room} {s : State} {m : MethodId} {args : Array Value} {below : List Frame} {meth : Method} {c : Code} {T : State} {locs : List Loc} {cells slots : Nat} {Z : State} {a0 : Array Value} {h h' : Heap}
/-- a private method by its contract -/
theorem own_callP (X : Stand p l e R s m args below meth c T locs cells slots) (hx : p.tables.exec = Jvm.exec) (hZ : Z.Warmed39 s.vm) {own : String} {index kk : Nat} {y : MethodName} {bytes : ByteArray} {maxL : Nat} {ret : Option FieldType} (hown : s.vm.findClass own = some m.cls)
    (w1 : (Jvm.Cond.methodLink own index y).before a0 Z = true) (w2 : (Jvm.Cond.instanceMethod y).before a0 Z = true) (w3 : (Jvm.Cond.privateMethod y).before a0 Z = true) (w4 : (Jvm.Cond.instantiable y.cls kk).before a0 Z = true) (w5 : (Jvm.Cond.code y bytes maxL ret).before a0 Z = true) (w6 : (Jvm.Cond.initialized y.cls).before a0 Z = true)
    (hy : y.cls ≠ "java/lang/invoke/MethodHandle" ∧ y.cls ≠ "java/lang/invoke/VarHandle") {b : Addr} {C : String} (E : Exa Z h b C)
    {rm : Room} {as' : Array Value} {Q : Option Value → Heap → List Loc → Prop} (hM : own_Met l Z [] y bytes maxL ret rm as' h Q) (eT : T.heap = h) {pc : Nat} {Ls : Array Slot} {argsL rest st : List Value} (ha : (.ref b :: argsL).toArray = as') (hsz : Ls.size = c.maxLocals)
    {ps : List FieldType} {r : Option FieldType} (hpd : parseMethodDescriptor y.desc = some ⟨ps, r⟩) (hpl : argsL.length = ps.length) (hst : st = argsL.reverse ++ .ref b :: rest) (hd : decode c.code pc = .ok (.invokevirtual index, 3)) (W : Nat) (hW : (rest.map fun v => v.category).sum ≤ W)
    (hf : rm.frames + 1 ≤ R.frames) (hl : W + (maxL + 11) + rm.locals ≤ R.locals) (hc : cells + rm.cells ≤ R.cells) (hsl : slots + rm.slots ≤ R.slots) :
    ∃ (v : Option Value) (L : List Loc) (T' : State), Stand p l e R s m args below meth c T' (locs ++ L) (cells + rm.cells) (slots + rm.slots) ∧ Q v T'.heap L ∧ ∀ t, Steps p.tables e below (T'.setTop (mkF m (pc + 3) Ls (v.toList ++ rest))) t → Steps p.tables e below (T.setTop (mkF m pc Ls st)) t := by
  subst ha
  obtain ⟨cell, q1, q2⟩ := E.cell
  have hp : s.PrivateAt y := Cond.privateMethod_at (mvP hZ w3 (args := #[]))
  have w4s : (Jvm.Cond.instantiable y.cls kk).before args s = true := mvT hZ w4
  obtain ⟨ci, ki, i1, i2, -, i3, -⟩ := Cond.instantiable_spec w4s
  have hsel : (Jvm.Cond.selects y.cls y y).before args s = true := Jvm.Stand.selects_self_of_private i1 i2 (Bool.or_eq_false_iff.mp i3).1 hp (mvT hZ w2) hy
  obtain ⟨v, _, ⟨T', L', k', n'⟩, -, X', ⟨L, hQ, l1, y1, z1⟩, st'⟩ := X.privateBack hx (y := y) hown (mvT hZ w1) (mvT hZ w2) hsel hp (mvT hZ w5) hy (backOf (W := W) hM hZ w5 w6 hf hl) (g := mkF m pc Ls st) rfl hsz (Steps.refl _) (a := b) (by rw [eT]; exact q1) q2 (argsL := argsL) (rest := rest) (lenOf hpd hpl) hst (by show 2 * 0 + _ ≤ _; omega) hd (fun _ _ => ⟨rfl, eT, hc, hsl⟩)
  dsimp only [Pt.U, Pt.locs, Pt.cells, Pt.slots] at X' l1 y1 z1 st' hQ
  subst l1 y1 z1
  exact ⟨v, L, T', X', hQ, fun t k => st'.trans k⟩
/-- the array at a: of the kind ty, n places, place i holds f i -/
def own_Ar (Z : State) (h : Heap) (a : Addr) (ty : FieldType) (n : Nat) (f : Nat → Value) : Prop := n < 2 ^ 31 ∧ ∃ c : Cell, Arr Z h a c ty ∧ c.slots.size = n ∧ ∀ i, i < n → c.slots[i]? = some (f i)
abbrev own_I (g : Nat → Int32) : Nat → Value := fun i => .int (g i)
abbrev own_J (g : Nat → Int64) : Nat → Value := fun i => .long (g i)
def own_upd {α : Type} (g : Nat → α) (j : Nat) (x : α) : Nat → α := fun i => if i = j then x else g i
theorem own_upd_at {α : Type} (g : Nat → α) (j : Nat) (x : α) : own_upd g j x j = x := if_pos rfl
theorem own_upd_ne {α : Type} (g : Nat → α) {i j : Nat} (x : α) (q : i ≠ j) : own_upd g j x i = g i := if_neg q
theorem own_Ar.congr {a : Addr} {ty : FieldType} {n : Nat} {f f' : Nat → Value} (A : own_Ar Z h a ty n f) (q : ∀ i, i < n → f i = f' i) : own_Ar Z h a ty n f' := by
  obtain ⟨hn, cl, A1, A2, A3⟩ := A; exact ⟨hn, cl, A1, A2, fun i hi => by rw [← q i hi]; exact A3 i hi⟩
theorem own_Ar.ext {a : Addr} {ty : FieldType} {n : Nat} {f : Nat → Value} (A : own_Ar Z h a ty n f) (E : Ext h h') : own_Ar Z h' a ty n f := by
  obtain ⟨hn, cl, A1, A2⟩ := A; exact ⟨hn, cl, A1.ext E, A2⟩
theorem own_Ar.other {a b : Addr} {ty : FieldType} {n sl : Nat} {f : Nat → Value} {v : Value} (A : own_Ar Z h b ty n f) (W : Wr h h' a sl v) (q : b ≠ a) : own_Ar Z h' b ty n f := by
  obtain ⟨hn, cl, A1, A2⟩ := A; exact ⟨hn, cl, A1.other W q, A2⟩
theorem own_Ar.keep {a : Addr} {ty : FieldType} {n : Nat} {f : Nat → Value} {ws : List Addr} (A : own_Ar Z h a ty n f) (K : Keep h h' ws) (q : a ∉ ws) : own_Ar Z h' a ty n f := by
  obtain ⟨hn, cl, A1, A2⟩ := A; exact ⟨hn, cl, ⟨K.2.1 a cl A1.1 q, A1.2⟩, A2⟩
theorem own_Ar.lt {a : Addr} {ty : FieldType} {n : Nat} {f : Nat → Value} (A : own_Ar Z h a ty n f) : a < h.size := by obtain ⟨_, cl, A1, -⟩ := A; exact A1.lt
theorem own_Ar.set {a : Addr} {ty : FieldType} {n i : Nat} {f : Nat → Value} {v : Value} (A : own_Ar Z h a ty n f) (W : Wr h h' a i v) : own_Ar Z h' a ty n (own_upd f i v) := by
  obtain ⟨hn, cl, A1, A2, A3⟩ := A
  refine ⟨hn, _, A1.same W, by rw [sz_set]; exact A2, fun j hj => ?_⟩
  simp only [Cell.setSlot, own_upd]
  by_cases q : j = i
  · subst q; rw [if_pos rfl]; simp [A2, hj]
  · rw [if_neg q, Array.getElem?_setIfInBounds_ne (Ne.symm q)]; exact A3 j hj
theorem own_Ar.setI {a : Addr} {n i : Nat} {g : Nat → Int32} {x : Int32} (A : own_Ar Z h a .int n (own_I g)) (W : Wr h h' a i (.int x)) : own_Ar Z h' a .int n (own_I (own_upd g i x)) := (A.set W).congr fun j _ => by
  show own_upd (own_I g) i (.int x) j = .int (own_upd g i x j)
  unfold own_upd; split <;> rfl
theorem own_Ar.setJ {a : Addr} {n i : Nat} {g : Nat → Int64} {x : Int64} (A : own_Ar Z h a .long n (own_J g)) (W : Wr h h' a i (.long x)) : own_Ar Z h' a .long n (own_J (own_upd g i x)) := (A.set W).congr fun j _ => by
  show own_upd (own_J g) i (.long x) j = .long (own_upd g i x j)
  unfold own_upd; split <;> rfl
theorem own_nat {j : Int32} {i : Nat} (hj : j.toInt = i) : j.toNatClampNeg = i ∧ ¬ j < 0 := by
  constructor
  · simp only [Int32.toNatClampNeg]; omega
  · rw [Int32.lt_iff_toInt_lt, hj]; have : (0 : Int32).toInt = 0 := rfl
    omega
theorem own_in {cl : Cell} {j : Int32} {i n : Nat} (hj : j.toInt = i) (hs : cl.slots.size = n) (hi : i < n) : ¬ (j < 0 ∨ cl.slots.size ≤ j.toNatClampNeg) := by
  obtain ⟨q1, q2⟩ := own_nat hj
  rw [q1]
  exact fun r => r.elim q2 (fun r => by omega)
theorem own_iaload (X : Stand p l e R s m args below meth c T locs cells slots) (hx : p.tables.exec = Jvm.exec) (hZ : Z.Warmed39 s.vm) (eT : T.heap = h) {a : Addr} {n i : Nat} {g : Nat → Int32} (A : own_Ar Z h a .int n (own_I g)) {j : Int32} (hj : j.toInt = i) (hi : i < n) {pc : Nat} {Ls : Array Slot} {rest : List Value}
    (hd : decode c.code pc = .ok (.iaload, 1)) : ∀ t, Steps p.tables e below (T.setTop (mkF m (pc + 1) Ls (.int (g i) :: rest))) t → Steps p.tables e below (T.setTop (mkF m pc Ls (.int j :: .ref a :: rest))) t := by
  obtain ⟨hn, cl, A1, A2, A3⟩ := A
  intro t k
  exact X.iaload hx (j := j) (v := .int (g i)) (by rw [eT]; exact A1.1) (State.isArrayOf_alike hZ.alike A1.2.1) A1.2.2 (own_in hj A2 hi) (by rw [(own_nat hj).1]; exact A3 i hi) (g := mkF m pc Ls (.int j :: .ref a :: rest)) rfl rfl hd _ k
theorem own_laload (X : Stand p l e R s m args below meth c T locs cells slots) (hx : p.tables.exec = Jvm.exec) (hZ : Z.Warmed39 s.vm) (eT : T.heap = h) {a : Addr} {n i : Nat} {g : Nat → Int64} (A : own_Ar Z h a .long n (own_J g)) {j : Int32} (hj : j.toInt = i) (hi : i < n) {pc : Nat} {Ls : Array Slot} {rest : List Value}
    (hd : decode c.code pc = .ok (.laload, 1)) : ∀ t, Steps p.tables e below (T.setTop (mkF m (pc + 1) Ls (.long (g i) :: rest))) t → Steps p.tables e below (T.setTop (mkF m pc Ls (.int j :: .ref a :: rest))) t := by
  obtain ⟨hn, cl, A1, A2, A3⟩ := A
  intro t k
  exact X.laload hx (j := j) (v := .long (g i)) (by rw [eT]; exact A1.1) (State.isArrayOf_alike hZ.alike A1.2.1) A1.2.2 (own_in hj A2 hi) (by rw [(own_nat hj).1]; exact A3 i hi) (g := mkF m pc Ls (.int j :: .ref a :: rest)) rfl rfl hd _ k
theorem own_alen (X : Stand p l e R s m args below meth c T locs cells slots) (hx : p.tables.exec = Jvm.exec) (hZ : Z.Warmed39 s.vm) (eT : T.heap = h) {a : Addr} {ty : FieldType} {n : Nat} {f : Nat → Value} (A : own_Ar Z h a ty n f) {pc : Nat} {Ls : Array Slot} {rest : List Value}
    (hd : decode c.code pc = .ok (.arraylength, 1)) : ∀ t, Steps p.tables e below (T.setTop (mkF m (pc + 1) Ls (.int n.toInt32 :: rest))) t → Steps p.tables e below (T.setTop (mkF m pc Ls (.ref a :: rest))) t := by
  obtain ⟨hn, cl, A1, A2, A3⟩ := A
  intro t k
  exact X.arraylength hx (by rw [eT]; exact A1.1) (State.isArrayOf_alike hZ.alike A1.2.1) (g := mkF m pc Ls (.ref a :: rest)) rfl rfl hd _ (by rw [A2]; exact k)
theorem own_iastore (X : Stand p l e R s m args below meth c T locs cells slots) (hx : p.tables.exec = Jvm.exec) (hZ : Z.Warmed39 s.vm) (eT : T.heap = h) {a : Addr} {n i : Nat} {g : Nat → Int32} (A : own_Ar Z h a .int n (own_I g)) {j x : Int32} (hj : j.toInt = i) (hi : i < n) {pc : Nat} {Ls : Array Slot} {rest : List Value}
    (hd : decode c.code pc = .ok (.iastore, 1)) : ∃ T' h', Stand p l e R s m args below meth c T' (locs ++ [⟨a, i⟩]) cells slots ∧ T'.heap = h' ∧ Wr h h' a i (.int x) ∧ ∀ t, Steps p.tables e below (T'.setTop (mkF m (pc + 1) Ls rest)) t → Steps p.tables e below (T.setTop (mkF m pc Ls (.int x :: .int j :: .ref a :: rest))) t := by
  obtain ⟨hn, cl, A1, A2, A3⟩ := A
  obtain ⟨T', h', X', e', W', st⟩ := stI X hx hZ eT A1 (j := j) (x := x) (own_in hj A2 hi) (g := mkF m pc Ls (.int x :: .int j :: .ref a :: rest)) rfl rfl hd
  rw [(own_nat hj).1] at X' W'
  exact ⟨T', h', X', e', W', st⟩
theorem own_lastore (X : Stand p l e R s m args below meth c T locs cells slots) (hx : p.tables.exec = Jvm.exec) (hZ : Z.Warmed39 s.vm) (eT : T.heap = h) {a : Addr} {n i : Nat} {g : Nat → Int64} (A : own_Ar Z h a .long n (own_J g)) {j : Int32} {x : Int64} (hj : j.toInt = i) (hi : i < n) {pc : Nat} {Ls : Array Slot} {rest : List Value}
    (hd : decode c.code pc = .ok (.lastore, 1)) : ∃ T' h', Stand p l e R s m args below meth c T' (locs ++ [⟨a, i⟩]) cells slots ∧ T'.heap = h' ∧ Wr h h' a i (.long x) ∧ ∀ t, Steps p.tables e below (T'.setTop (mkF m (pc + 1) Ls rest)) t → Steps p.tables e below (T.setTop (mkF m pc Ls (.long x :: .int j :: .ref a :: rest))) t := by
  obtain ⟨hn, cl, A1, A2, A3⟩ := A
  obtain ⟨T', h', X', e', W', st⟩ := stJ X hx hZ eT A1 (j := j) (x := x) (own_in hj A2 hi) (g := mkF m pc Ls (.long x :: .int j :: .ref a :: rest)) rfl rfl hd
  rw [(own_nat hj).1] at X' W'
  exact ⟨T', h', X', e', W', st⟩
theorem own_newarr (X : Stand p l e R s m args below meth c T locs cells slots) (hx : p.tables.exec = Jvm.exec) (hZ : Z.Warmed39 s.vm) {aty : ArrayType} (w : (Jvm.Cond.arrayClass (newarray.typeOf aty)).before a0 Z = true) (eT : T.heap = h) {n : Int32} {N : Nat} (hN : n.toInt = N) {cap : Nat} (hcap : N ≤ cap) (hb : cap * 8 ≤ 536870912) (hc : cells + 1 ≤ R.cells) (hl : slots + cap ≤ R.slots)
    {pc : Nat} {Ls : Array Slot} {rest : List Value} (hd : decode c.code pc = .ok (.newarray aty, 2)) :
    ∃ T' h', Stand p l e R s m args below meth c T' locs (cells + 1) (slots + cap) ∧ T'.heap = h' ∧ Ext h h' ∧ own_Ar Z h' h.size (newarray.typeOf aty) N (fun _ => defaultValue (newarray.typeOf aty)) ∧
      ∀ t, Steps p.tables e below (T'.setTop (mkF m (pc + 2) Ls (.ref h.size :: rest))) t → Steps p.tables e below (T.setTop (mkF m pc Ls (.int n :: rest))) t := by
  obtain ⟨q1, q2⟩ := own_nat hN
  obtain ⟨T', h', cA, X', e', E', A', st⟩ := newP X hx hZ w eT (g := mkF m pc Ls (.int n :: rest)) rfl hd rfl q2 (cap := cap) (by rw [q1]; exact hcap) hb hc hl
  refine ⟨T', h', X', e', E', ⟨?_, _, A', by rw [sz_new]; exact q1, fun i hi => ?_⟩, st⟩
  · have := n.toInt_lt; omega
  · simp [newA, q1, hi]
theorem own_dup2 {tb : Tables} [Ours tb] {target : State} {g : JFrame} (h : At T m c below) (hx : tb.exec = Jvm.exec) (hg : g.method = m) {x y : Value} {rest : List Value} (hd : decode c.code g.pc = .ok (.dup2, 1)) (hs : g.stack = x :: y :: rest) (hc : x.category = 1) (hc' : y.category = 1)
    (hr : Steps tb e below (T.setTop { g with pc := g.pc + 1, stack := x :: y :: x :: y :: rest }) target) : Steps tb e below (T.setTop g) target := by
  subst hg
  jvm_step h [h.top, hx, hd, hs, hc, hc']
  exact hr
theorem own_dupX2 {tb : Tables} [Ours tb] {target : State} {g : JFrame} (h : At T m c below) (hx : tb.exec = Jvm.exec) (hg : g.method = m) {x y z : Value} {rest : List Value} (hd : decode c.code g.pc = .ok (.dup_x2, 1)) (hs : g.stack = x :: y :: z :: rest) (hc : x.category = 1) (hc' : y.category = 1) (hc'' : z.category = 1)
    (hr : Steps tb e below (T.setTop { g with pc := g.pc + 1, stack := x :: y :: z :: x :: rest }) target) : Steps tb e below (T.setTop g) target := by
  subst hg
  jvm_step h [h.top, hx, hd, hs, hc, hc', hc'']
  exact hr
theorem own_pop2 {tb : Tables} [Ours tb] {target : State} {g : JFrame} (h : At T m c below) (hx : tb.exec = Jvm.exec) (hg : g.method = m) {x : Value} {rest : List Value} (hd : decode c.code g.pc = .ok (.pop2, 1)) (hs : g.stack = x :: rest) (hc : x.category = 2)
    (hr : Steps tb e below (T.setTop { g with pc := g.pc + 1, stack := rest }) target) : Steps tb e below (T.setTop g) target := by
  subst hg
  jvm_step h [h.top, hx, hd, hs, hc]
  exact hr
end OwnAr
theorem pd_0 : parseMethodDescriptor "(JJ)J" = some ⟨[.long, .long], some .long⟩ := by decide +kernel
theorem pd_1 : parseMethodDescriptor "()V" = some ⟨[], none⟩ := by decide +kernel
theorem pd_2 : parseMethodDescriptor "()J" = some ⟨[], some .long⟩ := by decide +kernel
theorem pd_3 : parseMethodDescriptor "(J)J" = some ⟨[.long], some .long⟩ := by decide +kernel
theorem d6_0 : decode jdk_29_method_66_code 0 = .ok (.lload_n 0, 1) := by decide +kernel
theorem d6_1 : decode jdk_29_method_66_code 1 = .ok (.lload_n 2, 1) := by decide +kernel
theorem d6_2 : decode jdk_29_method_66_code 2 = .ok (.lcmp, 1) := by decide +kernel
theorem d6_3 : decode jdk_29_method_66_code 3 = .ok (.ifCond .lt 7, 3) := by decide +kernel
theorem d6_6 : decode jdk_29_method_66_code 6 = .ok (.lload_n 0, 1) := by decide +kernel
theorem d6_7 : decode jdk_29_method_66_code 7 = .ok (.goto 4, 3) := by decide +kernel
theorem d6_10 : decode jdk_29_method_66_code 10 = .ok (.lload_n 2, 1) := by decide +kernel
theorem d6_11 : decode jdk_29_method_66_code 11 = .ok (.lreturn, 1) := by decide +kernel
theorem pn_6 : plainFor (⟨"java/lang/Math", "max", "(JJ)J"⟩ : MethodName) = true := by first | exact plainFor_of_name (by first | (simp [plainName, overriddenIn]; done) | decide +kernel) | decide +kernel
theorem ef_6 (m : MethodId) (x0 : Int64) (x1 : Int64) : entryFrame m #[(.long x0), (.long x1)] 4 = mkF m 0 #[.val (.long x0), .second, .val (.long x1), .second] [] := by first | rfl | (simp [entryFrame, mkF, argsToLocals, Value.category]; done)
theorem d1_0 : decode prog_1_method_1_code 0 = .ok (.aload_n 0, 1) := by decide +kernel
theorem d1_1 : decode prog_1_method_1_code 1 = .ok (.invokespecial 1, 3) := by decide +kernel
theorem d1_4 : decode prog_1_method_1_code 4 = .ok (.return_, 1) := by decide +kernel
theorem pn_1 : plainFor (⟨"com/example/tick2/tick2/clock/LamportClock", "<init>", "()V"⟩ : MethodName) = true := by first | exact plainFor_of_name (by first | (simp [plainName, overriddenIn]; done) | decide +kernel) | decide +kernel
theorem ef_1 (m : MethodId) (x0 : Addr) : entryFrame m #[(.ref x0)] 1 = mkF m 0 #[.val (.ref x0)] [] := by first | rfl | (simp [entryFrame, mkF, argsToLocals, Value.category]; done)
theorem d3_0 : decode prog_1_method_2_code 0 = .ok (.aload_n 0, 1) := by decide +kernel
theorem d3_1 : decode prog_1_method_2_code 1 = .ok (.getfield 7, 3) := by decide +kernel
theorem d3_4 : decode prog_1_method_2_code 4 = .ok (.lreturn, 1) := by decide +kernel
theorem pn_3 : plainFor (⟨"com/example/tick2/tick2/clock/LamportClock", "getTime", "()J"⟩ : MethodName) = true := by first | exact plainFor_of_name (by first | (simp [plainName, overriddenIn]; done) | decide +kernel) | decide +kernel
theorem ef_3 (m : MethodId) (x0 : Addr) : entryFrame m #[(.ref x0)] 1 = mkF m 0 #[.val (.ref x0)] [] := by first | rfl | (simp [entryFrame, mkF, argsToLocals, Value.category]; done)
theorem d4_0 : decode prog_1_method_3_code 0 = .ok (.aload_n 0, 1) := by decide +kernel
theorem d4_1 : decode prog_1_method_3_code 1 = .ok (.dup, 1) := by decide +kernel
theorem d4_2 : decode prog_1_method_3_code 2 = .ok (.getfield 7, 3) := by decide +kernel
theorem d4_5 : decode prog_1_method_3_code 5 = .ok (.lconst 1, 1) := by decide +kernel
theorem d4_6 : decode prog_1_method_3_code 6 = .ok (.ladd, 1) := by decide +kernel
theorem d4_7 : decode prog_1_method_3_code 7 = .ok (.putfield 7, 3) := by decide +kernel
theorem d4_10 : decode prog_1_method_3_code 10 = .ok (.aload_n 0, 1) := by decide +kernel
theorem d4_11 : decode prog_1_method_3_code 11 = .ok (.getfield 7, 3) := by decide +kernel
theorem d4_14 : decode prog_1_method_3_code 14 = .ok (.lreturn, 1) := by decide +kernel
theorem pn_4 : plainFor (⟨"com/example/tick2/tick2/clock/LamportClock", "tick", "()J"⟩ : MethodName) = true := by first | exact plainFor_of_name (by first | (simp [plainName, overriddenIn]; done) | decide +kernel) | decide +kernel
theorem ef_4 (m : MethodId) (x0 : Addr) : entryFrame m #[(.ref x0)] 1 = mkF m 0 #[.val (.ref x0)] [] := by first | rfl | (simp [entryFrame, mkF, argsToLocals, Value.category]; done)
theorem d5_0 : decode prog_1_method_4_code 0 = .ok (.lload_n 1, 1) := by decide +kernel
theorem d5_1 : decode prog_1_method_4_code 1 = .ok (.lconst 0, 1) := by decide +kernel
theorem d5_2 : decode prog_1_method_4_code 2 = .ok (.lcmp, 1) := by decide +kernel
theorem d5_3 : decode prog_1_method_4_code 3 = .ok (.ifCond .ge 17, 3) := by decide +kernel
theorem d5_6 : decode prog_1_method_4_code 6 = .ok (.new 13, 3) := by decide +kernel
theorem d5_9 : decode prog_1_method_4_code 9 = .ok (.dup, 1) := by decide +kernel
theorem d5_10 : decode prog_1_method_4_code 10 = .ok (.lload_n 1, 1) := by decide +kernel
theorem d5_11 : decode prog_1_method_4_code 11 = .ok (.invokedynamic 15, 5) := by decide +kernel
theorem d5_16 : decode prog_1_method_4_code 16 = .ok (.invokespecial 19, 3) := by decide +kernel
theorem d5_19 : decode prog_1_method_4_code 19 = .ok (.athrow, 1) := by decide +kernel
theorem d5_20 : decode prog_1_method_4_code 20 = .ok (.aload_n 0, 1) := by decide +kernel
theorem d5_21 : decode prog_1_method_4_code 21 = .ok (.aload_n 0, 1) := by decide +kernel
theorem d5_22 : decode prog_1_method_4_code 22 = .ok (.getfield 7, 3) := by decide +kernel
theorem d5_25 : decode prog_1_method_4_code 25 = .ok (.lload_n 1, 1) := by decide +kernel
theorem d5_26 : decode prog_1_method_4_code 26 = .ok (.invokestatic 22, 3) := by decide +kernel
theorem d5_29 : decode prog_1_method_4_code 29 = .ok (.lconst 1, 1) := by decide +kernel
theorem d5_30 : decode prog_1_method_4_code 30 = .ok (.ladd, 1) := by decide +kernel
theorem d5_31 : decode prog_1_method_4_code 31 = .ok (.putfield 7, 3) := by decide +kernel
theorem d5_34 : decode prog_1_method_4_code 34 = .ok (.aload_n 0, 1) := by decide +kernel
theorem d5_35 : decode prog_1_method_4_code 35 = .ok (.getfield 7, 3) := by decide +kernel
theorem d5_38 : decode prog_1_method_4_code 38 = .ok (.lreturn, 1) := by decide +kernel
theorem pn_5 : plainFor (⟨"com/example/tick2/tick2/clock/LamportClock", "receive", "(J)J"⟩ : MethodName) = true := by first | exact plainFor_of_name (by first | (simp [plainName, overriddenIn]; done) | decide +kernel) | decide +kernel
theorem ef_5 (m : MethodId) (x0 : Addr) (x1 : Int64) : entryFrame m #[(.ref x0), (.long x1)] 3 = mkF m 0 #[.val (.ref x0), .val (.long x1), .second] [] := by first | rfl | (simp [entryFrame, mkF, argsToLocals, Value.category]; done)
theorem pn_0 : plainFor (⟨"com/example/tick2/tick2/clock/LamportClockTickPinLaw", "law", "(JI)Z"⟩ : MethodName) = true := by first | exact plainFor_of_name (by first | (simp [plainName, overriddenIn]; done) | decide +kernel) | decide +kernel
theorem ef_0 (m : MethodId) (x0 : Int64) (x1 : Int32) : entryFrame m #[(.long x0), (.int x1)] maxLocals = mkF m 0 #[.val (.long x0), .second, .val (.int x1), .unset, .unset, .unset, .unset, .unset, .unset, .unset, .unset, .unset, .unset, .unset, .unset] [] := by first | rfl | (simp [entryFrame, mkF, argsToLocals, Value.category, maxLocals]; done)
set_option maxRecDepth 65536 in
set_option maxHeartbeats 40000000 in
theorem rmMax (l : Launch) (Z : State) (a0 : Array Value) (hw : ∀ d ∈ tables_1, d.before a0 Z = true) (ws : List Jvm.Cond) (q1 q2 : Int64) (h0 : Heap)  :
    own_Met l Z ws (⟨"java/lang/Math", "max", "(JJ)J"⟩ : MethodName) jdk_29_method_66_code 4 (some .long) ({ frames := 0, cells := 0, slots := 0, locals := 0 } : Room) #[(.long q1), (.long q2)] h0 (fun v h L => ∃ z : Int64, v = some (.long z) ∧ ((z = q1 ∧ q2.toInt ≤ q1.toInt) ∨ (z = q2 ∧ q1.toInt < q2.toInt)) ∧ h = h0 ∧ L = []) := by
  refine own_met pn_6 ?_
  intro p e s m below meth c s₁ hx hby hml hown hnm hret hlk hZ X0 e0
  refine own_entry (ef_6 m q1 q2) ?_
  show own_Go p e below _ (s₁.setTop (mkF m 0 #[.val (.long q1), .second, .val (.long q2), .second] []))
  refine own_go (fun tt kk => XS.lloadN X0.here hx rfl (hb hby d6_0) rfl kk) ?_
  show own_Go p e below _ (s₁.setTop (mkF m 1 #[.val (.long q1), .second, .val (.long q2), .second] [(.long q1)]))
  refine own_go (fun tt kk => XS.lloadN X0.here hx rfl (hb hby d6_1) rfl kk) ?_
  show own_Go p e below _ (s₁.setTop (mkF m 2 #[.val (.long q1), .second, .val (.long q2), .second] [(.long q2), (.long q1)]))
  refine own_go (fun tt kk => XS.lcmp X0.here hx rfl (hb hby d6_2) rfl kk) ?_
  show own_Go p e below _ (s₁.setTop (mkF m 3 #[.val (.long q1), .second, .val (.long q2), .second] [(.int (lcmpW q1 q2))]))
  by_cases hc3 : q1.toInt < q2.toInt
  · refine own_go (fun tt kk => XS.ifYes X0.here hx rfl (pc0 := 3) (pc' := 10) rfl (hb hby d6_3) rfl ((if0 _ _).trans (tlt ((lw_lt q1 q2).mpr (own_lt64 (x := q1) (y := q2) (i := q1.toInt) (j := q2.toInt) rfl rfl hc3))).1) (by decide) (by decide) kk) ?_
    show own_Go p e below _ (s₁.setTop (mkF m 10 #[.val (.long q1), .second, .val (.long q2), .second] []))
    refine own_go (fun tt kk => XS.lloadN X0.here hx rfl (hb hby d6_10) rfl kk) ?_
    show own_Go p e below _ (s₁.setTop (mkF m 11 #[.val (.long q1), .second, .val (.long q2), .second] [(.long q2)]))
    exact own_retJ X0 hx hlk hret (hb hby d6_11) ⟨q2, rfl, by first | exact Or.inl ⟨rfl, by omega⟩ | exact Or.inr ⟨rfl, by omega⟩, e0, rfl⟩ (by decide) (by decide)
  · refine own_go (fun tt kk => XS.ifNo X0.here hx rfl (hb hby d6_3) rfl ((if0 _ _).trans (flt (fun q => (own_nlt64 (x := q1) (y := q2) (i := q1.toInt) (j := q2.toInt) rfl rfl hc3) ((lw_lt q1 q2).mp q))).1) kk) ?_
    show own_Go p e below _ (s₁.setTop (mkF m 6 #[.val (.long q1), .second, .val (.long q2), .second] []))
    refine own_go (fun tt kk => XS.lloadN X0.here hx rfl (hb hby d6_6) rfl kk) ?_
    show own_Go p e below _ (s₁.setTop (mkF m 7 #[.val (.long q1), .second, .val (.long q2), .second] [(.long q1)]))
    refine own_go (fun tt kk => XS.goto X0.here hx rfl (pc0 := 7) (pc' := 11) rfl (hb hby d6_7) (by decide) (by decide) kk) ?_
    show own_Go p e below _ (s₁.setTop (mkF m 11 #[.val (.long q1), .second, .val (.long q2), .second] [(.long q1)]))
    exact own_retJ X0 hx hlk hret (hb hby d6_11) ⟨q1, rfl, by first | exact Or.inl ⟨rfl, by omega⟩ | exact Or.inr ⟨rfl, by omega⟩, e0, rfl⟩ (by decide) (by decide)
set_option maxRecDepth 65536 in
set_option maxHeartbeats 40000000 in
theorem rmInit (l : Launch) (Z : State) (a0 : Array Value) (hw : ∀ d ∈ tables_1, d.before a0 Z = true) (ws : List Jvm.Cond) (a1 : Addr) (h0 : Heap)  :
    own_Met l Z ws (⟨"com/example/tick2/tick2/clock/LamportClock", "<init>", "()V"⟩ : MethodName) prog_1_method_1_code 1 none ({ frames := 1, cells := 0, slots := 0, locals := 12 } : Room) #[(.ref a1)] h0 (fun v h L => v = none ∧ h = h0 ∧ L = []) := by
  refine own_met pn_1 ?_
  intro p e s m below meth c s₁ hx hby hml hown hnm hret hlk hZ X0 e0
  refine own_entry (ef_1 m a1) ?_
  show own_Go p e below _ (s₁.setTop (mkF m 0 #[.val (.ref a1)] []))
  refine own_go (fun tt kk => XS.aloadN X0.here hx rfl (hb hby d1_0) rfl rfl kk) ?_
  show own_Go p e below _ (s₁.setTop (mkF m 1 #[.val (.ref a1)] [(.ref a1)]))
  obtain ⟨T1, X1, e1, st1⟩ := initO X0 hx hZ hown (hw _ (List.mem_of_getElem? (i := 8) rfl)) (hw _ (List.mem_of_getElem? (i := 9) rfl)) (hw _ (List.mem_of_getElem? (i := 10) rfl)) e0 (g := (mkF m 1 #[.val (.ref a1)] [(.ref a1)])) rfl (by rw [hml]; rfl) rfl (hb hby d1_1) (by decide) (W := 0) (by show 2 * 0 + _ ≤ _; exact Nat.le_of_eq rfl) (by decide)
  refine own_go st1 ?_
  show own_Go p e below _ (T1.setTop (mkF m 4 #[.val (.ref a1)] []))
  exact own_retV X1 hx hlk hret (hb hby d1_4) ⟨rfl, e1, rfl⟩ (by decide) (by decide)
set_option maxRecDepth 65536 in
set_option maxHeartbeats 40000000 in
theorem rmGet (l : Launch) (Z : State) (a0 : Array Value) (hw : ∀ d ∈ tables_1, d.before a0 Z = true) (ws : List Jvm.Cond) (a1 : Addr) (w : Int64) (h0 : Heap) (F : Fld Z h0 a1 "com/example/tick2/tick2/clock/LamportClock" "time" "J" (.long w)) :
    own_Met l Z ws (⟨"com/example/tick2/tick2/clock/LamportClock", "getTime", "()J"⟩ : MethodName) prog_1_method_2_code 1 (some .long) ({ frames := 0, cells := 0, slots := 0, locals := 0 } : Room) #[(.ref a1)] h0 (fun v h L => v = some (.long w) ∧ h = h0 ∧ L = []) := by
  refine own_met pn_3 ?_
  intro p e s m below meth c s₁ hx hby hml hown hnm hret hlk hZ X0 e0
  refine own_entry (ef_3 m a1) ?_
  show own_Go p e below _ (s₁.setTop (mkF m 0 #[.val (.ref a1)] []))
  refine own_go (fun tt kk => XS.aloadN X0.here hx rfl (hb hby d3_0) rfl rfl kk) ?_
  show own_Go p e below _ (s₁.setTop (mkF m 1 #[.val (.ref a1)] [(.ref a1)]))
  obtain ⟨T1, X1, e1, st1⟩ := getF X0 hx hZ hown (host := "") (Or.inl (hw _ (List.mem_of_getElem? (i := 16) rfl))) Via.refl e0 F (g := (mkF m 1 #[.val (.ref a1)] [(.ref a1)])) rfl rfl (hb hby d3_1)
  refine own_go st1 ?_
  show own_Go p e below _ (T1.setTop (mkF m 4 #[.val (.ref a1)] [(.long w)]))
  exact own_retJ X1 hx hlk hret (hb hby d3_4) ⟨rfl, e1, rfl⟩ (by decide) (by decide)
set_option maxRecDepth 65536 in
set_option maxHeartbeats 40000000 in
theorem rmTick (l : Launch) (Z : State) (a0 : Array Value) (hw : ∀ d ∈ tables_1, d.before a0 Z = true) (ws : List Jvm.Cond) (a1 : Addr) (w : Int64) (n0 : Nat) (h0 : Heap) (F : Fld Z h0 a1 "com/example/tick2/tick2/clock/LamportClock" "time" "J" (.long w)) (E : Exa Z h0 a1 "com/example/tick2/tick2/clock/LamportClock") (g : n0 ≤ a1) :
    own_Met l Z ws (⟨"com/example/tick2/tick2/clock/LamportClock", "tick", "()J"⟩ : MethodName) prog_1_method_3_code 1 (some .long) ({ frames := 0, cells := 0, slots := 0, locals := 0 } : Room) #[(.ref a1)] h0 (fun v h L => v = some (.long (w + 1)) ∧ Fld Z h a1 "com/example/tick2/tick2/clock/LamportClock" "time" "J" (.long (w + 1)) ∧ Exa Z h a1 "com/example/tick2/tick2/clock/LamportClock" ∧ h0.size ≤ h.size ∧ Fr n0 L) := by
  refine own_met pn_4 ?_
  intro p e s m below meth c s₁ hx hby hml hown hnm hret hlk hZ X0 e0
  refine own_entry (ef_4 m a1) ?_
  show own_Go p e below _ (s₁.setTop (mkF m 0 #[.val (.ref a1)] []))
  refine own_go (fun tt kk => XS.aloadN X0.here hx rfl (hb hby d4_0) rfl rfl kk) ?_
  show own_Go p e below _ (s₁.setTop (mkF m 1 #[.val (.ref a1)] [(.ref a1)]))
  refine own_go (fun tt kk => XS.dup X0.here hx rfl (hb hby d4_1) rfl rfl kk) ?_
  show own_Go p e below _ (s₁.setTop (mkF m 2 #[.val (.ref a1)] [(.ref a1), (.ref a1)]))
  obtain ⟨T1, X1, e1, st1⟩ := getF X0 hx hZ hown (host := "") (Or.inl (hw _ (List.mem_of_getElem? (i := 16) rfl))) Via.refl e0 F (g := (mkF m 2 #[.val (.ref a1)] [(.ref a1), (.ref a1)])) rfl rfl (hb hby d4_2)
  refine own_go st1 ?_
  show own_Go p e below _ (T1.setTop (mkF m 5 #[.val (.ref a1)] [(.long w), (.ref a1)]))
  refine own_go (fun tt kk => XS.lconst X1.here hx rfl (hb hby d4_5) kk) ?_
  show own_Go p e below _ (T1.setTop (mkF m 6 #[.val (.ref a1)] [(.long (1 : Int64)), (.long w), (.ref a1)]))
  refine own_go (fun tt kk => XS.ladd X1.here hx rfl (hb hby d4_6) rfl kk) ?_
  show own_Go p e below _ (T1.setTop (mkF m 7 #[.val (.ref a1)] [(.long (w + (1 : Int64))), (.ref a1)]))
  obtain ⟨T2, h2, X2, e2, W2, st2⟩ := putF X1 hx hZ hown (host := "") (Or.inl (hw _ (List.mem_of_getElem? (i := 16) rfl))) Via.refl e1 F E (Or.inl (hw _ (List.mem_of_getElem? (i := 17) rfl))) (hw _ (List.mem_of_getElem? (i := 3) rfl)) (ty := .long) (by decide) rfl rfl (g := (mkF m 7 #[.val (.ref a1)] [(.long (w + (1 : Int64))), (.ref a1)])) rfl rfl (hb hby d4_7)
  refine own_go st2 ?_
  show own_Go p e below _ (T2.setTop (mkF m 10 #[.val (.ref a1)] []))
  have Fw := F.same W2
  have Ew := E.wr W2
  have Nw := Fr.snoc X2 (Fr.nil n0) g
  refine own_go (fun tt kk => XS.aloadN X2.here hx rfl (hb hby d4_10) rfl rfl kk) ?_
  show own_Go p e below _ (T2.setTop (mkF m 11 #[.val (.ref a1)] [(.ref a1)]))
  obtain ⟨T3, X3, e3, st3⟩ := getF X2 hx hZ hown (host := "") (Or.inl (hw _ (List.mem_of_getElem? (i := 16) rfl))) Via.refl e2 Fw (g := (mkF m 11 #[.val (.ref a1)] [(.ref a1)])) rfl rfl (hb hby d4_11)
  refine own_go st3 ?_
  show own_Go p e below _ (T3.setTop (mkF m 14 #[.val (.ref a1)] [(.long (w + 1))]))
  exact own_retJ X3 hx hlk hret (hb hby d4_14) ⟨rfl, by rw [e3]; exact Fw, by rw [e3]; exact Ew, by rw [e3, W2.size]; exact Nat.le_refl _, Nw⟩ (by decide) (by decide)
set_option maxRecDepth 65536 in
set_option maxHeartbeats 40000000 in
theorem rmRec (l : Launch) (Z : State) (a0 : Array Value) (hw : ∀ d ∈ tables_1, d.before a0 Z = true) (ws : List Jvm.Cond) (a1 : Addr) (q1 : Int64) (n0 : Nat) (h0 : Heap) (F : Fld Z h0 a1 "com/example/tick2/tick2/clock/LamportClock" "time" "J" (.long 0)) (E : Exa Z h0 a1 "com/example/tick2/tick2/clock/LamportClock") (g : n0 ≤ a1) (hq : 0 ≤ q1.toInt) :
    own_Met l Z ws (⟨"com/example/tick2/tick2/clock/LamportClock", "receive", "(J)J"⟩ : MethodName) prog_1_method_4_code 3 (some .long) ({ frames := 1, cells := 0, slots := 0, locals := 16 } : Room) #[(.ref a1), (.long q1)] h0 (fun v h L => v = some (.long (q1 + 1)) ∧ Fld Z h a1 "com/example/tick2/tick2/clock/LamportClock" "time" "J" (.long (q1 + 1)) ∧ Exa Z h a1 "com/example/tick2/tick2/clock/LamportClock" ∧ h0.size ≤ h.size ∧ Fr n0 L) := by
  refine own_met pn_5 ?_
  intro p e s m below meth c s₁ hx hby hml hown hnm hret hlk hZ X0 e0
  refine own_entry (ef_5 m a1 q1) ?_
  show own_Go p e below _ (s₁.setTop (mkF m 0 #[.val (.ref a1), .val (.long q1), .second] []))
  have F0 : (0 : Int64).toInt = 0 := rfl
  refine own_go (fun tt kk => XS.lloadN X0.here hx rfl (hb hby d5_0) rfl kk) ?_
  show own_Go p e below _ (s₁.setTop (mkF m 1 #[.val (.ref a1), .val (.long q1), .second] [(.long q1)]))
  refine own_go (fun tt kk => XS.lconst X0.here hx rfl (hb hby d5_1) kk) ?_
  show own_Go p e below _ (s₁.setTop (mkF m 2 #[.val (.ref a1), .val (.long q1), .second] [(.long (0 : Int64)), (.long q1)]))
  refine own_go (fun tt kk => XS.lcmp X0.here hx rfl (hb hby d5_2) rfl kk) ?_
  show own_Go p e below _ (s₁.setTop (mkF m 3 #[.val (.ref a1), .val (.long q1), .second] [(.int (lcmpW q1 (0 : Int64)))]))
  refine own_go (fun tt kk => XS.ifYes X0.here hx rfl (pc0 := 3) (pc' := 20) rfl (hb hby d5_3) rfl ((if0 _ _).trans (flt (fun q => (own_nlt64 (x := q1) (y := (0 : Int64)) (i := q1.toInt) (j := 0) rfl rfl (by omega)) ((lw_lt q1 (0 : Int64)).mp q))).2.1) (by decide) (by decide) kk) ?_
  show own_Go p e below _ (s₁.setTop (mkF m 20 #[.val (.ref a1), .val (.long q1), .second] []))
  refine own_go (fun tt kk => XS.aloadN X0.here hx rfl (hb hby d5_20) rfl rfl kk) ?_
  show own_Go p e below _ (s₁.setTop (mkF m 21 #[.val (.ref a1), .val (.long q1), .second] [(.ref a1)]))
  refine own_go (fun tt kk => XS.aloadN X0.here hx rfl (hb hby d5_21) rfl rfl kk) ?_
  show own_Go p e below _ (s₁.setTop (mkF m 22 #[.val (.ref a1), .val (.long q1), .second] [(.ref a1), (.ref a1)]))
  obtain ⟨T1, X1, e1, st1⟩ := getF X0 hx hZ hown (host := "") (Or.inl (hw _ (List.mem_of_getElem? (i := 16) rfl))) Via.refl e0 F (g := (mkF m 22 #[.val (.ref a1), .val (.long q1), .second] [(.ref a1), (.ref a1)])) rfl rfl (hb hby d5_22)
  refine own_go st1 ?_
  show own_Go p e below _ (T1.setTop (mkF m 25 #[.val (.ref a1), .val (.long q1), .second] [(.long (0 : Int64)), (.ref a1)]))
  refine own_go (fun tt kk => XS.lloadN X1.here hx rfl (hb hby d5_25) rfl kk) ?_
  show own_Go p e below _ (T1.setTop (mkF m 26 #[.val (.ref a1), .val (.long q1), .second] [(.long q1), (.long (0 : Int64)), (.ref a1)]))
  obtain ⟨v2, L2, T2, X2, qq2, st2⟩ := own_callS X1 hx hZ hown (hw _ (List.mem_of_getElem? (i := 29) rfl)) (hw _ (List.mem_of_getElem? (i := 30) rfl)) (hw _ (List.mem_of_getElem? (i := 31) rfl)) (hw _ (List.mem_of_getElem? (i := 32) rfl)) (by decide) (rmMax l Z a0 hw [] (0 : Int64) q1 h0) e1 (pc := 26) (Ls := #[.val (.ref a1), .val (.long q1), .second]) (argsL := [(.long (0 : Int64)), (.long q1)]) (rest := [(.ref a1)]) rfl (by rw [hml]; rfl) pd_0 rfl rfl (hb hby d5_26) 1 (Nat.le_of_eq rfl) (by decide) (by decide) (by decide) (by decide)
  obtain ⟨z2, rfl, hz2, hh2, rfl⟩ := qq2
  refine own_go st2 ?_
  show own_Go p e below _ (T2.setTop (mkF m 29 #[.val (.ref a1), .val (.long q1), .second] [(.long z2), (.ref a1)]))
  obtain rfl : q1 = z2 := by
    rcases hz2 with ⟨h1, h2⟩ | ⟨h1, h2⟩
    · rw [h1]; exact Int64.toInt_inj.mp (by omega)
    · exact h1.symm
  show own_Go p e below _ (T2.setTop (mkF m 29 #[.val (.ref a1), .val (.long q1), .second] [(.long q1), (.ref a1)]))
  refine own_go (fun tt kk => XS.lconst X2.here hx rfl (hb hby d5_29) kk) ?_
  show own_Go p e below _ (T2.setTop (mkF m 30 #[.val (.ref a1), .val (.long q1), .second] [(.long (1 : Int64)), (.long q1), (.ref a1)]))
  refine own_go (fun tt kk => XS.ladd X2.here hx rfl (hb hby d5_30) rfl kk) ?_
  show own_Go p e below _ (T2.setTop (mkF m 31 #[.val (.ref a1), .val (.long q1), .second] [(.long (q1 + (1 : Int64))), (.ref a1)]))
  obtain ⟨T3, h3, X3, e3, W3, st3⟩ := putF X2 hx hZ hown (host := "") (Or.inl (hw _ (List.mem_of_getElem? (i := 16) rfl))) Via.refl hh2 F E (Or.inl (hw _ (List.mem_of_getElem? (i := 17) rfl))) (hw _ (List.mem_of_getElem? (i := 3) rfl)) (ty := .long) (by decide) rfl rfl (g := (mkF m 31 #[.val (.ref a1), .val (.long q1), .second] [(.long (q1 + (1 : Int64))), (.ref a1)])) rfl rfl (hb hby d5_31)
  refine own_go st3 ?_
  show own_Go p e below _ (T3.setTop (mkF m 34 #[.val (.ref a1), .val (.long q1), .second] []))
  have Fw := F.same W3
  have Ew := E.wr W3
  have Nw := Fr.snoc X3 (Fr.nil n0) g
  refine own_go (fun tt kk => XS.aloadN X3.here hx rfl (hb hby d5_34) rfl rfl kk) ?_
  show own_Go p e below _ (T3.setTop (mkF m 35 #[.val (.ref a1), .val (.long q1), .second] [(.ref a1)]))
  obtain ⟨T4, X4, e4, st4⟩ := getF X3 hx hZ hown (host := "") (Or.inl (hw _ (List.mem_of_getElem? (i := 16) rfl))) Via.refl e3 Fw (g := (mkF m 35 #[.val (.ref a1), .val (.long q1), .second] [(.ref a1)])) rfl rfl (hb hby d5_35)
  refine own_go st4 ?_
  show own_Go p e below _ (T4.setTop (mkF m 38 #[.val (.ref a1), .val (.long q1), .second] [(.long (q1 + 1))]))
  exact own_retJ X4 hx hlk hret (hb hby d5_38) ⟨rfl, by rw [e4]; exact Fw, by rw [e4]; exact Ew, by rw [e4, W3.size]; exact Nat.le_refl _, Nw⟩ (by decide) (by decide)
set_option maxRecDepth 65536 in
set_option maxHeartbeats 40000000 in
theorem rm0 (l : Launch) (Z : State) (a0 : Array Value) (hw : ∀ d ∈ tables_1, d.before a0 Z = true) (ws : List Jvm.Cond) (q1 : Int64) (p2 : Int32) (h0 : Heap)  :
    own_Met l Z ws x code maxLocals ret room_1 #[(.long q1), (.int p2)] h0 (fun v h L => v = some (.int 1) ∧ Fr h0.size L) := by
  refine own_met pn_0 ?_
  intro p e s m below meth c s₁ hx hby hml hown hnm hret hlk hZ X0 e0
  refine own_entry (ef_0 m q1 p2) ?_
  show own_Go p e below _ (s₁.setTop (mkF m 0 #[.val (.long q1), .second, .val (.int p2), .unset, .unset, .unset, .unset, .unset, .unset, .unset, .unset, .unset, .unset, .unset, .unset] []))
  have F1 : (q1 &&& (9223372036854775807 : Int64)).toInt = q1.toInt % 9223372036854775808 := c_maskL _ _ 63 (by decide) (by decide)
  have F2 := (c_lrem (q1 &&& (9223372036854775807 : Int64)) (9223372036854775805 : Int64) 9223372036854775805 rfl).1 (by omega)
  refine own_go (fun tt kk => XS.iloadN X0.here hx rfl (hb hby at_0) rfl kk) ?_
  show own_Go p e below _ (s₁.setTop (mkF m 1 #[.val (.long q1), .second, .val (.int p2), .unset, .unset, .unset, .unset, .unset, .unset, .unset, .unset, .unset, .unset, .unset, .unset] [(.int p2)]))
  refine own_go (fun tt kk => XS.iconst X0.here hx rfl (hb hby at_1) kk) ?_
  show own_Go p e below _ (s₁.setTop (mkF m 2 #[.val (.long q1), .second, .val (.int p2), .unset, .unset, .unset, .unset, .unset, .unset, .unset, .unset, .unset, .unset, .unset, .unset] [(.int (1 : Int32)), (.int p2)]))
  refine own_go (fun tt kk => XS.iand X0.here hx rfl (hb hby at_2) rfl kk) ?_
  show own_Go p e below _ (s₁.setTop (mkF m 3 #[.val (.long q1), .second, .val (.int p2), .unset, .unset, .unset, .unset, .unset, .unset, .unset, .unset, .unset, .unset, .unset, .unset] [(.int (p2 &&& (1 : Int32)))]))
  by_cases hc3 : (p2 &&& (1 : Int32)).toInt = 0
  · refine own_go (fun tt kk => XS.ifYes X0.here hx rfl (pc0 := 3) (pc' := 10) rfl (hb hby at_3) rfl ((if0 _ _).trans (teq (own_eq32 (x := (p2 &&& (1 : Int32))) (y := (0 : Int32)) (i := (p2 &&& (1 : Int32)).toInt) (j := 0) rfl rfl hc3)).1) (by decide) (by decide) kk) ?_
    show own_Go p e below _ (s₁.setTop (mkF m 10 #[.val (.long q1), .second, .val (.int p2), .unset, .unset, .unset, .unset, .unset, .unset, .unset, .unset, .unset, .unset, .unset, .unset] []))
    refine own_go (fun tt kk => XS.iconst X0.here hx rfl (hb hby at_10) kk) ?_
    show own_Go p e below _ (s₁.setTop (mkF m 11 #[.val (.long q1), .second, .val (.int p2), .unset, .unset, .unset, .unset, .unset, .unset, .unset, .unset, .unset, .unset, .unset, .unset] [(.int (0 : Int32))]))
    refine own_go (fun tt kk => XS.istoreN X0.here hx rfl (hb hby at_11) rfl (l' := #[.val (.long q1), .second, .val (.int p2), .val (.int (0 : Int32)), .unset, .unset, .unset, .unset, .unset, .unset, .unset, .unset, .unset, .unset, .unset]) rfl kk) ?_
    show own_Go p e below _ (s₁.setTop (mkF m 12 #[.val (.long q1), .second, .val (.int p2), .val (.int (0 : Int32)), .unset, .unset, .unset, .unset, .unset, .unset, .unset, .unset, .unset, .unset, .unset] []))
    refine own_go (fun tt kk => XS.lloadN X0.here hx rfl (hb hby at_12) rfl kk) ?_
    show own_Go p e below _ (s₁.setTop (mkF m 13 #[.val (.long q1), .second, .val (.int p2), .val (.int (0 : Int32)), .unset, .unset, .unset, .unset, .unset, .unset, .unset, .unset, .unset, .unset, .unset] [(.long q1)]))
    refine own_go (X0.ldc2Long hx hown (mvT hZ (hw _ (List.mem_of_getElem? (i := 0) rfl))) (g := (mkF m 13 #[.val (.long q1), .second, .val (.int p2), .val (.int (0 : Int32)), .unset, .unset, .unset, .unset, .unset, .unset, .unset, .unset, .unset, .unset, .unset] [(.long q1)])) rfl (hb hby at_13)) ?_
    show own_Go p e below _ (s₁.setTop (mkF m 16 #[.val (.long q1), .second, .val (.int p2), .val (.int (0 : Int32)), .unset, .unset, .unset, .unset, .unset, .unset, .unset, .unset, .unset, .unset, .unset] [(.long (9223372036854775807 : Int64)), (.long q1)]))
    refine own_go (fun tt kk => XS.land X0.here hx rfl (hb hby at_16) rfl kk) ?_
    show own_Go p e below _ (s₁.setTop (mkF m 17 #[.val (.long q1), .second, .val (.int p2), .val (.int (0 : Int32)), .unset, .unset, .unset, .unset, .unset, .unset, .unset, .unset, .unset, .unset, .unset] [(.long (q1 &&& (9223372036854775807 : Int64)))]))
    refine own_go (X0.ldc2Long hx hown (mvT hZ (hw _ (List.mem_of_getElem? (i := 1) rfl))) (g := (mkF m 17 #[.val (.long q1), .second, .val (.int p2), .val (.int (0 : Int32)), .unset, .unset, .unset, .unset, .unset, .unset, .unset, .unset, .unset, .unset, .unset] [(.long (q1 &&& (9223372036854775807 : Int64)))])) rfl (hb hby at_17)) ?_
    show own_Go p e below _ (s₁.setTop (mkF m 20 #[.val (.long q1), .second, .val (.int p2), .val (.int (0 : Int32)), .unset, .unset, .unset, .unset, .unset, .unset, .unset, .unset, .unset, .unset, .unset] [(.long (9223372036854775805 : Int64)), (.long (q1 &&& (9223372036854775807 : Int64)))]))
    refine own_go (fun tt kk => XS.lrem X0.here hx rfl (hb hby at_20) rfl (by decide) kk) ?_
    show own_Go p e below _ (s₁.setTop (mkF m 21 #[.val (.long q1), .second, .val (.int p2), .val (.int (0 : Int32)), .unset, .unset, .unset, .unset, .unset, .unset, .unset, .unset, .unset, .unset, .unset] [(.long ((q1 &&& (9223372036854775807 : Int64)) - ((q1 &&& (9223372036854775807 : Int64)) / (9223372036854775805 : Int64)) * (9223372036854775805 : Int64)))]))
    refine own_go (fun tt kk => XS.lstore X0.here hx rfl (hb hby at_21) rfl (l' := #[.val (.long q1), .second, .val (.int p2), .val (.int (0 : Int32)), .val (.long ((q1 &&& (9223372036854775807 : Int64)) - ((q1 &&& (9223372036854775807 : Int64)) / (9223372036854775805 : Int64)) * (9223372036854775805 : Int64))), .second, .unset, .unset, .unset, .unset, .unset, .unset, .unset, .unset, .unset]) rfl kk) ?_
    show own_Go p e below _ (s₁.setTop (mkF m 23 #[.val (.long q1), .second, .val (.int p2), .val (.int (0 : Int32)), .val (.long ((q1 &&& (9223372036854775807 : Int64)) - ((q1 &&& (9223372036854775807 : Int64)) / (9223372036854775805 : Int64)) * (9223372036854775805 : Int64))), .second, .unset, .unset, .unset, .unset, .unset, .unset, .unset, .unset, .unset] []))
    obtain ⟨cr, hcr⟩ : ∃ z, z = ((q1 &&& (9223372036854775807 : Int64)) - ((q1 &&& (9223372036854775807 : Int64)) / (9223372036854775805 : Int64)) * (9223372036854775805 : Int64)) := ⟨_, rfl⟩
    rw [← hcr] at F2
    have F3 : 0 ≤ cr.toInt := by omega
    rw [← hcr]
    show own_Go p e below _ (s₁.setTop (mkF m 23 #[.val (.long q1), .second, .val (.int p2), .val (.int (0 : Int32)), .val (.long cr), .second, .unset, .unset, .unset, .unset, .unset, .unset, .unset, .unset, .unset] []))
    obtain ⟨T1, h1, X1, e1, E1, A1, D1, -, st1⟩ := newO X0 hx hZ hown (hw _ (List.mem_of_getElem? (i := 2) rfl)) (hw _ (List.mem_of_getElem? (i := 3) rfl)) (hw _ (List.mem_of_getElem? (i := 4) rfl)) e0 (g := (mkF m 23 #[.val (.long q1), .second, .val (.int p2), .val (.int (0 : Int32)), .val (.long cr), .second, .unset, .unset, .unset, .unset, .unset, .unset, .unset, .unset, .unset] [])) rfl (hb hby at_23) (by decide) (by decide)
    obtain ⟨a1, qe1⟩ : ∃ z, z = h0.size := ⟨_, rfl⟩
    rw [← qe1] at A1 D1 st1
    have F1_time : Fld Z h1 a1 "com/example/tick2/tick2/clock/LamportClock" "time" "J" (.long (0 : Int64)) := D1 (Or.inl (hw _ (List.mem_of_getElem? (i := 17) rfl))) (ty := .long) (by decide)
    refine own_go st1 ?_
    show own_Go p e below _ (T1.setTop (mkF m 26 #[.val (.long q1), .second, .val (.int p2), .val (.int (0 : Int32)), .val (.long cr), .second, .unset, .unset, .unset, .unset, .unset, .unset, .unset, .unset, .unset] [(.ref a1)]))
    have g1 : h0.size ≤ a1 := Nat.le_of_eq qe1.symm
    refine own_go (fun tt kk => XS.dup X1.here hx rfl (hb hby at_26) rfl rfl kk) ?_
    show own_Go p e below _ (T1.setTop (mkF m 27 #[.val (.long q1), .second, .val (.int p2), .val (.int (0 : Int32)), .val (.long cr), .second, .unset, .unset, .unset, .unset, .unset, .unset, .unset, .unset, .unset] [(.ref a1), (.ref a1)]))
    obtain ⟨v2, L2, T2, X2, qq2, st2⟩ := own_callI X1 hx hZ rfl hown (hw _ (List.mem_of_getElem? (i := 5) rfl)) (hw _ (List.mem_of_getElem? (i := 6) rfl)) (hw _ (List.mem_of_getElem? (i := 7) rfl)) (hw _ (List.mem_of_getElem? (i := 4) rfl)) (by decide) (rmInit l Z a0 hw [] a1 h1) e1 (pc := 27) (Ls := #[.val (.long q1), .second, .val (.int p2), .val (.int (0 : Int32)), .val (.long cr), .second, .unset, .unset, .unset, .unset, .unset, .unset, .unset, .unset, .unset]) (argsL := []) (rest := [(.ref a1)]) rfl (by rw [hml]; rfl) pd_1 rfl rfl (hb hby at_27) 1 (Nat.le_of_eq rfl) (by decide) (by decide) (by decide) (by decide)
    obtain ⟨rfl, hh2, rfl⟩ := qq2
    refine own_go st2 ?_
    show own_Go p e below _ (T2.setTop (mkF m 30 #[.val (.long q1), .second, .val (.int p2), .val (.int (0 : Int32)), .val (.long cr), .second, .unset, .unset, .unset, .unset, .unset, .unset, .unset, .unset, .unset] [(.ref a1)]))
    refine own_go (fun tt kk => XS.astore X2.here hx rfl (hb hby at_30) rfl rfl (l' := #[.val (.long q1), .second, .val (.int p2), .val (.int (0 : Int32)), .val (.long cr), .second, .val (.ref a1), .unset, .unset, .unset, .unset, .unset, .unset, .unset, .unset]) rfl kk) ?_
    show own_Go p e below _ (T2.setTop (mkF m 32 #[.val (.long q1), .second, .val (.int p2), .val (.int (0 : Int32)), .val (.long cr), .second, .val (.ref a1), .unset, .unset, .unset, .unset, .unset, .unset, .unset, .unset] []))
    refine own_go (fun tt kk => XS.lconst X2.here hx rfl (hb hby at_32) kk) ?_
    show own_Go p e below _ (T2.setTop (mkF m 33 #[.val (.long q1), .second, .val (.int p2), .val (.int (0 : Int32)), .val (.long cr), .second, .val (.ref a1), .unset, .unset, .unset, .unset, .unset, .unset, .unset, .unset] [(.long (0 : Int64))]))
    refine own_go (fun tt kk => XS.lstore X2.here hx rfl (hb hby at_33) rfl (l' := #[.val (.long q1), .second, .val (.int p2), .val (.int (0 : Int32)), .val (.long cr), .second, .val (.ref a1), .val (.long (0 : Int64)), .second, .unset, .unset, .unset, .unset, .unset, .unset]) rfl kk) ?_
    show own_Go p e below _ (T2.setTop (mkF m 35 #[.val (.long q1), .second, .val (.int p2), .val (.int (0 : Int32)), .val (.long cr), .second, .val (.ref a1), .val (.long (0 : Int64)), .second, .unset, .unset, .unset, .unset, .unset, .unset] []))
    refine own_go (fun tt kk => XS.iloadN X2.here hx rfl (hb hby at_35) rfl kk) ?_
    show own_Go p e below _ (T2.setTop (mkF m 36 #[.val (.long q1), .second, .val (.int p2), .val (.int (0 : Int32)), .val (.long cr), .second, .val (.ref a1), .val (.long (0 : Int64)), .second, .unset, .unset, .unset, .unset, .unset, .unset] [(.int (0 : Int32))]))
    refine own_go (fun tt kk => XS.ifYes X2.here hx rfl (pc0 := 36) (pc' := 53) rfl (hb hby at_36) rfl ((if0 _ _).trans (teq (own_eq32 (x := (0 : Int32)) (y := (0 : Int32)) (i := 0) (j := 0) rfl rfl rfl)).1) (by decide) (by decide) kk) ?_
    show own_Go p e below _ (T2.setTop (mkF m 53 #[.val (.long q1), .second, .val (.int p2), .val (.int (0 : Int32)), .val (.long cr), .second, .val (.ref a1), .val (.long (0 : Int64)), .second, .unset, .unset, .unset, .unset, .unset, .unset] []))
    refine own_go (fun tt kk => XS.aload X2.here hx rfl (hb hby at_53) rfl rfl kk) ?_
    show own_Go p e below _ (T2.setTop (mkF m 55 #[.val (.long q1), .second, .val (.int p2), .val (.int (0 : Int32)), .val (.long cr), .second, .val (.ref a1), .val (.long (0 : Int64)), .second, .unset, .unset, .unset, .unset, .unset, .unset] [(.ref a1)]))
    obtain ⟨v3, L3, T3, X3, qq3, st3⟩ := own_callV X2 hx hZ hown (hw _ (List.mem_of_getElem? (i := 11) rfl)) (hw _ (List.mem_of_getElem? (i := 12) rfl)) (hw _ (List.mem_of_getElem? (i := 14) rfl)) (hw _ (List.mem_of_getElem? (i := 13) rfl)) (hw _ (List.mem_of_getElem? (i := 15) rfl)) (hw _ (List.mem_of_getElem? (i := 4) rfl)) (by decide) A1 (rmGet l Z a0 hw [] a1 (0 : Int64) h1 F1_time) hh2 (pc := 55) (Ls := #[.val (.long q1), .second, .val (.int p2), .val (.int (0 : Int32)), .val (.long cr), .second, .val (.ref a1), .val (.long (0 : Int64)), .second, .unset, .unset, .unset, .unset, .unset, .unset]) (argsL := []) (rest := []) rfl (by rw [hml]; rfl) pd_2 rfl rfl (hb hby at_55) 0 (Nat.le_of_eq rfl) (by decide) (by decide) (by decide) (by decide)
    obtain ⟨rfl, hh3, rfl⟩ := qq3
    refine own_go st3 ?_
    show own_Go p e below _ (T3.setTop (mkF m 58 #[.val (.long q1), .second, .val (.int p2), .val (.int (0 : Int32)), .val (.long cr), .second, .val (.ref a1), .val (.long (0 : Int64)), .second, .unset, .unset, .unset, .unset, .unset, .unset] [(.long (0 : Int64))]))
    refine own_go (fun tt kk => XS.lstore X3.here hx rfl (hb hby at_58) rfl (l' := #[.val (.long q1), .second, .val (.int p2), .val (.int (0 : Int32)), .val (.long cr), .second, .val (.ref a1), .val (.long (0 : Int64)), .second, .val (.long (0 : Int64)), .second, .unset, .unset, .unset, .unset]) rfl kk) ?_
    show own_Go p e below _ (T3.setTop (mkF m 60 #[.val (.long q1), .second, .val (.int p2), .val (.int (0 : Int32)), .val (.long cr), .second, .val (.ref a1), .val (.long (0 : Int64)), .second, .val (.long (0 : Int64)), .second, .unset, .unset, .unset, .unset] []))
    refine own_go (fun tt kk => XS.lload X3.here hx rfl (hb hby at_60) rfl kk) ?_
    show own_Go p e below _ (T3.setTop (mkF m 62 #[.val (.long q1), .second, .val (.int p2), .val (.int (0 : Int32)), .val (.long cr), .second, .val (.ref a1), .val (.long (0 : Int64)), .second, .val (.long (0 : Int64)), .second, .unset, .unset, .unset, .unset] [(.long (0 : Int64))]))
    refine own_go (fun tt kk => XS.lload X3.here hx rfl (hb hby at_62) rfl kk) ?_
    show own_Go p e below _ (T3.setTop (mkF m 64 #[.val (.long q1), .second, .val (.int p2), .val (.int (0 : Int32)), .val (.long cr), .second, .val (.ref a1), .val (.long (0 : Int64)), .second, .val (.long (0 : Int64)), .second, .unset, .unset, .unset, .unset] [(.long (0 : Int64)), (.long (0 : Int64))]))
    refine own_go (fun tt kk => XS.lcmp X3.here hx rfl (hb hby at_64) rfl kk) ?_
    show own_Go p e below _ (T3.setTop (mkF m 65 #[.val (.long q1), .second, .val (.int p2), .val (.int (0 : Int32)), .val (.long cr), .second, .val (.ref a1), .val (.long (0 : Int64)), .second, .val (.long (0 : Int64)), .second, .unset, .unset, .unset, .unset] [(.int (lcmpW (0 : Int64) (0 : Int64)))]))
    refine own_go (fun tt kk => XS.ifYes X3.here hx rfl (pc0 := 65) (pc' := 70) rfl (hb hby at_65) rfl ((if0 _ _).trans (teq ((lw_eq (0 : Int64) (0 : Int64)).mpr (own_eq64 (x := (0 : Int64)) (y := (0 : Int64)) (i := 0) (j := 0) rfl rfl rfl))).1) (by decide) (by decide) kk) ?_
    show own_Go p e below _ (T3.setTop (mkF m 70 #[.val (.long q1), .second, .val (.int p2), .val (.int (0 : Int32)), .val (.long cr), .second, .val (.ref a1), .val (.long (0 : Int64)), .second, .val (.long (0 : Int64)), .second, .unset, .unset, .unset, .unset] []))
    refine own_go (fun tt kk => XS.aload X3.here hx rfl (hb hby at_70) rfl rfl kk) ?_
    show own_Go p e below _ (T3.setTop (mkF m 72 #[.val (.long q1), .second, .val (.int p2), .val (.int (0 : Int32)), .val (.long cr), .second, .val (.ref a1), .val (.long (0 : Int64)), .second, .val (.long (0 : Int64)), .second, .unset, .unset, .unset, .unset] [(.ref a1)]))
    obtain ⟨v4, L4, T4, X4, qq4, st4⟩ := own_callV X3 hx hZ hown (hw _ (List.mem_of_getElem? (i := 18) rfl)) (hw _ (List.mem_of_getElem? (i := 19) rfl)) (hw _ (List.mem_of_getElem? (i := 21) rfl)) (hw _ (List.mem_of_getElem? (i := 20) rfl)) (hw _ (List.mem_of_getElem? (i := 22) rfl)) (hw _ (List.mem_of_getElem? (i := 4) rfl)) (by decide) A1 (rmTick l Z a0 hw [] a1 (0 : Int64) h0.size h1 F1_time A1 g1) hh3 (pc := 72) (Ls := #[.val (.long q1), .second, .val (.int p2), .val (.int (0 : Int32)), .val (.long cr), .second, .val (.ref a1), .val (.long (0 : Int64)), .second, .val (.long (0 : Int64)), .second, .unset, .unset, .unset, .unset]) (argsL := []) (rest := []) rfl (by rw [hml]; rfl) pd_2 rfl rfl (hb hby at_72) 0 (Nat.le_of_eq rfl) (by decide) (by decide) (by decide) (by decide)
    obtain ⟨rfl, Fl4, Ex4, sz4, Nr4⟩ := qq4
    refine own_go st4 ?_
    show own_Go p e below _ (T4.setTop (mkF m 75 #[.val (.long q1), .second, .val (.int p2), .val (.int (0 : Int32)), .val (.long cr), .second, .val (.ref a1), .val (.long (0 : Int64)), .second, .val (.long (0 : Int64)), .second, .unset, .unset, .unset, .unset] [(.long ((0 : Int64) + 1))]))
    refine own_go (fun tt kk => XS.lstore X4.here hx rfl (hb hby at_75) rfl (l' := #[.val (.long q1), .second, .val (.int p2), .val (.int (0 : Int32)), .val (.long cr), .second, .val (.ref a1), .val (.long (0 : Int64)), .second, .val (.long (0 : Int64)), .second, .val (.long ((0 : Int64) + 1)), .second, .unset, .unset]) rfl kk) ?_
    show own_Go p e below _ (T4.setTop (mkF m 77 #[.val (.long q1), .second, .val (.int p2), .val (.int (0 : Int32)), .val (.long cr), .second, .val (.ref a1), .val (.long (0 : Int64)), .second, .val (.long (0 : Int64)), .second, .val (.long ((0 : Int64) + 1)), .second, .unset, .unset] []))
    refine own_go (fun tt kk => XS.lload X4.here hx rfl (hb hby at_77) rfl kk) ?_
    show own_Go p e below _ (T4.setTop (mkF m 79 #[.val (.long q1), .second, .val (.int p2), .val (.int (0 : Int32)), .val (.long cr), .second, .val (.ref a1), .val (.long (0 : Int64)), .second, .val (.long (0 : Int64)), .second, .val (.long ((0 : Int64) + 1)), .second, .unset, .unset] [(.long ((0 : Int64) + 1))]))
    refine own_go (fun tt kk => XS.lload X4.here hx rfl (hb hby at_79) rfl kk) ?_
    show own_Go p e below _ (T4.setTop (mkF m 81 #[.val (.long q1), .second, .val (.int p2), .val (.int (0 : Int32)), .val (.long cr), .second, .val (.ref a1), .val (.long (0 : Int64)), .second, .val (.long (0 : Int64)), .second, .val (.long ((0 : Int64) + 1)), .second, .unset, .unset] [(.long (0 : Int64)), (.long ((0 : Int64) + 1))]))
    refine own_go (fun tt kk => XS.lconst X4.here hx rfl (hb hby at_81) kk) ?_
    show own_Go p e below _ (T4.setTop (mkF m 82 #[.val (.long q1), .second, .val (.int p2), .val (.int (0 : Int32)), .val (.long cr), .second, .val (.ref a1), .val (.long (0 : Int64)), .second, .val (.long (0 : Int64)), .second, .val (.long ((0 : Int64) + 1)), .second, .unset, .unset] [(.long (1 : Int64)), (.long (0 : Int64)), (.long ((0 : Int64) + 1))]))
    refine own_go (fun tt kk => XS.ladd X4.here hx rfl (hb hby at_82) rfl kk) ?_
    show own_Go p e below _ (T4.setTop (mkF m 83 #[.val (.long q1), .second, .val (.int p2), .val (.int (0 : Int32)), .val (.long cr), .second, .val (.ref a1), .val (.long (0 : Int64)), .second, .val (.long (0 : Int64)), .second, .val (.long ((0 : Int64) + 1)), .second, .unset, .unset] [(.long ((0 : Int64) + (1 : Int64))), (.long ((0 : Int64) + 1))]))
    refine own_go (fun tt kk => XS.lcmp X4.here hx rfl (hb hby at_83) rfl kk) ?_
    show own_Go p e below _ (T4.setTop (mkF m 84 #[.val (.long q1), .second, .val (.int p2), .val (.int (0 : Int32)), .val (.long cr), .second, .val (.ref a1), .val (.long (0 : Int64)), .second, .val (.long (0 : Int64)), .second, .val (.long ((0 : Int64) + 1)), .second, .unset, .unset] [(.int (lcmpW ((0 : Int64) + 1) ((0 : Int64) + (1 : Int64))))]))
    refine own_go (fun tt kk => XS.ifYes X4.here hx rfl (pc0 := 84) (pc' := 89) rfl (hb hby at_84) rfl ((if0 _ _).trans (teq ((lw_eq ((0 : Int64) + 1) ((0 : Int64) + (1 : Int64))).mpr (own_eq64 (x := ((0 : Int64) + 1)) (y := ((0 : Int64) + (1 : Int64))) (i := ((0 : Int64) + 1).toInt) (j := ((0 : Int64) + (1 : Int64)).toInt) rfl rfl rfl))).1) (by decide) (by decide) kk) ?_
    show own_Go p e below _ (T4.setTop (mkF m 89 #[.val (.long q1), .second, .val (.int p2), .val (.int (0 : Int32)), .val (.long cr), .second, .val (.ref a1), .val (.long (0 : Int64)), .second, .val (.long (0 : Int64)), .second, .val (.long ((0 : Int64) + 1)), .second, .unset, .unset] []))
    refine own_go (fun tt kk => XS.aload X4.here hx rfl (hb hby at_89) rfl rfl kk) ?_
    show own_Go p e below _ (T4.setTop (mkF m 91 #[.val (.long q1), .second, .val (.int p2), .val (.int (0 : Int32)), .val (.long cr), .second, .val (.ref a1), .val (.long (0 : Int64)), .second, .val (.long (0 : Int64)), .second, .val (.long ((0 : Int64) + 1)), .second, .unset, .unset] [(.ref a1)]))
    obtain ⟨v5, L5, T5, X5, qq5, st5⟩ := own_callV X4 hx hZ hown (hw _ (List.mem_of_getElem? (i := 11) rfl)) (hw _ (List.mem_of_getElem? (i := 12) rfl)) (hw _ (List.mem_of_getElem? (i := 14) rfl)) (hw _ (List.mem_of_getElem? (i := 13) rfl)) (hw _ (List.mem_of_getElem? (i := 15) rfl)) (hw _ (List.mem_of_getElem? (i := 4) rfl)) (by decide) Ex4 (rmGet l Z a0 hw [] a1 ((0 : Int64) + 1) T4.heap Fl4) (rfl : T4.heap = _) (pc := 91) (Ls := #[.val (.long q1), .second, .val (.int p2), .val (.int (0 : Int32)), .val (.long cr), .second, .val (.ref a1), .val (.long (0 : Int64)), .second, .val (.long (0 : Int64)), .second, .val (.long ((0 : Int64) + 1)), .second, .unset, .unset]) (argsL := []) (rest := []) rfl (by rw [hml]; rfl) pd_2 rfl rfl (hb hby at_91) 0 (Nat.le_of_eq rfl) (by decide) (by decide) (by decide) (by decide)
    obtain ⟨rfl, hh5, rfl⟩ := qq5
    refine own_go st5 ?_
    show own_Go p e below _ (T5.setTop (mkF m 94 #[.val (.long q1), .second, .val (.int p2), .val (.int (0 : Int32)), .val (.long cr), .second, .val (.ref a1), .val (.long (0 : Int64)), .second, .val (.long (0 : Int64)), .second, .val (.long ((0 : Int64) + 1)), .second, .unset, .unset] [(.long ((0 : Int64) + 1))]))
    refine own_go (fun tt kk => XS.lload X5.here hx rfl (hb hby at_94) rfl kk) ?_
    show own_Go p e below _ (T5.setTop (mkF m 96 #[.val (.long q1), .second, .val (.int p2), .val (.int (0 : Int32)), .val (.long cr), .second, .val (.ref a1), .val (.long (0 : Int64)), .second, .val (.long (0 : Int64)), .second, .val (.long ((0 : Int64) + 1)), .second, .unset, .unset] [(.long ((0 : Int64) + 1)), (.long ((0 : Int64) + 1))]))
    refine own_go (fun tt kk => XS.lcmp X5.here hx rfl (hb hby at_96) rfl kk) ?_
    show own_Go p e below _ (T5.setTop (mkF m 97 #[.val (.long q1), .second, .val (.int p2), .val (.int (0 : Int32)), .val (.long cr), .second, .val (.ref a1), .val (.long (0 : Int64)), .second, .val (.long (0 : Int64)), .second, .val (.long ((0 : Int64) + 1)), .second, .unset, .unset] [(.int (lcmpW ((0 : Int64) + 1) ((0 : Int64) + 1)))]))
    refine own_go (fun tt kk => XS.ifYes X5.here hx rfl (pc0 := 97) (pc' := 102) rfl (hb hby at_97) rfl ((if0 _ _).trans (teq ((lw_eq ((0 : Int64) + 1) ((0 : Int64) + 1)).mpr (own_eq64 (x := ((0 : Int64) + 1)) (y := ((0 : Int64) + 1)) (i := ((0 : Int64) + 1).toInt) (j := ((0 : Int64) + 1).toInt) rfl rfl rfl))).1) (by decide) (by decide) kk) ?_
    show own_Go p e below _ (T5.setTop (mkF m 102 #[.val (.long q1), .second, .val (.int p2), .val (.int (0 : Int32)), .val (.long cr), .second, .val (.ref a1), .val (.long (0 : Int64)), .second, .val (.long (0 : Int64)), .second, .val (.long ((0 : Int64) + 1)), .second, .unset, .unset] []))
    refine own_go (fun tt kk => XS.aload X5.here hx rfl (hb hby at_102) rfl rfl kk) ?_
    show own_Go p e below _ (T5.setTop (mkF m 104 #[.val (.long q1), .second, .val (.int p2), .val (.int (0 : Int32)), .val (.long cr), .second, .val (.ref a1), .val (.long (0 : Int64)), .second, .val (.long (0 : Int64)), .second, .val (.long ((0 : Int64) + 1)), .second, .unset, .unset] [(.ref a1)]))
    obtain ⟨v6, L6, T6, X6, qq6, st6⟩ := own_callV X5 hx hZ hown (hw _ (List.mem_of_getElem? (i := 18) rfl)) (hw _ (List.mem_of_getElem? (i := 19) rfl)) (hw _ (List.mem_of_getElem? (i := 21) rfl)) (hw _ (List.mem_of_getElem? (i := 20) rfl)) (hw _ (List.mem_of_getElem? (i := 22) rfl)) (hw _ (List.mem_of_getElem? (i := 4) rfl)) (by decide) Ex4 (rmTick l Z a0 hw [] a1 ((0 : Int64) + 1) h0.size T4.heap Fl4 Ex4 g1) hh5 (pc := 104) (Ls := #[.val (.long q1), .second, .val (.int p2), .val (.int (0 : Int32)), .val (.long cr), .second, .val (.ref a1), .val (.long (0 : Int64)), .second, .val (.long (0 : Int64)), .second, .val (.long ((0 : Int64) + 1)), .second, .unset, .unset]) (argsL := []) (rest := []) rfl (by rw [hml]; rfl) pd_2 rfl rfl (hb hby at_104) 0 (Nat.le_of_eq rfl) (by decide) (by decide) (by decide) (by decide)
    obtain ⟨rfl, Fl6, Ex6, sz6, Nr6⟩ := qq6
    refine own_go st6 ?_
    show own_Go p e below _ (T6.setTop (mkF m 107 #[.val (.long q1), .second, .val (.int p2), .val (.int (0 : Int32)), .val (.long cr), .second, .val (.ref a1), .val (.long (0 : Int64)), .second, .val (.long (0 : Int64)), .second, .val (.long ((0 : Int64) + 1)), .second, .unset, .unset] [(.long (((0 : Int64) + 1) + 1))]))
    refine own_go (fun tt kk => XS.lstore X6.here hx rfl (hb hby at_107) rfl (l' := #[.val (.long q1), .second, .val (.int p2), .val (.int (0 : Int32)), .val (.long cr), .second, .val (.ref a1), .val (.long (0 : Int64)), .second, .val (.long (0 : Int64)), .second, .val (.long ((0 : Int64) + 1)), .second, .val (.long (((0 : Int64) + 1) + 1)), .second]) rfl kk) ?_
    show own_Go p e below _ (T6.setTop (mkF m 109 #[.val (.long q1), .second, .val (.int p2), .val (.int (0 : Int32)), .val (.long cr), .second, .val (.ref a1), .val (.long (0 : Int64)), .second, .val (.long (0 : Int64)), .second, .val (.long ((0 : Int64) + 1)), .second, .val (.long (((0 : Int64) + 1) + 1)), .second] []))
    refine own_go (fun tt kk => XS.lload X6.here hx rfl (hb hby at_109) rfl kk) ?_
    show own_Go p e below _ (T6.setTop (mkF m 111 #[.val (.long q1), .second, .val (.int p2), .val (.int (0 : Int32)), .val (.long cr), .second, .val (.ref a1), .val (.long (0 : Int64)), .second, .val (.long (0 : Int64)), .second, .val (.long ((0 : Int64) + 1)), .second, .val (.long (((0 : Int64) + 1) + 1)), .second] [(.long (((0 : Int64) + 1) + 1))]))
    refine own_go (fun tt kk => XS.lload X6.here hx rfl (hb hby at_111) rfl kk) ?_
    show own_Go p e below _ (T6.setTop (mkF m 113 #[.val (.long q1), .second, .val (.int p2), .val (.int (0 : Int32)), .val (.long cr), .second, .val (.ref a1), .val (.long (0 : Int64)), .second, .val (.long (0 : Int64)), .second, .val (.long ((0 : Int64) + 1)), .second, .val (.long (((0 : Int64) + 1) + 1)), .second] [(.long (0 : Int64)), (.long (((0 : Int64) + 1) + 1))]))
    refine own_go (X6.ldc2Long hx hown (mvT hZ (hw _ (List.mem_of_getElem? (i := 23) rfl))) (g := (mkF m 113 #[.val (.long q1), .second, .val (.int p2), .val (.int (0 : Int32)), .val (.long cr), .second, .val (.ref a1), .val (.long (0 : Int64)), .second, .val (.long (0 : Int64)), .second, .val (.long ((0 : Int64) + 1)), .second, .val (.long (((0 : Int64) + 1) + 1)), .second] [(.long (0 : Int64)), (.long (((0 : Int64) + 1) + 1))])) rfl (hb hby at_113)) ?_
    show own_Go p e below _ (T6.setTop (mkF m 116 #[.val (.long q1), .second, .val (.int p2), .val (.int (0 : Int32)), .val (.long cr), .second, .val (.ref a1), .val (.long (0 : Int64)), .second, .val (.long (0 : Int64)), .second, .val (.long ((0 : Int64) + 1)), .second, .val (.long (((0 : Int64) + 1) + 1)), .second] [(.long (2 : Int64)), (.long (0 : Int64)), (.long (((0 : Int64) + 1) + 1))]))
    refine own_go (fun tt kk => XS.ladd X6.here hx rfl (hb hby at_116) rfl kk) ?_
    show own_Go p e below _ (T6.setTop (mkF m 117 #[.val (.long q1), .second, .val (.int p2), .val (.int (0 : Int32)), .val (.long cr), .second, .val (.ref a1), .val (.long (0 : Int64)), .second, .val (.long (0 : Int64)), .second, .val (.long ((0 : Int64) + 1)), .second, .val (.long (((0 : Int64) + 1) + 1)), .second] [(.long ((0 : Int64) + (2 : Int64))), (.long (((0 : Int64) + 1) + 1))]))
    refine own_go (fun tt kk => XS.lcmp X6.here hx rfl (hb hby at_117) rfl kk) ?_
    show own_Go p e below _ (T6.setTop (mkF m 118 #[.val (.long q1), .second, .val (.int p2), .val (.int (0 : Int32)), .val (.long cr), .second, .val (.ref a1), .val (.long (0 : Int64)), .second, .val (.long (0 : Int64)), .second, .val (.long ((0 : Int64) + 1)), .second, .val (.long (((0 : Int64) + 1) + 1)), .second] [(.int (lcmpW (((0 : Int64) + 1) + 1) ((0 : Int64) + (2 : Int64))))]))
    refine own_go (fun tt kk => XS.ifYes X6.here hx rfl (pc0 := 118) (pc' := 123) rfl (hb hby at_118) rfl ((if0 _ _).trans (teq ((lw_eq (((0 : Int64) + 1) + 1) ((0 : Int64) + (2 : Int64))).mpr (own_eq64 (x := (((0 : Int64) + 1) + 1)) (y := ((0 : Int64) + (2 : Int64))) (i := (((0 : Int64) + 1) + 1).toInt) (j := ((0 : Int64) + (2 : Int64)).toInt) rfl rfl (by rw [Int64.add_assoc]; rfl)))).1) (by decide) (by decide) kk) ?_
    show own_Go p e below _ (T6.setTop (mkF m 123 #[.val (.long q1), .second, .val (.int p2), .val (.int (0 : Int32)), .val (.long cr), .second, .val (.ref a1), .val (.long (0 : Int64)), .second, .val (.long (0 : Int64)), .second, .val (.long ((0 : Int64) + 1)), .second, .val (.long (((0 : Int64) + 1) + 1)), .second] []))
    refine own_go (fun tt kk => XS.aload X6.here hx rfl (hb hby at_123) rfl rfl kk) ?_
    show own_Go p e below _ (T6.setTop (mkF m 125 #[.val (.long q1), .second, .val (.int p2), .val (.int (0 : Int32)), .val (.long cr), .second, .val (.ref a1), .val (.long (0 : Int64)), .second, .val (.long (0 : Int64)), .second, .val (.long ((0 : Int64) + 1)), .second, .val (.long (((0 : Int64) + 1) + 1)), .second] [(.ref a1)]))
    obtain ⟨v7, L7, T7, X7, qq7, st7⟩ := own_callV X6 hx hZ hown (hw _ (List.mem_of_getElem? (i := 11) rfl)) (hw _ (List.mem_of_getElem? (i := 12) rfl)) (hw _ (List.mem_of_getElem? (i := 14) rfl)) (hw _ (List.mem_of_getElem? (i := 13) rfl)) (hw _ (List.mem_of_getElem? (i := 15) rfl)) (hw _ (List.mem_of_getElem? (i := 4) rfl)) (by decide) Ex6 (rmGet l Z a0 hw [] a1 (((0 : Int64) + 1) + 1) T6.heap Fl6) (rfl : T6.heap = _) (pc := 125) (Ls := #[.val (.long q1), .second, .val (.int p2), .val (.int (0 : Int32)), .val (.long cr), .second, .val (.ref a1), .val (.long (0 : Int64)), .second, .val (.long (0 : Int64)), .second, .val (.long ((0 : Int64) + 1)), .second, .val (.long (((0 : Int64) + 1) + 1)), .second]) (argsL := []) (rest := []) rfl (by rw [hml]; rfl) pd_2 rfl rfl (hb hby at_125) 0 (Nat.le_of_eq rfl) (by decide) (by decide) (by decide) (by decide)
    obtain ⟨rfl, hh7, rfl⟩ := qq7
    refine own_go st7 ?_
    show own_Go p e below _ (T7.setTop (mkF m 128 #[.val (.long q1), .second, .val (.int p2), .val (.int (0 : Int32)), .val (.long cr), .second, .val (.ref a1), .val (.long (0 : Int64)), .second, .val (.long (0 : Int64)), .second, .val (.long ((0 : Int64) + 1)), .second, .val (.long (((0 : Int64) + 1) + 1)), .second] [(.long (((0 : Int64) + 1) + 1))]))
    refine own_go (fun tt kk => XS.lload X7.here hx rfl (hb hby at_128) rfl kk) ?_
    show own_Go p e below _ (T7.setTop (mkF m 130 #[.val (.long q1), .second, .val (.int p2), .val (.int (0 : Int32)), .val (.long cr), .second, .val (.ref a1), .val (.long (0 : Int64)), .second, .val (.long (0 : Int64)), .second, .val (.long ((0 : Int64) + 1)), .second, .val (.long (((0 : Int64) + 1) + 1)), .second] [(.long (((0 : Int64) + 1) + 1)), (.long (((0 : Int64) + 1) + 1))]))
    refine own_go (fun tt kk => XS.lcmp X7.here hx rfl (hb hby at_130) rfl kk) ?_
    show own_Go p e below _ (T7.setTop (mkF m 131 #[.val (.long q1), .second, .val (.int p2), .val (.int (0 : Int32)), .val (.long cr), .second, .val (.ref a1), .val (.long (0 : Int64)), .second, .val (.long (0 : Int64)), .second, .val (.long ((0 : Int64) + 1)), .second, .val (.long (((0 : Int64) + 1) + 1)), .second] [(.int (lcmpW (((0 : Int64) + 1) + 1) (((0 : Int64) + 1) + 1)))]))
    refine own_go (fun tt kk => XS.ifNo X7.here hx rfl (hb hby at_131) rfl ((if0 _ _).trans (teq ((lw_eq (((0 : Int64) + 1) + 1) (((0 : Int64) + 1) + 1)).mpr (own_eq64 (x := (((0 : Int64) + 1) + 1)) (y := (((0 : Int64) + 1) + 1)) (i := (((0 : Int64) + 1) + 1).toInt) (j := (((0 : Int64) + 1) + 1).toInt) rfl rfl rfl))).2) kk) ?_
    show own_Go p e below _ (T7.setTop (mkF m 134 #[.val (.long q1), .second, .val (.int p2), .val (.int (0 : Int32)), .val (.long cr), .second, .val (.ref a1), .val (.long (0 : Int64)), .second, .val (.long (0 : Int64)), .second, .val (.long ((0 : Int64) + 1)), .second, .val (.long (((0 : Int64) + 1) + 1)), .second] []))
    refine own_go (fun tt kk => XS.iconst X7.here hx rfl (hb hby at_134) kk) ?_
    show own_Go p e below _ (T7.setTop (mkF m 135 #[.val (.long q1), .second, .val (.int p2), .val (.int (0 : Int32)), .val (.long cr), .second, .val (.ref a1), .val (.long (0 : Int64)), .second, .val (.long (0 : Int64)), .second, .val (.long ((0 : Int64) + 1)), .second, .val (.long (((0 : Int64) + 1) + 1)), .second] [(.int (1 : Int32))]))
    refine own_go (fun tt kk => XS.goto X7.here hx rfl (pc0 := 135) (pc' := 139) rfl (hb hby at_135) (by decide) (by decide) kk) ?_
    show own_Go p e below _ (T7.setTop (mkF m 139 #[.val (.long q1), .second, .val (.int p2), .val (.int (0 : Int32)), .val (.long cr), .second, .val (.ref a1), .val (.long (0 : Int64)), .second, .val (.long (0 : Int64)), .second, .val (.long ((0 : Int64) + 1)), .second, .val (.long (((0 : Int64) + 1) + 1)), .second] [(.int (1 : Int32))]))
    exact own_retZ X7 hx hlk hret (by decide) (hb hby at_139) ⟨rfl, (Fr.app (Fr.app (Fr.app (Fr.app (Fr.app (Fr.app (Fr.nil h0.size) (Fr.nil h0.size)) (Fr.nil h0.size)) Nr4) (Fr.nil h0.size)) Nr6) (Fr.nil h0.size))⟩ (by decide) (by decide)
  · refine own_go (fun tt kk => XS.ifNo X0.here hx rfl (hb hby at_3) rfl ((if0 _ _).trans (feq (own_neq32 (x := (p2 &&& (1 : Int32))) (y := (0 : Int32)) (i := (p2 &&& (1 : Int32)).toInt) (j := 0) rfl rfl hc3)).1) kk) ?_
    show own_Go p e below _ (s₁.setTop (mkF m 6 #[.val (.long q1), .second, .val (.int p2), .unset, .unset, .unset, .unset, .unset, .unset, .unset, .unset, .unset, .unset, .unset, .unset] []))
    refine own_go (fun tt kk => XS.iconst X0.here hx rfl (hb hby at_6) kk) ?_
    show own_Go p e below _ (s₁.setTop (mkF m 7 #[.val (.long q1), .second, .val (.int p2), .unset, .unset, .unset, .unset, .unset, .unset, .unset, .unset, .unset, .unset, .unset, .unset] [(.int (1 : Int32))]))
    refine own_go (fun tt kk => XS.goto X0.here hx rfl (pc0 := 7) (pc' := 11) rfl (hb hby at_7) (by decide) (by decide) kk) ?_
    show own_Go p e below _ (s₁.setTop (mkF m 11 #[.val (.long q1), .second, .val (.int p2), .unset, .unset, .unset, .unset, .unset, .unset, .unset, .unset, .unset, .unset, .unset, .unset] [(.int (1 : Int32))]))
    refine own_go (fun tt kk => XS.istoreN X0.here hx rfl (hb hby at_11) rfl (l' := #[.val (.long q1), .second, .val (.int p2), .val (.int (1 : Int32)), .unset, .unset, .unset, .unset, .unset, .unset, .unset, .unset, .unset, .unset, .unset]) rfl kk) ?_
    show own_Go p e below _ (s₁.setTop (mkF m 12 #[.val (.long q1), .second, .val (.int p2), .val (.int (1 : Int32)), .unset, .unset, .unset, .unset, .unset, .unset, .unset, .unset, .unset, .unset, .unset] []))
    refine own_go (fun tt kk => XS.lloadN X0.here hx rfl (hb hby at_12) rfl kk) ?_
    show own_Go p e below _ (s₁.setTop (mkF m 13 #[.val (.long q1), .second, .val (.int p2), .val (.int (1 : Int32)), .unset, .unset, .unset, .unset, .unset, .unset, .unset, .unset, .unset, .unset, .unset] [(.long q1)]))
    refine own_go (X0.ldc2Long hx hown (mvT hZ (hw _ (List.mem_of_getElem? (i := 0) rfl))) (g := (mkF m 13 #[.val (.long q1), .second, .val (.int p2), .val (.int (1 : Int32)), .unset, .unset, .unset, .unset, .unset, .unset, .unset, .unset, .unset, .unset, .unset] [(.long q1)])) rfl (hb hby at_13)) ?_
    show own_Go p e below _ (s₁.setTop (mkF m 16 #[.val (.long q1), .second, .val (.int p2), .val (.int (1 : Int32)), .unset, .unset, .unset, .unset, .unset, .unset, .unset, .unset, .unset, .unset, .unset] [(.long (9223372036854775807 : Int64)), (.long q1)]))
    refine own_go (fun tt kk => XS.land X0.here hx rfl (hb hby at_16) rfl kk) ?_
    show own_Go p e below _ (s₁.setTop (mkF m 17 #[.val (.long q1), .second, .val (.int p2), .val (.int (1 : Int32)), .unset, .unset, .unset, .unset, .unset, .unset, .unset, .unset, .unset, .unset, .unset] [(.long (q1 &&& (9223372036854775807 : Int64)))]))
    refine own_go (X0.ldc2Long hx hown (mvT hZ (hw _ (List.mem_of_getElem? (i := 1) rfl))) (g := (mkF m 17 #[.val (.long q1), .second, .val (.int p2), .val (.int (1 : Int32)), .unset, .unset, .unset, .unset, .unset, .unset, .unset, .unset, .unset, .unset, .unset] [(.long (q1 &&& (9223372036854775807 : Int64)))])) rfl (hb hby at_17)) ?_
    show own_Go p e below _ (s₁.setTop (mkF m 20 #[.val (.long q1), .second, .val (.int p2), .val (.int (1 : Int32)), .unset, .unset, .unset, .unset, .unset, .unset, .unset, .unset, .unset, .unset, .unset] [(.long (9223372036854775805 : Int64)), (.long (q1 &&& (9223372036854775807 : Int64)))]))
    refine own_go (fun tt kk => XS.lrem X0.here hx rfl (hb hby at_20) rfl (by decide) kk) ?_
    show own_Go p e below _ (s₁.setTop (mkF m 21 #[.val (.long q1), .second, .val (.int p2), .val (.int (1 : Int32)), .unset, .unset, .unset, .unset, .unset, .unset, .unset, .unset, .unset, .unset, .unset] [(.long ((q1 &&& (9223372036854775807 : Int64)) - ((q1 &&& (9223372036854775807 : Int64)) / (9223372036854775805 : Int64)) * (9223372036854775805 : Int64)))]))
    refine own_go (fun tt kk => XS.lstore X0.here hx rfl (hb hby at_21) rfl (l' := #[.val (.long q1), .second, .val (.int p2), .val (.int (1 : Int32)), .val (.long ((q1 &&& (9223372036854775807 : Int64)) - ((q1 &&& (9223372036854775807 : Int64)) / (9223372036854775805 : Int64)) * (9223372036854775805 : Int64))), .second, .unset, .unset, .unset, .unset, .unset, .unset, .unset, .unset, .unset]) rfl kk) ?_
    show own_Go p e below _ (s₁.setTop (mkF m 23 #[.val (.long q1), .second, .val (.int p2), .val (.int (1 : Int32)), .val (.long ((q1 &&& (9223372036854775807 : Int64)) - ((q1 &&& (9223372036854775807 : Int64)) / (9223372036854775805 : Int64)) * (9223372036854775805 : Int64))), .second, .unset, .unset, .unset, .unset, .unset, .unset, .unset, .unset, .unset] []))
    obtain ⟨cr, hcr⟩ : ∃ z, z = ((q1 &&& (9223372036854775807 : Int64)) - ((q1 &&& (9223372036854775807 : Int64)) / (9223372036854775805 : Int64)) * (9223372036854775805 : Int64)) := ⟨_, rfl⟩
    rw [← hcr] at F2
    have F3 : 0 ≤ cr.toInt := by omega
    rw [← hcr]
    show own_Go p e below _ (s₁.setTop (mkF m 23 #[.val (.long q1), .second, .val (.int p2), .val (.int (1 : Int32)), .val (.long cr), .second, .unset, .unset, .unset, .unset, .unset, .unset, .unset, .unset, .unset] []))
    obtain ⟨T8, h8, X8, e8, E8, A8, D8, -, st8⟩ := newO X0 hx hZ hown (hw _ (List.mem_of_getElem? (i := 2) rfl)) (hw _ (List.mem_of_getElem? (i := 3) rfl)) (hw _ (List.mem_of_getElem? (i := 4) rfl)) e0 (g := (mkF m 23 #[.val (.long q1), .second, .val (.int p2), .val (.int (1 : Int32)), .val (.long cr), .second, .unset, .unset, .unset, .unset, .unset, .unset, .unset, .unset, .unset] [])) rfl (hb hby at_23) (by decide) (by decide)
    obtain ⟨a1, qe8⟩ : ∃ z, z = h0.size := ⟨_, rfl⟩
    rw [← qe8] at A8 D8 st8
    have F8_time : Fld Z h8 a1 "com/example/tick2/tick2/clock/LamportClock" "time" "J" (.long (0 : Int64)) := D8 (Or.inl (hw _ (List.mem_of_getElem? (i := 17) rfl))) (ty := .long) (by decide)
    refine own_go st8 ?_
    show own_Go p e below _ (T8.setTop (mkF m 26 #[.val (.long q1), .second, .val (.int p2), .val (.int (1 : Int32)), .val (.long cr), .second, .unset, .unset, .unset, .unset, .unset, .unset, .unset, .unset, .unset] [(.ref a1)]))
    have g1 : h0.size ≤ a1 := Nat.le_of_eq qe8.symm
    refine own_go (fun tt kk => XS.dup X8.here hx rfl (hb hby at_26) rfl rfl kk) ?_
    show own_Go p e below _ (T8.setTop (mkF m 27 #[.val (.long q1), .second, .val (.int p2), .val (.int (1 : Int32)), .val (.long cr), .second, .unset, .unset, .unset, .unset, .unset, .unset, .unset, .unset, .unset] [(.ref a1), (.ref a1)]))
    obtain ⟨v9, L9, T9, X9, qq9, st9⟩ := own_callI X8 hx hZ rfl hown (hw _ (List.mem_of_getElem? (i := 5) rfl)) (hw _ (List.mem_of_getElem? (i := 6) rfl)) (hw _ (List.mem_of_getElem? (i := 7) rfl)) (hw _ (List.mem_of_getElem? (i := 4) rfl)) (by decide) (rmInit l Z a0 hw [] a1 h8) e8 (pc := 27) (Ls := #[.val (.long q1), .second, .val (.int p2), .val (.int (1 : Int32)), .val (.long cr), .second, .unset, .unset, .unset, .unset, .unset, .unset, .unset, .unset, .unset]) (argsL := []) (rest := [(.ref a1)]) rfl (by rw [hml]; rfl) pd_1 rfl rfl (hb hby at_27) 1 (Nat.le_of_eq rfl) (by decide) (by decide) (by decide) (by decide)
    obtain ⟨rfl, hh9, rfl⟩ := qq9
    refine own_go st9 ?_
    show own_Go p e below _ (T9.setTop (mkF m 30 #[.val (.long q1), .second, .val (.int p2), .val (.int (1 : Int32)), .val (.long cr), .second, .unset, .unset, .unset, .unset, .unset, .unset, .unset, .unset, .unset] [(.ref a1)]))
    refine own_go (fun tt kk => XS.astore X9.here hx rfl (hb hby at_30) rfl rfl (l' := #[.val (.long q1), .second, .val (.int p2), .val (.int (1 : Int32)), .val (.long cr), .second, .val (.ref a1), .unset, .unset, .unset, .unset, .unset, .unset, .unset, .unset]) rfl kk) ?_
    show own_Go p e below _ (T9.setTop (mkF m 32 #[.val (.long q1), .second, .val (.int p2), .val (.int (1 : Int32)), .val (.long cr), .second, .val (.ref a1), .unset, .unset, .unset, .unset, .unset, .unset, .unset, .unset] []))
    refine own_go (fun tt kk => XS.lconst X9.here hx rfl (hb hby at_32) kk) ?_
    show own_Go p e below _ (T9.setTop (mkF m 33 #[.val (.long q1), .second, .val (.int p2), .val (.int (1 : Int32)), .val (.long cr), .second, .val (.ref a1), .unset, .unset, .unset, .unset, .unset, .unset, .unset, .unset] [(.long (0 : Int64))]))
    refine own_go (fun tt kk => XS.lstore X9.here hx rfl (hb hby at_33) rfl (l' := #[.val (.long q1), .second, .val (.int p2), .val (.int (1 : Int32)), .val (.long cr), .second, .val (.ref a1), .val (.long (0 : Int64)), .second, .unset, .unset, .unset, .unset, .unset, .unset]) rfl kk) ?_
    show own_Go p e below _ (T9.setTop (mkF m 35 #[.val (.long q1), .second, .val (.int p2), .val (.int (1 : Int32)), .val (.long cr), .second, .val (.ref a1), .val (.long (0 : Int64)), .second, .unset, .unset, .unset, .unset, .unset, .unset] []))
    refine own_go (fun tt kk => XS.iloadN X9.here hx rfl (hb hby at_35) rfl kk) ?_
    show own_Go p e below _ (T9.setTop (mkF m 36 #[.val (.long q1), .second, .val (.int p2), .val (.int (1 : Int32)), .val (.long cr), .second, .val (.ref a1), .val (.long (0 : Int64)), .second, .unset, .unset, .unset, .unset, .unset, .unset] [(.int (1 : Int32))]))
    refine own_go (fun tt kk => XS.ifNo X9.here hx rfl (hb hby at_36) rfl ((if0 _ _).trans (feq (own_neq32 (x := (1 : Int32)) (y := (0 : Int32)) (i := 1) (j := 0) rfl rfl (by decide))).1) kk) ?_
    show own_Go p e below _ (T9.setTop (mkF m 39 #[.val (.long q1), .second, .val (.int p2), .val (.int (1 : Int32)), .val (.long cr), .second, .val (.ref a1), .val (.long (0 : Int64)), .second, .unset, .unset, .unset, .unset, .unset, .unset] []))
    refine own_go (fun tt kk => XS.aload X9.here hx rfl (hb hby at_39) rfl rfl kk) ?_
    show own_Go p e below _ (T9.setTop (mkF m 41 #[.val (.long q1), .second, .val (.int p2), .val (.int (1 : Int32)), .val (.long cr), .second, .val (.ref a1), .val (.long (0 : Int64)), .second, .unset, .unset, .unset, .unset, .unset, .unset] [(.ref a1)]))
    refine own_go (fun tt kk => XS.lload X9.here hx rfl (hb hby at_41) rfl kk) ?_
    show own_Go p e below _ (T9.setTop (mkF m 43 #[.val (.long q1), .second, .val (.int p2), .val (.int (1 : Int32)), .val (.long cr), .second, .val (.ref a1), .val (.long (0 : Int64)), .second, .unset, .unset, .unset, .unset, .unset, .unset] [(.long cr), (.ref a1)]))
    obtain ⟨v10, L10, T10, X10, qq10, st10⟩ := own_callV X9 hx hZ hown (hw _ (List.mem_of_getElem? (i := 24) rfl)) (hw _ (List.mem_of_getElem? (i := 25) rfl)) (hw _ (List.mem_of_getElem? (i := 27) rfl)) (hw _ (List.mem_of_getElem? (i := 26) rfl)) (hw _ (List.mem_of_getElem? (i := 28) rfl)) (hw _ (List.mem_of_getElem? (i := 4) rfl)) (by decide) A8 (rmRec l Z a0 hw [] a1 cr h0.size h8 F8_time A8 g1 F3) hh9 (pc := 43) (Ls := #[.val (.long q1), .second, .val (.int p2), .val (.int (1 : Int32)), .val (.long cr), .second, .val (.ref a1), .val (.long (0 : Int64)), .second, .unset, .unset, .unset, .unset, .unset, .unset]) (argsL := [(.long cr)]) (rest := []) rfl (by rw [hml]; rfl) pd_3 rfl rfl (hb hby at_43) 0 (Nat.le_of_eq rfl) (by decide) (by decide) (by decide) (by decide)
    obtain ⟨rfl, Fl10, Ex10, sz10, Nr10⟩ := qq10
    refine own_go st10 ?_
    show own_Go p e below _ (T10.setTop (mkF m 46 #[.val (.long q1), .second, .val (.int p2), .val (.int (1 : Int32)), .val (.long cr), .second, .val (.ref a1), .val (.long (0 : Int64)), .second, .unset, .unset, .unset, .unset, .unset, .unset] [(.long (cr + 1))]))
    refine own_go (fun tt kk => own_pop2 X10.here hx rfl (hb hby at_46) rfl rfl kk) ?_
    show own_Go p e below _ (T10.setTop (mkF m 47 #[.val (.long q1), .second, .val (.int p2), .val (.int (1 : Int32)), .val (.long cr), .second, .val (.ref a1), .val (.long (0 : Int64)), .second, .unset, .unset, .unset, .unset, .unset, .unset] []))
    refine own_go (fun tt kk => XS.lload X10.here hx rfl (hb hby at_47) rfl kk) ?_
    show own_Go p e below _ (T10.setTop (mkF m 49 #[.val (.long q1), .second, .val (.int p2), .val (.int (1 : Int32)), .val (.long cr), .second, .val (.ref a1), .val (.long (0 : Int64)), .second, .unset, .unset, .unset, .unset, .unset, .unset] [(.long cr)]))
    refine own_go (fun tt kk => XS.lconst X10.here hx rfl (hb hby at_49) kk) ?_
    show own_Go p e below _ (T10.setTop (mkF m 50 #[.val (.long q1), .second, .val (.int p2), .val (.int (1 : Int32)), .val (.long cr), .second, .val (.ref a1), .val (.long (0 : Int64)), .second, .unset, .unset, .unset, .unset, .unset, .unset] [(.long (1 : Int64)), (.long cr)]))
    refine own_go (fun tt kk => XS.ladd X10.here hx rfl (hb hby at_50) rfl kk) ?_
    show own_Go p e below _ (T10.setTop (mkF m 51 #[.val (.long q1), .second, .val (.int p2), .val (.int (1 : Int32)), .val (.long cr), .second, .val (.ref a1), .val (.long (0 : Int64)), .second, .unset, .unset, .unset, .unset, .unset, .unset] [(.long (cr + (1 : Int64)))]))
    refine own_go (fun tt kk => XS.lstore X10.here hx rfl (hb hby at_51) rfl (l' := #[.val (.long q1), .second, .val (.int p2), .val (.int (1 : Int32)), .val (.long cr), .second, .val (.ref a1), .val (.long (cr + (1 : Int64))), .second, .unset, .unset, .unset, .unset, .unset, .unset]) rfl kk) ?_
    show own_Go p e below _ (T10.setTop (mkF m 53 #[.val (.long q1), .second, .val (.int p2), .val (.int (1 : Int32)), .val (.long cr), .second, .val (.ref a1), .val (.long (cr + (1 : Int64))), .second, .unset, .unset, .unset, .unset, .unset, .unset] []))
    refine own_go (fun tt kk => XS.aload X10.here hx rfl (hb hby at_53) rfl rfl kk) ?_
    show own_Go p e below _ (T10.setTop (mkF m 55 #[.val (.long q1), .second, .val (.int p2), .val (.int (1 : Int32)), .val (.long cr), .second, .val (.ref a1), .val (.long (cr + (1 : Int64))), .second, .unset, .unset, .unset, .unset, .unset, .unset] [(.ref a1)]))
    obtain ⟨v11, L11, T11, X11, qq11, st11⟩ := own_callV X10 hx hZ hown (hw _ (List.mem_of_getElem? (i := 11) rfl)) (hw _ (List.mem_of_getElem? (i := 12) rfl)) (hw _ (List.mem_of_getElem? (i := 14) rfl)) (hw _ (List.mem_of_getElem? (i := 13) rfl)) (hw _ (List.mem_of_getElem? (i := 15) rfl)) (hw _ (List.mem_of_getElem? (i := 4) rfl)) (by decide) Ex10 (rmGet l Z a0 hw [] a1 (cr + 1) T10.heap Fl10) (rfl : T10.heap = _) (pc := 55) (Ls := #[.val (.long q1), .second, .val (.int p2), .val (.int (1 : Int32)), .val (.long cr), .second, .val (.ref a1), .val (.long (cr + (1 : Int64))), .second, .unset, .unset, .unset, .unset, .unset, .unset]) (argsL := []) (rest := []) rfl (by rw [hml]; rfl) pd_2 rfl rfl (hb hby at_55) 0 (Nat.le_of_eq rfl) (by decide) (by decide) (by decide) (by decide)
    obtain ⟨rfl, hh11, rfl⟩ := qq11
    refine own_go st11 ?_
    show own_Go p e below _ (T11.setTop (mkF m 58 #[.val (.long q1), .second, .val (.int p2), .val (.int (1 : Int32)), .val (.long cr), .second, .val (.ref a1), .val (.long (cr + (1 : Int64))), .second, .unset, .unset, .unset, .unset, .unset, .unset] [(.long (cr + 1))]))
    refine own_go (fun tt kk => XS.lstore X11.here hx rfl (hb hby at_58) rfl (l' := #[.val (.long q1), .second, .val (.int p2), .val (.int (1 : Int32)), .val (.long cr), .second, .val (.ref a1), .val (.long (cr + (1 : Int64))), .second, .val (.long (cr + 1)), .second, .unset, .unset, .unset, .unset]) rfl kk) ?_
    show own_Go p e below _ (T11.setTop (mkF m 60 #[.val (.long q1), .second, .val (.int p2), .val (.int (1 : Int32)), .val (.long cr), .second, .val (.ref a1), .val (.long (cr + (1 : Int64))), .second, .val (.long (cr + 1)), .second, .unset, .unset, .unset, .unset] []))
    refine own_go (fun tt kk => XS.lload X11.here hx rfl (hb hby at_60) rfl kk) ?_
    show own_Go p e below _ (T11.setTop (mkF m 62 #[.val (.long q1), .second, .val (.int p2), .val (.int (1 : Int32)), .val (.long cr), .second, .val (.ref a1), .val (.long (cr + (1 : Int64))), .second, .val (.long (cr + 1)), .second, .unset, .unset, .unset, .unset] [(.long (cr + 1))]))
    refine own_go (fun tt kk => XS.lload X11.here hx rfl (hb hby at_62) rfl kk) ?_
    show own_Go p e below _ (T11.setTop (mkF m 64 #[.val (.long q1), .second, .val (.int p2), .val (.int (1 : Int32)), .val (.long cr), .second, .val (.ref a1), .val (.long (cr + (1 : Int64))), .second, .val (.long (cr + 1)), .second, .unset, .unset, .unset, .unset] [(.long (cr + (1 : Int64))), (.long (cr + 1))]))
    refine own_go (fun tt kk => XS.lcmp X11.here hx rfl (hb hby at_64) rfl kk) ?_
    show own_Go p e below _ (T11.setTop (mkF m 65 #[.val (.long q1), .second, .val (.int p2), .val (.int (1 : Int32)), .val (.long cr), .second, .val (.ref a1), .val (.long (cr + (1 : Int64))), .second, .val (.long (cr + 1)), .second, .unset, .unset, .unset, .unset] [(.int (lcmpW (cr + 1) (cr + (1 : Int64))))]))
    refine own_go (fun tt kk => XS.ifYes X11.here hx rfl (pc0 := 65) (pc' := 70) rfl (hb hby at_65) rfl ((if0 _ _).trans (teq ((lw_eq (cr + 1) (cr + (1 : Int64))).mpr (own_eq64 (x := (cr + 1)) (y := (cr + (1 : Int64))) (i := (cr + 1).toInt) (j := (cr + (1 : Int64)).toInt) rfl rfl rfl))).1) (by decide) (by decide) kk) ?_
    show own_Go p e below _ (T11.setTop (mkF m 70 #[.val (.long q1), .second, .val (.int p2), .val (.int (1 : Int32)), .val (.long cr), .second, .val (.ref a1), .val (.long (cr + (1 : Int64))), .second, .val (.long (cr + 1)), .second, .unset, .unset, .unset, .unset] []))
    refine own_go (fun tt kk => XS.aload X11.here hx rfl (hb hby at_70) rfl rfl kk) ?_
    show own_Go p e below _ (T11.setTop (mkF m 72 #[.val (.long q1), .second, .val (.int p2), .val (.int (1 : Int32)), .val (.long cr), .second, .val (.ref a1), .val (.long (cr + (1 : Int64))), .second, .val (.long (cr + 1)), .second, .unset, .unset, .unset, .unset] [(.ref a1)]))
    obtain ⟨v12, L12, T12, X12, qq12, st12⟩ := own_callV X11 hx hZ hown (hw _ (List.mem_of_getElem? (i := 18) rfl)) (hw _ (List.mem_of_getElem? (i := 19) rfl)) (hw _ (List.mem_of_getElem? (i := 21) rfl)) (hw _ (List.mem_of_getElem? (i := 20) rfl)) (hw _ (List.mem_of_getElem? (i := 22) rfl)) (hw _ (List.mem_of_getElem? (i := 4) rfl)) (by decide) Ex10 (rmTick l Z a0 hw [] a1 (cr + 1) h0.size T10.heap Fl10 Ex10 g1) hh11 (pc := 72) (Ls := #[.val (.long q1), .second, .val (.int p2), .val (.int (1 : Int32)), .val (.long cr), .second, .val (.ref a1), .val (.long (cr + (1 : Int64))), .second, .val (.long (cr + 1)), .second, .unset, .unset, .unset, .unset]) (argsL := []) (rest := []) rfl (by rw [hml]; rfl) pd_2 rfl rfl (hb hby at_72) 0 (Nat.le_of_eq rfl) (by decide) (by decide) (by decide) (by decide)
    obtain ⟨rfl, Fl12, Ex12, sz12, Nr12⟩ := qq12
    refine own_go st12 ?_
    show own_Go p e below _ (T12.setTop (mkF m 75 #[.val (.long q1), .second, .val (.int p2), .val (.int (1 : Int32)), .val (.long cr), .second, .val (.ref a1), .val (.long (cr + (1 : Int64))), .second, .val (.long (cr + 1)), .second, .unset, .unset, .unset, .unset] [(.long ((cr + 1) + 1))]))
    refine own_go (fun tt kk => XS.lstore X12.here hx rfl (hb hby at_75) rfl (l' := #[.val (.long q1), .second, .val (.int p2), .val (.int (1 : Int32)), .val (.long cr), .second, .val (.ref a1), .val (.long (cr + (1 : Int64))), .second, .val (.long (cr + 1)), .second, .val (.long ((cr + 1) + 1)), .second, .unset, .unset]) rfl kk) ?_
    show own_Go p e below _ (T12.setTop (mkF m 77 #[.val (.long q1), .second, .val (.int p2), .val (.int (1 : Int32)), .val (.long cr), .second, .val (.ref a1), .val (.long (cr + (1 : Int64))), .second, .val (.long (cr + 1)), .second, .val (.long ((cr + 1) + 1)), .second, .unset, .unset] []))
    refine own_go (fun tt kk => XS.lload X12.here hx rfl (hb hby at_77) rfl kk) ?_
    show own_Go p e below _ (T12.setTop (mkF m 79 #[.val (.long q1), .second, .val (.int p2), .val (.int (1 : Int32)), .val (.long cr), .second, .val (.ref a1), .val (.long (cr + (1 : Int64))), .second, .val (.long (cr + 1)), .second, .val (.long ((cr + 1) + 1)), .second, .unset, .unset] [(.long ((cr + 1) + 1))]))
    refine own_go (fun tt kk => XS.lload X12.here hx rfl (hb hby at_79) rfl kk) ?_
    show own_Go p e below _ (T12.setTop (mkF m 81 #[.val (.long q1), .second, .val (.int p2), .val (.int (1 : Int32)), .val (.long cr), .second, .val (.ref a1), .val (.long (cr + (1 : Int64))), .second, .val (.long (cr + 1)), .second, .val (.long ((cr + 1) + 1)), .second, .unset, .unset] [(.long (cr + (1 : Int64))), (.long ((cr + 1) + 1))]))
    refine own_go (fun tt kk => XS.lconst X12.here hx rfl (hb hby at_81) kk) ?_
    show own_Go p e below _ (T12.setTop (mkF m 82 #[.val (.long q1), .second, .val (.int p2), .val (.int (1 : Int32)), .val (.long cr), .second, .val (.ref a1), .val (.long (cr + (1 : Int64))), .second, .val (.long (cr + 1)), .second, .val (.long ((cr + 1) + 1)), .second, .unset, .unset] [(.long (1 : Int64)), (.long (cr + (1 : Int64))), (.long ((cr + 1) + 1))]))
    refine own_go (fun tt kk => XS.ladd X12.here hx rfl (hb hby at_82) rfl kk) ?_
    show own_Go p e below _ (T12.setTop (mkF m 83 #[.val (.long q1), .second, .val (.int p2), .val (.int (1 : Int32)), .val (.long cr), .second, .val (.ref a1), .val (.long (cr + (1 : Int64))), .second, .val (.long (cr + 1)), .second, .val (.long ((cr + 1) + 1)), .second, .unset, .unset] [(.long ((cr + (1 : Int64)) + (1 : Int64))), (.long ((cr + 1) + 1))]))
    refine own_go (fun tt kk => XS.lcmp X12.here hx rfl (hb hby at_83) rfl kk) ?_
    show own_Go p e below _ (T12.setTop (mkF m 84 #[.val (.long q1), .second, .val (.int p2), .val (.int (1 : Int32)), .val (.long cr), .second, .val (.ref a1), .val (.long (cr + (1 : Int64))), .second, .val (.long (cr + 1)), .second, .val (.long ((cr + 1) + 1)), .second, .unset, .unset] [(.int (lcmpW ((cr + 1) + 1) ((cr + (1 : Int64)) + (1 : Int64))))]))
    refine own_go (fun tt kk => XS.ifYes X12.here hx rfl (pc0 := 84) (pc' := 89) rfl (hb hby at_84) rfl ((if0 _ _).trans (teq ((lw_eq ((cr + 1) + 1) ((cr + (1 : Int64)) + (1 : Int64))).mpr (own_eq64 (x := ((cr + 1) + 1)) (y := ((cr + (1 : Int64)) + (1 : Int64))) (i := ((cr + 1) + 1).toInt) (j := ((cr + (1 : Int64)) + (1 : Int64)).toInt) rfl rfl rfl))).1) (by decide) (by decide) kk) ?_
    show own_Go p e below _ (T12.setTop (mkF m 89 #[.val (.long q1), .second, .val (.int p2), .val (.int (1 : Int32)), .val (.long cr), .second, .val (.ref a1), .val (.long (cr + (1 : Int64))), .second, .val (.long (cr + 1)), .second, .val (.long ((cr + 1) + 1)), .second, .unset, .unset] []))
    refine own_go (fun tt kk => XS.aload X12.here hx rfl (hb hby at_89) rfl rfl kk) ?_
    show own_Go p e below _ (T12.setTop (mkF m 91 #[.val (.long q1), .second, .val (.int p2), .val (.int (1 : Int32)), .val (.long cr), .second, .val (.ref a1), .val (.long (cr + (1 : Int64))), .second, .val (.long (cr + 1)), .second, .val (.long ((cr + 1) + 1)), .second, .unset, .unset] [(.ref a1)]))
    obtain ⟨v13, L13, T13, X13, qq13, st13⟩ := own_callV X12 hx hZ hown (hw _ (List.mem_of_getElem? (i := 11) rfl)) (hw _ (List.mem_of_getElem? (i := 12) rfl)) (hw _ (List.mem_of_getElem? (i := 14) rfl)) (hw _ (List.mem_of_getElem? (i := 13) rfl)) (hw _ (List.mem_of_getElem? (i := 15) rfl)) (hw _ (List.mem_of_getElem? (i := 4) rfl)) (by decide) Ex12 (rmGet l Z a0 hw [] a1 ((cr + 1) + 1) T12.heap Fl12) (rfl : T12.heap = _) (pc := 91) (Ls := #[.val (.long q1), .second, .val (.int p2), .val (.int (1 : Int32)), .val (.long cr), .second, .val (.ref a1), .val (.long (cr + (1 : Int64))), .second, .val (.long (cr + 1)), .second, .val (.long ((cr + 1) + 1)), .second, .unset, .unset]) (argsL := []) (rest := []) rfl (by rw [hml]; rfl) pd_2 rfl rfl (hb hby at_91) 0 (Nat.le_of_eq rfl) (by decide) (by decide) (by decide) (by decide)
    obtain ⟨rfl, hh13, rfl⟩ := qq13
    refine own_go st13 ?_
    show own_Go p e below _ (T13.setTop (mkF m 94 #[.val (.long q1), .second, .val (.int p2), .val (.int (1 : Int32)), .val (.long cr), .second, .val (.ref a1), .val (.long (cr + (1 : Int64))), .second, .val (.long (cr + 1)), .second, .val (.long ((cr + 1) + 1)), .second, .unset, .unset] [(.long ((cr + 1) + 1))]))
    refine own_go (fun tt kk => XS.lload X13.here hx rfl (hb hby at_94) rfl kk) ?_
    show own_Go p e below _ (T13.setTop (mkF m 96 #[.val (.long q1), .second, .val (.int p2), .val (.int (1 : Int32)), .val (.long cr), .second, .val (.ref a1), .val (.long (cr + (1 : Int64))), .second, .val (.long (cr + 1)), .second, .val (.long ((cr + 1) + 1)), .second, .unset, .unset] [(.long ((cr + 1) + 1)), (.long ((cr + 1) + 1))]))
    refine own_go (fun tt kk => XS.lcmp X13.here hx rfl (hb hby at_96) rfl kk) ?_
    show own_Go p e below _ (T13.setTop (mkF m 97 #[.val (.long q1), .second, .val (.int p2), .val (.int (1 : Int32)), .val (.long cr), .second, .val (.ref a1), .val (.long (cr + (1 : Int64))), .second, .val (.long (cr + 1)), .second, .val (.long ((cr + 1) + 1)), .second, .unset, .unset] [(.int (lcmpW ((cr + 1) + 1) ((cr + 1) + 1)))]))
    refine own_go (fun tt kk => XS.ifYes X13.here hx rfl (pc0 := 97) (pc' := 102) rfl (hb hby at_97) rfl ((if0 _ _).trans (teq ((lw_eq ((cr + 1) + 1) ((cr + 1) + 1)).mpr (own_eq64 (x := ((cr + 1) + 1)) (y := ((cr + 1) + 1)) (i := ((cr + 1) + 1).toInt) (j := ((cr + 1) + 1).toInt) rfl rfl rfl))).1) (by decide) (by decide) kk) ?_
    show own_Go p e below _ (T13.setTop (mkF m 102 #[.val (.long q1), .second, .val (.int p2), .val (.int (1 : Int32)), .val (.long cr), .second, .val (.ref a1), .val (.long (cr + (1 : Int64))), .second, .val (.long (cr + 1)), .second, .val (.long ((cr + 1) + 1)), .second, .unset, .unset] []))
    refine own_go (fun tt kk => XS.aload X13.here hx rfl (hb hby at_102) rfl rfl kk) ?_
    show own_Go p e below _ (T13.setTop (mkF m 104 #[.val (.long q1), .second, .val (.int p2), .val (.int (1 : Int32)), .val (.long cr), .second, .val (.ref a1), .val (.long (cr + (1 : Int64))), .second, .val (.long (cr + 1)), .second, .val (.long ((cr + 1) + 1)), .second, .unset, .unset] [(.ref a1)]))
    obtain ⟨v14, L14, T14, X14, qq14, st14⟩ := own_callV X13 hx hZ hown (hw _ (List.mem_of_getElem? (i := 18) rfl)) (hw _ (List.mem_of_getElem? (i := 19) rfl)) (hw _ (List.mem_of_getElem? (i := 21) rfl)) (hw _ (List.mem_of_getElem? (i := 20) rfl)) (hw _ (List.mem_of_getElem? (i := 22) rfl)) (hw _ (List.mem_of_getElem? (i := 4) rfl)) (by decide) Ex12 (rmTick l Z a0 hw [] a1 ((cr + 1) + 1) h0.size T12.heap Fl12 Ex12 g1) hh13 (pc := 104) (Ls := #[.val (.long q1), .second, .val (.int p2), .val (.int (1 : Int32)), .val (.long cr), .second, .val (.ref a1), .val (.long (cr + (1 : Int64))), .second, .val (.long (cr + 1)), .second, .val (.long ((cr + 1) + 1)), .second, .unset, .unset]) (argsL := []) (rest := []) rfl (by rw [hml]; rfl) pd_2 rfl rfl (hb hby at_104) 0 (Nat.le_of_eq rfl) (by decide) (by decide) (by decide) (by decide)
    obtain ⟨rfl, Fl14, Ex14, sz14, Nr14⟩ := qq14
    refine own_go st14 ?_
    show own_Go p e below _ (T14.setTop (mkF m 107 #[.val (.long q1), .second, .val (.int p2), .val (.int (1 : Int32)), .val (.long cr), .second, .val (.ref a1), .val (.long (cr + (1 : Int64))), .second, .val (.long (cr + 1)), .second, .val (.long ((cr + 1) + 1)), .second, .unset, .unset] [(.long (((cr + 1) + 1) + 1))]))
    refine own_go (fun tt kk => XS.lstore X14.here hx rfl (hb hby at_107) rfl (l' := #[.val (.long q1), .second, .val (.int p2), .val (.int (1 : Int32)), .val (.long cr), .second, .val (.ref a1), .val (.long (cr + (1 : Int64))), .second, .val (.long (cr + 1)), .second, .val (.long ((cr + 1) + 1)), .second, .val (.long (((cr + 1) + 1) + 1)), .second]) rfl kk) ?_
    show own_Go p e below _ (T14.setTop (mkF m 109 #[.val (.long q1), .second, .val (.int p2), .val (.int (1 : Int32)), .val (.long cr), .second, .val (.ref a1), .val (.long (cr + (1 : Int64))), .second, .val (.long (cr + 1)), .second, .val (.long ((cr + 1) + 1)), .second, .val (.long (((cr + 1) + 1) + 1)), .second] []))
    refine own_go (fun tt kk => XS.lload X14.here hx rfl (hb hby at_109) rfl kk) ?_
    show own_Go p e below _ (T14.setTop (mkF m 111 #[.val (.long q1), .second, .val (.int p2), .val (.int (1 : Int32)), .val (.long cr), .second, .val (.ref a1), .val (.long (cr + (1 : Int64))), .second, .val (.long (cr + 1)), .second, .val (.long ((cr + 1) + 1)), .second, .val (.long (((cr + 1) + 1) + 1)), .second] [(.long (((cr + 1) + 1) + 1))]))
    refine own_go (fun tt kk => XS.lload X14.here hx rfl (hb hby at_111) rfl kk) ?_
    show own_Go p e below _ (T14.setTop (mkF m 113 #[.val (.long q1), .second, .val (.int p2), .val (.int (1 : Int32)), .val (.long cr), .second, .val (.ref a1), .val (.long (cr + (1 : Int64))), .second, .val (.long (cr + 1)), .second, .val (.long ((cr + 1) + 1)), .second, .val (.long (((cr + 1) + 1) + 1)), .second] [(.long (cr + (1 : Int64))), (.long (((cr + 1) + 1) + 1))]))
    refine own_go (X14.ldc2Long hx hown (mvT hZ (hw _ (List.mem_of_getElem? (i := 23) rfl))) (g := (mkF m 113 #[.val (.long q1), .second, .val (.int p2), .val (.int (1 : Int32)), .val (.long cr), .second, .val (.ref a1), .val (.long (cr + (1 : Int64))), .second, .val (.long (cr + 1)), .second, .val (.long ((cr + 1) + 1)), .second, .val (.long (((cr + 1) + 1) + 1)), .second] [(.long (cr + (1 : Int64))), (.long (((cr + 1) + 1) + 1))])) rfl (hb hby at_113)) ?_
    show own_Go p e below _ (T14.setTop (mkF m 116 #[.val (.long q1), .second, .val (.int p2), .val (.int (1 : Int32)), .val (.long cr), .second, .val (.ref a1), .val (.long (cr + (1 : Int64))), .second, .val (.long (cr + 1)), .second, .val (.long ((cr + 1) + 1)), .second, .val (.long (((cr + 1) + 1) + 1)), .second] [(.long (2 : Int64)), (.long (cr + (1 : Int64))), (.long (((cr + 1) + 1) + 1))]))
    refine own_go (fun tt kk => XS.ladd X14.here hx rfl (hb hby at_116) rfl kk) ?_
    show own_Go p e below _ (T14.setTop (mkF m 117 #[.val (.long q1), .second, .val (.int p2), .val (.int (1 : Int32)), .val (.long cr), .second, .val (.ref a1), .val (.long (cr + (1 : Int64))), .second, .val (.long (cr + 1)), .second, .val (.long ((cr + 1) + 1)), .second, .val (.long (((cr + 1) + 1) + 1)), .second] [(.long ((cr + (1 : Int64)) + (2 : Int64))), (.long (((cr + 1) + 1) + 1))]))
    refine own_go (fun tt kk => XS.lcmp X14.here hx rfl (hb hby at_117) rfl kk) ?_
    show own_Go p e below _ (T14.setTop (mkF m 118 #[.val (.long q1), .second, .val (.int p2), .val (.int (1 : Int32)), .val (.long cr), .second, .val (.ref a1), .val (.long (cr + (1 : Int64))), .second, .val (.long (cr + 1)), .second, .val (.long ((cr + 1) + 1)), .second, .val (.long (((cr + 1) + 1) + 1)), .second] [(.int (lcmpW (((cr + 1) + 1) + 1) ((cr + (1 : Int64)) + (2 : Int64))))]))
    refine own_go (fun tt kk => XS.ifYes X14.here hx rfl (pc0 := 118) (pc' := 123) rfl (hb hby at_118) rfl ((if0 _ _).trans (teq ((lw_eq (((cr + 1) + 1) + 1) ((cr + (1 : Int64)) + (2 : Int64))).mpr (own_eq64 (x := (((cr + 1) + 1) + 1)) (y := ((cr + (1 : Int64)) + (2 : Int64))) (i := (((cr + 1) + 1) + 1).toInt) (j := ((cr + (1 : Int64)) + (2 : Int64)).toInt) rfl rfl (by rw [Int64.add_assoc]; rfl)))).1) (by decide) (by decide) kk) ?_
    show own_Go p e below _ (T14.setTop (mkF m 123 #[.val (.long q1), .second, .val (.int p2), .val (.int (1 : Int32)), .val (.long cr), .second, .val (.ref a1), .val (.long (cr + (1 : Int64))), .second, .val (.long (cr + 1)), .second, .val (.long ((cr + 1) + 1)), .second, .val (.long (((cr + 1) + 1) + 1)), .second] []))
    refine own_go (fun tt kk => XS.aload X14.here hx rfl (hb hby at_123) rfl rfl kk) ?_
    show own_Go p e below _ (T14.setTop (mkF m 125 #[.val (.long q1), .second, .val (.int p2), .val (.int (1 : Int32)), .val (.long cr), .second, .val (.ref a1), .val (.long (cr + (1 : Int64))), .second, .val (.long (cr + 1)), .second, .val (.long ((cr + 1) + 1)), .second, .val (.long (((cr + 1) + 1) + 1)), .second] [(.ref a1)]))
    obtain ⟨v15, L15, T15, X15, qq15, st15⟩ := own_callV X14 hx hZ hown (hw _ (List.mem_of_getElem? (i := 11) rfl)) (hw _ (List.mem_of_getElem? (i := 12) rfl)) (hw _ (List.mem_of_getElem? (i := 14) rfl)) (hw _ (List.mem_of_getElem? (i := 13) rfl)) (hw _ (List.mem_of_getElem? (i := 15) rfl)) (hw _ (List.mem_of_getElem? (i := 4) rfl)) (by decide) Ex14 (rmGet l Z a0 hw [] a1 (((cr + 1) + 1) + 1) T14.heap Fl14) (rfl : T14.heap = _) (pc := 125) (Ls := #[.val (.long q1), .second, .val (.int p2), .val (.int (1 : Int32)), .val (.long cr), .second, .val (.ref a1), .val (.long (cr + (1 : Int64))), .second, .val (.long (cr + 1)), .second, .val (.long ((cr + 1) + 1)), .second, .val (.long (((cr + 1) + 1) + 1)), .second]) (argsL := []) (rest := []) rfl (by rw [hml]; rfl) pd_2 rfl rfl (hb hby at_125) 0 (Nat.le_of_eq rfl) (by decide) (by decide) (by decide) (by decide)
    obtain ⟨rfl, hh15, rfl⟩ := qq15
    refine own_go st15 ?_
    show own_Go p e below _ (T15.setTop (mkF m 128 #[.val (.long q1), .second, .val (.int p2), .val (.int (1 : Int32)), .val (.long cr), .second, .val (.ref a1), .val (.long (cr + (1 : Int64))), .second, .val (.long (cr + 1)), .second, .val (.long ((cr + 1) + 1)), .second, .val (.long (((cr + 1) + 1) + 1)), .second] [(.long (((cr + 1) + 1) + 1))]))
    refine own_go (fun tt kk => XS.lload X15.here hx rfl (hb hby at_128) rfl kk) ?_
    show own_Go p e below _ (T15.setTop (mkF m 130 #[.val (.long q1), .second, .val (.int p2), .val (.int (1 : Int32)), .val (.long cr), .second, .val (.ref a1), .val (.long (cr + (1 : Int64))), .second, .val (.long (cr + 1)), .second, .val (.long ((cr + 1) + 1)), .second, .val (.long (((cr + 1) + 1) + 1)), .second] [(.long (((cr + 1) + 1) + 1)), (.long (((cr + 1) + 1) + 1))]))
    refine own_go (fun tt kk => XS.lcmp X15.here hx rfl (hb hby at_130) rfl kk) ?_
    show own_Go p e below _ (T15.setTop (mkF m 131 #[.val (.long q1), .second, .val (.int p2), .val (.int (1 : Int32)), .val (.long cr), .second, .val (.ref a1), .val (.long (cr + (1 : Int64))), .second, .val (.long (cr + 1)), .second, .val (.long ((cr + 1) + 1)), .second, .val (.long (((cr + 1) + 1) + 1)), .second] [(.int (lcmpW (((cr + 1) + 1) + 1) (((cr + 1) + 1) + 1)))]))
    refine own_go (fun tt kk => XS.ifNo X15.here hx rfl (hb hby at_131) rfl ((if0 _ _).trans (teq ((lw_eq (((cr + 1) + 1) + 1) (((cr + 1) + 1) + 1)).mpr (own_eq64 (x := (((cr + 1) + 1) + 1)) (y := (((cr + 1) + 1) + 1)) (i := (((cr + 1) + 1) + 1).toInt) (j := (((cr + 1) + 1) + 1).toInt) rfl rfl rfl))).2) kk) ?_
    show own_Go p e below _ (T15.setTop (mkF m 134 #[.val (.long q1), .second, .val (.int p2), .val (.int (1 : Int32)), .val (.long cr), .second, .val (.ref a1), .val (.long (cr + (1 : Int64))), .second, .val (.long (cr + 1)), .second, .val (.long ((cr + 1) + 1)), .second, .val (.long (((cr + 1) + 1) + 1)), .second] []))
    refine own_go (fun tt kk => XS.iconst X15.here hx rfl (hb hby at_134) kk) ?_
    show own_Go p e below _ (T15.setTop (mkF m 135 #[.val (.long q1), .second, .val (.int p2), .val (.int (1 : Int32)), .val (.long cr), .second, .val (.ref a1), .val (.long (cr + (1 : Int64))), .second, .val (.long (cr + 1)), .second, .val (.long ((cr + 1) + 1)), .second, .val (.long (((cr + 1) + 1) + 1)), .second] [(.int (1 : Int32))]))
    refine own_go (fun tt kk => XS.goto X15.here hx rfl (pc0 := 135) (pc' := 139) rfl (hb hby at_135) (by decide) (by decide) kk) ?_
    show own_Go p e below _ (T15.setTop (mkF m 139 #[.val (.long q1), .second, .val (.int p2), .val (.int (1 : Int32)), .val (.long cr), .second, .val (.ref a1), .val (.long (cr + (1 : Int64))), .second, .val (.long (cr + 1)), .second, .val (.long ((cr + 1) + 1)), .second, .val (.long (((cr + 1) + 1) + 1)), .second] [(.int (1 : Int32))]))
    exact own_retZ X15 hx hlk hret (by decide) (hb hby at_139) ⟨rfl, (Fr.app (Fr.app (Fr.app (Fr.app (Fr.app (Fr.app (Fr.app (Fr.nil h0.size) (Fr.nil h0.size)) Nr10) (Fr.nil h0.size)) Nr12) (Fr.nil h0.size)) Nr14) (Fr.nil h0.size))⟩ (by decide) (by decide)
set_option maxRecDepth 65536 in
set_option maxHeartbeats 40000000 in
theorem comes_1 {Post : Tables → Env → Array Value → State → Outcome → State → Prop} (hpost : ∀ tb e args s v u, (limb_1_1.after args s (.returned v) u = true ∧ limb_1_2.after args s (.returned v) u = true ∧ True) → FrameEnd s (.returned v) u (Jvm.fieldLocs frame_1_writes args s ++ Jvm.arrayLocs frame_1_arrays args s ++ Jvm.staticLocs frame_1_statics s) 16 128 → Post tb e args s (.returned v) u) :
    ArmFor flags0 classFile x code maxLocals ret World_1 tables_1 room_1 Calls_1 rest_1 Pre_1 Post := by
  intro l hfl _ _ p e ha hc hk s m args below hf hA hF happ hP
  obtain ⟨hcalls, hrest, hpre⟩ := hP
  obtain ⟨-, -, -, hnamed, -, -, -, hat⟩ := (Spec.applies_iff hf).mp happ
  obtain ⟨hg, hn⟩ := and_e (Cond.before_iff.mp (show (Jvm.Cond.and given_1 narrow_1).before args s = true from hpre))
  obtain ⟨h1, h2⟩ := and_e hg
  obtain ⟨w0, w1, rfl⟩ : ∃ w0 w1 : Value, args = #[w0, w1] := by
    have hs : args.size = 2 := by simpa [Cond.value, given_1] using h1
    obtain ⟨L⟩ := args
    match L, hs with
    | [w0, w1], _ => exact ⟨w0, w1, rfl⟩
  have hw := fun d (hd : d ∈ tables_1) => atoms_spec (ws := Jvm.Cond.code x code maxLocals ret :: tables_1) hat d (List.mem_cons_of_mem _ hd)
  obtain ⟨g0, h20⟩ := and_e h2
  obtain ⟨i0, e0⟩ := isL_v g0
  obtain rfl : w0 = (.long i0) := Option.some.inj e0
  obtain ⟨i1, e1⟩ := is_v h20
  obtain rfl : w1 = (.int i1) := Option.some.inj e1
  obtain ⟨n, o, h1, h2, h3, _, L, rfl, ⟨rfl, N⟩, hq⟩ := rm0 l s _ hw tables_1 i0 i1 s.heap p e ha hc hk s m _ below hf ((Spec.applies_iff_loose hf).mp happ).1 ⟨rfl, State.Warmed39.refl s, rfl⟩ trivial
  refine ⟨n, _, h1, h2, h3, hpost _ _ _ _ _ _ ⟨Cond.after_iff.mpr rfl, Cond.after_iff.mpr (eq_i res_at (Term.int_eval (1)) rfl), trivial⟩ ⟨hq.1, hq.2.1, (hq.2.2.sift fun y hy => Or.inr (N y hy)).mono (by decide) (by decide)⟩⟩
theorem main_1_1 : Claimed_1_1 := comes_1 fun _ _ _ _ _ _ h hF => ⟨h.1, hF⟩
theorem main_1_2 : Claimed_1_2 := comes_1 fun _ _ _ _ _ _ h hF => ⟨h.2.1, hF⟩
end Jvm.Pilot.@@N@@
namespace Jvm.Pilot.@@N@@
open Jvm Jvm.ClassFile Sem Op Lib Jvm.Free Jvm.Stand Jvm.Pilot.@@N@@.Jvm.D
/-! MADE BY PROGRAM (witnessworld.py) out of the Statement's table words and the real class files: 10 classes; the members and pool entries that the words name. The judged class is class 1, her method 1. -/
namespace start1
open Jvm.ClassFile
def u (s : String) : CpInfo := .utf8 (stringToUtf16 s)
/-- a pool by its gaps: so many unusable entries, then the entry; so many at the end -/
def gap : Nat → List CpInfo → List CpInfo
  | 0, r => r
  | n + 1, r => .unusable :: gap n r
def poolList (es : List (Nat × CpInfo)) (last : Nat) : List CpInfo := es.foldr (fun e r => gap e.1 (e.2 :: r)) (gap last [])
def pool (es : List (Nat × CpInfo)) (last : Nat) : Array CpInfo := ⟨poolList es last⟩
def fileOf (pool : Array CpInfo) (this : Nat) (attrs : Array Attribute := #[]) (ms : Array MethodInfo := #[]) (fl : Nat := 33) (sup : Nat := 0) (ifs : Array Nat := #[]) (fds : Array FieldInfo := #[]) : ClassFile where
  minorVersion := 0
  majorVersion := 65
  constantPool := pool
  accessFlags := fl
  thisClass := this
  superClass := sup
  interfaces := ifs
  fields := fds
  methods := ms
  attributes := attrs
def plain (name : String) (sup : Option ClassId) : Class where
  name := name
  kind := .ordinary
  loader := none
  accessFlags := 33
  super := sup
  interfaces := #[]
  cf := none
  fields := #[]
  methods := #[]
  instanceTypes := #[]
  staticTypes := #[]
  resolved := #[]
  callSites := []
  init := .initialized
  statics := none
  mirror := none

def pool0 : Array CpInfo := pool [(5, u "<init>"), (0, u "()V"), (1, .class_ 10), (1, u "java/lang/Object")] 113

def k0c0 : Code := { maxStack := 0, maxLocals := 1, code := object_method_1_code, exceptionTable := #[], attributes := #[] }
def k0m0 : Method := { name := "<init>", desc := "()V", sig := { parameters := [], returnType := none }, accessFlags := 1, code := some k0c0 }
/-- java/lang/Object -/
def k0 : Class := { plain "java/lang/Object" none with
  accessFlags := 33
  interfaces := #[]
  cf := some (fileOf pool0 8 #[] #[{ accessFlags := 1, nameIndex := 5, descriptorIndex := 6, attributes := #[] }] 33 0 #[] #[])
  fields := #[]
  methods := #[k0m0]
  instanceTypes := #[]
  staticTypes := #[]
  resolved := Array.replicate 124 none
  statics := none }

def pool1 : Array CpInfo := pool [(2, .class_ 4), (0, .nameAndType 5 6), (0, u "java/lang/Object"), (0, u "<init>"), (0, u "()V"), (2, .long 9223372036854775807), (1, .long 9223372036854775805), (1, .class_ 14), (0, u "com/example/tick2/tick2/clock/LamportClock"), (0, .methodref 13 3), (0, .methodref 13 17), (0, .nameAndType 18 19), (0, u "receive"), (0, u "(J)J"), (0, .methodref 13 21), (0, .nameAndType 22 23), (0, u "getTime"), (0, u "()J"), (0, .methodref 13 25), (0, .nameAndType 26 23), (0, u "tick"), (0, .long 2), (1, .class_ 30), (0, u "com/example/tick2/tick2/clock/LamportClockTickPinLaw"), (2, u "law"), (0, u "(JI)Z")] 3

def k1m0 : Method := { name := "<init>", desc := "()V", sig := { parameters := [], returnType := none }, accessFlags := 1, code := none }
def k1c1 : Code := { maxStack := 6, maxLocals := 15, code := code, exceptionTable := #[], attributes := #[] }
def k1m1 : Method := { name := "law", desc := "(JI)Z", sig := { parameters := [.long, .int], returnType := some .boolean }, accessFlags := 9, code := some k1c1 }
/-- com/example/tick2/tick2/clock/LamportClockTickPinLaw -/
def k1 : Class := { plain "com/example/tick2/tick2/clock/LamportClockTickPinLaw" (some 0) with
  accessFlags := 49
  interfaces := #[]
  cf := some (fileOf pool1 29 #[] #[{ accessFlags := 1, nameIndex := 5, descriptorIndex := 6, attributes := #[] }, { accessFlags := 9, nameIndex := 33, descriptorIndex := 34, attributes := #[] }] 49 2 #[] #[])
  fields := #[]
  methods := #[k1m0, k1m1]
  instanceTypes := #[]
  staticTypes := #[]
  resolved := Array.replicate 38 none
  statics := none }

def pool2 : Array CpInfo := pool [(1, .methodref 2 3), (0, .class_ 4), (0, .nameAndType 5 6), (0, u "java/lang/Object"), (0, u "<init>"), (0, u "()V"), (0, .fieldref 8 9), (0, .class_ 10), (0, .nameAndType 11 12), (0, u "com/example/tick2/tick2/clock/LamportClock"), (0, u "time"), (0, u "J"), (9, .methodref 23 24), (0, .class_ 25), (0, .nameAndType 26 27), (0, u "java/lang/Math"), (0, u "max"), (0, u "(JJ)J"), (2, u "getTime"), (0, u "()J"), (0, u "tick"), (0, u "receive"), (0, u "(J)J")] 18

def k2c0 : Code := { maxStack := 1, maxLocals := 1, code := prog_1_method_1_code, exceptionTable := #[], attributes := #[] }
def k2m0 : Method := { name := "<init>", desc := "()V", sig := { parameters := [], returnType := none }, accessFlags := 1, code := some k2c0 }
def k2c1 : Code := { maxStack := 2, maxLocals := 1, code := prog_1_method_2_code, exceptionTable := #[], attributes := #[] }
def k2m1 : Method := { name := "getTime", desc := "()J", sig := { parameters := [], returnType := some .long }, accessFlags := 1, code := some k2c1 }
def k2c2 : Code := { maxStack := 5, maxLocals := 1, code := prog_1_method_3_code, exceptionTable := #[], attributes := #[] }
def k2m2 : Method := { name := "tick", desc := "()J", sig := { parameters := [], returnType := some .long }, accessFlags := 1, code := some k2c2 }
def k2c3 : Code := { maxStack := 5, maxLocals := 3, code := prog_1_method_4_code, exceptionTable := #[], attributes := #[] }
def k2m3 : Method := { name := "receive", desc := "(J)J", sig := { parameters := [.long], returnType := some .long }, accessFlags := 1, code := some k2c3 }
/-- com/example/tick2/tick2/clock/LamportClock -/
def k2 : Class := { plain "com/example/tick2/tick2/clock/LamportClock" (some 0) with
  accessFlags := 49
  interfaces := #[]
  cf := some (fileOf pool2 8 #[] #[{ accessFlags := 1, nameIndex := 5, descriptorIndex := 6, attributes := #[] }, { accessFlags := 1, nameIndex := 30, descriptorIndex := 31, attributes := #[] }, { accessFlags := 1, nameIndex := 32, descriptorIndex := 31, attributes := #[] }, { accessFlags := 1, nameIndex := 33, descriptorIndex := 34, attributes := #[] }] 49 2 #[] #[{ accessFlags := 2, nameIndex := 11, descriptorIndex := 12, attributes := #[] }])
  fields := #[{ name := "time", type := .long, accessFlags := 2, slot := 0, constantValue := 0 }]
  methods := #[k2m0, k2m1, k2m2, k2m3]
  instanceTypes := #[.long]
  staticTypes := #[]
  resolved := Array.replicate 53 none
  statics := none }

def pool3 : Array CpInfo := pool [(1, .class_ 2), (0, u "java/lang/Math"), (1, .class_ 6), (1, u "java/lang/Object"), (0, u "<init>"), (0, u "()V"), (89, .class_ 100), (1, u "java/lang/Math$RandomNumberGeneratorHolder"), (20, u "(JJ)J"), (50, u "negativeZeroFloatBits"), (0, u "J"), (2, u "negativeZeroDoubleBits"), (21, u "max"), (46, u "$assertionsDisabled"), (0, u "Z"), (91, u "twoToTheDoubleScaleDown"), (0, u "D"), (4, u "twoToTheDoubleScaleUp"), (9, u "E"), (3, u "PI"), (2, u "TAU"), (2, u "DEGREES_TO_RADIANS"), (0, u "RADIANS_TO_DEGREES")] 94

def k3m0 : Method := { name := "<init>", desc := "()V", sig := { parameters := [], returnType := none }, accessFlags := 2, code := none }
def k3c1 : Code := { maxStack := 4, maxLocals := 4, code := jdk_29_method_66_code, exceptionTable := #[], attributes := #[] }
def k3m1 : Method := { name := "max", desc := "(JJ)J", sig := { parameters := [.long, .long], returnType := some .long }, accessFlags := 9, code := some k3c1 }
/-- java/lang/Math -/
def k3 : Class := { plain "java/lang/Math" (some 0) with
  accessFlags := 49
  interfaces := #[]
  cf := some (fileOf pool3 1 #[.nestMembers #[98]] #[{ accessFlags := 2, nameIndex := 7, descriptorIndex := 8, attributes := #[] }, { accessFlags := 9, nameIndex := 198, descriptorIndex := 121, attributes := #[] }] 49 4 #[] #[{ accessFlags := 25, nameIndex := 354, descriptorIndex := 339, attributes := #[] }, { accessFlags := 25, nameIndex := 358, descriptorIndex := 339, attributes := #[] }, { accessFlags := 25, nameIndex := 361, descriptorIndex := 339, attributes := #[] }, { accessFlags := 26, nameIndex := 364, descriptorIndex := 339, attributes := #[] }, { accessFlags := 26, nameIndex := 365, descriptorIndex := 339, attributes := #[] }, { accessFlags := 26, nameIndex := 172, descriptorIndex := 173, attributes := #[] }, { accessFlags := 26, nameIndex := 176, descriptorIndex := 173, attributes := #[] }, { accessFlags := 8, nameIndex := 344, descriptorIndex := 339, attributes := #[] }, { accessFlags := 8, nameIndex := 338, descriptorIndex := 339, attributes := #[] }, { accessFlags := 4120, nameIndex := 245, descriptorIndex := 246, attributes := #[] }])
  fields := #[{ name := "E", type := .double, accessFlags := 25, slot := 0, constantValue := 0 }, { name := "PI", type := .double, accessFlags := 25, slot := 1, constantValue := 0 }, { name := "TAU", type := .double, accessFlags := 25, slot := 2, constantValue := 0 }, { name := "DEGREES_TO_RADIANS", type := .double, accessFlags := 26, slot := 3, constantValue := 0 }, { name := "RADIANS_TO_DEGREES", type := .double, accessFlags := 26, slot := 4, constantValue := 0 }, { name := "negativeZeroFloatBits", type := .long, accessFlags := 26, slot := 5, constantValue := 0 }, { name := "negativeZeroDoubleBits", type := .long, accessFlags := 26, slot := 6, constantValue := 0 }, { name := "twoToTheDoubleScaleUp", type := .double, accessFlags := 8, slot := 7, constantValue := 0 }, { name := "twoToTheDoubleScaleDown", type := .double, accessFlags := 8, slot := 8, constantValue := 0 }, { name := "$assertionsDisabled", type := .boolean, accessFlags := 4120, slot := 9, constantValue := 0 }]
  methods := #[k3m0, k3m1]
  instanceTypes := #[]
  staticTypes := #[.double, .double, .double, .double, .double, .long, .long, .double, .double, .boolean]
  resolved := Array.replicate 460 none
  statics := none }

def pool4 : Array CpInfo := pool [(1, u "java/lang/Cloneable"), (0, .class_ 1), (0, u "java/lang/Object"), (0, .class_ 3)] 3

/-- java/lang/Cloneable -/
def k4 : Class := { plain "java/lang/Cloneable" (some 0) with
  accessFlags := 1537
  interfaces := #[]
  cf := some (fileOf pool4 2 #[] #[] 1537 4 #[] #[])
  fields := #[]
  methods := #[]
  instanceTypes := #[]
  staticTypes := #[]
  resolved := Array.replicate 8 none
  statics := none }

def pool5 : Array CpInfo := pool [(1, u "java/io/Serializable"), (0, .class_ 1), (0, u "java/lang/Object"), (0, .class_ 3)] 3

/-- java/io/Serializable -/
def k5 : Class := { plain "java/io/Serializable" (some 0) with
  accessFlags := 1537
  interfaces := #[]
  cf := some (fileOf pool5 2 #[] #[] 1537 4 #[] #[])
  fields := #[]
  methods := #[]
  instanceTypes := #[]
  staticTypes := #[]
  resolved := Array.replicate 8 none
  statics := none }

/-- the primitive byte -/
def k6 : Class := { plain "byte" none with kind := .primitive 'B', accessFlags := 0x411 }
/-- [B -/
def k7 : Class := { plain "[B" (some 0) with kind := .array 6 .byte, interfaces := #[4, 5], accessFlags := 1041 }

/-- the primitive int -/
def k8 : Class := { plain "int" none with kind := .primitive 'I', accessFlags := 0x411 }
/-- [I -/
def k9 : Class := { plain "[I" (some 0) with kind := .array 8 .int, interfaces := #[4, 5], accessFlags := 1041 }

def heap : Heap := #[]
def classes : Array Class := #[k0, k1, k2, k3, k4, k5, k6, k7, k8, k9]
def interned : List (Array UInt16 × Addr) := []
def slotsUsed : Nat := 0
def theMethod : MethodId := ⟨1, 1⟩
def args0 : Array Value := #[.long 5, .int 7]
def aboutOver (below : List Frame) : State where
  vm := { classes := classes, interned := interned.toArray }
  heap := heap
  slotsUsed := slotsUsed
  threads := #[{ frames := .invoking theMethod args0 :: below }]
def below0 : List Frame := [.native { method := ⟨0, 0⟩, args := #[] }]
def about1 : State := aboutOver below0
def p0 : Program := .bare "" "" ""
def e0 : Env := launch0.env 0 0 0
theorem w_frames : about1.frames = Frame.invoking theMethod args0 :: below0 := rfl
set_option maxRecDepth 65536 in
theorem w_args : argsFit about1.vm theMethod args0 = true := by decide +kernel
set_option maxRecDepth 65536 in
theorem w_heap : heapFits about1 = true := by decide +kernel
set_option maxRecDepth 65536 in
theorem w_runnable : about1.curStatus? = some .runnable := by decide +kernel
set_option maxRecDepth 65536 in
theorem w_alone : about1.alone = true := by decide +kernel
set_option maxRecDepth 65536 in
theorem w_named : about1.methodNamed? x = some theMethod := by decide +kernel
set_option maxRecDepth 65536 in
theorem w_hears : about1.hears theMethod below0 = true := by decide +kernel
set_option maxRecDepth 65536 in
theorem w_ripe : about1.ripe theMethod args0 below0 = true := by decide +kernel
theorem w_running : about1.status = .running := rfl
set_option maxRecDepth 65536 in
theorem w_room : about1.hasRoom e0.platform room_1 = true :=
  launch0.hasRoom_least _ room_1 (by decide +kernel) (by decide +kernel) (by decide +kernel) (by decide +kernel) (by decide +kernel) (by decide +kernel)
theorem allAtoms_all (ts : List Jvm.Cond) (a : Array Jvm.Value) (st : Jvm.State) : (allAtoms ts).before a st = ts.all (fun c => c.before a st) := by
  induction ts with
  | nil => rfl
  | cons c t ih =>
    show (Jvm.Cond.and c (allAtoms t)).before a st = _
    rw [Jvm.Cond.before_and, ih, List.all_cons]
def words1 : List Jvm.Cond := Jvm.Cond.code x code maxLocals ret :: tables_1
/-- a 'code' word, met by the world's own term for the bytes: nothing is compared byte by byte -/
theorem code_word {y : MethodName} {bytes : ByteArray} {mx : Nat} {rt : Option FieldType} {a : Array Value} {s : State} {m : MethodId} {meth : Method} {c : Code} (h1 : s.methodNamed? y = some m) (h2 : s.vm.method? m = some meth) (h3 : meth.code = some c) (h4 : c.code = bytes)
    (h5 : (c.maxLocals == mx && c.exceptionTable.isEmpty && decide (c.maxStack ≤ mostOperands) && decide (meth.sig.returnType = rt) && !meth.locks && decide (parseMethodDescriptor y.desc = some meth.sig)) = true) : (Jvm.Cond.code y bytes mx rt).before a s = true := by
  simp only [Bool.and_eq_true, beq_iff_eq, Bool.not_eq_true', decide_eq_true_eq] at h5
  obtain ⟨⟨⟨⟨⟨g1, g2⟩, g3⟩, g4⟩, g5⟩, g6⟩ := h5
  simp [Cond.before, Cond.holds, Cond.value, h1, h2, h3, h4, g1, g2, g3, g4, g5, g6]
def isCode : Jvm.Cond → Bool
  | .code _ _ _ _ => true
  | _ => false
theorem all_split {L : List Jvm.Cond} {P : Jvm.Cond → Bool} (h1 : L.all (fun c => isCode c || P c) = true) (h2 : ∀ c ∈ L.filter isCode, P c = true) : L.all P = true := by
  refine List.all_eq_true.mpr fun c hc => ?_
  have h := List.all_eq_true.mp h1 c hc
  rcases Bool.eq_false_or_eq_true (isCode c) with hi | hi
  · exact h2 c (List.mem_filter.mpr ⟨hc, hi⟩)
  · simpa [hi] using h
set_option maxRecDepth 65536 in
theorem w_c0 : (Jvm.Cond.code x code maxLocals ret).before args0 about1 = true := code_word (m := ⟨1, 1⟩) (meth := k1m1) (c := k1c1) (by decide +kernel) rfl rfl rfl (by decide +kernel)
set_option maxRecDepth 65536 in
theorem w_c1 : (Jvm.Cond.code ({ cls := "com/example/tick2/tick2/clock/LamportClock", name := "<init>", desc := "()V" } : Jvm.MethodName) prog_1_method_1_code (1 : Nat) (Option.none : Option Jvm.ClassFile.FieldType)).before args0 about1 = true := code_word (m := ⟨2, 0⟩) (meth := k2m0) (c := k2c0) (by decide +kernel) rfl rfl rfl (by decide +kernel)
set_option maxRecDepth 65536 in
theorem w_c2 : (Jvm.Cond.code ({ cls := "java/lang/Object", name := "<init>", desc := "()V" } : Jvm.MethodName) object_method_1_code (1 : Nat) (Option.none : Option Jvm.ClassFile.FieldType)).before args0 about1 = true := code_word (m := ⟨0, 0⟩) (meth := k0m0) (c := k0c0) (by decide +kernel) rfl rfl rfl (by decide +kernel)
set_option maxRecDepth 65536 in
theorem w_c3 : (Jvm.Cond.code ({ cls := "com/example/tick2/tick2/clock/LamportClock", name := "getTime", desc := "()J" } : Jvm.MethodName) prog_1_method_2_code (1 : Nat) (Option.some Jvm.ClassFile.FieldType.long)).before args0 about1 = true := code_word (m := ⟨2, 1⟩) (meth := k2m1) (c := k2c1) (by decide +kernel) rfl rfl rfl (by decide +kernel)
set_option maxRecDepth 65536 in
theorem w_c4 : (Jvm.Cond.code ({ cls := "com/example/tick2/tick2/clock/LamportClock", name := "tick", desc := "()J" } : Jvm.MethodName) prog_1_method_3_code (1 : Nat) (Option.some Jvm.ClassFile.FieldType.long)).before args0 about1 = true := code_word (m := ⟨2, 2⟩) (meth := k2m2) (c := k2c2) (by decide +kernel) rfl rfl rfl (by decide +kernel)
set_option maxRecDepth 65536 in
theorem w_c5 : (Jvm.Cond.code ({ cls := "com/example/tick2/tick2/clock/LamportClock", name := "receive", desc := "(J)J" } : Jvm.MethodName) prog_1_method_4_code (3 : Nat) (Option.some Jvm.ClassFile.FieldType.long)).before args0 about1 = true := code_word (m := ⟨2, 3⟩) (meth := k2m3) (c := k2c3) (by decide +kernel) rfl rfl rfl (by decide +kernel)
set_option maxRecDepth 65536 in
theorem w_c6 : (Jvm.Cond.code ({ cls := "java/lang/Math", name := "max", desc := "(JJ)J" } : Jvm.MethodName) jdk_29_method_66_code (4 : Nat) (Option.some Jvm.ClassFile.FieldType.long)).before args0 about1 = true := code_word (m := ⟨3, 1⟩) (meth := k3m1) (c := k3c1) (by decide +kernel) rfl rfl rfl (by decide +kernel)
def codes1 : List Jvm.Cond := [Jvm.Cond.code x code maxLocals ret, Jvm.Cond.code ({ cls := "com/example/tick2/tick2/clock/LamportClock", name := "<init>", desc := "()V" } : Jvm.MethodName) prog_1_method_1_code (1 : Nat) (Option.none : Option Jvm.ClassFile.FieldType), Jvm.Cond.code ({ cls := "java/lang/Object", name := "<init>", desc := "()V" } : Jvm.MethodName) object_method_1_code (1 : Nat) (Option.none : Option Jvm.ClassFile.FieldType), Jvm.Cond.code ({ cls := "com/example/tick2/tick2/clock/LamportClock", name := "getTime", desc := "()J" } : Jvm.MethodName) prog_1_method_2_code (1 : Nat) (Option.some Jvm.ClassFile.FieldType.long), Jvm.Cond.code ({ cls := "com/example/tick2/tick2/clock/LamportClock", name := "tick", desc := "()J" } : Jvm.MethodName) prog_1_method_3_code (1 : Nat) (Option.some Jvm.ClassFile.FieldType.long), Jvm.Cond.code ({ cls := "com/example/tick2/tick2/clock/LamportClock", name := "receive", desc := "(J)J" } : Jvm.MethodName) prog_1_method_4_code (3 : Nat) (Option.some Jvm.ClassFile.FieldType.long), Jvm.Cond.code ({ cls := "java/lang/Math", name := "max", desc := "(JJ)J" } : Jvm.MethodName) jdk_29_method_66_code (4 : Nat) (Option.some Jvm.ClassFile.FieldType.long)]
set_option maxRecDepth 65536 in
theorem codes_eq : words1.filter isCode = codes1 := rfl
theorem w_codes : ∀ c ∈ words1.filter isCode, c.before args0 about1 = true := by
  rw [codes_eq]
  intro c hc
  simp only [codes1, List.mem_cons, List.not_mem_nil, or_false] at hc
  rcases hc with rfl | rfl | rfl | rfl | rfl | rfl | rfl
  · exact w_c0
  · exact w_c1
  · exact w_c2
  · exact w_c3
  · exact w_c4
  · exact w_c5
  · exact w_c6
set_option maxRecDepth 65536 in
theorem w_t1 : (words1.take 24).all (fun c => isCode c || c.before args0 about1) = true := by decide +kernel
set_option maxRecDepth 65536 in
theorem w_t2 : (words1.drop 24).all (fun c => isCode c || c.before args0 about1) = true := by decide +kernel
theorem w_tables : (allAtoms (Jvm.Cond.code x code maxLocals ret :: tables_1)).before args0 about1 = true := by
  rw [allAtoms_all]
  show words1.all (fun c => c.before args0 about1) = true
  refine all_split ?_ w_codes
  rw [← List.take_append_drop 24 words1, List.all_append, w_t1, w_t2]
  rfl
set_option maxRecDepth 65536 in
theorem w_case : (Jvm.Cond.and given_1 narrow_1).before args0 about1 = true := by decide +kernel
theorem w_applies : (headSpec (Jvm.Cond.code x code maxLocals ret :: tables_1) room_1).applies x e0.platform about1 = true :=
  (Spec.applies_iff w_frames).mpr ⟨w_running, w_runnable, w_alone, w_named, w_hears, w_ripe, w_room, w_tables⟩
theorem atStart : AtStart classFile x code maxLocals ret World_1 tables_1 room_1 Calls_1 rest_1 Pre_1 launch0 p0 e0 about1 theMethod args0 below0 :=
  ⟨lists_1, trivial, launch0.admits_env _ _ _, launch0.least_env, fairChoices_fair.cas, fairChoices_fair.clock, w_frames, w_args, w_heap, w_applies, trivial, trivial, w_case⟩
end start1
theorem witness_1 : WitnessClaimed_1 := ⟨start1.p0, start1.e0, start1.about1, start1.theMethod, start1.args0, start1.below0, start1.atStart⟩
end Jvm.Pilot.@@N@@
