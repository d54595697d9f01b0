import JvmDerived
import JvmDerived.Pilot.@@N@@Statement
import JvmDerived.Pilot.@@N@@Code
set_option linter.unusedVariables false
set_option linter.unusedSimpArgs false
namespace Jvm.Pilot.@@N@@
open Jvm Jvm.ClassFile Sem Op Lib Jvm.Free Jvm.Stand Jvm.LawKit Jvm.RoadKit Bundle Jvm.Pilot.@@N@@.Jvm.D
theorem own_lt32 {x y : Int32} {i j : Int} (hi : x.toInt = i) (hj : y.toInt = j) (h : i < j) : x < y := by rw [Int32.lt_iff_toInt_lt, hi, hj]; exact h
theorem own_nlt32 {x y : Int32} {i j : Int} (hi : x.toInt = i) (hj : y.toInt = j) (h : ¬ i < j) : ¬ x < y := by rw [Int32.lt_iff_toInt_lt, hi, hj]; exact h
theorem own_eq32 {x y : Int32} {i j : Int} (hi : x.toInt = i) (hj : y.toInt = j) (h : i = j) : x = y := by rw [← Int32.toInt_inj, hi, hj]; exact h
theorem own_neq32 {x y : Int32} {i j : Int} (hi : x.toInt = i) (hj : y.toInt = j) (h : ¬ i = j) : ¬ x = y := by rw [← Int32.toInt_inj, hi, hj]; exact h
theorem own_lt64 {x y : Int64} {i j : Int} (hi : x.toInt = i) (hj : y.toInt = j) (h : i < j) : x < y := by rw [Int64.lt_iff_toInt_lt, hi, hj]; exact h
theorem own_nlt64 {x y : Int64} {i j : Int} (hi : x.toInt = i) (hj : y.toInt = j) (h : ¬ i < j) : ¬ x < y := by rw [Int64.lt_iff_toInt_lt, hi, hj]; exact h
theorem own_eq64 {x y : Int64} {i j : Int} (hi : x.toInt = i) (hj : y.toInt = j) (h : i = j) : x = y := by rw [← Int64.toInt_inj, hi, hj]; exact h
theorem own_neq64 {x y : Int64} {i j : Int} (hi : x.toInt = i) (hj : y.toInt = j) (h : ¬ i = j) : ¬ x = y := by rw [← Int64.toInt_inj, hi, hj]; exact h
/-! OWN LAYER 1: the run goes on (own_Go), a method's contract (own_Met), its entry, its returns, its calls. -/
section OwnGo
variable {p : Program} {l : Launch} {e : Env} {R : Room} {s : State} {m : MethodId} {args : Array Value} {below : List Frame} {meth : Method} {c : Code} {T : State} {locs : List Loc} {cells slots : Nat} {Z : State} {a0 : Array Value} {h : Heap}
/-- from A the run comes to a state of which G holds -/
def own_Go (p : Program) (e : Env) (below : List Frame) (G : State → Prop) (A : State) : Prop := ∃ t, Steps p.tables e below A t ∧ G t
theorem own_go {G : State → Prop} {A B : State} (h : ∀ t, Steps p.tables e below B t → Steps p.tables e below A t) (k : own_Go p e below G B) : own_Go p e below G A := by
  obtain ⟨t, h1, h2⟩ := k; exact ⟨t, h t h1, h2⟩
/-- the invocation from s has ended by a return: what came back, the heap and the places written are as Q says -/
def own_End (below : List Frame) (s : State) (Q : Option Value → Heap → List Loc → Prop) (C N : Nat) (t : State) : Prop := t.status = .running ∧ ∃ v L, Ended t below (.returned v) ∧ Q v t.heap L ∧ FrameEnd s (.returned v) t L C N
/-- a contract of a method at one heap -/
def own_Met (l : Launch) (Z : State) (ws : List Jvm.Cond) (y : MethodName) (bytes : ByteArray) (maxL : Nat) (ret : Option FieldType) (rm : Room) (as' : Array Value) (h : Heap) (Q : Option Value → Heap → List Loc → Prop) : Prop :=
  MetFree l y (head1 (Jvm.Cond.code y bytes maxL ret :: ws) rm) (fun a U => a = as' ∧ Z.Warmed39 U.vm ∧ U.heap = h) (fun _ _ _ _ _ => True) (fun _ U o U' => ∃ v L, o = .returned v ∧ Q v U'.heap L ∧ FrameEnd U o U' L rm.cells rm.slots)
theorem own_met {ws : List Jvm.Cond} {y : MethodName} {bytes : ByteArray} {maxL : Nat} {ret : Option FieldType} {rm : Room} {as' : Array Value} {Q : Option Value → Heap → List Loc → Prop} (hpf : plainFor y = true)
    (body : ∀ (p : Program) (e : Env) (s : State) (m : MethodId) (below : List Frame) (meth : Method) (c : Code) (s₁ : State), p.tables.exec = Jvm.exec → c.code = bytes → c.maxLocals = maxL → s.vm.findClass y.cls = some m.cls → meth.name = y.name → meth.sig.returnType = ret → meth.locks = false → Z.Warmed39 s.vm →
      Stand p l e rm s m as' below meth c s₁ [] 0 0 → s₁.heap = h → own_Go p e below (own_End below s Q rm.cells rm.slots) (s₁.setTop (entryFrame m as' maxL))) :
    own_Met l Z ws y bytes maxL ret rm as' h Q := by
  refine MetFree.of_bodySF hpf hisR ?_
  intro p e s m args below meth c s₁ Bd hml0 hP hK
  obtain ⟨rfl, hZ, hh⟩ := hP
  obtain ⟨t, h1, h2, v, L, h3, h4, h5⟩ := body p e s m below meth c s₁ Bd.exec Bd.bytes hml0 (findClass_of_methodNamed Bd.named) (name_of_methodNamed Bd.named Bd.method).1 Bd.returns Bd.notSynchronized hZ (Stand.of_body Bd) (by rw [← hh, Bd.state]; rfl)
  exact ⟨t, _, h1, h2, h3, v, L, rfl, h4, h5⟩
theorem own_entry {G : State → Prop} {f g : JFrame} (q : f = g) (k : own_Go p e below G (T.setTop g)) : own_Go p e below G (T.setTop f) := q ▸ k
theorem own_ret (X : Stand p l e R s m args below meth c T locs cells slots) (hx : p.tables.exec = Jvm.exec) (hlk : meth.locks = false) {pc : Nat} {Ls : Array Slot} {w : Value} {t : FieldType} {i : Instr} {rest : List Value} (hret : meth.sig.returnType = some t) (hn : narrow t w = w)
    (hi : (i = .ireturn ∧ (t = .int ∨ t = .boolean ∨ t = .byte ∨ t = .char ∨ t = .short) ∧ ∃ z, w = .int z) ∨ (i = .lreturn ∧ t = .long ∧ ∃ z, w = .long z) ∨ (i = .dreturn ∧ t = .double ∧ ∃ z, w = .double z) ∨ (i = .freturn ∧ t = .float ∧ ∃ z, w = .float z) ∨ (i = .areturn ∧ t.isReference = true ∧ w.isRef = true))
    (hd : decode c.code pc = .ok (i, 1)) {Q : Option Value → Heap → List Loc → Prop} {C N : Nat} (hQ : Q (some w) T.heap locs) (hc : cells ≤ C) (hs : slots ≤ N) : own_Go p e below (own_End below s Q C N) (T.setTop (mkF m pc Ls (w :: rest))) := by
  obtain ⟨fs, hr, hrun, hended, hW, hsame⟩ := X.leave (v := some w) (fun h => by rw [hret] at h; cases h) hlk
  exact ⟨_, retOut X hx hret hn hi hd hr, hrun, _, _, hended, hQ, ⟨_, rfl⟩, hW, hsame.mono hc hs⟩
theorem own_retI (X : Stand p l e R s m args below meth c T locs cells slots) (hx : p.tables.exec = Jvm.exec) (hlk : meth.locks = false) {pc : Nat} {Ls : Array Slot} {z : Int32} {rest : List Value} (hret : meth.sig.returnType = some .int)
    (hd : decode c.code pc = .ok (.ireturn, 1)) {Q : Option Value → Heap → List Loc → Prop} {C N : Nat} (hQ : Q (some (.int z)) T.heap locs) (hc : cells ≤ C) (hs : slots ≤ N) : own_Go p e below (own_End below s Q C N) (T.setTop (mkF m pc Ls (.int z :: rest))) :=
  own_ret X hx hlk hret rfl (Or.inl ⟨rfl, Or.inl rfl, z, rfl⟩) hd hQ hc hs
theorem own_retZ (X : Stand p l e R s m args below meth c T locs cells slots) (hx : p.tables.exec = Jvm.exec) (hlk : meth.locks = false) {pc : Nat} {Ls : Array Slot} {z : Int32} {rest : List Value} (hret : meth.sig.returnType = some .boolean) (hz : z &&& 1 = z)
    (hd : decode c.code pc = .ok (.ireturn, 1)) {Q : Option Value → Heap → List Loc → Prop} {C N : Nat} (hQ : Q (some (.int z)) T.heap locs) (hc : cells ≤ C) (hs : slots ≤ N) : own_Go p e below (own_End below s Q C N) (T.setTop (mkF m pc Ls (.int z :: rest))) :=
  own_ret X hx hlk hret (by show Value.int (z &&& 1) = _; rw [hz]) (Or.inl ⟨rfl, Or.inr (Or.inl rfl), z, rfl⟩) hd hQ hc hs
theorem own_retJ (X : Stand p l e R s m args below meth c T locs cells slots) (hx : p.tables.exec = Jvm.exec) (hlk : meth.locks = false) {pc : Nat} {Ls : Array Slot} {z : Int64} {rest : List Value} (hret : meth.sig.returnType = some .long)
    (hd : decode c.code pc = .ok (.lreturn, 1)) {Q : Option Value → Heap → List Loc → Prop} {C N : Nat} (hQ : Q (some (.long z)) T.heap locs) (hc : cells ≤ C) (hs : slots ≤ N) : own_Go p e below (own_End below s Q C N) (T.setTop (mkF m pc Ls (.long z :: rest))) :=
  own_ret X hx hlk hret rfl (Or.inr (Or.inl ⟨rfl, rfl, z, rfl⟩)) hd hQ hc hs
theorem own_retA (X : Stand p l e R s m args below meth c T locs cells slots) (hx : p.tables.exec = Jvm.exec) (hlk : meth.locks = false) {pc : Nat} {Ls : Array Slot} {a : Addr} {t : FieldType} {rest : List Value} (hret : meth.sig.returnType = some t) (ht : t.isReference = true) (hn : narrow t (.ref a) = .ref a)
    (hd : decode c.code pc = .ok (.areturn, 1)) {Q : Option Value → Heap → List Loc → Prop} {C N : Nat} (hQ : Q (some (.ref a)) T.heap locs) (hc : cells ≤ C) (hs : slots ≤ N) : own_Go p e below (own_End below s Q C N) (T.setTop (mkF m pc Ls (.ref a :: rest))) :=
  own_ret X hx hlk hret hn (Or.inr (Or.inr (Or.inr (Or.inr ⟨rfl, ht, rfl⟩)))) hd hQ hc hs
theorem own_retV (X : Stand p l e R s m args below meth c T locs cells slots) (hx : p.tables.exec = Jvm.exec) (hlk : meth.locks = false) {pc : Nat} {Ls : Array Slot} (hret : meth.sig.returnType = none)
    (hd : decode c.code pc = .ok (.return_, 1)) {Q : Option Value → Heap → List Loc → Prop} {C N : Nat} (hQ : Q none T.heap locs) (hc : cells ≤ C) (hs : slots ≤ N) : own_Go p e below (own_End below s Q C N) (T.setTop (mkF m pc Ls [])) := by
  obtain ⟨fs, hr, hrun, hended, hW, hsame⟩ := X.leave (v := none) (fun _ => rfl) hlk
  exact ⟨_, X.returnOut hx hret hd hr, hrun, _, _, hended, hQ, ⟨_, rfl⟩, hW, hsame.mono hc hs⟩
/-- a static method by its contract -/
theorem own_callS (X : Stand p l e R s m args below meth c T locs cells slots) (hx : p.tables.exec = Jvm.exec) (hZ : Z.Warmed39 s.vm) {own : String} {index : Nat} {y : MethodName} {bytes : ByteArray} {maxL : Nat} {ret : Option FieldType} (hown : s.vm.findClass own = some m.cls)
    (w1 : (Jvm.Cond.methodLink own index y).before a0 Z = true) (w2 : (Jvm.Cond.static y).before a0 Z = true) (w3 : (Jvm.Cond.initialized y.cls).before a0 Z = true) (w4 : (Jvm.Cond.code y bytes maxL ret).before a0 Z = true) (hy : y.cls ≠ "java/lang/invoke/MethodHandle" ∧ y.cls ≠ "java/lang/invoke/VarHandle")
    {rm : Room} {as' : Array Value} {Q : Option Value → Heap → List Loc → Prop} (hM : own_Met l Z [] y bytes maxL ret rm as' h Q) (eT : T.heap = h) {pc : Nat} {Ls : Array Slot} {argsL rest st : List Value} (ha : argsL.toArray = as') (hsz : Ls.size = c.maxLocals)
    {ps : List FieldType} {r : Option FieldType} (hpd : parseMethodDescriptor y.desc = some ⟨ps, r⟩) (hpl : argsL.length = ps.length) (hst : st = argsL.reverse ++ rest) (hd : decode c.code pc = .ok (.invokestatic index, 3)) (W : Nat) (hW : (rest.map fun v => v.category).sum ≤ W)
    (hf : rm.frames + 1 ≤ R.frames) (hl : W + (maxL + 11) + rm.locals ≤ R.locals) (hc : cells + rm.cells ≤ R.cells) (hsl : slots + rm.slots ≤ R.slots) :
    ∃ (v : Option Value) (L : List Loc) (T' : State), Stand p l e R s m args below meth c T' (locs ++ L) (cells + rm.cells) (slots + rm.slots) ∧ Q v T'.heap L ∧ ∀ t, Steps p.tables e below (T'.setTop (mkF m (pc + 3) Ls (v.toList ++ rest))) t → Steps p.tables e below (T.setTop (mkF m pc Ls st)) t := by
  subst ha
  obtain ⟨v, _, ⟨T', L', k', n'⟩, -, X', ⟨L, hQ, l1, y1, z1⟩, st'⟩ := Jvm.LawKit.callS X hx (y := y) hown (mvT hZ w1) (mvT hZ w2) (mvT hZ w3) (mvT hZ w4) hy (backOf (W := W) hM hZ w4 w3 hf hl) (g := mkF m pc Ls st) rfl hsz (argsL := argsL) (rest := rest) (lenOf hpd hpl) hst (by show 2 * 0 + _ ≤ _; omega) hd (fun _ _ => ⟨rfl, eT, hc, hsl⟩)
  dsimp only [Pt.U, Pt.locs, Pt.cells, Pt.slots] at X' l1 y1 z1 st' hQ
  subst l1 y1 z1
  exact ⟨v, L, T', X', hQ, st'⟩
/-- an instance method by its contract, the receiver exactly of the class C -/
theorem own_callV (X : Stand p l e R s m args below meth c T locs cells slots) (hx : p.tables.exec = Jvm.exec) (hZ : Z.Warmed39 s.vm) {own C : String} {index : Nat} {y : MethodName} {bytes : ByteArray} {maxL : Nat} {ret : Option FieldType} (hown : s.vm.findClass own = some m.cls)
    (w1 : (Jvm.Cond.methodLink own index y).before a0 Z = true) (w2 : (Jvm.Cond.declares y).before a0 Z = true) (w3 : (Jvm.Cond.selects C y y).before a0 Z = true) (w4 : (Jvm.Cond.instanceMethod y).before a0 Z = true) (w5 : (Jvm.Cond.code y bytes maxL ret).before a0 Z = true) (w6 : (Jvm.Cond.initialized y.cls).before a0 Z = true)
    (hy : y.cls ≠ "java/lang/invoke/MethodHandle" ∧ y.cls ≠ "java/lang/invoke/VarHandle") {b : Addr} (E : Exa Z h b C)
    {rm : Room} {as' : Array Value} {Q : Option Value → Heap → List Loc → Prop} (hM : own_Met l Z [] y bytes maxL ret rm as' h Q) (eT : T.heap = h) {pc : Nat} {Ls : Array Slot} {argsL rest st : List Value} (ha : (.ref b :: argsL).toArray = as') (hsz : Ls.size = c.maxLocals)
    {ps : List FieldType} {r : Option FieldType} (hpd : parseMethodDescriptor y.desc = some ⟨ps, r⟩) (hpl : argsL.length = ps.length) (hst : st = argsL.reverse ++ .ref b :: rest) (hd : decode c.code pc = .ok (.invokevirtual index, 3)) (W : Nat) (hW : (rest.map fun v => v.category).sum ≤ W)
    (hf : rm.frames + 1 ≤ R.frames) (hl : W + (maxL + 11) + rm.locals ≤ R.locals) (hc : cells + rm.cells ≤ R.cells) (hsl : slots + rm.slots ≤ R.slots) :
    ∃ (v : Option Value) (L : List Loc) (T' : State), Stand p l e R s m args below meth c T' (locs ++ L) (cells + rm.cells) (slots + rm.slots) ∧ Q v T'.heap L ∧ ∀ t, Steps p.tables e below (T'.setTop (mkF m (pc + 3) Ls (v.toList ++ rest))) t → Steps p.tables e below (T.setTop (mkF m pc Ls st)) t := by
  subst ha
  obtain ⟨cq, kq, qa, qb, qc⟩ := isOf hZ eT E
  obtain ⟨v, _, ⟨T', L', k', n'⟩, -, X', ⟨L, hQ, l1, y1, z1⟩, st'⟩ := X.virtualBack hx (y := y) (z := y) hown (mvT hZ w1) (mvT hZ w2) (notFace_of_selects (args := #[]) (mvT hZ w3)) (mvT hZ w3) (mvT hZ w4) hy (backOf (W := W) hM hZ w5 w6 hf hl) qa qc (g := mkF m pc Ls st) rfl hsz (Steps.refl _) (argsL := argsL) (rest := rest) (lenOf hpd hpl) hst (by show 2 * 0 + _ ≤ _; omega) hd (fun _ _ => ⟨rfl, eT, hc, hsl⟩)
  dsimp only [Pt.U, Pt.locs, Pt.cells, Pt.slots] at X' l1 y1 z1 st' hQ
  subst l1 y1 z1
  exact ⟨v, L, T', X', hQ, fun t k => st'.trans k⟩
/-- a constructor by its contract -/
theorem own_callI (X : Stand p l e R s m args below meth c T locs cells slots) (hx : p.tables.exec = Jvm.exec) (hZ : Z.Warmed39 s.vm) {own : String} {index : Nat} {y : MethodName} {bytes : ByteArray} {maxL : Nat} (hyn : y.name = "<init>") (hown : s.vm.findClass own = some m.cls)
    (w1 : (Jvm.Cond.methodLink own index y).before a0 Z = true) (w2 : (Jvm.Cond.instanceMethod y).before a0 Z = true) (w3 : (Jvm.Cond.code y bytes maxL none).before a0 Z = true) (w4 : (Jvm.Cond.initialized y.cls).before a0 Z = true) (hy : y.cls ≠ "java/lang/invoke/MethodHandle" ∧ y.cls ≠ "java/lang/invoke/VarHandle") {b : Addr}
    {rm : Room} {as' : Array Value} {Q : Option Value → Heap → List Loc → Prop} (hM : own_Met l Z [] y bytes maxL none rm as' h Q) (eT : T.heap = h) {pc : Nat} {Ls : Array Slot} {argsL rest st : List Value} (ha : (.ref b :: argsL).toArray = as') (hsz : Ls.size = c.maxLocals)
    {ps : List FieldType} {r : Option FieldType} (hpd : parseMethodDescriptor y.desc = some ⟨ps, r⟩) (hpl : argsL.length = ps.length) (hst : st = argsL.reverse ++ .ref b :: rest) (hd : decode c.code pc = .ok (.invokespecial index, 3)) (W : Nat) (hW : (rest.map fun v => v.category).sum ≤ W)
    (hf : rm.frames + 1 ≤ R.frames) (hl : W + (maxL + 11) + rm.locals ≤ R.locals) (hc : cells + rm.cells ≤ R.cells) (hsl : slots + rm.slots ≤ R.slots) :
    ∃ (v : Option Value) (L : List Loc) (T' : State), Stand p l e R s m args below meth c T' (locs ++ L) (cells + rm.cells) (slots + rm.slots) ∧ Q v T'.heap L ∧ ∀ t, Steps p.tables e below (T'.setTop (mkF m (pc + 3) Ls (v.toList ++ rest))) t → Steps p.tables e below (T.setTop (mkF m pc Ls st)) t := by
  subst ha
  obtain ⟨v, _, ⟨T', L', k', n'⟩, -, X', ⟨L, hQ, l1, y1, z1⟩, st'⟩ := X.specialBack hx (y := y) hyn hown (mvT hZ w1) (mvT hZ w2) (mvT hZ w3) hy (backOf (W := W) hM hZ w3 w4 hf hl) (g := mkF m pc Ls st) rfl hsz (Steps.refl _) (a := b) (argsL := argsL) (rest := rest) (lenOf hpd hpl) hst (by show 2 * 0 + _ ≤ _; omega) hd (fun _ _ => ⟨rfl, eT, hc, hsl⟩)
  dsimp only [Pt.U, Pt.locs, Pt.cells, Pt.slots] at X' l1 y1 z1 st' hQ
  subst l1 y1 z1
  exact ⟨v, L, T', X', hQ, fun t k => st'.trans k⟩
end OwnGo
/-! OWN LAYER 2: private calls, arrays by functions, small stack steps. -/
section OwnAr
variable {p : Program} {l : Launch} {e : Env} {R : Room} {s : State} {m : MethodId} {args : Array Value} {below : List Frame} {meth : Method} {c : Code} {T : State} {locs : List Loc} {cells slots : Nat} {Z : State} {a0 : Array Value} {h h' : Heap}
/-- a private method by its contract -/
theorem own_callP (X : Stand p l e R s m args below meth c T locs cells slots) (hx : p.tables.exec = Jvm.exec) (hZ : Z.Warmed39 s.vm) {own : String} {index kk : Nat} {y : MethodName} {bytes : ByteArray} {maxL : Nat} {ret : Option FieldType} (hown : s.vm.findClass own = some m.cls)
    (w1 : (Jvm.Cond.methodLink own index y).before a0 Z = true) (w2 : (Jvm.Cond.instanceMethod y).before a0 Z = true) (w3 : (Jvm.Cond.privateMethod y).before a0 Z = true) (w4 : (Jvm.Cond.instantiable y.cls kk).before a0 Z = true) (w5 : (Jvm.Cond.code y bytes maxL ret).before a0 Z = true) (w6 : (Jvm.Cond.initialized y.cls).before a0 Z = true)
    (hy : y.cls ≠ "java/lang/invoke/MethodHandle" ∧ y.cls ≠ "java/lang/invoke/VarHandle") {b : Addr} {C : String} (E : Exa Z h b C)
    {rm : Room} {as' : Array Value} {Q : Option Value → Heap → List Loc → Prop} (hM : own_Met l Z [] y bytes maxL ret rm as' h Q) (eT : T.heap = h) {pc : Nat} {Ls : Array Slot} {argsL rest st : List Value} (ha : (.ref b :: argsL).toArray = as') (hsz : Ls.size = c.maxLocals)
    {ps : List FieldType} {r : Option FieldType} (hpd : parseMethodDescriptor y.desc = some ⟨ps, r⟩) (hpl : argsL.length = ps.length) (hst : st = argsL.reverse ++ .ref b :: rest) (hd : decode c.code pc = .ok (.invokevirtual index, 3)) (W : Nat) (hW : (rest.map fun v => v.category).sum ≤ W)
    (hf : rm.frames + 1 ≤ R.frames) (hl : W + (maxL + 11) + rm.locals ≤ R.locals) (hc : cells + rm.cells ≤ R.cells) (hsl : slots + rm.slots ≤ R.slots) :
    ∃ (v : Option Value) (L : List Loc) (T' : State), Stand p l e R s m args below meth c T' (locs ++ L) (cells + rm.cells) (slots + rm.slots) ∧ Q v T'.heap L ∧ ∀ t, Steps p.tables e below (T'.setTop (mkF m (pc + 3) Ls (v.toList ++ rest))) t → Steps p.tables e below (T.setTop (mkF m pc Ls st)) t := by
  subst ha
  obtain ⟨cell, q1, q2⟩ := E.cell
  have hp : s.PrivateAt y := Cond.privateMethod_at (mvP hZ w3 (args := #[]))
  have w4s : (Jvm.Cond.instantiable y.cls kk).before args s = true := mvT hZ w4
  obtain ⟨ci, ki, i1, i2, -, i3, -⟩ := Cond.instantiable_spec w4s
  have hsel : (Jvm.Cond.selects y.cls y y).before args s = true := Jvm.Stand.selects_self_of_private i1 i2 (Bool.or_eq_false_iff.mp i3).1 hp (mvT hZ w2) hy
  obtain ⟨v, _, ⟨T', L', k', n'⟩, -, X', ⟨L, hQ, l1, y1, z1⟩, st'⟩ := X.privateBack hx (y := y) hown (mvT hZ w1) (mvT hZ w2) hsel hp (mvT hZ w5) hy (backOf (W := W) hM hZ w5 w6 hf hl) (g := mkF m pc Ls st) rfl hsz (Steps.refl _) (a := b) (by rw [eT]; exact q1) q2 (argsL := argsL) (rest := rest) (lenOf hpd hpl) hst (by show 2 * 0 + _ ≤ _; omega) hd (fun _ _ => ⟨rfl, eT, hc, hsl⟩)
  dsimp only [Pt.U, Pt.locs, Pt.cells, Pt.slots] at X' l1 y1 z1 st' hQ
  subst l1 y1 z1
  exact ⟨v, L, T', X', hQ, fun t k => st'.trans k⟩
/-- the array at a: of the kind ty, n places, place i holds f i -/
def own_Ar (Z : State) (h : Heap) (a : Addr) (ty : FieldType) (n : Nat) (f : Nat → Value) : Prop := n < 2 ^ 31 ∧ ∃ c : Cell, Arr Z h a c ty ∧ c.slots.size = n ∧ ∀ i, i < n → c.slots[i]? = some (f i)
abbrev own_I (g : Nat → Int32) : Nat → Value := fun i => .int (g i)
abbrev own_J (g : Nat → Int64) : Nat → Value := fun i => .long (g i)
def own_upd {α : Type} (g : Nat → α) (j : Nat) (x : α) : Nat → α := fun i => if i = j then x else g i
theorem own_upd_at {α : Type} (g : Nat → α) (j : Nat) (x : α) : own_upd g j x j = x := if_pos rfl
theorem own_upd_ne {α : Type} (g : Nat → α) {i j : Nat} (x : α) (q : i ≠ j) : own_upd g j x i = g i := if_neg q
theorem own_Ar.congr {a : Addr} {ty : FieldType} {n : Nat} {f f' : Nat → Value} (A : own_Ar Z h a ty n f) (q : ∀ i, i < n → f i = f' i) : own_Ar Z h a ty n f' := by
  obtain ⟨hn, cl, A1, A2, A3⟩ := A; exact ⟨hn, cl, A1, A2, fun i hi => by rw [← q i hi]; exact A3 i hi⟩
theorem own_Ar.ext {a : Addr} {ty : FieldType} {n : Nat} {f : Nat → Value} (A : own_Ar Z h a ty n f) (E : Ext h h') : own_Ar Z h' a ty n f := by
  obtain ⟨hn, cl, A1, A2⟩ := A; exact ⟨hn, cl, A1.ext E, A2⟩
theorem own_Ar.other {a b : Addr} {ty : FieldType} {n sl : Nat} {f : Nat → Value} {v : Value} (A : own_Ar Z h b ty n f) (W : Wr h h' a sl v) (q : b ≠ a) : own_Ar Z h' b ty n f := by
  obtain ⟨hn, cl, A1, A2⟩ := A; exact ⟨hn, cl, A1.other W q, A2⟩
theorem own_Ar.keep {a : Addr} {ty : FieldType} {n : Nat} {f : Nat → Value} {ws : List Addr} (A : own_Ar Z h a ty n f) (K : Keep h h' ws) (q : a ∉ ws) : own_Ar Z h' a ty n f := by
  obtain ⟨hn, cl, A1, A2⟩ := A; exact ⟨hn, cl, ⟨K.2.1 a cl A1.1 q, A1.2⟩, A2⟩
theorem own_Ar.lt {a : Addr} {ty : FieldType} {n : Nat} {f : Nat → Value} (A : own_Ar Z h a ty n f) : a < h.size := by obtain ⟨_, cl, A1, -⟩ := A; exact A1.lt
theorem own_Ar.set {a : Addr} {ty : FieldType} {n i : Nat} {f : Nat → Value} {v : Value} (A : own_Ar Z h a ty n f) (W : Wr h h' a i v) : own_Ar Z h' a ty n (own_upd f i v) := by
  obtain ⟨hn, cl, A1, A2, A3⟩ := A
  refine ⟨hn, _, A1.same W, by rw [sz_set]; exact A2, fun j hj => ?_⟩
  simp only [Cell.setSlot, own_upd]
  by_cases q : j = i
  · subst q; rw [if_pos rfl]; simp [A2, hj]
  · rw [if_neg q, Array.getElem?_setIfInBounds_ne (Ne.symm q)]; exact A3 j hj
theorem own_Ar.setI {a : Addr} {n i : Nat} {g : Nat → Int32} {x : Int32} (A : own_Ar Z h a .int n (own_I g)) (W : Wr h h' a i (.int x)) : own_Ar Z h' a .int n (own_I (own_upd g i x)) := (A.set W).congr fun j _ => by
  show own_upd (own_I g) i (.int x) j = .int (own_upd g i x j)
  unfold own_upd; split <;> rfl
theorem own_Ar.setJ {a : Addr} {n i : Nat} {g : Nat → Int64} {x : Int64} (A : own_Ar Z h a .long n (own_J g)) (W : Wr h h' a i (.long x)) : own_Ar Z h' a .long n (own_J (own_upd g i x)) := (A.set W).congr fun j _ => by
  show own_upd (own_J g) i (.long x) j = .long (own_upd g i x j)
  unfold own_upd; split <;> rfl
theorem own_nat {j : Int32} {i : Nat} (hj : j.toInt = i) : j.toNatClampNeg = i ∧ ¬ j < 0 := by
  constructor
  · simp only [Int32.toNatClampNeg]; omega
  · rw [Int32.lt_iff_toInt_lt, hj]; have : (0 : Int32).toInt = 0 := rfl
    omega
theorem own_in {cl : Cell} {j : Int32} {i n : Nat} (hj : j.toInt = i) (hs : cl.slots.size = n) (hi : i < n) : ¬ (j < 0 ∨ cl.slots.size ≤ j.toNatClampNeg) := by
  obtain ⟨q1, q2⟩ := own_nat hj
  rw [q1]
  exact fun r => r.elim q2 (fun r => by omega)
theorem own_gt {a : Addr} {n : Nat} (h : a < n) : n > a := h
theorem own_iaload (X : Stand p l e R s m args below meth c T locs cells slots) (hx : p.tables.exec = Jvm.exec) (hZ : Z.Warmed39 s.vm) (eT : T.heap = h) {a : Addr} {n i : Nat} {g : Nat → Int32} (A : own_Ar Z h a .int n (own_I g)) {j : Int32} (hj : j.toInt = i) (hi : i < n) {pc : Nat} {Ls : Array Slot} {rest : List Value}
    (hd : decode c.code pc = .ok (.iaload, 1)) : ∀ t, Steps p.tables e below (T.setTop (mkF m (pc + 1) Ls (.int (g i) :: rest))) t → Steps p.tables e below (T.setTop (mkF m pc Ls (.int j :: .ref a :: rest))) t := by
  obtain ⟨hn, cl, A1, A2, A3⟩ := A
  intro t k
  exact X.iaload hx (j := j) (v := .int (g i)) (by rw [eT]; exact A1.1) (State.isArrayOf_alike hZ.alike A1.2.1) A1.2.2 (own_in hj A2 hi) (by rw [(own_nat hj).1]; exact A3 i hi) (g := mkF m pc Ls (.int j :: .ref a :: rest)) rfl rfl hd _ k
theorem own_laload (X : Stand p l e R s m args below meth c T locs cells slots) (hx : p.tables.exec = Jvm.exec) (hZ : Z.Warmed39 s.vm) (eT : T.heap = h) {a : Addr} {n i : Nat} {g : Nat → Int64} (A : own_Ar Z h a .long n (own_J g)) {j : Int32} (hj : j.toInt = i) (hi : i < n) {pc : Nat} {Ls : Array Slot} {rest : List Value}
    (hd : decode c.code pc = .ok (.laload, 1)) : ∀ t, Steps p.tables e below (T.setTop (mkF m (pc + 1) Ls (.long (g i) :: rest))) t → Steps p.tables e below (T.setTop (mkF m pc Ls (.int j :: .ref a :: rest))) t := by
  obtain ⟨hn, cl, A1, A2, A3⟩ := A
  intro t k
  exact X.laload hx (j := j) (v := .long (g i)) (by rw [eT]; exact A1.1) (State.isArrayOf_alike hZ.alike A1.2.1) A1.2.2 (own_in hj A2 hi) (by rw [(own_nat hj).1]; exact A3 i hi) (g := mkF m pc Ls (.int j :: .ref a :: rest)) rfl rfl hd _ k
theorem own_alen (X : Stand p l e R s m args below meth c T locs cells slots) (hx : p.tables.exec = Jvm.exec) (hZ : Z.Warmed39 s.vm) (eT : T.heap = h) {a : Addr} {ty : FieldType} {n : Nat} {f : Nat → Value} (A : own_Ar Z h a ty n f) {pc : Nat} {Ls : Array Slot} {rest : List Value}
    (hd : decode c.code pc = .ok (.arraylength, 1)) : ∀ t, Steps p.tables e below (T.setTop (mkF m (pc + 1) Ls (.int n.toInt32 :: rest))) t → Steps p.tables e below (T.setTop (mkF m pc Ls (.ref a :: rest))) t := by
  obtain ⟨hn, cl, A1, A2, A3⟩ := A
  intro t k
  exact X.arraylength hx (by rw [eT]; exact A1.1) (State.isArrayOf_alike hZ.alike A1.2.1) (g := mkF m pc Ls (.ref a :: rest)) rfl rfl hd _ (by rw [A2]; exact k)
theorem own_iastore (X : Stand p l e R s m args below meth c T locs cells slots) (hx : p.tables.exec = Jvm.exec) (hZ : Z.Warmed39 s.vm) (eT : T.heap = h) {a : Addr} {n i : Nat} {g : Nat → Int32} (A : own_Ar Z h a .int n (own_I g)) {j x : Int32} (hj : j.toInt = i) (hi : i < n) {pc : Nat} {Ls : Array Slot} {rest : List Value}
    (hd : decode c.code pc = .ok (.iastore, 1)) : ∃ T' h', Stand p l e R s m args below meth c T' (locs ++ [⟨a, i⟩]) cells slots ∧ T'.heap = h' ∧ Wr h h' a i (.int x) ∧ ∀ t, Steps p.tables e below (T'.setTop (mkF m (pc + 1) Ls rest)) t → Steps p.tables e below (T.setTop (mkF m pc Ls (.int x :: .int j :: .ref a :: rest))) t := by
  obtain ⟨hn, cl, A1, A2, A3⟩ := A
  obtain ⟨T', h', X', e', W', st⟩ := stI X hx hZ eT A1 (j := j) (x := x) (own_in hj A2 hi) (g := mkF m pc Ls (.int x :: .int j :: .ref a :: rest)) rfl rfl hd
  rw [(own_nat hj).1] at X' W'
  exact ⟨T', h', X', e', W', st⟩
theorem own_lastore (X : Stand p l e R s m args below meth c T locs cells slots) (hx : p.tables.exec = Jvm.exec) (hZ : Z.Warmed39 s.vm) (eT : T.heap = h) {a : Addr} {n i : Nat} {g : Nat → Int64} (A : own_Ar Z h a .long n (own_J g)) {j : Int32} {x : Int64} (hj : j.toInt = i) (hi : i < n) {pc : Nat} {Ls : Array Slot} {rest : List Value}
    (hd : decode c.code pc = .ok (.lastore, 1)) : ∃ T' h', Stand p l e R s m args below meth c T' (locs ++ [⟨a, i⟩]) cells slots ∧ T'.heap = h' ∧ Wr h h' a i (.long x) ∧ ∀ t, Steps p.tables e below (T'.setTop (mkF m (pc + 1) Ls rest)) t → Steps p.tables e below (T.setTop (mkF m pc Ls (.long x :: .int j :: .ref a :: rest))) t := by
  obtain ⟨hn, cl, A1, A2, A3⟩ := A
  obtain ⟨T', h', X', e', W', st⟩ := stJ X hx hZ eT A1 (j := j) (x := x) (own_in hj A2 hi) (g := mkF m pc Ls (.long x :: .int j :: .ref a :: rest)) rfl rfl hd
  rw [(own_nat hj).1] at X' W'
  exact ⟨T', h', X', e', W', st⟩
theorem own_newarr (X : Stand p l e R s m args below meth c T locs cells slots) (hx : p.tables.exec = Jvm.exec) (hZ : Z.Warmed39 s.vm) {aty : ArrayType} (w : (Jvm.Cond.arrayClass (newarray.typeOf aty)).before a0 Z = true) (eT : T.heap = h) {n : Int32} {N : Nat} (hN : n.toInt = N) {cap : Nat} (hcap : N ≤ cap) (hb : cap * 8 ≤ 536870912) (hc : cells + 1 ≤ R.cells) (hl : slots + cap ≤ R.slots)
    {pc : Nat} {Ls : Array Slot} {rest : List Value} (hd : decode c.code pc = .ok (.newarray aty, 2)) :
    ∃ T' h', Stand p l e R s m args below meth c T' locs (cells + 1) (slots + cap) ∧ T'.heap = h' ∧ Ext h h' ∧ own_Ar Z h' h.size (newarray.typeOf aty) N (fun _ => defaultValue (newarray.typeOf aty)) ∧
      ∀ t, Steps p.tables e below (T'.setTop (mkF m (pc + 2) Ls (.ref h.size :: rest))) t → Steps p.tables e below (T.setTop (mkF m pc Ls (.int n :: rest))) t := by
  obtain ⟨q1, q2⟩ := own_nat hN
  obtain ⟨T', h', cA, X', e', E', A', st⟩ := newP X hx hZ w eT (g := mkF m pc Ls (.int n :: rest)) rfl hd rfl q2 (cap := cap) (by rw [q1]; exact hcap) hb hc hl
  refine ⟨T', h', X', e', E', ⟨?_, _, A', by rw [sz_new]; exact q1, fun i hi => ?_⟩, st⟩
  · have := n.toInt_lt; omega
  · simp [newA, q1, hi]
theorem own_dup2 {tb : Tables} [Ours tb] {target : State} {g : JFrame} (h : At T m c below) (hx : tb.exec = Jvm.exec) (hg : g.method = m) {x y : Value} {rest : List Value} (hd : decode c.code g.pc = .ok (.dup2, 1)) (hs : g.stack = x :: y :: rest) (hc : x.category = 1) (hc' : y.category = 1)
    (hr : Steps tb e below (T.setTop { g with pc := g.pc + 1, stack := x :: y :: x :: y :: rest }) target) : Steps tb e below (T.setTop g) target := by
  subst hg
  jvm_step h [h.top, hx, hd, hs, hc, hc']
  exact hr
theorem own_dupX2 {tb : Tables} [Ours tb] {target : State} {g : JFrame} (h : At T m c below) (hx : tb.exec = Jvm.exec) (hg : g.method = m) {x y z : Value} {rest : List Value} (hd : decode c.code g.pc = .ok (.dup_x2, 1)) (hs : g.stack = x :: y :: z :: rest) (hc : x.category = 1) (hc' : y.category = 1) (hc'' : z.category = 1)
    (hr : Steps tb e below (T.setTop { g with pc := g.pc + 1, stack := x :: y :: z :: x :: rest }) target) : Steps tb e below (T.setTop g) target := by
  subst hg
  jvm_step h [h.top, hx, hd, hs, hc, hc', hc'']
  exact hr
theorem own_pop2 {tb : Tables} [Ours tb] {target : State} {g : JFrame} (h : At T m c below) (hx : tb.exec = Jvm.exec) (hg : g.method = m) {x : Value} {rest : List Value} (hd : decode c.code g.pc = .ok (.pop2, 1)) (hs : g.stack = x :: rest) (hc : x.category = 2)
    (hr : Steps tb e below (T.setTop { g with pc := g.pc + 1, stack := rest }) target) : Steps tb e below (T.setTop g) target := by
  subst hg
  jvm_step h [h.top, hx, hd, hs, hc]
  exact hr
end OwnAr
/-! OWN LAYER W: methods that may intern a String constant; bytes; Strings of Latin-1 -/
section OwnW
variable {p : Program} {l : Launch} {e : Env} {R : Room} {s : State} {m : MethodId} {args : Array Value} {below : List Frame} {meth : Method} {c : Code} {T : State} {locs : List Loc} {cells slots : Nat} {Z : State} {a0 : Array Value} {h h' : Heap}
def own_EndW (below : List Frame) (s : State) (Q : Option Value → Heap → List Loc → Prop) (C N : Nat) (t : State) : Prop := t.status = .running ∧ ∃ v L, Ended t below (.returned v) ∧ Q v t.heap L ∧ ReturnedEndW s (.returned v) t L C N
def own_MetW (l : Launch) (Z : State) (ws : List Jvm.Cond) (y : MethodName) (bytes : ByteArray) (maxL : Nat) (ret : Option FieldType) (rm : Room) (as' : Array Value) (h : Heap) (Q : Option Value → Heap → List Loc → Prop) : Prop :=
  MetFree l y (head1 (Jvm.Cond.code y bytes maxL ret :: ws) rm) (fun a U => a = as' ∧ Z.Warmed39 U.vm ∧ U.heap = h ∧ IB Z U.vm []) (fun _ _ _ _ _ => True) (fun _ U o U' => ∃ v L, o = .returned v ∧ Q v U'.heap L ∧ ReturnedEndW U o U' L rm.cells rm.slots)
theorem own_metW {ws : List Jvm.Cond} {y : MethodName} {bytes : ByteArray} {maxL : Nat} {ret : Option FieldType} {rm : Room} {as' : Array Value} {Q : Option Value → Heap → List Loc → Prop} (hpf : plainFor y = true)
    (body : ∀ (p : Program) (e : Env) (s : State) (m : MethodId) (below : List Frame) (meth : Method) (c : Code) (s₁ : State), p.tables.exec = Jvm.exec → c.code = bytes → c.maxLocals = maxL → s.vm.findClass y.cls = some m.cls → meth.name = y.name → meth.sig.returnType = ret → meth.locks = false → Z.Warmed39 s.vm →
      Stand p l e rm s m as' below meth c s₁ [] 0 0 → s₁.heap = h → s.heap = h → IB Z s.vm [] → own_Go p e below (own_EndW below s Q rm.cells rm.slots) (s₁.setTop (entryFrame m as' maxL))) :
    own_MetW l Z ws y bytes maxL ret rm as' h Q := by
  refine MetFree.of_bodySF hpf hisR ?_
  intro p e s m args below meth c s₁ Bd hml0 hP hK
  obtain ⟨rfl, hZ, hh, hI⟩ := hP
  obtain ⟨t, h1, h2, v, L, h3, h4, h5⟩ := body p e s m below meth c s₁ Bd.exec Bd.bytes hml0 (findClass_of_methodNamed Bd.named) (name_of_methodNamed Bd.named Bd.method).1 Bd.returns Bd.notSynchronized hZ (Stand.of_body Bd) (by rw [← hh, Bd.state]; rfl) hh hI
  exact ⟨t, _, h1, h2, h3, v, L, rfl, h4, h5⟩
theorem own_retWZ {vm₁ : Vm} (X : Stand p l e R (s.setVm vm₁) m args below meth c T locs cells slots) {n : Nat} (hS : s.Since vm₁ n) (hn : n ≤ T.heap.size) (hx : p.tables.exec = Jvm.exec) (hlk : meth.locks = false) {pc : Nat} {Ls : Array Slot} {z : Int32} {rest : List Value} (hret : meth.sig.returnType = some .boolean) (hz : z &&& 1 = z)
    (hd : decode c.code pc = .ok (.ireturn, 1)) {Q : Option Value → Heap → List Loc → Prop} {C N : Nat} (hQ : Q (some (.int z)) T.heap locs) (hc : cells ≤ C) (hs : slots ≤ N) : own_Go p e below (own_EndW below s Q C N) (T.setTop (mkF m pc Ls (.int z :: rest))) := by
  obtain ⟨fs, hr, hrun, hended, hW⟩ := X.leaveW hS hn (v := some (.int z)) (fun h => by rw [hret] at h; cases h) hlk
  exact ⟨_, retOut X hx hret (by show Value.int (z &&& 1) = _; rw [hz]) (Or.inl ⟨rfl, Or.inr (Or.inl rfl), z, rfl⟩) hd hr, hrun, _, _, hended, hQ, hW.1, hW.2.1, hW.2.2.1, hW.2.2.2.mono hc hs⟩
/-- a return where nothing has been interned -/
theorem own_retZW (X : Stand p l e R s m args below meth c T locs cells slots) (hx : p.tables.exec = Jvm.exec) (hlk : meth.locks = false) {pc : Nat} {Ls : Array Slot} {z : Int32} {rest : List Value} (hret : meth.sig.returnType = some .boolean) (hz : z &&& 1 = z)
    (hd : decode c.code pc = .ok (.ireturn, 1)) {Q : Option Value → Heap → List Loc → Prop} {C N : Nat} (hQ : Q (some (.int z)) T.heap locs) (hc : cells ≤ C) (hs : slots ≤ N) : own_Go p e below (own_EndW below s Q C N) (T.setTop (mkF m pc Ls (.int z :: rest))) := by
  obtain ⟨t, h1, h2, v, L, h3, h4, h5⟩ := own_retZ X hx hlk hret hz hd hQ hc hs
  exact ⟨t, h1, h2, v, L, h3, h4, ReturnedEndW.of_narrow h5.1 h5.2.1 h5.2.2⟩
/-- a static method that may intern, by its contract; the walk itself hasn't interned -/
theorem own_callSW (X : Stand p l e R s m args below meth c T locs cells slots) (hx : p.tables.exec = Jvm.exec) (hZ : Z.Warmed39 s.vm) {own : String} {index : Nat} {y : MethodName} {bytes : ByteArray} {maxL : Nat} {ret : Option FieldType} (hown : s.vm.findClass own = some m.cls)
    (w1 : (Jvm.Cond.methodLink own index y).before a0 Z = true) (w2 : (Jvm.Cond.static y).before a0 Z = true) (w3 : (Jvm.Cond.initialized y.cls).before a0 Z = true) (w4 : (Jvm.Cond.code y bytes maxL ret).before a0 Z = true) (hy : y.cls ≠ "java/lang/invoke/MethodHandle" ∧ y.cls ≠ "java/lang/invoke/VarHandle")
    {rm : Room} {as' : Array Value} {Q : Option Value → Heap → List Loc → Prop} (hM : own_MetW l Z [] y bytes maxL ret rm as' h Q) (hI : IB Z s.vm []) (eT : T.heap = h) {pc : Nat} {Ls : Array Slot} {argsL rest st : List Value} (ha : argsL.toArray = as') (hsz : Ls.size = c.maxLocals)
    {ps : List FieldType} {r : Option FieldType} (hpd : parseMethodDescriptor y.desc = some ⟨ps, r⟩) (hpl : argsL.length = ps.length) (hst : st = argsL.reverse ++ rest) (hd : decode c.code pc = .ok (.invokestatic index, 3)) (W : Nat) (hW : (rest.map fun v => v.category).sum ≤ W)
    (hf : rm.frames + 1 ≤ R.frames) (hl : W + (maxL + 11) + rm.locals ≤ R.locals) (hc : cells + rm.cells ≤ R.cells) (hsl : slots + rm.slots ≤ R.slots) :
    ∃ (v : Option Value) (L : List Loc) (T' : State), Stand p l e R (s.setVm T'.vm) m args below meth c T' (locs ++ L) (cells + rm.cells) (slots + rm.slots) ∧ s.Since T'.vm T'.heap.size ∧ Z.Warmed39 (s.setVm T'.vm).vm ∧ (s.setVm T'.vm).vm.findClass own = some m.cls ∧ Q v T'.heap L ∧
      ∀ t, Steps p.tables e below (T'.setTop (mkF m (pc + 3) Ls (v.toList ++ rest))) t → Steps p.tables e below (T.setTop (mkF m pc Ls st)) t := by
  subst ha
  have hK : BackS l R p e below s args y 3 W (fun A a => a = argsL.toArray ∧ A.U.heap = h ∧ A.cells + rm.cells ≤ R.cells ∧ A.slots + rm.slots ≤ R.slots)
      (fun A _ v B => ∃ L, Q v B.U.heap L ∧ B.locs = A.locs ++ L ∧ B.cells = A.cells + rm.cells ∧ B.slots = A.slots + rm.slots) :=
    BackS.of_freeW (bytes := bytes) (maxL := maxL) (ret := ret) (E := fun _ _ o t L k n => k = rm.cells ∧ n = rm.slots ∧ ∃ v, o = .returned v ∧ Q v t.heap L) hM hf hl
      (fun m meth c A a Y hp => have hU : Z.Warmed39 A.U.vm := wtrans hZ Y.warmed
        ⟨by show (Jvm.Cond.and _ .tt).before a A.U = true; rw [Cond.before_and, mv hU w4]; rfl, mv hU w4, mv hU w3, hp.2.2.1, hp.2.2.2⟩)
      (fun m meth c A a g mk Y hp => ⟨hp.1, wtrans hZ Y.warmed, hp.2.1, by
        obtain ⟨more, e1, e2⟩ := hI
        exact ⟨more, by show A.U.vm.interned = _; rw [Y.warmed.interned_eq]; exact e1, e2⟩⟩) (fun _ _ _ _ _ _ _ _ _ => trivial)
      (fun _ _ _ _ ⟨v, L, h1, h2, h3⟩ => ⟨L, _, _, h3, rfl, rfl, v, h1, h2⟩)
      (fun m meth c A a g mk v t L k n Y hp _ _ ⟨e1, e2, v', e3, e4⟩ => by cases e3; subst e1 e2; exact ⟨L, e4, rfl, rfl, rfl⟩)
  obtain ⟨v, _, ⟨T', L', k', n'⟩, -, X', hS, -, ⟨L, hQ, l1, y1, z1⟩, st'⟩ := callSS X hx (y := y) hown (mvT hZ w1) (mvT hZ w2) (mvT hZ w3) (mvT hZ w4) hy hK (g := mkF m pc Ls st) rfl hsz (argsL := argsL) (rest := rest) (lenOf hpd hpl) hst (by show 2 * 0 + _ ≤ _; omega) hd (fun _ _ => ⟨rfl, eT, hc, hsl⟩)
  dsimp only [Pt.U, Pt.locs, Pt.cells, Pt.slots] at X' l1 y1 z1 st' hQ hS
  subst l1 y1 z1
  exact ⟨v, L, T', X', hS, State.Warmed39.trans hZ hS.1, (hS.1.alike.findClass _ _).trans hown, hQ, fun t k => st'.trans k⟩
theorem own_baload (X : Stand p l e R s m args below meth c T locs cells slots) (hx : p.tables.exec = Jvm.exec) (hZ : Z.Warmed39 s.vm) (eT : T.heap = h) {a : Addr} {n i : Nat} {g : Nat → Int32} (A : own_Ar Z h a .byte n (own_I g)) {j : Int32} (hj : j.toInt = i) (hi : i < n) {pc : Nat} {Ls : Array Slot} {rest : List Value}
    (hd : decode c.code pc = .ok (.baload, 1)) : ∀ t, Steps p.tables e below (T.setTop (mkF m (pc + 1) Ls (.int (g i) :: rest))) t → Steps p.tables e below (T.setTop (mkF m pc Ls (.int j :: .ref a :: rest))) t := by
  obtain ⟨hn, cl, A1, A2, A3⟩ := A
  intro t k
  exact X.baloadBytes hx (j := j) (v := .int (g i)) (by rw [eT]; exact A1.1) (State.isArrayOf_alike hZ.alike A1.2.1) A1.2.2 (own_in hj A2 hi) (by rw [(own_nat hj).1]; exact A3 i hi) (g := mkF m pc Ls (.int j :: .ref a :: rest)) rfl rfl hd _ k
theorem own_Ar.of_arv {a : Addr} {k : ClassId} {ty : FieldType} {z : Int32} {n : Nat} {bs : List Int32} {d : Value} (V : Arv Z h a k ty z (bs.map Value.int) d) (hz : z.toInt = n) (hl : bs.length = n) : own_Ar Z h a ty n (own_I fun i => bs.getD i 0) := by
  obtain ⟨cl, A1, -, A2, -, A3, -⟩ := V
  obtain ⟨q1, q2⟩ := own_nat hz
  refine ⟨by have := z.toInt_lt; omega, cl, A1, by rw [A2]; exact q1, fun i hi => ?_⟩
  rw [A3 i (by rw [A2, q1]; exact hi)]
  congr 1
  show (bs.map Value.int).getD i d = .int (bs.getD i 0)
  rw [List.getD_eq_getElem?_getD, List.getD_eq_getElem?_getD, List.getElem?_map, List.getElem?_eq_getElem (by omega)]
  rfl
abbrev own_ST : String := "java/lang/String"
/-- a Latin-1 String at x: its n bytes at b -/
def own_Str (Z : State) (h : Heap) (x b : Addr) (n : Nat) (f : Nat → Int32) : Prop := Exa Z h x own_ST ∧ Fld Z h x own_ST "coder" "B" (.int 0) ∧ Fld Z h x own_ST "value" "[B" (.ref b) ∧ own_Ar Z h b .byte n (own_I f)
theorem own_Str.ext {x b : Addr} {n : Nat} {f : Nat → Int32} (S : own_Str Z h x b n f) (E : Ext h h') : own_Str Z h' x b n f := ⟨S.1.ext E, S.2.1.ext E, S.2.2.1.ext E, S.2.2.2.ext E⟩
end OwnW
/-! THE START OF THE ROLES' CLAIM: the case's words, read -/
section OwnRole
theorem own_eqi {args : Array Value} {s : State} {a : Term} {v : Int32} (h : (Jvm.Cond.eq a (.int v)).value args s none s [] = some true) : a.eval args s none [] s = some (.int v) := by
  obtain ⟨x, y, hx, hy, k1, k2⟩ := cmp_v (Or.inl h)
  have e : y = .int v := (Option.some.inj hy).symm
  subst e
  obtain ⟨z, rfl⟩ := k2
  have q := gotT (Cond.eq_ints hx hy) h
  rw [← q]; exact hx
theorem own_lenNone {args : Array Value} {s : State} {t : Term} {b : Addr} {cl : Cell} (ht : t.eval args s none [] s = some (.ref b)) (ha : s.arrayAt? b = some cl) (q : ¬ cl.slots.size < 2 ^ 31) : (Term.length t).eval args s none [] s = none := by
  simp [Term.eval, ht, ha, q]
theorem own_fits_byte {v : Value} (h : fits .byte v = true) : ∃ x, v = .int x := by cases v <;> simp [fits] at h ⊢
def own_gv (cl : Cell) (i : Nat) : Int32 := match cl.slots[i]? with
  | some (.int x) => x
  | _ => 0
theorem own_gv_at {cl : Cell} {i : Nat} {x : Int32} (h : cl.slots[i]? = some (.int x)) : own_gv cl i = x := by unfold own_gv; rw [h]
/-- a String that the case speaks of -/
theorem own_strStart {args : Array Value} {s : State} (hfit : Fit s) {t : Term} {k : Addr} {N : Int32} {n : Nat} (ev : t.eval args s none [] s = some (.ref k)) (h1 : (Jvm.Cond.exactly t own_ST).value args s none s [] = some true) (h2 : (Jvm.Cond.eq (.field t own_ST "coder" "B") (.int 0)).value args s none s [] = some true)
    (h3 : (Jvm.Cond.arrayOf (.field t own_ST "value" "[B") .byte).value args s none s [] = some true) (h4 : (Jvm.Cond.eq (.length (.field t own_ST "value" "[B")) (.int N)).value args s none s [] = some true) (hN : N.toInt = n) :
    ∃ b g, own_Str s s.heap k b n g ∧ (Term.field t own_ST "value" "[B").eval args s none [] s = some (.ref b) := by
  obtain ⟨b, eb⟩ := arr_v h3
  obtain ⟨cl, A⟩ := Arr.start eb h3
  have e4 := own_eqi h4
  obtain ⟨b', cl', f1, f2, f3⟩ := Term.length_spec e4
  cases eb.symm.trans f1
  have ha : s.arrayAt? b = some cl := Arr.fin (Vm.Alike.refl _) A
  cases f2.symm.trans ha
  have hlt : cl.slots.size < 2 ^ 31 := by
    refine Classical.byContradiction fun q => ?_
    have : (Term.length (.field t own_ST "value" "[B")).eval args s none [] s = none := by rw [own_lenNone eb ha q]
    rw [this] at e4; cases e4
  have hsz : cl.slots.size = n := by
    have q : N = cl.slots.size.toInt32 := Value.int.inj f3
    have r := len_toInt hlt
    rw [← q, hN] at r; omega
  refine ⟨b, own_gv cl, ⟨Exa.start ev h1, Fld.start (by rw [← fld_at ev]; exact own_eqi h2), Fld.start (by rw [← fld_at ev]; exact eb), by omega, cl, A, hsz, fun i hi => ?_⟩, eb⟩
  have hi' : i < cl.slots.size := by omega
  have q : cl.slots[i]? = some cl.slots[i] := Array.getElem?_eq_getElem hi'
  have j : (Int32.ofNat i).toInt = i := Int32.toInt_ofNat_small (by omega)
  have w := own_nat j
  have fv := elem_fits hfit A (j := Int32.ofNat i) (v := cl.slots[i]) (by rw [w.1]; exact fun r => r.elim w.2 (by omega)) (by rw [w.1]; exact q)
  obtain ⟨x, hx⟩ := own_fits_byte fv
  rw [hx] at q
  show _ = some (Value.int (own_gv cl i))
  rw [own_gv_at q]; exact q
theorem own_elemStart {args : Array Value} {s : State} {t : Term} {k b : Addr} {n : Nat} {g : Nat → Int32} (S : own_Str s s.heap k b n g) (eb : (Term.field t own_ST "value" "[B").eval args s none [] s = some (.ref b)) {j v : Int32} (h : (Jvm.Cond.eq (.elem (.field t own_ST "value" "[B") (.int j)) (.int v)).value args s none s [] = some true) {i : Nat} (hj : j.toInt = i) (hi : i < n) : g i = v := by
  obtain ⟨hn, cl, A1, A2, A3⟩ := S.2.2.2
  obtain ⟨-, q⟩ := elem_in (own_eqi h) eb (Term.int_eval j) A1.1
  rw [(own_nat hj).1, A3 i hi] at q
  exact Value.int.inj (Option.some.inj q)
theorem own_Ar.unique {Z : State} {h : Heap} {a : Addr} {ty : FieldType} {n n' : Nat} {f f' : Nat → Value} (A : own_Ar Z h a ty n f) (B : own_Ar Z h a ty n' f') : n = n' ∧ ∀ i, i < n → f i = f' i := by
  obtain ⟨_, c1, a1, a2, a3⟩ := A
  obtain ⟨_, c2, b1, b2, b3⟩ := B
  cases a1.1.symm.trans b1.1
  have e : n = n' := a2.symm.trans b2
  exact ⟨e, fun i hi => Option.some.inj ((a3 i hi).symm.trans (b3 i (by omega)))⟩
theorem own_Str.unique {Z : State} {h : Heap} {x b b' : Addr} {n n' : Nat} {f f' : Nat → Int32} (S : own_Str Z h x b n f) (S' : own_Str Z h x b' n' f') : n = n' ∧ ∀ i, i < n → f i = f' i := by
  have e : b = b' := Classical.byContradiction fun q => absurd rfl (S.2.2.1.ne S'.2.2.1 (fun r => q (Value.ref.inj r)))
  subst e
  obtain ⟨q1, q2⟩ := own_Ar.unique S.2.2.2 S'.2.2.2
  exact ⟨q1, fun i hi => Value.int.inj (q2 i hi)⟩
end OwnRole
theorem pd_0 : parseMethodDescriptor "([B[B)Z" = some ⟨[(.array .byte), (.array .byte)], some .boolean⟩ := by decide +kernel
theorem pd_1 : parseMethodDescriptor "(I)Ltenantry/store/Role;" = some ⟨[.int], some (.object "tenantry/store/Role")⟩ := by decide +kernel
theorem pd_2 : parseMethodDescriptor "()Z" = some ⟨[], some .boolean⟩ := by decide +kernel
theorem pd_3 : parseMethodDescriptor "()Ljava/lang/String;" = some ⟨[], some (.object "java/lang/String")⟩ := by decide +kernel
theorem pd_4 : parseMethodDescriptor "(Ljava/lang/Object;)Z" = some ⟨[(.object "java/lang/Object")], some .boolean⟩ := by decide +kernel
theorem d1_0 : decode method_2_code 0 = .ok (.iload_n 0, 1) := by decide +kernel
theorem d1_1 : decode method_2_code 1 = .ok (.ifCond .ne 7, 3) := by decide +kernel
theorem d1_4 : decode method_2_code 4 = .ok (.getstatic 7, 3) := by decide +kernel
theorem d1_7 : decode method_2_code 7 = .ok (.areturn, 1) := by decide +kernel
theorem d1_8 : decode method_2_code 8 = .ok (.iload_n 0, 1) := by decide +kernel
theorem d1_9 : decode method_2_code 9 = .ok (.iconst 1, 1) := by decide +kernel
theorem d1_10 : decode method_2_code 10 = .ok (.if_icmp .ne 7, 3) := by decide +kernel
theorem d1_13 : decode method_2_code 13 = .ok (.getstatic 13, 3) := by decide +kernel
theorem d1_16 : decode method_2_code 16 = .ok (.areturn, 1) := by decide +kernel
theorem d1_17 : decode method_2_code 17 = .ok (.getstatic 16, 3) := by decide +kernel
theorem d1_20 : decode method_2_code 20 = .ok (.areturn, 1) := by decide +kernel
theorem pn_1 : plainFor (⟨"tenantry/store/RoleMayManageOrganizationPinLaw", "pick", "(I)Ltenantry/store/Role;"⟩ : MethodName) = true := by first | exact plainFor_of_name (by first | (simp [plainName, overriddenIn]; done) | decide +kernel) | decide +kernel
theorem ef_1 (m : MethodId) (x0 : Int32) : entryFrame m #[(.int x0)] 1 = mkF m 0 #[.val (.int x0)] [] := by first | (simp [entryFrame, mkF, argsToLocals, Value.category]; done) | rfl
theorem d2_0 : decode prog_43_method_5_code 0 = .ok (.aload_n 0, 1) := by decide +kernel
theorem d2_1 : decode prog_43_method_5_code 1 = .ok (.getstatic 3, 3) := by decide +kernel
theorem d2_4 : decode prog_43_method_5_code 4 = .ok (.if_acmp .ne 7, 3) := by decide +kernel
theorem d2_7 : decode prog_43_method_5_code 7 = .ok (.iconst 1, 1) := by decide +kernel
theorem d2_8 : decode prog_43_method_5_code 8 = .ok (.goto 4, 3) := by decide +kernel
theorem d2_11 : decode prog_43_method_5_code 11 = .ok (.iconst 0, 1) := by decide +kernel
theorem d2_12 : decode prog_43_method_5_code 12 = .ok (.ireturn, 1) := by decide +kernel
theorem pn_2 : plainFor (⟨"tenantry/store/Role", "mayManageOrganization", "()Z"⟩ : MethodName) = true := by first | exact plainFor_of_name (by first | (simp [plainName, overriddenIn]; done) | decide +kernel) | decide +kernel
theorem ef_2 (m : MethodId) (x0 : Addr) : entryFrame m #[(.ref x0)] 1 = mkF m 0 #[.val (.ref x0)] [] := by first | (simp [entryFrame, mkF, argsToLocals, Value.category]; done) | rfl
theorem d3_0 : decode prog_43_method_4_code 0 = .ok (.aload_n 0, 1) := by decide +kernel
theorem d3_1 : decode prog_43_method_4_code 1 = .ok (.getfield 48, 3) := by decide +kernel
theorem d3_4 : decode prog_43_method_4_code 4 = .ok (.areturn, 1) := by decide +kernel
theorem pn_3 : plainFor (⟨"tenantry/store/Role", "key", "()Ljava/lang/String;"⟩ : MethodName) = true := by first | exact plainFor_of_name (by first | (simp [plainName, overriddenIn]; done) | decide +kernel) | decide +kernel
theorem ef_3 (m : MethodId) (x0 : Addr) : entryFrame m #[(.ref x0)] 1 = mkF m 0 #[.val (.ref x0)] [] := by first | (simp [entryFrame, mkF, argsToLocals, Value.category]; done) | rfl
theorem d5_0 : decode jdk_43_method_13_code 0 = .ok (.aload_n 0, 1) := by decide +kernel
theorem d5_1 : decode jdk_43_method_13_code 1 = .ok (.arraylength, 1) := by decide +kernel
theorem d5_2 : decode jdk_43_method_13_code 2 = .ok (.aload_n 1, 1) := by decide +kernel
theorem d5_3 : decode jdk_43_method_13_code 3 = .ok (.arraylength, 1) := by decide +kernel
theorem d5_4 : decode jdk_43_method_13_code 4 = .ok (.if_icmp .ne 30, 3) := by decide +kernel
theorem d5_7 : decode jdk_43_method_13_code 7 = .ok (.iconst 0, 1) := by decide +kernel
theorem d5_8 : decode jdk_43_method_13_code 8 = .ok (.istore_n 2, 1) := by decide +kernel
theorem d5_9 : decode jdk_43_method_13_code 9 = .ok (.iload_n 2, 1) := by decide +kernel
theorem d5_10 : decode jdk_43_method_13_code 10 = .ok (.aload_n 0, 1) := by decide +kernel
theorem d5_11 : decode jdk_43_method_13_code 11 = .ok (.arraylength, 1) := by decide +kernel
theorem d5_12 : decode jdk_43_method_13_code 12 = .ok (.if_icmp .ge 20, 3) := by decide +kernel
theorem d5_15 : decode jdk_43_method_13_code 15 = .ok (.aload_n 0, 1) := by decide +kernel
theorem d5_16 : decode jdk_43_method_13_code 16 = .ok (.iload_n 2, 1) := by decide +kernel
theorem d5_17 : decode jdk_43_method_13_code 17 = .ok (.baload, 1) := by decide +kernel
theorem d5_18 : decode jdk_43_method_13_code 18 = .ok (.aload_n 1, 1) := by decide +kernel
theorem d5_19 : decode jdk_43_method_13_code 19 = .ok (.iload_n 2, 1) := by decide +kernel
theorem d5_20 : decode jdk_43_method_13_code 20 = .ok (.baload, 1) := by decide +kernel
theorem d5_21 : decode jdk_43_method_13_code 21 = .ok (.if_icmp .eq 5, 3) := by decide +kernel
theorem d5_24 : decode jdk_43_method_13_code 24 = .ok (.iconst 0, 1) := by decide +kernel
theorem d5_25 : decode jdk_43_method_13_code 25 = .ok (.ireturn, 1) := by decide +kernel
theorem d5_26 : decode jdk_43_method_13_code 26 = .ok (.iinc 2 1, 3) := by decide +kernel
theorem d5_29 : decode jdk_43_method_13_code 29 = .ok (.goto (-20), 3) := by decide +kernel
theorem d5_32 : decode jdk_43_method_13_code 32 = .ok (.iconst 1, 1) := by decide +kernel
theorem d5_33 : decode jdk_43_method_13_code 33 = .ok (.ireturn, 1) := by decide +kernel
theorem d5_34 : decode jdk_43_method_13_code 34 = .ok (.iconst 0, 1) := by decide +kernel
theorem d5_35 : decode jdk_43_method_13_code 35 = .ok (.ireturn, 1) := by decide +kernel
theorem pn_5 : plainFor (⟨"java/lang/StringLatin1", "equals", "([B[B)Z"⟩ : MethodName) = true := by first | exact plainFor_of_name (by first | (simp [plainName, overriddenIn]; done) | decide +kernel) | decide +kernel
theorem ef_5 (m : MethodId) (x0 : Addr) (x1 : Addr) : entryFrame m #[(.ref x0), (.ref x1)] 3 = mkF m 0 #[.val (.ref x0), .val (.ref x1), .unset] [] := by first | (simp [entryFrame, mkF, argsToLocals, Value.category]; done) | rfl
theorem d4_0 : decode jdk_42_method_66_code 0 = .ok (.aload_n 0, 1) := by decide +kernel
theorem d4_1 : decode jdk_42_method_66_code 1 = .ok (.aload_n 1, 1) := by decide +kernel
theorem d4_2 : decode jdk_42_method_66_code 2 = .ok (.if_acmp .ne 5, 3) := by decide +kernel
theorem d4_5 : decode jdk_42_method_66_code 5 = .ok (.iconst 1, 1) := by decide +kernel
theorem d4_6 : decode jdk_42_method_66_code 6 = .ok (.ireturn, 1) := by decide +kernel
theorem d4_7 : decode jdk_42_method_66_code 7 = .ok (.aload_n 1, 1) := by decide +kernel
theorem d4_8 : decode jdk_42_method_66_code 8 = .ok (.instanceof 10, 3) := by decide +kernel
theorem d4_11 : decode jdk_42_method_66_code 11 = .ok (.ifCond .eq 43, 3) := by decide +kernel
theorem d4_14 : decode jdk_42_method_66_code 14 = .ok (.aload_n 1, 1) := by decide +kernel
theorem d4_15 : decode jdk_42_method_66_code 15 = .ok (.checkcast 10, 3) := by decide +kernel
theorem d4_18 : decode jdk_42_method_66_code 18 = .ok (.astore_n 2, 1) := by decide +kernel
theorem d4_19 : decode jdk_42_method_66_code 19 = .ok (.getstatic 38, 3) := by decide +kernel
theorem d4_22 : decode jdk_42_method_66_code 22 = .ok (.ifCond .eq 14, 3) := by decide +kernel
theorem d4_25 : decode jdk_42_method_66_code 25 = .ok (.aload_n 0, 1) := by decide +kernel
theorem d4_26 : decode jdk_42_method_66_code 26 = .ok (.getfield 15, 3) := by decide +kernel
theorem d4_29 : decode jdk_42_method_66_code 29 = .ok (.aload_n 2, 1) := by decide +kernel
theorem d4_30 : decode jdk_42_method_66_code 30 = .ok (.getfield 15, 3) := by decide +kernel
theorem d4_33 : decode jdk_42_method_66_code 33 = .ok (.if_icmp .ne 21, 3) := by decide +kernel
theorem d4_36 : decode jdk_42_method_66_code 36 = .ok (.aload_n 0, 1) := by decide +kernel
theorem d4_37 : decode jdk_42_method_66_code 37 = .ok (.getfield 9, 3) := by decide +kernel
theorem d4_40 : decode jdk_42_method_66_code 40 = .ok (.aload_n 2, 1) := by decide +kernel
theorem d4_41 : decode jdk_42_method_66_code 41 = .ok (.getfield 9, 3) := by decide +kernel
theorem d4_44 : decode jdk_42_method_66_code 44 = .ok (.invokestatic 541, 3) := by decide +kernel
theorem d4_47 : decode jdk_42_method_66_code 47 = .ok (.ifCond .eq 7, 3) := by decide +kernel
theorem d4_50 : decode jdk_42_method_66_code 50 = .ok (.iconst 1, 1) := by decide +kernel
theorem d4_51 : decode jdk_42_method_66_code 51 = .ok (.goto 4, 3) := by decide +kernel
theorem d4_54 : decode jdk_42_method_66_code 54 = .ok (.iconst 0, 1) := by decide +kernel
theorem d4_55 : decode jdk_42_method_66_code 55 = .ok (.ireturn, 1) := by decide +kernel
theorem pn_4 : plainFor (⟨"java/lang/String", "equals", "(Ljava/lang/Object;)Z"⟩ : MethodName) = true := by first | exact plainFor_of_name (by first | (simp [plainName, overriddenIn]; done) | decide +kernel) | decide +kernel
theorem ef_4 (m : MethodId) (x0 : Addr) (x1 : Addr) : entryFrame m #[(.ref x0), (.ref x1)] 3 = mkF m 0 #[.val (.ref x0), .val (.ref x1), .unset] [] := by first | (simp [entryFrame, mkF, argsToLocals, Value.category]; done) | rfl
theorem pn_0 : plainFor (⟨"tenantry/store/RoleMayManageOrganizationPinLaw", "law", "(I)Z"⟩ : MethodName) = true := by first | exact plainFor_of_name (by first | (simp [plainName, overriddenIn]; done) | decide +kernel) | decide +kernel
theorem ef_0 (m : MethodId) (x0 : Int32) : entryFrame m #[(.int x0)] maxLocals = mkF m 0 #[.val (.int x0), .unset, .unset, .unset, .unset, .unset] [] := by first | (simp [entryFrame, mkF, argsToLocals, Value.category, maxLocals]; done) | rfl
/-! the constant's text is read off the sheet's own word -/
def own_txt : String := match tables_1[21]? with
  | some (Jvm.Cond.stringLink _ _ t) => t
  | _ => ""
def own_bytes : List Int32 := own_txt.toList.map fun c => Jvm.Lit.byteI c.toNat.toUInt16
theorem own_len : own_bytes.length = 5 := by decide +kernel
theorem own_small : ∀ c ∈ own_txt.toList, c.toNat < 256 := by decide +kernel
theorem own_vals : own_txt.toList.map (fun c => Value.int (Jvm.Lit.byteI c.toNat.toUInt16)) = own_bytes.map Value.int := by unfold own_bytes; rw [List.map_map]; rfl
theorem own_wS {Z : State} {a0 : Array Value} (hw : ∀ d ∈ tables_1, d.before a0 Z = true) : ∀ a ∈ Bundle.stringAtoms, a.before a0 Z = true := by
  intro d hd
  simp only [Bundle.stringAtoms, List.mem_cons, List.not_mem_nil, or_false] at hd
  rcases hd with rfl | rfl | rfl | rfl | rfl | rfl | rfl
  · exact hw _ (List.mem_of_getElem? (i := 22) rfl)
  · exact hw _ (List.mem_of_getElem? (i := 23) rfl)
  · exact hw _ (List.mem_of_getElem? (i := 24) rfl)
  · exact hw _ (List.mem_of_getElem? (i := 25) rfl)
  · exact hw _ (List.mem_of_getElem? (i := 26) rfl)
  · exact hw _ (List.mem_of_getElem? (i := 27) rfl)
  · exact hw _ (List.mem_of_getElem? (i := 28) rfl)
set_option maxRecDepth 65536 in
set_option maxHeartbeats 40000000 in
theorem rmPick (l : Launch) (Z : State) (a0 : Array Value) (hw : ∀ d ∈ tables_1, d.before a0 Z = true) (ws : List Jvm.Cond) (p1 : Int32) (aA aO aV : Addr) (h0 : Heap) (S_A : Sta Z h0 "tenantry/store/Role" "ADMIN" "Ltenantry/store/Role;" (.ref aA)) (S_O : Sta Z h0 "tenantry/store/Role" "OPERATOR" "Ltenantry/store/Role;" (.ref aO)) (S_V : Sta Z h0 "tenantry/store/Role" "VIEWER" "Ltenantry/store/Role;" (.ref aV)) (hp : p1.toInt = 0 ∨ p1.toInt = 1 ∨ p1.toInt = 2) :
    own_Met l Z ws (⟨"tenantry/store/RoleMayManageOrganizationPinLaw", "pick", "(I)Ltenantry/store/Role;"⟩ : MethodName) method_2_code 1 (some (.object "tenantry/store/Role")) ({ frames := 0, cells := 0, slots := 0, locals := 0 } : Room) #[(.int p1)] h0 (fun v h L => ∃ a : Addr, v = some (.ref a) ∧ ((p1.toInt = 0 ∧ a = aA) ∨ (p1.toInt = 1 ∧ a = aO) ∨ (p1.toInt = 2 ∧ a = aV)) ∧ h = h0 ∧ L = []) := by
  refine own_met pn_1 ?_
  intro p e s m below meth c s₁ hx hby hml hown hnm hret hlk hZ X0 e0
  refine own_entry (ef_1 m p1) ?_
  show own_Go p e below _ (s₁.setTop (mkF m 0 #[.val (.int p1)] []))
  refine own_go (fun tt kk => XS.iloadN X0.here hx rfl (hb hby d1_0) rfl kk) ?_
  show own_Go p e below _ (s₁.setTop (mkF m 1 #[.val (.int p1)] [(.int p1)]))
  by_cases hc1 : p1.toInt = 0
  · refine own_go (fun tt kk => XS.ifNo X0.here hx rfl (hb hby d1_1) rfl ((if0 _ _).trans (teq (own_eq32 (x := p1) (y := (0 : Int32)) (i := p1.toInt) (j := 0) rfl rfl hc1)).2) kk) ?_
    show own_Go p e below _ (s₁.setTop (mkF m 4 #[.val (.int p1)] []))
    obtain ⟨T1, X1, e1, st1⟩ := getS (host := "") X0 hx hZ hown (hw _ (List.mem_of_getElem? (i := 5) rfl)) Via.refl e0 S_A (g := (mkF m 4 #[.val (.int p1)] [])) rfl (hb hby d1_4)
    refine own_go st1 ?_
    show own_Go p e below _ (T1.setTop (mkF m 7 #[.val (.int p1)] [(.ref aA)]))
    exact own_retA X1 hx hlk hret rfl rfl (hb hby d1_7) ⟨aA, rfl, Or.inl ⟨hc1, rfl⟩, e1, rfl⟩ (by decide) (by decide)
  · refine own_go (fun tt kk => XS.ifYes X0.here hx rfl (pc0 := 1) (pc' := 8) rfl (hb hby d1_1) rfl ((if0 _ _).trans (feq (own_neq32 (x := p1) (y := (0 : Int32)) (i := p1.toInt) (j := 0) rfl rfl hc1)).2) (by decide) (by decide) kk) ?_
    show own_Go p e below _ (s₁.setTop (mkF m 8 #[.val (.int p1)] []))
    refine own_go (fun tt kk => XS.iloadN X0.here hx rfl (hb hby d1_8) rfl kk) ?_
    show own_Go p e below _ (s₁.setTop (mkF m 9 #[.val (.int p1)] [(.int p1)]))
    refine own_go (fun tt kk => XS.iconst X0.here hx rfl (hb hby d1_9) kk) ?_
    show own_Go p e below _ (s₁.setTop (mkF m 10 #[.val (.int p1)] [(.int (1 : Int32)), (.int p1)]))
    by_cases hc10 : p1.toInt = 1
    · refine own_go (fun tt kk => XS.icmpNo X0.here hx rfl (hb hby d1_10) rfl (teq (own_eq32 (x := p1) (y := (1 : Int32)) (i := p1.toInt) (j := 1) rfl rfl hc10)).2 kk) ?_
      show own_Go p e below _ (s₁.setTop (mkF m 13 #[.val (.int p1)] []))
      obtain ⟨T2, X2, e2, st2⟩ := getS (host := "") X0 hx hZ hown (hw _ (List.mem_of_getElem? (i := 45) rfl)) Via.refl e0 S_O (g := (mkF m 13 #[.val (.int p1)] [])) rfl (hb hby d1_13)
      refine own_go st2 ?_
      show own_Go p e below _ (T2.setTop (mkF m 16 #[.val (.int p1)] [(.ref aO)]))
      exact own_retA X2 hx hlk hret rfl rfl (hb hby d1_16) ⟨aO, rfl, Or.inr (Or.inl ⟨hc10, rfl⟩), e2, rfl⟩ (by decide) (by decide)
    · refine own_go (fun tt kk => XS.icmpYes X0.here hx rfl (pc0 := 10) (pc' := 17) rfl (hb hby d1_10) rfl (feq (own_neq32 (x := p1) (y := (1 : Int32)) (i := p1.toInt) (j := 1) rfl rfl hc10)).2 (by decide) (by decide) kk) ?_
      show own_Go p e below _ (s₁.setTop (mkF m 17 #[.val (.int p1)] []))
      obtain ⟨T3, X3, e3, st3⟩ := getS (host := "") X0 hx hZ hown (hw _ (List.mem_of_getElem? (i := 43) rfl)) Via.refl e0 S_V (g := (mkF m 17 #[.val (.int p1)] [])) rfl (hb hby d1_17)
      refine own_go st3 ?_
      show own_Go p e below _ (T3.setTop (mkF m 20 #[.val (.int p1)] [(.ref aV)]))
      exact own_retA X3 hx hlk hret rfl rfl (hb hby d1_20) ⟨aV, rfl, Or.inr (Or.inr ⟨by omega, rfl⟩), e3, rfl⟩ (by decide) (by decide)
set_option maxRecDepth 65536 in
set_option maxHeartbeats 40000000 in
theorem rmMay (l : Launch) (Z : State) (a0 : Array Value) (hw : ∀ d ∈ tables_1, d.before a0 Z = true) (ws : List Jvm.Cond) (a1 aA : Addr) (h0 : Heap) (S_A : Sta Z h0 "tenantry/store/Role" "ADMIN" "Ltenantry/store/Role;" (.ref aA)) :
    own_Met l Z ws (⟨"tenantry/store/Role", "mayManageOrganization", "()Z"⟩ : MethodName) prog_43_method_5_code 1 (some .boolean) ({ frames := 0, cells := 0, slots := 0, locals := 0 } : Room) #[(.ref a1)] h0 (fun v h L => ∃ z : Int32, v = some (.int z) ∧ ((z = 1 ∧ a1 = aA) ∨ (z = 0 ∧ ¬ a1 = aA)) ∧ h = h0 ∧ L = []) := by
  refine own_met pn_2 ?_
  intro p e s m below meth c s₁ hx hby hml hown hnm hret hlk hZ X0 e0
  refine own_entry (ef_2 m a1) ?_
  show own_Go p e below _ (s₁.setTop (mkF m 0 #[.val (.ref a1)] []))
  refine own_go (fun tt kk => XS.aloadN X0.here hx rfl (hb hby d2_0) rfl rfl kk) ?_
  show own_Go p e below _ (s₁.setTop (mkF m 1 #[.val (.ref a1)] [(.ref a1)]))
  obtain ⟨T1, X1, e1, st1⟩ := getS (host := "") X0 hx hZ hown (hw _ (List.mem_of_getElem? (i := 13) rfl)) Via.refl e0 S_A (g := (mkF m 1 #[.val (.ref a1)] [(.ref a1)])) rfl (hb hby d2_1)
  refine own_go st1 ?_
  show own_Go p e below _ (T1.setTop (mkF m 4 #[.val (.ref a1)] [(.ref aA), (.ref a1)]))
  by_cases ha : a1 = aA
  · refine own_go (fun tt kk => Jvm.RoadKit.acmp (g := (mkF m 4 #[.val (.ref a1)] [(.ref aA), (.ref a1)])) X1 hx rfl (x := (.ref a1)) (y := (.ref aA)) rfl rfl (pc0 := 4) (pc' := 7) (same := true) rfl (hb hby d2_4) rfl (decide_eq_true (congrArg Value.ref ha)) (by decide) (by decide) kk) ?_
    show own_Go p e below _ (T1.setTop (mkF m 7 #[.val (.ref a1)] []))
    refine own_go (fun tt kk => XS.iconst X1.here hx rfl (hb hby d2_7) kk) ?_
    show own_Go p e below _ (T1.setTop (mkF m 8 #[.val (.ref a1)] [(.int (1 : Int32))]))
    refine own_go (fun tt kk => XS.goto X1.here hx rfl (pc0 := 8) (pc' := 12) rfl (hb hby d2_8) (by decide) (by decide) kk) ?_
    show own_Go p e below _ (T1.setTop (mkF m 12 #[.val (.ref a1)] [(.int (1 : Int32))]))
    exact own_retZ X1 hx hlk hret (by decide) (hb hby d2_12) ⟨_, rfl, Or.inl ⟨rfl, ha⟩, e1, rfl⟩ (by decide) (by decide)
  · refine own_go (fun tt kk => Jvm.RoadKit.acmp (g := (mkF m 4 #[.val (.ref a1)] [(.ref aA), (.ref a1)])) X1 hx rfl (x := (.ref a1)) (y := (.ref aA)) rfl rfl (pc0 := 4) (pc' := 11) (same := false) rfl (hb hby d2_4) rfl (decide_eq_false fun q => ha (Value.ref.inj q)) (by decide) (by decide) kk) ?_
    show own_Go p e below _ (T1.setTop (mkF m 11 #[.val (.ref a1)] []))
    refine own_go (fun tt kk => XS.iconst X1.here hx rfl (hb hby d2_11) kk) ?_
    show own_Go p e below _ (T1.setTop (mkF m 12 #[.val (.ref a1)] [(.int (0 : Int32))]))
    exact own_retZ X1 hx hlk hret (by decide) (hb hby d2_12) ⟨_, rfl, Or.inr ⟨rfl, ha⟩, e1, rfl⟩ (by decide) (by decide)
set_option maxRecDepth 65536 in
set_option maxHeartbeats 40000000 in
theorem rmKey (l : Launch) (Z : State) (a0 : Array Value) (hw : ∀ d ∈ tables_1, d.before a0 Z = true) (ws : List Jvm.Cond) (a1 k1 : Addr) (h0 : Heap) (F : Fld Z h0 a1 "tenantry/store/Role" "key" "Ljava/lang/String;" (.ref k1)) :
    own_Met l Z ws (⟨"tenantry/store/Role", "key", "()Ljava/lang/String;"⟩ : MethodName) prog_43_method_4_code 1 (some (.object "java/lang/String")) ({ frames := 0, cells := 0, slots := 0, locals := 0 } : Room) #[(.ref a1)] h0 (fun v h L => v = some (.ref k1) ∧ h = h0 ∧ L = []) := by
  refine own_met pn_3 ?_
  intro p e s m below meth c s₁ hx hby hml hown hnm hret hlk hZ X0 e0
  refine own_entry (ef_3 m a1) ?_
  show own_Go p e below _ (s₁.setTop (mkF m 0 #[.val (.ref a1)] []))
  refine own_go (fun tt kk => XS.aloadN X0.here hx rfl (hb hby d3_0) rfl rfl kk) ?_
  show own_Go p e below _ (s₁.setTop (mkF m 1 #[.val (.ref a1)] [(.ref a1)]))
  obtain ⟨T1, X1, e1, st1⟩ := getF X0 hx hZ hown (host := "") (Or.inl (hw _ (List.mem_of_getElem? (i := 19) rfl))) Via.refl e0 F (g := (mkF m 1 #[.val (.ref a1)] [(.ref a1)])) rfl rfl (hb hby d3_1)
  refine own_go st1 ?_
  show own_Go p e below _ (T1.setTop (mkF m 4 #[.val (.ref a1)] [(.ref k1)]))
  exact own_retA X1 hx hlk hret rfl rfl (hb hby d3_4) ⟨rfl, e1, rfl⟩ (by decide) (by decide)
set_option maxRecDepth 65536 in
set_option maxHeartbeats 40000000 in
theorem rmEqL (l : Launch) (Z : State) (a0 : Array Value) (hw : ∀ d ∈ tables_1, d.before a0 Z = true) (ws : List Jvm.Cond) (b1 b2 : Addr) (n1 n2 : Nat) (g1 g2 : Nat → Int32) (h0 : Heap) (A1 : own_Ar Z h0 b1 .byte n1 (own_I g1)) (A2 : own_Ar Z h0 b2 .byte n2 (own_I g2)) :
    own_Met l Z ws (⟨"java/lang/StringLatin1", "equals", "([B[B)Z"⟩ : MethodName) jdk_43_method_13_code 3 (some .boolean) ({ frames := 0, cells := 0, slots := 0, locals := 0 } : Room) #[(.ref b1), (.ref b2)] h0 (fun v h L => ∃ z : Int32, v = some (.int z) ∧ ((z = 1 ∧ (n1 = n2 ∧ ∀ i, i < n1 → g1 i = g2 i)) ∨ (z = 0 ∧ ¬ (n1 = n2 ∧ ∀ i, i < n1 → g1 i = g2 i))) ∧ h = h0 ∧ L = []) := by
  refine own_met pn_5 ?_
  intro p e s m below meth c s₁ hx hby hml hown hnm hret hlk hZ X0 e0
  refine own_entry (ef_5 m b1 b2) ?_
  show own_Go p e below _ (s₁.setTop (mkF m 0 #[.val (.ref b1), .val (.ref b2), .unset] []))
  have l1 : n1.toInt32.toInt = n1 := len_toInt A1.1
  have l2 : n2.toInt32.toInt = n2 := len_toInt A2.1
  refine own_go (fun tt kk => XS.aloadN X0.here hx rfl (hb hby d5_0) rfl rfl kk) ?_
  show own_Go p e below _ (s₁.setTop (mkF m 1 #[.val (.ref b1), .val (.ref b2), .unset] [(.ref b1)]))
  refine own_go (own_alen X0 hx hZ e0 A1 (pc := 1) (Ls := #[.val (.ref b1), .val (.ref b2), .unset]) (rest := []) (hb hby d5_1)) ?_
  show own_Go p e below _ (s₁.setTop (mkF m 2 #[.val (.ref b1), .val (.ref b2), .unset] [(.int n1.toInt32)]))
  refine own_go (fun tt kk => XS.aloadN X0.here hx rfl (hb hby d5_2) rfl rfl kk) ?_
  show own_Go p e below _ (s₁.setTop (mkF m 3 #[.val (.ref b1), .val (.ref b2), .unset] [(.ref b2), (.int n1.toInt32)]))
  refine own_go (own_alen X0 hx hZ e0 A2 (pc := 3) (Ls := #[.val (.ref b1), .val (.ref b2), .unset]) (rest := [(.int n1.toInt32)]) (hb hby d5_3)) ?_
  show own_Go p e below _ (s₁.setTop (mkF m 4 #[.val (.ref b1), .val (.ref b2), .unset] [(.int n2.toInt32), (.int n1.toInt32)]))
  by_cases hc4 : (n1.toInt32).toInt = (n2.toInt32).toInt
  · refine own_go (fun tt kk => XS.icmpNo X0.here hx rfl (hb hby d5_4) rfl (teq (own_eq32 (x := n1.toInt32) (y := n2.toInt32) (i := (n1.toInt32).toInt) (j := (n2.toInt32).toInt) rfl rfl hc4)).2 kk) ?_
    show own_Go p e below _ (s₁.setTop (mkF m 7 #[.val (.ref b1), .val (.ref b2), .unset] []))
    have hn : n1 = n2 := by omega
    refine own_go (fun tt kk => XS.iconst X0.here hx rfl (hb hby d5_7) kk) ?_
    show own_Go p e below _ (s₁.setTop (mkF m 8 #[.val (.ref b1), .val (.ref b2), .unset] [(.int (0 : Int32))]))
    refine own_go (fun tt kk => XS.istoreN X0.here hx rfl (hb hby d5_8) rfl (l' := #[.val (.ref b1), .val (.ref b2), .val (.int (0 : Int32))]) rfl kk) ?_
    show own_Go p e below _ (s₁.setTop (mkF m 9 #[.val (.ref b1), .val (.ref b2), .val (.int (0 : Int32))] []))
    suffices loop : ∀ (r i : Nat) (j : Int32) (T : State), i + r = n1 → j.toInt = i → (∀ k, k < i → g1 k = g2 k) → Stand p l e _ s m _ below meth c T [] 0 0 → T.heap = h0 → own_Go p e below (own_End below s (fun v h L => ∃ z : Int32, v = some (.int z) ∧ ((z = 1 ∧ (n1 = n2 ∧ ∀ i, i < n1 → g1 i = g2 i)) ∨ (z = 0 ∧ ¬ (n1 = n2 ∧ ∀ i, i < n1 → g1 i = g2 i))) ∧ h = h0 ∧ L = []) 0 0) (T.setTop (mkF m 9 #[.val (.ref b1), .val (.ref b2), .val (.int j)] [])) by
      exact loop n1 0 0 _ (by omega) rfl (fun k hk => absurd hk (Nat.not_lt_zero _)) X0 e0
    intro r
    induction r with
    | zero =>
      intro i j T hi hj hk X e1
      show own_Go p e below _ (T.setTop (mkF m 9 #[.val (.ref b1), .val (.ref b2), .val (.int j)] []))
      refine own_go (fun tt kk => XS.iloadN X.here hx rfl (hb hby d5_9) rfl kk) ?_
      show own_Go p e below _ (T.setTop (mkF m 10 #[.val (.ref b1), .val (.ref b2), .val (.int j)] [(.int j)]))
      refine own_go (fun tt kk => XS.aloadN X.here hx rfl (hb hby d5_10) rfl rfl kk) ?_
      show own_Go p e below _ (T.setTop (mkF m 11 #[.val (.ref b1), .val (.ref b2), .val (.int j)] [(.ref b1), (.int j)]))
      refine own_go (own_alen X hx hZ e1 A1 (pc := 11) (Ls := #[.val (.ref b1), .val (.ref b2), .val (.int j)]) (rest := [(.int j)]) (hb hby d5_11)) ?_
      show own_Go p e below _ (T.setTop (mkF m 12 #[.val (.ref b1), .val (.ref b2), .val (.int j)] [(.int n1.toInt32), (.int j)]))
      refine own_go (fun tt kk => XS.icmpYes X.here hx rfl (pc0 := 12) (pc' := 32) rfl (hb hby d5_12) rfl (flt (own_nlt32 (x := j) (y := n1.toInt32) (i := j.toInt) (j := (n1.toInt32).toInt) rfl rfl (by omega))).2.1 (by decide) (by decide) kk) ?_
      show own_Go p e below _ (T.setTop (mkF m 32 #[.val (.ref b1), .val (.ref b2), .val (.int j)] []))
      refine own_go (fun tt kk => XS.iconst X.here hx rfl (hb hby d5_32) kk) ?_
      show own_Go p e below _ (T.setTop (mkF m 33 #[.val (.ref b1), .val (.ref b2), .val (.int j)] [(.int (1 : Int32))]))
      exact own_retZ X hx hlk hret (by decide) (hb hby d5_33) ⟨1, rfl, Or.inl ⟨rfl, hn, fun k hk' => hk k (by omega)⟩, e1, rfl⟩ (by decide) (by decide)
    | succ r ih =>
      intro i j T hi hj hk X e1
      show own_Go p e below _ (T.setTop (mkF m 9 #[.val (.ref b1), .val (.ref b2), .val (.int j)] []))
      have F1 := c_iadd j 1
      have F2 : (1 : Int32).toInt = 1 := rfl
      have F3 := A1.1
      have F4 := rng32 (j + 1)
      refine own_go (fun tt kk => XS.iloadN X.here hx rfl (hb hby d5_9) rfl kk) ?_
      show own_Go p e below _ (T.setTop (mkF m 10 #[.val (.ref b1), .val (.ref b2), .val (.int j)] [(.int j)]))
      refine own_go (fun tt kk => XS.aloadN X.here hx rfl (hb hby d5_10) rfl rfl kk) ?_
      show own_Go p e below _ (T.setTop (mkF m 11 #[.val (.ref b1), .val (.ref b2), .val (.int j)] [(.ref b1), (.int j)]))
      refine own_go (own_alen X hx hZ e1 A1 (pc := 11) (Ls := #[.val (.ref b1), .val (.ref b2), .val (.int j)]) (rest := [(.int j)]) (hb hby d5_11)) ?_
      show own_Go p e below _ (T.setTop (mkF m 12 #[.val (.ref b1), .val (.ref b2), .val (.int j)] [(.int n1.toInt32), (.int j)]))
      refine own_go (fun tt kk => XS.icmpNo X.here hx rfl (hb hby d5_12) rfl (tlt (own_lt32 (x := j) (y := n1.toInt32) (i := j.toInt) (j := (n1.toInt32).toInt) rfl rfl (by omega))).2.1 kk) ?_
      show own_Go p e below _ (T.setTop (mkF m 15 #[.val (.ref b1), .val (.ref b2), .val (.int j)] []))
      refine own_go (fun tt kk => XS.aloadN X.here hx rfl (hb hby d5_15) rfl rfl kk) ?_
      show own_Go p e below _ (T.setTop (mkF m 16 #[.val (.ref b1), .val (.ref b2), .val (.int j)] [(.ref b1)]))
      refine own_go (fun tt kk => XS.iloadN X.here hx rfl (hb hby d5_16) rfl kk) ?_
      show own_Go p e below _ (T.setTop (mkF m 17 #[.val (.ref b1), .val (.ref b2), .val (.int j)] [(.int j), (.ref b1)]))
      refine own_go (own_baload X hx hZ e1 A1 (j := j) hj (by omega) (pc := 17) (Ls := #[.val (.ref b1), .val (.ref b2), .val (.int j)]) (rest := []) (hb hby d5_17)) ?_
      show own_Go p e below _ (T.setTop (mkF m 18 #[.val (.ref b1), .val (.ref b2), .val (.int j)] [(.int (g1 i))]))
      refine own_go (fun tt kk => XS.aloadN X.here hx rfl (hb hby d5_18) rfl rfl kk) ?_
      show own_Go p e below _ (T.setTop (mkF m 19 #[.val (.ref b1), .val (.ref b2), .val (.int j)] [(.ref b2), (.int (g1 i))]))
      refine own_go (fun tt kk => XS.iloadN X.here hx rfl (hb hby d5_19) rfl kk) ?_
      show own_Go p e below _ (T.setTop (mkF m 20 #[.val (.ref b1), .val (.ref b2), .val (.int j)] [(.int j), (.ref b2), (.int (g1 i))]))
      refine own_go (own_baload X hx hZ e1 A2 (j := j) hj (by omega) (pc := 20) (Ls := #[.val (.ref b1), .val (.ref b2), .val (.int j)]) (rest := [(.int (g1 i))]) (hb hby d5_20)) ?_
      show own_Go p e below _ (T.setTop (mkF m 21 #[.val (.ref b1), .val (.ref b2), .val (.int j)] [(.int (g2 i)), (.int (g1 i))]))
      by_cases hc21 : (g1 i).toInt = (g2 i).toInt
      · refine own_go (fun tt kk => XS.icmpYes X.here hx rfl (pc0 := 21) (pc' := 26) rfl (hb hby d5_21) rfl (teq (own_eq32 (x := (g1 i)) (y := (g2 i)) (i := (g1 i).toInt) (j := (g2 i).toInt) rfl rfl hc21)).1 (by decide) (by decide) kk) ?_
        show own_Go p e below _ (T.setTop (mkF m 26 #[.val (.ref b1), .val (.ref b2), .val (.int j)] []))
        refine own_go (fun tt kk => XS.iinc X.here hx rfl (hb hby d5_26) rfl (l' := #[.val (.ref b1), .val (.ref b2), .val (.int (j + (1 : Int32)))]) rfl kk) ?_
        show own_Go p e below _ (T.setTop (mkF m 29 #[.val (.ref b1), .val (.ref b2), .val (.int (j + (1 : Int32)))] []))
        refine own_go (fun tt kk => XS.goto X.here hx rfl (pc0 := 29) (pc' := 9) rfl (hb hby d5_29) (by decide) (by decide) kk) ?_
        show own_Go p e below _ (T.setTop (mkF m 9 #[.val (.ref b1), .val (.ref b2), .val (.int (j + (1 : Int32)))] []))
        exact ih (i + 1) (j + 1) _ (by omega) (by omega) (fun k hk' => by
          rcases Nat.lt_succ_iff_lt_or_eq.mp hk' with q | q
          · exact hk k q
          · rw [q]; exact Int32.toInt_inj.mp hc21) X e1
      · refine own_go (fun tt kk => XS.icmpNo X.here hx rfl (hb hby d5_21) rfl (feq (own_neq32 (x := (g1 i)) (y := (g2 i)) (i := (g1 i).toInt) (j := (g2 i).toInt) rfl rfl hc21)).1 kk) ?_
        show own_Go p e below _ (T.setTop (mkF m 24 #[.val (.ref b1), .val (.ref b2), .val (.int j)] []))
        refine own_go (fun tt kk => XS.iconst X.here hx rfl (hb hby d5_24) kk) ?_
        show own_Go p e below _ (T.setTop (mkF m 25 #[.val (.ref b1), .val (.ref b2), .val (.int j)] [(.int (0 : Int32))]))
        exact own_retZ X hx hlk hret (by decide) (hb hby d5_25) ⟨0, rfl, Or.inr ⟨rfl, fun q => hc21 (by rw [q.2 i (by omega)])⟩, e1, rfl⟩ (by decide) (by decide)
  · refine own_go (fun tt kk => XS.icmpYes X0.here hx rfl (pc0 := 4) (pc' := 34) rfl (hb hby d5_4) rfl (feq (own_neq32 (x := n1.toInt32) (y := n2.toInt32) (i := (n1.toInt32).toInt) (j := (n2.toInt32).toInt) rfl rfl hc4)).2 (by decide) (by decide) kk) ?_
    show own_Go p e below _ (s₁.setTop (mkF m 34 #[.val (.ref b1), .val (.ref b2), .unset] []))
    refine own_go (fun tt kk => XS.iconst X0.here hx rfl (hb hby d5_34) kk) ?_
    show own_Go p e below _ (s₁.setTop (mkF m 35 #[.val (.ref b1), .val (.ref b2), .unset] [(.int (0 : Int32))]))
    exact own_retZ X0 hx hlk hret (by decide) (hb hby d5_35) ⟨0, rfl, Or.inr ⟨rfl, fun q => by omega⟩, e0, rfl⟩ (by decide) (by decide)
set_option maxRecDepth 65536 in
set_option maxHeartbeats 40000000 in
theorem rmEqS (l : Launch) (Z : State) (a0 : Array Value) (hw : ∀ d ∈ tables_1, d.before a0 Z = true) (ws : List Jvm.Cond) (x1 x2 b1 b2 : Addr) (n1 n2 : Nat) (g1 g2 : Nat → Int32) (cz : Int32) (h0 : Heap) (S1 : own_Str Z h0 x1 b1 n1 g1) (S2 : own_Str Z h0 x2 b2 n2 g2) (SC : Sta Z h0 own_ST "COMPACT_STRINGS" "Z" (.int cz)) (hcz : ¬ cz = 0) :
    own_Met l Z ws (⟨"java/lang/String", "equals", "(Ljava/lang/Object;)Z"⟩ : MethodName) jdk_42_method_66_code 3 (some .boolean) ({ frames := 1, cells := 0, slots := 0, locals := 16 } : Room) #[(.ref x1), (.ref x2)] h0 (fun v h L => ∃ z : Int32, v = some (.int z) ∧ ((z = 1 ∧ (n1 = n2 ∧ ∀ i, i < n1 → g1 i = g2 i)) ∨ (z = 0 ∧ ¬ (n1 = n2 ∧ ∀ i, i < n1 → g1 i = g2 i))) ∧ h = h0 ∧ L = []) := by
  refine own_met pn_4 ?_
  intro p e s m below meth c s₁ hx hby hml hown hnm hret hlk hZ X0 e0
  refine own_entry (ef_4 m x1 x2) ?_
  show own_Go p e below _ (s₁.setTop (mkF m 0 #[.val (.ref x1), .val (.ref x2), .unset] []))
  refine own_go (fun tt kk => XS.aloadN X0.here hx rfl (hb hby d4_0) rfl rfl kk) ?_
  show own_Go p e below _ (s₁.setTop (mkF m 1 #[.val (.ref x1), .val (.ref x2), .unset] [(.ref x1)]))
  refine own_go (fun tt kk => XS.aloadN X0.here hx rfl (hb hby d4_1) rfl rfl kk) ?_
  show own_Go p e below _ (s₁.setTop (mkF m 2 #[.val (.ref x1), .val (.ref x2), .unset] [(.ref x2), (.ref x1)]))
  by_cases ha : x1 = x2
  · refine own_go (fun tt kk => Jvm.RoadKit.acmp (g := (mkF m 2 #[.val (.ref x1), .val (.ref x2), .unset] [(.ref x2), (.ref x1)])) X0 hx rfl (x := (.ref x1)) (y := (.ref x2)) rfl rfl (pc0 := 2) (pc' := 5) (same := true) rfl (hb hby d4_2) rfl (decide_eq_true (congrArg Value.ref ha)) (by decide) (by decide) kk) ?_
    show own_Go p e below _ (s₁.setTop (mkF m 5 #[.val (.ref x1), .val (.ref x2), .unset] []))
    refine own_go (fun tt kk => XS.iconst X0.here hx rfl (hb hby d4_5) kk) ?_
    show own_Go p e below _ (s₁.setTop (mkF m 6 #[.val (.ref x1), .val (.ref x2), .unset] [(.int (1 : Int32))]))
    exact own_retZ X0 hx hlk hret (by decide) (hb hby d4_6) ⟨1, rfl, Or.inl ⟨rfl, by subst ha; exact S1.unique S2⟩, e0, rfl⟩ (by decide) (by decide)
  · refine own_go (fun tt kk => Jvm.RoadKit.acmp (g := (mkF m 2 #[.val (.ref x1), .val (.ref x2), .unset] [(.ref x2), (.ref x1)])) X0 hx rfl (x := (.ref x1)) (y := (.ref x2)) rfl rfl (pc0 := 2) (pc' := 7) (same := false) rfl (hb hby d4_2) rfl (decide_eq_false fun q => ha (Value.ref.inj q)) (by decide) (by decide) kk) ?_
    show own_Go p e below _ (s₁.setTop (mkF m 7 #[.val (.ref x1), .val (.ref x2), .unset] []))
    refine own_go (fun tt kk => XS.aloadN X0.here hx rfl (hb hby d4_7) rfl rfl kk) ?_
    show own_Go p e below _ (s₁.setTop (mkF m 8 #[.val (.ref x1), .val (.ref x2), .unset] [(.ref x2)]))
    obtain ⟨T1, X1, e1, st1⟩ := instY X0 hx hZ hown (hw _ (List.mem_of_getElem? (i := 34) rfl)) e0 (Ins.self S2.1) (g := (mkF m 8 #[.val (.ref x1), .val (.ref x2), .unset] [(.ref x2)])) rfl rfl (hb hby d4_8)
    refine own_go st1 ?_
    show own_Go p e below _ (T1.setTop (mkF m 11 #[.val (.ref x1), .val (.ref x2), .unset] [(.int (1 : Int32))]))
    refine own_go (fun tt kk => XS.ifNo X1.here hx rfl (hb hby d4_11) rfl ((if0 _ _).trans (feq (own_neq32 (x := (1 : Int32)) (y := (0 : Int32)) (i := 1) (j := 0) rfl rfl (by decide))).1) kk) ?_
    show own_Go p e below _ (T1.setTop (mkF m 14 #[.val (.ref x1), .val (.ref x2), .unset] []))
    refine own_go (fun tt kk => XS.aloadN X1.here hx rfl (hb hby d4_14) rfl rfl kk) ?_
    show own_Go p e below _ (T1.setTop (mkF m 15 #[.val (.ref x1), .val (.ref x2), .unset] [(.ref x2)]))
    obtain ⟨T2, X2, e2, st2⟩ := castY X1 hx hZ hown (hw _ (List.mem_of_getElem? (i := 34) rfl)) e1 (Ins.self S2.1) (g := (mkF m 15 #[.val (.ref x1), .val (.ref x2), .unset] [(.ref x2)])) rfl rfl (hb hby d4_15)
    refine own_go st2 ?_
    show own_Go p e below _ (T2.setTop (mkF m 18 #[.val (.ref x1), .val (.ref x2), .unset] [(.ref x2)]))
    refine own_go (fun tt kk => XS.astoreN X2.here hx rfl (hb hby d4_18) rfl rfl (l' := #[.val (.ref x1), .val (.ref x2), .val (.ref x2)]) rfl kk) ?_
    show own_Go p e below _ (T2.setTop (mkF m 19 #[.val (.ref x1), .val (.ref x2), .val (.ref x2)] []))
    obtain ⟨T3, X3, e3, st3⟩ := getS (host := "") X2 hx hZ hown (hw _ (List.mem_of_getElem? (i := 36) rfl)) Via.refl e2 SC (g := (mkF m 19 #[.val (.ref x1), .val (.ref x2), .val (.ref x2)] [])) rfl (hb hby d4_19)
    refine own_go st3 ?_
    show own_Go p e below _ (T3.setTop (mkF m 22 #[.val (.ref x1), .val (.ref x2), .val (.ref x2)] [(.int cz)]))
    refine own_go (fun tt kk => XS.ifNo X3.here hx rfl (hb hby d4_22) rfl ((if0 _ _).trans (feq (own_neq32 (x := cz) (y := (0 : Int32)) (i := cz.toInt) (j := 0) rfl rfl (fun q => hcz (Int32.toInt_inj.mp q)))).1) kk) ?_
    show own_Go p e below _ (T3.setTop (mkF m 25 #[.val (.ref x1), .val (.ref x2), .val (.ref x2)] []))
    refine own_go (fun tt kk => XS.aloadN X3.here hx rfl (hb hby d4_25) rfl rfl kk) ?_
    show own_Go p e below _ (T3.setTop (mkF m 26 #[.val (.ref x1), .val (.ref x2), .val (.ref x2)] [(.ref x1)]))
    obtain ⟨T4, X4, e4, st4⟩ := getF X3 hx hZ hown (host := "") (Or.inl (hw _ (List.mem_of_getElem? (i := 37) rfl))) Via.refl e3 S1.2.1 (g := (mkF m 26 #[.val (.ref x1), .val (.ref x2), .val (.ref x2)] [(.ref x1)])) rfl rfl (hb hby d4_26)
    refine own_go st4 ?_
    show own_Go p e below _ (T4.setTop (mkF m 29 #[.val (.ref x1), .val (.ref x2), .val (.ref x2)] [(.int (0 : Int32))]))
    refine own_go (fun tt kk => XS.aloadN X4.here hx rfl (hb hby d4_29) rfl rfl kk) ?_
    show own_Go p e below _ (T4.setTop (mkF m 30 #[.val (.ref x1), .val (.ref x2), .val (.ref x2)] [(.ref x2), (.int (0 : Int32))]))
    obtain ⟨T5, X5, e5, st5⟩ := getF X4 hx hZ hown (host := "") (Or.inl (hw _ (List.mem_of_getElem? (i := 37) rfl))) Via.refl e4 S2.2.1 (g := (mkF m 30 #[.val (.ref x1), .val (.ref x2), .val (.ref x2)] [(.ref x2), (.int (0 : Int32))])) rfl rfl (hb hby d4_30)
    refine own_go st5 ?_
    show own_Go p e below _ (T5.setTop (mkF m 33 #[.val (.ref x1), .val (.ref x2), .val (.ref x2)] [(.int (0 : Int32)), (.int (0 : Int32))]))
    refine own_go (fun tt kk => XS.icmpNo X5.here hx rfl (hb hby d4_33) rfl (teq (own_eq32 (x := (0 : Int32)) (y := (0 : Int32)) (i := 0) (j := 0) rfl rfl rfl)).2 kk) ?_
    show own_Go p e below _ (T5.setTop (mkF m 36 #[.val (.ref x1), .val (.ref x2), .val (.ref x2)] []))
    refine own_go (fun tt kk => XS.aloadN X5.here hx rfl (hb hby d4_36) rfl rfl kk) ?_
    show own_Go p e below _ (T5.setTop (mkF m 37 #[.val (.ref x1), .val (.ref x2), .val (.ref x2)] [(.ref x1)]))
    obtain ⟨T6, X6, e6, st6⟩ := getF X5 hx hZ hown (host := "") (Or.inl (hw _ (List.mem_of_getElem? (i := 38) rfl))) Via.refl e5 S1.2.2.1 (g := (mkF m 37 #[.val (.ref x1), .val (.ref x2), .val (.ref x2)] [(.ref x1)])) rfl rfl (hb hby d4_37)
    refine own_go st6 ?_
    show own_Go p e below _ (T6.setTop (mkF m 40 #[.val (.ref x1), .val (.ref x2), .val (.ref x2)] [(.ref b1)]))
    refine own_go (fun tt kk => XS.aloadN X6.here hx rfl (hb hby d4_40) rfl rfl kk) ?_
    show own_Go p e below _ (T6.setTop (mkF m 41 #[.val (.ref x1), .val (.ref x2), .val (.ref x2)] [(.ref x2), (.ref b1)]))
    obtain ⟨T7, X7, e7, st7⟩ := getF X6 hx hZ hown (host := "") (Or.inl (hw _ (List.mem_of_getElem? (i := 38) rfl))) Via.refl e6 S2.2.2.1 (g := (mkF m 41 #[.val (.ref x1), .val (.ref x2), .val (.ref x2)] [(.ref x2), (.ref b1)])) rfl rfl (hb hby d4_41)
    refine own_go st7 ?_
    show own_Go p e below _ (T7.setTop (mkF m 44 #[.val (.ref x1), .val (.ref x2), .val (.ref x2)] [(.ref b2), (.ref b1)]))
    obtain ⟨v8, L8, T8, X8, qq8, st8⟩ := own_callS X7 hx hZ hown (hw _ (List.mem_of_getElem? (i := 39) rfl)) (hw _ (List.mem_of_getElem? (i := 40) rfl)) (hw _ (List.mem_of_getElem? (i := 41) rfl)) (hw _ (List.mem_of_getElem? (i := 42) rfl)) (by decide) (rmEqL l Z a0 hw [] b1 b2 n1 n2 g1 g2 h0 S1.2.2.2 S2.2.2.2) e7 (pc := 44) (Ls := #[.val (.ref x1), .val (.ref x2), .val (.ref x2)]) (argsL := [(.ref b1), (.ref b2)]) (rest := []) rfl (by rw [hml]; rfl) pd_0 rfl rfl (hb hby d4_44) 0 (Nat.le_of_eq rfl) (by decide) (by decide) (by decide) (by decide)
    obtain ⟨z8, rfl, hz8, hh8, rfl⟩ := qq8
    refine own_go st8 ?_
    show own_Go p e below _ (T8.setTop (mkF m 47 #[.val (.ref x1), .val (.ref x2), .val (.ref x2)] [(.int z8)]))
    have o32 : (1 : Int32).toInt = 1 := rfl
    have z32 : (0 : Int32).toInt = 0 := rfl
    by_cases hc47 : z8.toInt = 0
    · refine own_go (fun tt kk => XS.ifYes X8.here hx rfl (pc0 := 47) (pc' := 54) rfl (hb hby d4_47) rfl ((if0 _ _).trans (teq (own_eq32 (x := z8) (y := (0 : Int32)) (i := z8.toInt) (j := 0) rfl rfl hc47)).1) (by decide) (by decide) kk) ?_
      show own_Go p e below _ (T8.setTop (mkF m 54 #[.val (.ref x1), .val (.ref x2), .val (.ref x2)] []))
      refine own_go (fun tt kk => XS.iconst X8.here hx rfl (hb hby d4_54) kk) ?_
      show own_Go p e below _ (T8.setTop (mkF m 55 #[.val (.ref x1), .val (.ref x2), .val (.ref x2)] [(.int (0 : Int32))]))
      exact own_retZ X8 hx hlk hret (by decide) (hb hby d4_55) ⟨0, rfl, Or.inr ⟨rfl, by rcases hz8 with ⟨rfl, _⟩ | ⟨_, r⟩; omega; exact r⟩, hh8, rfl⟩ (by decide) (by decide)
    · refine own_go (fun tt kk => XS.ifNo X8.here hx rfl (hb hby d4_47) rfl ((if0 _ _).trans (feq (own_neq32 (x := z8) (y := (0 : Int32)) (i := z8.toInt) (j := 0) rfl rfl hc47)).1) kk) ?_
      show own_Go p e below _ (T8.setTop (mkF m 50 #[.val (.ref x1), .val (.ref x2), .val (.ref x2)] []))
      refine own_go (fun tt kk => XS.iconst X8.here hx rfl (hb hby d4_50) kk) ?_
      show own_Go p e below _ (T8.setTop (mkF m 51 #[.val (.ref x1), .val (.ref x2), .val (.ref x2)] [(.int (1 : Int32))]))
      refine own_go (fun tt kk => XS.goto X8.here hx rfl (pc0 := 51) (pc' := 55) rfl (hb hby d4_51) (by decide) (by decide) kk) ?_
      show own_Go p e below _ (T8.setTop (mkF m 55 #[.val (.ref x1), .val (.ref x2), .val (.ref x2)] [(.int (1 : Int32))]))
      exact own_retZ X8 hx hlk hret (by decide) (hb hby d4_55) ⟨1, rfl, Or.inl ⟨rfl, by rcases hz8 with ⟨_, r⟩ | ⟨rfl, _⟩; exact r; omega⟩, hh8, rfl⟩ (by decide) (by decide)
set_option maxRecDepth 65536 in
set_option maxHeartbeats 40000000 in
theorem rm0 (l : Launch) (Z : State) (a0 : Array Value) (hw : ∀ d ∈ tables_1, d.before a0 Z = true) (ws : List Jvm.Cond) (p1 : Int32) (cz : Int32) (aA aO aV kA kO kV bA bO bV : Addr) (gO gV : Nat → Int32) (h0 : Heap) (hkp : ∀ (b : Addr) (cl : Cell), Z.heap[b]? = some cl → h0[b]? = some cl) (SC : Sta Z h0 own_ST "COMPACT_STRINGS" "Z" (.int cz)) (hcz : ¬ cz = 0) (hch : Jvm.Lit.constHeld Z "tenantry/store/RoleMayManageOrganizationPinLaw" 34) (hcw : Jvm.Lit.compactW.before a0 Z = true) (S_A : Sta Z h0 "tenantry/store/Role" "ADMIN" "Ltenantry/store/Role;" (.ref aA)) (E_A : Exa Z h0 aA "tenantry/store/Role") (F_A : Fld Z h0 aA "tenantry/store/Role" "key" "Ljava/lang/String;" (.ref kA)) (T_A : own_Str Z h0 kA bA 5 (fun i => own_bytes.getD i 0)) (O_A : Fld Z h0 aA "java/lang/Enum" "ordinal" "I" (.int 0)) (S_O : Sta Z h0 "tenantry/store/Role" "OPERATOR" "Ltenantry/store/Role;" (.ref aO)) (E_O : Exa Z h0 aO "tenantry/store/Role") (F_O : Fld Z h0 aO "tenantry/store/Role" "key" "Ljava/lang/String;" (.ref kO)) (T_O : own_Str Z h0 kO bO 8 gO) (O_O : Fld Z h0 aO "java/lang/Enum" "ordinal" "I" (.int 1)) (S_V : Sta Z h0 "tenantry/store/Role" "VIEWER" "Ltenantry/store/Role;" (.ref aV)) (E_V : Exa Z h0 aV "tenantry/store/Role") (F_V : Fld Z h0 aV "tenantry/store/Role" "key" "Ljava/lang/String;" (.ref kV)) (T_V : own_Str Z h0 kV bV 6 gV) (O_V : Fld Z h0 aV "java/lang/Enum" "ordinal" "I" (.int 2)) :
    own_MetW l Z ws x code maxLocals ret room_1 #[(.int p1)] h0 (fun v h L => v = some (.int 1) ∧ Fr h0.size L) := by
  refine own_metW pn_0 ?_
  intro p e s m below meth c s₁ hx hby hml hown hnm hret hlk hZ X0 e0 hh0 hI
  refine own_entry (ef_0 m p1) ?_
  show own_Go p e below _ (s₁.setTop (mkF m 0 #[.val (.int p1), .unset, .unset, .unset, .unset, .unset] []))
  have nAO : ¬ aO = aA := O_O.ne O_A (by intro q; cases q)
  have nAV : ¬ aV = aA := O_V.ne O_A (by intro q; cases q)
  have F4 : (p1 &&& 2147483647).toInt = p1.toInt % 2147483648 := c_mask _ _ 31 (by decide) (by decide)
  have F5 := (c_irem (p1 &&& 2147483647) 3 3 rfl).1 (by omega)
  refine own_go (fun tt kk => XS.iloadN X0.here hx rfl (hb hby at_0) rfl kk) ?_
  show own_Go p e below _ (s₁.setTop (mkF m 1 #[.val (.int p1), .unset, .unset, .unset, .unset, .unset] [(.int p1)]))
  refine own_go (X0.ldcInt hx hown (mvT hZ (hw _ (List.mem_of_getElem? (i := 0) rfl))) (g := (mkF m 1 #[.val (.int p1), .unset, .unset, .unset, .unset, .unset] [(.int p1)])) rfl (hb hby at_1)) ?_
  show own_Go p e below _ (s₁.setTop (mkF m 3 #[.val (.int p1), .unset, .unset, .unset, .unset, .unset] [(.int (2147483647 : Int32)), (.int p1)]))
  refine own_go (fun tt kk => XS.iand X0.here hx rfl (hb hby at_3) rfl kk) ?_
  show own_Go p e below _ (s₁.setTop (mkF m 4 #[.val (.int p1), .unset, .unset, .unset, .unset, .unset] [(.int (p1 &&& (2147483647 : Int32)))]))
  refine own_go (fun tt kk => XS.iconst X0.here hx rfl (hb hby at_4) kk) ?_
  show own_Go p e below _ (s₁.setTop (mkF m 5 #[.val (.int p1), .unset, .unset, .unset, .unset, .unset] [(.int (3 : Int32)), (.int (p1 &&& (2147483647 : Int32)))]))
  refine own_go (fun tt kk => iremM X0 hx rfl (hb hby at_5) rfl (by decide) kk) ?_
  show own_Go p e below _ (s₁.setTop (mkF m 6 #[.val (.int p1), .unset, .unset, .unset, .unset, .unset] [(.int ((p1 &&& (2147483647 : Int32)) % (3 : Int32)))]))
  refine own_go (fun tt kk => XS.istoreN X0.here hx rfl (hb hby at_6) rfl (l' := #[.val (.int p1), .val (.int ((p1 &&& (2147483647 : Int32)) % (3 : Int32))), .unset, .unset, .unset, .unset]) rfl kk) ?_
  show own_Go p e below _ (s₁.setTop (mkF m 7 #[.val (.int p1), .val (.int ((p1 &&& (2147483647 : Int32)) % (3 : Int32))), .unset, .unset, .unset, .unset] []))
  obtain ⟨ii, hii⟩ : ∃ z, z = ((p1 &&& (2147483647 : Int32)) % (3 : Int32)) := ⟨_, rfl⟩
  rw [← hii] at F5 ⊢
  show own_Go p e below _ (s₁.setTop (mkF m 7 #[.val (.int p1), .val (.int ii), .unset, .unset, .unset, .unset] []))
  refine own_go (fun tt kk => XS.iloadN X0.here hx rfl (hb hby at_7) rfl kk) ?_
  show own_Go p e below _ (s₁.setTop (mkF m 8 #[.val (.int p1), .val (.int ii), .unset, .unset, .unset, .unset] [(.int ii)]))
  obtain ⟨v1, L1, T1, X1, qq1, st1⟩ := own_callS X0 hx hZ hown (hw _ (List.mem_of_getElem? (i := 1) rfl)) (hw _ (List.mem_of_getElem? (i := 2) rfl)) (hw _ (List.mem_of_getElem? (i := 3) rfl)) (hw _ (List.mem_of_getElem? (i := 4) rfl)) (by decide) (rmPick l Z a0 hw [] ii aA aO aV h0 S_A S_O S_V (by omega)) e0 (pc := 8) (Ls := #[.val (.int p1), .val (.int ii), .unset, .unset, .unset, .unset]) (argsL := [(.int ii)]) (rest := []) rfl (by rw [hml]; rfl) pd_1 rfl rfl (hb hby at_8) 0 (Nat.le_of_eq rfl) (by decide) (by decide) (by decide) (by decide)
  obtain ⟨ar, rfl, har, hh1, rfl⟩ := qq1
  refine own_go st1 ?_
  show own_Go p e below _ (T1.setTop (mkF m 11 #[.val (.int p1), .val (.int ii), .unset, .unset, .unset, .unset] [(.ref ar)]))
  obtain ⟨kr, br, nr, gr, Er, Fr', Tr, hr⟩ : ∃ (kr br : Addr) (nr : Nat) (gr : Nat → Int32), Exa Z h0 ar "tenantry/store/Role" ∧ Fld Z h0 ar "tenantry/store/Role" "key" "Ljava/lang/String;" (.ref kr) ∧ own_Str Z h0 kr br nr gr ∧ ((ii.toInt = 0 ∧ ar = aA ∧ nr = 5 ∧ ∀ i, i < 5 → gr i = own_bytes.getD i 0) ∨ (¬ ii.toInt = 0 ∧ ¬ ar = aA ∧ ¬ nr = 5)) := by
    rcases har with ⟨q, rfl⟩ | ⟨q, rfl⟩ | ⟨q, rfl⟩
    · exact ⟨kA, bA, 5, _, E_A, F_A, T_A, Or.inl ⟨q, rfl, rfl, fun _ _ => rfl⟩⟩
    · exact ⟨kO, bO, 8, gO, E_O, F_O, T_O, Or.inr ⟨by omega, nAO, by omega⟩⟩
    · exact ⟨kV, bV, 6, gV, E_V, F_V, T_V, Or.inr ⟨by omega, nAV, by omega⟩⟩
  refine own_go (fun tt kk => XS.astoreN X1.here hx rfl (hb hby at_11) rfl rfl (l' := #[.val (.int p1), .val (.int ii), .val (.ref ar), .unset, .unset, .unset]) rfl kk) ?_
  show own_Go p e below _ (T1.setTop (mkF m 12 #[.val (.int p1), .val (.int ii), .val (.ref ar), .unset, .unset, .unset] []))
  refine own_go (fun tt kk => XS.aloadN X1.here hx rfl (hb hby at_12) rfl rfl kk) ?_
  show own_Go p e below _ (T1.setTop (mkF m 13 #[.val (.int p1), .val (.int ii), .val (.ref ar), .unset, .unset, .unset] [(.ref ar)]))
  obtain ⟨v2, L2, T2, X2, qq2, st2⟩ := own_callV X1 hx hZ hown (hw _ (List.mem_of_getElem? (i := 8) rfl)) (hw _ (List.mem_of_getElem? (i := 9) rfl)) (hw _ (List.mem_of_getElem? (i := 11) rfl)) (hw _ (List.mem_of_getElem? (i := 10) rfl)) (hw _ (List.mem_of_getElem? (i := 12) rfl)) (hw _ (List.mem_of_getElem? (i := 6) rfl)) (by decide) Er (rmMay l Z a0 hw [] ar aA h0 S_A) hh1 (pc := 13) (Ls := #[.val (.int p1), .val (.int ii), .val (.ref ar), .unset, .unset, .unset]) (argsL := []) (rest := []) rfl (by rw [hml]; rfl) pd_2 rfl rfl (hb hby at_13) 0 (Nat.le_of_eq rfl) (by decide) (by decide) (by decide) (by decide)
  obtain ⟨z2, rfl, hz2, hh2, rfl⟩ := qq2
  refine own_go st2 ?_
  show own_Go p e below _ (T2.setTop (mkF m 16 #[.val (.int p1), .val (.int ii), .val (.ref ar), .unset, .unset, .unset] [(.int z2)]))
  refine own_go (fun tt kk => XS.istoreN X2.here hx rfl (hb hby at_16) rfl (l' := #[.val (.int p1), .val (.int ii), .val (.ref ar), .val (.int z2), .unset, .unset]) rfl kk) ?_
  show own_Go p e below _ (T2.setTop (mkF m 17 #[.val (.int p1), .val (.int ii), .val (.ref ar), .val (.int z2), .unset, .unset] []))
  refine own_go (fun tt kk => XS.iloadN X2.here hx rfl (hb hby at_17) rfl kk) ?_
  show own_Go p e below _ (T2.setTop (mkF m 18 #[.val (.int p1), .val (.int ii), .val (.ref ar), .val (.int z2), .unset, .unset] [(.int ii)]))
  by_cases hc18 : ii.toInt = 0
  · refine own_go (fun tt kk => XS.ifNo X2.here hx rfl (hb hby at_18) rfl ((if0 _ _).trans (teq (own_eq32 (x := ii) (y := (0 : Int32)) (i := ii.toInt) (j := 0) rfl rfl hc18)).2) kk) ?_
    show own_Go p e below _ (T2.setTop (mkF m 21 #[.val (.int p1), .val (.int ii), .val (.ref ar), .val (.int z2), .unset, .unset] []))
    have hexp : z2.toInt = 1 := by
      rcases hz2 with ⟨rfl, q⟩ | ⟨rfl, q⟩
      · rfl
      · rcases hr with ⟨_, r1, _⟩ | ⟨r0, _⟩
        · exact absurd r1 q
        · exact absurd hc18 r0
    refine own_go (fun tt kk => XS.iconst X2.here hx rfl (hb hby at_21) kk) ?_
    show own_Go p e below _ (T2.setTop (mkF m 22 #[.val (.int p1), .val (.int ii), .val (.ref ar), .val (.int z2), .unset, .unset] [(.int (1 : Int32))]))
    refine own_go (fun tt kk => XS.goto X2.here hx rfl (pc0 := 22) (pc' := 26) rfl (hb hby at_22) (by decide) (by decide) kk) ?_
    show own_Go p e below _ (T2.setTop (mkF m 26 #[.val (.int p1), .val (.int ii), .val (.ref ar), .val (.int z2), .unset, .unset] [(.int (1 : Int32))]))
    refine own_go (fun tt kk => XS.istore X2.here hx rfl (hb hby at_26) rfl (l' := #[.val (.int p1), .val (.int ii), .val (.ref ar), .val (.int z2), .val (.int (1 : Int32)), .unset]) rfl kk) ?_
    show own_Go p e below _ (T2.setTop (mkF m 28 #[.val (.int p1), .val (.int ii), .val (.ref ar), .val (.int z2), .val (.int (1 : Int32)), .unset] []))
    refine own_go (fun tt kk => XS.aloadN X2.here hx rfl (hb hby at_28) rfl rfl kk) ?_
    show own_Go p e below _ (T2.setTop (mkF m 29 #[.val (.int p1), .val (.int ii), .val (.ref ar), .val (.int z2), .val (.int (1 : Int32)), .unset] [(.ref ar)]))
    obtain ⟨v3, L3, T3, X3, qq3, st3⟩ := own_callV X2 hx hZ hown (hw _ (List.mem_of_getElem? (i := 14) rfl)) (hw _ (List.mem_of_getElem? (i := 15) rfl)) (hw _ (List.mem_of_getElem? (i := 17) rfl)) (hw _ (List.mem_of_getElem? (i := 16) rfl)) (hw _ (List.mem_of_getElem? (i := 18) rfl)) (hw _ (List.mem_of_getElem? (i := 6) rfl)) (by decide) Er (rmKey l Z a0 hw [] ar kr h0 Fr') hh2 (pc := 29) (Ls := #[.val (.int p1), .val (.int ii), .val (.ref ar), .val (.int z2), .val (.int (1 : Int32)), .unset]) (argsL := []) (rest := []) rfl (by rw [hml]; rfl) pd_3 rfl rfl (hb hby at_29) 0 (Nat.le_of_eq rfl) (by decide) (by decide) (by decide) (by decide)
    obtain ⟨rfl, hh3, rfl⟩ := qq3
    refine own_go st3 ?_
    show own_Go p e below _ (T3.setTop (mkF m 32 #[.val (.int p1), .val (.int ii), .val (.ref ar), .val (.int z2), .val (.int (1 : Int32)), .unset] [(.ref kr)]))
    obtain ⟨aa, T4, h4, k4, bb, kk, X4, e4, E4, S4, sz4, hZ4, hown4, Q1, Q2, Q3, Q4, -, -, -, st4⟩ := ldcSV (s := s) (vm0 := s.vm) (Ts := []) X3 hx hZ hown (hw _ (List.mem_of_getElem? (i := 21) rfl)) (own_wS hw) hh3 ((State.WarmedH.refl s).since h0.size) (Nat.le_refl _) (Fr.app (Fr.app (Fr.app (Fr.nil _) (Fr.nil _)) (Fr.nil _)) (Fr.nil _)) (fun b cl q => by rw [hh0]; exact hkp b cl q) hI List.not_mem_nil hch hcw (vs := own_bytes.map Value.int) (z := 5) ⟨own_small, own_vals⟩ (by decide) (by rw [List.length_map, own_len]; rfl) (g := (mkF m 32 #[.val (.int p1), .val (.int ii), .val (.ref ar), .val (.int z2), .val (.int (1 : Int32)), .unset] [(.ref kr)])) rfl (hb hby at_32) (n := 20) (by decide +kernel) (by decide) (by decide) (by decide)
    have SS : own_Str Z h4 aa bb 5 (fun i => own_bytes.getD i 0) := ⟨Q1, Q2, Q3, own_Ar.of_arv Q4 rfl own_len⟩
    refine own_go st4 ?_
    show own_Go p e below _ (T4.setTop (mkF m 34 #[.val (.int p1), .val (.int ii), .val (.ref ar), .val (.int z2), .val (.int (1 : Int32)), .unset] [(.ref aa), (.ref kr)]))
    obtain ⟨v5, L5, T5, X5, qq5, st5⟩ := own_callV X4 hx hZ4 hown4 (hw _ (List.mem_of_getElem? (i := 29) rfl)) (hw _ (List.mem_of_getElem? (i := 30) rfl)) (hw _ (List.mem_of_getElem? (i := 32) rfl)) (hw _ (List.mem_of_getElem? (i := 31) rfl)) (hw _ (List.mem_of_getElem? (i := 33) rfl)) (hw _ (List.mem_of_getElem? (i := 22) rfl)) (by decide) (Tr.ext E4).1 (rmEqS l Z a0 hw [] kr aa br bb nr 5 gr (fun i => own_bytes.getD i 0) cz h4 (Tr.ext E4) SS (SC.ext E4) hcz) e4 (pc := 34) (Ls := #[.val (.int p1), .val (.int ii), .val (.ref ar), .val (.int z2), .val (.int (1 : Int32)), .unset]) (argsL := [(.ref aa)]) (rest := []) rfl (by rw [hml]; rfl) pd_4 rfl rfl (hb hby at_34) 0 (Nat.le_of_eq rfl) (by decide) (by decide) (by decide) (by decide)
    obtain ⟨z5, rfl, hz5, hh5, rfl⟩ := qq5
    refine own_go st5 ?_
    show own_Go p e below _ (T5.setTop (mkF m 37 #[.val (.int p1), .val (.int ii), .val (.ref ar), .val (.int z2), .val (.int (1 : Int32)), .unset] [(.int z5)]))
    have same : z2 = z5 := by
      rcases hr with ⟨_, r1, r2, r3⟩ | ⟨_, r1, r2⟩ <;> rcases hz2 with ⟨rfl, q⟩ | ⟨rfl, q⟩ <;> rcases hz5 with ⟨rfl, q'⟩ | ⟨rfl, q'⟩ <;> first | rfl | exact absurd q r1 | exact absurd r1 q | exact absurd q'.1 r2 | exact absurd ⟨r2, fun i hi => r3 i (by omega)⟩ q'
    refine own_go (fun tt kk => XS.istore X5.here hx rfl (hb hby at_37) rfl (l' := #[.val (.int p1), .val (.int ii), .val (.ref ar), .val (.int z2), .val (.int (1 : Int32)), .val (.int z5)]) rfl kk) ?_
    show own_Go p e below _ (T5.setTop (mkF m 39 #[.val (.int p1), .val (.int ii), .val (.ref ar), .val (.int z2), .val (.int (1 : Int32)), .val (.int z5)] []))
    refine own_go (fun tt kk => XS.iloadN X5.here hx rfl (hb hby at_39) rfl kk) ?_
    show own_Go p e below _ (T5.setTop (mkF m 40 #[.val (.int p1), .val (.int ii), .val (.ref ar), .val (.int z2), .val (.int (1 : Int32)), .val (.int z5)] [(.int z2)]))
    refine own_go (fun tt kk => XS.iload X5.here hx rfl (hb hby at_40) rfl kk) ?_
    show own_Go p e below _ (T5.setTop (mkF m 42 #[.val (.int p1), .val (.int ii), .val (.ref ar), .val (.int z2), .val (.int (1 : Int32)), .val (.int z5)] [(.int (1 : Int32)), (.int z2)]))
    refine own_go (fun tt kk => XS.icmpNo X5.here hx rfl (hb hby at_42) rfl (teq (own_eq32 (x := z2) (y := (1 : Int32)) (i := z2.toInt) (j := 1) rfl rfl hexp)).2 kk) ?_
    show own_Go p e below _ (T5.setTop (mkF m 45 #[.val (.int p1), .val (.int ii), .val (.ref ar), .val (.int z2), .val (.int (1 : Int32)), .val (.int z5)] []))
    refine own_go (fun tt kk => XS.iloadN X5.here hx rfl (hb hby at_45) rfl kk) ?_
    show own_Go p e below _ (T5.setTop (mkF m 46 #[.val (.int p1), .val (.int ii), .val (.ref ar), .val (.int z2), .val (.int (1 : Int32)), .val (.int z5)] [(.int z2)]))
    refine own_go (fun tt kk => XS.iload X5.here hx rfl (hb hby at_46) rfl kk) ?_
    show own_Go p e below _ (T5.setTop (mkF m 48 #[.val (.int p1), .val (.int ii), .val (.ref ar), .val (.int z2), .val (.int (1 : Int32)), .val (.int z5)] [(.int z5), (.int z2)]))
    refine own_go (fun tt kk => XS.icmpNo X5.here hx rfl (hb hby at_48) rfl (teq (own_eq32 (x := z2) (y := z5) (i := z2.toInt) (j := z5.toInt) rfl rfl (by rw [same]))).2 kk) ?_
    show own_Go p e below _ (T5.setTop (mkF m 51 #[.val (.int p1), .val (.int ii), .val (.ref ar), .val (.int z2), .val (.int (1 : Int32)), .val (.int z5)] []))
    refine own_go (fun tt kk => XS.iconst X5.here hx rfl (hb hby at_51) kk) ?_
    show own_Go p e below _ (T5.setTop (mkF m 52 #[.val (.int p1), .val (.int ii), .val (.ref ar), .val (.int z2), .val (.int (1 : Int32)), .val (.int z5)] [(.int (1 : Int32))]))
    refine own_go (fun tt kk => XS.goto X5.here hx rfl (pc0 := 52) (pc' := 56) rfl (hb hby at_52) (by decide) (by decide) kk) ?_
    show own_Go p e below _ (T5.setTop (mkF m 56 #[.val (.int p1), .val (.int ii), .val (.ref ar), .val (.int z2), .val (.int (1 : Int32)), .val (.int z5)] [(.int (1 : Int32))]))
    exact own_retWZ X5 S4 (by rw [hh5]; exact sz4) hx hlk hret (by decide) (hb hby at_56) ⟨rfl, Fr.app (Fr.app (Fr.app (Fr.app (Fr.nil _) (Fr.nil _)) (Fr.nil _)) (Fr.nil _)) (Fr.nil _)⟩ (by decide) (by decide)
  · refine own_go (fun tt kk => XS.ifYes X2.here hx rfl (pc0 := 18) (pc' := 25) rfl (hb hby at_18) rfl ((if0 _ _).trans (feq (own_neq32 (x := ii) (y := (0 : Int32)) (i := ii.toInt) (j := 0) rfl rfl hc18)).2) (by decide) (by decide) kk) ?_
    show own_Go p e below _ (T2.setTop (mkF m 25 #[.val (.int p1), .val (.int ii), .val (.ref ar), .val (.int z2), .unset, .unset] []))
    have hexp : z2.toInt = 0 := by
      rcases hz2 with ⟨rfl, q⟩ | ⟨rfl, q⟩
      · rcases hr with ⟨r0, _⟩ | ⟨_, r1, _⟩
        · exact absurd r0 hc18
        · exact absurd q r1
      · rfl
    refine own_go (fun tt kk => XS.iconst X2.here hx rfl (hb hby at_25) kk) ?_
    show own_Go p e below _ (T2.setTop (mkF m 26 #[.val (.int p1), .val (.int ii), .val (.ref ar), .val (.int z2), .unset, .unset] [(.int (0 : Int32))]))
    refine own_go (fun tt kk => XS.istore X2.here hx rfl (hb hby at_26) rfl (l' := #[.val (.int p1), .val (.int ii), .val (.ref ar), .val (.int z2), .val (.int (0 : Int32)), .unset]) rfl kk) ?_
    show own_Go p e below _ (T2.setTop (mkF m 28 #[.val (.int p1), .val (.int ii), .val (.ref ar), .val (.int z2), .val (.int (0 : Int32)), .unset] []))
    refine own_go (fun tt kk => XS.aloadN X2.here hx rfl (hb hby at_28) rfl rfl kk) ?_
    show own_Go p e below _ (T2.setTop (mkF m 29 #[.val (.int p1), .val (.int ii), .val (.ref ar), .val (.int z2), .val (.int (0 : Int32)), .unset] [(.ref ar)]))
    obtain ⟨v6, L6, T6, X6, qq6, st6⟩ := own_callV X2 hx hZ hown (hw _ (List.mem_of_getElem? (i := 14) rfl)) (hw _ (List.mem_of_getElem? (i := 15) rfl)) (hw _ (List.mem_of_getElem? (i := 17) rfl)) (hw _ (List.mem_of_getElem? (i := 16) rfl)) (hw _ (List.mem_of_getElem? (i := 18) rfl)) (hw _ (List.mem_of_getElem? (i := 6) rfl)) (by decide) Er (rmKey l Z a0 hw [] ar kr h0 Fr') hh2 (pc := 29) (Ls := #[.val (.int p1), .val (.int ii), .val (.ref ar), .val (.int z2), .val (.int (0 : Int32)), .unset]) (argsL := []) (rest := []) rfl (by rw [hml]; rfl) pd_3 rfl rfl (hb hby at_29) 0 (Nat.le_of_eq rfl) (by decide) (by decide) (by decide) (by decide)
    obtain ⟨rfl, hh6, rfl⟩ := qq6
    refine own_go st6 ?_
    show own_Go p e below _ (T6.setTop (mkF m 32 #[.val (.int p1), .val (.int ii), .val (.ref ar), .val (.int z2), .val (.int (0 : Int32)), .unset] [(.ref kr)]))
    obtain ⟨aa, T7, h7, k7, bb, kk, X7, e7, E7, S7, sz7, hZ7, hown7, Q1, Q2, Q3, Q4, -, -, -, st7⟩ := ldcSV (s := s) (vm0 := s.vm) (Ts := []) X6 hx hZ hown (hw _ (List.mem_of_getElem? (i := 21) rfl)) (own_wS hw) hh6 ((State.WarmedH.refl s).since h0.size) (Nat.le_refl _) (Fr.app (Fr.app (Fr.app (Fr.nil _) (Fr.nil _)) (Fr.nil _)) (Fr.nil _)) (fun b cl q => by rw [hh0]; exact hkp b cl q) hI List.not_mem_nil hch hcw (vs := own_bytes.map Value.int) (z := 5) ⟨own_small, own_vals⟩ (by decide) (by rw [List.length_map, own_len]; rfl) (g := (mkF m 32 #[.val (.int p1), .val (.int ii), .val (.ref ar), .val (.int z2), .val (.int (0 : Int32)), .unset] [(.ref kr)])) rfl (hb hby at_32) (n := 20) (by decide +kernel) (by decide) (by decide) (by decide)
    have SS : own_Str Z h7 aa bb 5 (fun i => own_bytes.getD i 0) := ⟨Q1, Q2, Q3, own_Ar.of_arv Q4 rfl own_len⟩
    refine own_go st7 ?_
    show own_Go p e below _ (T7.setTop (mkF m 34 #[.val (.int p1), .val (.int ii), .val (.ref ar), .val (.int z2), .val (.int (0 : Int32)), .unset] [(.ref aa), (.ref kr)]))
    obtain ⟨v8, L8, T8, X8, qq8, st8⟩ := own_callV X7 hx hZ7 hown7 (hw _ (List.mem_of_getElem? (i := 29) rfl)) (hw _ (List.mem_of_getElem? (i := 30) rfl)) (hw _ (List.mem_of_getElem? (i := 32) rfl)) (hw _ (List.mem_of_getElem? (i := 31) rfl)) (hw _ (List.mem_of_getElem? (i := 33) rfl)) (hw _ (List.mem_of_getElem? (i := 22) rfl)) (by decide) (Tr.ext E7).1 (rmEqS l Z a0 hw [] kr aa br bb nr 5 gr (fun i => own_bytes.getD i 0) cz h7 (Tr.ext E7) SS (SC.ext E7) hcz) e7 (pc := 34) (Ls := #[.val (.int p1), .val (.int ii), .val (.ref ar), .val (.int z2), .val (.int (0 : Int32)), .unset]) (argsL := [(.ref aa)]) (rest := []) rfl (by rw [hml]; rfl) pd_4 rfl rfl (hb hby at_34) 0 (Nat.le_of_eq rfl) (by decide) (by decide) (by decide) (by decide)
    obtain ⟨z8, rfl, hz8, hh8, rfl⟩ := qq8
    refine own_go st8 ?_
    show own_Go p e below _ (T8.setTop (mkF m 37 #[.val (.int p1), .val (.int ii), .val (.ref ar), .val (.int z2), .val (.int (0 : Int32)), .unset] [(.int z8)]))
    have same : z2 = z8 := by
      rcases hr with ⟨_, r1, r2, r3⟩ | ⟨_, r1, r2⟩ <;> rcases hz2 with ⟨rfl, q⟩ | ⟨rfl, q⟩ <;> rcases hz8 with ⟨rfl, q'⟩ | ⟨rfl, q'⟩ <;> first | rfl | exact absurd q r1 | exact absurd r1 q | exact absurd q'.1 r2 | exact absurd ⟨r2, fun i hi => r3 i (by omega)⟩ q'
    refine own_go (fun tt kk => XS.istore X8.here hx rfl (hb hby at_37) rfl (l' := #[.val (.int p1), .val (.int ii), .val (.ref ar), .val (.int z2), .val (.int (0 : Int32)), .val (.int z8)]) rfl kk) ?_
    show own_Go p e below _ (T8.setTop (mkF m 39 #[.val (.int p1), .val (.int ii), .val (.ref ar), .val (.int z2), .val (.int (0 : Int32)), .val (.int z8)] []))
    refine own_go (fun tt kk => XS.iloadN X8.here hx rfl (hb hby at_39) rfl kk) ?_
    show own_Go p e below _ (T8.setTop (mkF m 40 #[.val (.int p1), .val (.int ii), .val (.ref ar), .val (.int z2), .val (.int (0 : Int32)), .val (.int z8)] [(.int z2)]))
    refine own_go (fun tt kk => XS.iload X8.here hx rfl (hb hby at_40) rfl kk) ?_
    show own_Go p e below _ (T8.setTop (mkF m 42 #[.val (.int p1), .val (.int ii), .val (.ref ar), .val (.int z2), .val (.int (0 : Int32)), .val (.int z8)] [(.int (0 : Int32)), (.int z2)]))
    refine own_go (fun tt kk => XS.icmpNo X8.here hx rfl (hb hby at_42) rfl (teq (own_eq32 (x := z2) (y := (0 : Int32)) (i := z2.toInt) (j := 0) rfl rfl hexp)).2 kk) ?_
    show own_Go p e below _ (T8.setTop (mkF m 45 #[.val (.int p1), .val (.int ii), .val (.ref ar), .val (.int z2), .val (.int (0 : Int32)), .val (.int z8)] []))
    refine own_go (fun tt kk => XS.iloadN X8.here hx rfl (hb hby at_45) rfl kk) ?_
    show own_Go p e below _ (T8.setTop (mkF m 46 #[.val (.int p1), .val (.int ii), .val (.ref ar), .val (.int z2), .val (.int (0 : Int32)), .val (.int z8)] [(.int z2)]))
    refine own_go (fun tt kk => XS.iload X8.here hx rfl (hb hby at_46) rfl kk) ?_
    show own_Go p e below _ (T8.setTop (mkF m 48 #[.val (.int p1), .val (.int ii), .val (.ref ar), .val (.int z2), .val (.int (0 : Int32)), .val (.int z8)] [(.int z8), (.int z2)]))
    refine own_go (fun tt kk => XS.icmpNo X8.here hx rfl (hb hby at_48) rfl (teq (own_eq32 (x := z2) (y := z8) (i := z2.toInt) (j := z8.toInt) rfl rfl (by rw [same]))).2 kk) ?_
    show own_Go p e below _ (T8.setTop (mkF m 51 #[.val (.int p1), .val (.int ii), .val (.ref ar), .val (.int z2), .val (.int (0 : Int32)), .val (.int z8)] []))
    refine own_go (fun tt kk => XS.iconst X8.here hx rfl (hb hby at_51) kk) ?_
    show own_Go p e below _ (T8.setTop (mkF m 52 #[.val (.int p1), .val (.int ii), .val (.ref ar), .val (.int z2), .val (.int (0 : Int32)), .val (.int z8)] [(.int (1 : Int32))]))
    refine own_go (fun tt kk => XS.goto X8.here hx rfl (pc0 := 52) (pc' := 56) rfl (hb hby at_52) (by decide) (by decide) kk) ?_
    show own_Go p e below _ (T8.setTop (mkF m 56 #[.val (.int p1), .val (.int ii), .val (.ref ar), .val (.int z2), .val (.int (0 : Int32)), .val (.int z8)] [(.int (1 : Int32))]))
    exact own_retWZ X8 S7 (by rw [hh8]; exact sz7) hx hlk hret (by decide) (hb hby at_56) ⟨rfl, Fr.app (Fr.app (Fr.app (Fr.app (Fr.nil _) (Fr.nil _)) (Fr.nil _)) (Fr.nil _)) (Fr.nil _)⟩ (by decide) (by decide)
set_option maxRecDepth 65536 in
set_option maxHeartbeats 40000000 in
theorem comes_1 {Post : Tables → Env → Array Value → State → Outcome → State → Prop} (hpost : ∀ tb e args s v u, (limb_1_1.after args s (.returned v) u = true ∧ limb_1_2.after args s (.returned v) u = true ∧ True) → ReturnedEndW s (.returned v) u (Jvm.fieldLocs frame_1_writes args s ++ Jvm.arrayLocs frame_1_arrays args s ++ Jvm.staticLocs frame_1_statics s) 8 1088 → Post tb e args s (.returned v) u) :
    ArmFor flags0 classFile x code maxLocals ret World_1 tables_1 room_1 Calls_1 rest_1 Pre_1 Post := by
  intro l hfl _ _ p e ha hc hk s m args below hf hA hF happ hP
  obtain ⟨hcalls, hrest, hpre⟩ := hP
  obtain ⟨-, -, -, hnamed, -, -, -, hat⟩ := (Spec.applies_iff hf).mp happ
  obtain ⟨hg, hn⟩ := and_e (Cond.before_iff.mp (show (Jvm.Cond.and given_1 narrow_1).before args s = true from hpre))
  obtain ⟨h1, h2⟩ := and_e hg
  obtain ⟨w0, rfl⟩ : ∃ w0 : Value, args = #[w0] := by
    have hs : args.size = 1 := by simpa [Cond.value, given_1] using h1
    obtain ⟨L⟩ := args
    match L, hs with
    | [w0], _ => exact ⟨w0, rfl⟩
  have hw := fun d (hd : d ∈ tables_1) => atoms_spec (ws := Jvm.Cond.code x code maxLocals ret :: tables_1) hat d (List.mem_cons_of_mem _ hd)
  obtain ⟨i0, e0⟩ := is_v h2
  obtain rfl : w0 = (.int i0) := Option.some.inj e0
  obtain ⟨hsets, hown0⟩ := atoms_of _ (rest_1_c_eq ▸ (show rest_1_c.before _ s = true from hrest))
  have n5 := not_v (Cond.before_iff.mp (hsets _ (List.mem_of_getElem? (i := 2) rfl)))
  obtain ⟨cz, ecz⟩ := is_v (Cond.before_iff.mp (hsets _ (List.mem_of_getElem? (i := 1) rfl)))
  have SC : Sta s s.heap "java/lang/String" "COMPACT_STRINGS" "Z" (.int cz) := Sta.start ecz (Or.inl (hsets _ (List.mem_of_getElem? (i := 0) rfl)))
  have hcz : ¬ (cz = (0 : Int32)) := gotF (Cond.eq_ints ecz (Term.int_eval (0))) n5
  have hch : Jvm.Lit.constHeld s "tenantry/store/RoleMayManageOrganizationPinLaw" 34 := hcalls.1 _ (List.mem_of_getElem? (i := 0) rfl)
  have hcw : Jvm.Lit.compactW.before _ s = true := hsets _ (List.mem_of_getElem? (i := 2) rfl)
  have hfit : Fit s := fun {y c} hc i hi => by
    obtain ⟨ha, rfl⟩ := Array.getElem?_eq_some_iff.mp hc
    have q := List.all_eq_true.mp ((Array.all_eq_true_iff_forall_mem.mp hF) _ (Array.getElem_mem ha)) i (List.mem_range.mpr hi)
    simpa [Array.getElem?_eq_getElem hi] using q
  obtain ⟨m0, r0⟩ := and_e hn
  obtain ⟨m1, r1⟩ := and_e r0
  obtain ⟨m2, r2⟩ := and_e r1
  obtain ⟨m3, r3⟩ := and_e r2
  obtain ⟨m4, r4⟩ := and_e r3
  obtain ⟨m5, r5⟩ := and_e r4
  obtain ⟨m6, r6⟩ := and_e r5
  obtain ⟨m7, r7⟩ := and_e r6
  obtain ⟨m8, r8⟩ := and_e r7
  obtain ⟨m9, r9⟩ := and_e r8
  obtain ⟨m10, r10⟩ := and_e r9
  obtain ⟨m11, r11⟩ := and_e r10
  obtain ⟨m12, r12⟩ := and_e r11
  obtain ⟨m13, r13⟩ := and_e r12
  obtain ⟨m14, r14⟩ := and_e r13
  obtain ⟨m15, r15⟩ := and_e r14
  obtain ⟨m16, r16⟩ := and_e r15
  obtain ⟨m17, r17⟩ := and_e r16
  obtain ⟨m18, r18⟩ := and_e r17
  obtain ⟨m19, r19⟩ := and_e r18
  obtain ⟨m20, r20⟩ := and_e r19
  obtain ⟨m21, r21⟩ := and_e r20
  obtain ⟨m22, r22⟩ := and_e r21
  obtain ⟨m23, r23⟩ := and_e r22
  obtain ⟨m24, r24⟩ := and_e r23
  obtain ⟨m25, r25⟩ := and_e r24
  obtain ⟨m26, r26⟩ := and_e r25
  obtain ⟨m27, r27⟩ := and_e r26
  obtain ⟨m28, r28⟩ := and_e r27
  obtain ⟨m29, r29⟩ := and_e r28
  obtain ⟨m30, r30⟩ := and_e r29
  obtain ⟨m31, r31⟩ := and_e r30
  obtain ⟨m32, r32⟩ := and_e r31
  obtain ⟨m33, r33⟩ := and_e r32
  obtain ⟨m34, r34⟩ := and_e r33
  obtain ⟨m35, r35⟩ := and_e r34
  have m36 := r35
  obtain ⟨aA, eaA⟩ := exa_v m0
  obtain ⟨kA, ekA⟩ := exa_v m1
  have S_A : Sta s s.heap "tenantry/store/Role" "ADMIN" "Ltenantry/store/Role;" (.ref aA) := Sta.start eaA (Or.inr ⟨(hw _ (List.mem_of_getElem? (i := 6) rfl)), (hw _ (List.mem_of_getElem? (i := 7) rfl))⟩)
  have E_A : Exa s s.heap aA "tenantry/store/Role" := Exa.start eaA m0
  have F_A : Fld s s.heap aA "tenantry/store/Role" "key" "Ljava/lang/String;" (.ref kA) := Fld.start (by rw [← fld_at eaA]; exact ekA)
  have O_A : Fld s s.heap aA "java/lang/Enum" "ordinal" "I" (.int 0) := Fld.start (by rw [← fld_at eaA]; exact own_eqi m7)
  obtain ⟨bA, gA, T_A, ebA⟩ := own_strStart (n := 5) hfit ekA m1 m2 m3 m4 rfl
  have gA' : ∀ i, i < 5 → gA i = own_bytes.getD i 0 := fun i hi => by
    have q : i = 0 ∨ i = 1 ∨ i = 2 ∨ i = 3 ∨ i = 4 := by omega
    rcases q with rfl | rfl | rfl | rfl | rfl
    · exact (own_elemStart (i := 0) T_A ebA m18 rfl (by omega)).trans (by decide +kernel)
    · exact (own_elemStart (i := 1) T_A ebA m19 rfl (by omega)).trans (by decide +kernel)
    · exact (own_elemStart (i := 2) T_A ebA m20 rfl (by omega)).trans (by decide +kernel)
    · exact (own_elemStart (i := 3) T_A ebA m21 rfl (by omega)).trans (by decide +kernel)
    · exact (own_elemStart (i := 4) T_A ebA m22 rfl (by omega)).trans (by decide +kernel)
  have T_A' : own_Str s s.heap kA bA 5 (fun i => own_bytes.getD i 0) := ⟨T_A.1, T_A.2.1, T_A.2.2.1, T_A.2.2.2.congr fun i hi => congrArg Value.int (gA' i hi)⟩
  obtain ⟨aO, eaO⟩ := exa_v m12
  obtain ⟨kO, ekO⟩ := exa_v m14
  have S_O : Sta s s.heap "tenantry/store/Role" "OPERATOR" "Ltenantry/store/Role;" (.ref aO) := Sta.start eaO (Or.inr ⟨(hw _ (List.mem_of_getElem? (i := 6) rfl)), (hw _ (List.mem_of_getElem? (i := 46) rfl))⟩)
  have E_O : Exa s s.heap aO "tenantry/store/Role" := Exa.start eaO m12
  have F_O : Fld s s.heap aO "tenantry/store/Role" "key" "Ljava/lang/String;" (.ref kO) := Fld.start (by rw [← fld_at eaO]; exact ekO)
  have O_O : Fld s s.heap aO "java/lang/Enum" "ordinal" "I" (.int 1) := Fld.start (by rw [← fld_at eaO]; exact own_eqi m13)
  obtain ⟨bO, gO, T_O, ebO⟩ := own_strStart (n := 8) hfit ekO m14 m15 m16 m17 rfl
  obtain ⟨aV, eaV⟩ := exa_v m5
  obtain ⟨kV, ekV⟩ := exa_v m8
  have S_V : Sta s s.heap "tenantry/store/Role" "VIEWER" "Ltenantry/store/Role;" (.ref aV) := Sta.start eaV (Or.inr ⟨(hw _ (List.mem_of_getElem? (i := 6) rfl)), (hw _ (List.mem_of_getElem? (i := 44) rfl))⟩)
  have E_V : Exa s s.heap aV "tenantry/store/Role" := Exa.start eaV m5
  have F_V : Fld s s.heap aV "tenantry/store/Role" "key" "Ljava/lang/String;" (.ref kV) := Fld.start (by rw [← fld_at eaV]; exact ekV)
  have O_V : Fld s s.heap aV "java/lang/Enum" "ordinal" "I" (.int 2) := Fld.start (by rw [← fld_at eaV]; exact own_eqi m6)
  obtain ⟨bV, gV, T_V, ebV⟩ := own_strStart (n := 6) hfit ekV m8 m9 m10 m11 rfl
  obtain ⟨n, o, h1, h2, h3, _, L, rfl, ⟨rfl, N⟩, hq⟩ := rm0 l s _ hw tables_1 i0 cz aA aO aV kA kO kV bA bO bV gO gV s.heap (fun _ _ q => q) SC hcz hch hcw S_A E_A F_A T_A' O_A S_O E_O F_O T_O O_O S_V E_V F_V T_V O_V p e ha hc hk s m _ below hf ((Spec.applies_iff_loose hf).mp happ).1 ⟨rfl, State.Warmed39.refl s, rfl, IB.start⟩ trivial
  refine ⟨n, _, h1, h2, h3, hpost _ _ _ _ _ _ ⟨Cond.after_iff.mpr rfl, Cond.after_iff.mpr (eq_i res_at (Term.int_eval (1)) rfl), trivial⟩ ⟨hq.1, hq.2.1, hq.2.2.1, (hq.2.2.2.sift fun y hy => Or.inr (N y hy)).mono (by decide) (by decide)⟩⟩
theorem main_1_1 : Claimed_1_1 := comes_1 fun _ _ _ _ _ _ h hF => ⟨h.1, hF⟩
theorem main_1_2 : Claimed_1_2 := comes_1 fun _ _ _ _ _ _ h hF => ⟨h.2.1, hF⟩
end Jvm.Pilot.@@N@@
namespace Jvm.Pilot.@@N@@
open Jvm Jvm.ClassFile Sem Op Lib Jvm.Free Jvm.Stand Jvm.Pilot.@@N@@.Jvm.D
/-! MADE BY PROGRAM (witnessworld.py) out of the Statement's table words and the real class files: 18 classes; the members and pool entries that the words name. The judged class is class 1, her method 2. -/
namespace start1
open Jvm.ClassFile
def u (s : String) : CpInfo := .utf8 (stringToUtf16 s)
/-- a pool by its gaps: so many unusable entries, then the entry; so many at the end -/
def gap : Nat → List CpInfo → List CpInfo
  | 0, r => r
  | n + 1, r => .unusable :: gap n r
def poolList (es : List (Nat × CpInfo)) (last : Nat) : List CpInfo := es.foldr (fun e r => gap e.1 (e.2 :: r)) (gap last [])
def pool (es : List (Nat × CpInfo)) (last : Nat) : Array CpInfo := ⟨poolList es last⟩
def fileOf (pool : Array CpInfo) (this : Nat) (attrs : Array Attribute := #[]) (ms : Array MethodInfo := #[]) (fl : Nat := 33) (sup : Nat := 0) (ifs : Array Nat := #[]) (fds : Array FieldInfo := #[]) : ClassFile where
  minorVersion := 0
  majorVersion := 65
  constantPool := pool
  accessFlags := fl
  thisClass := this
  superClass := sup
  interfaces := ifs
  fields := fds
  methods := ms
  attributes := attrs
def plain (name : String) (sup : Option ClassId) : Class where
  name := name
  kind := .ordinary
  loader := none
  accessFlags := 33
  super := sup
  interfaces := #[]
  cf := none
  fields := #[]
  methods := #[]
  instanceTypes := #[]
  staticTypes := #[]
  resolved := #[]
  callSites := []
  init := .initialized
  statics := none
  mirror := none

def pool0 : Array CpInfo := pool [(5, u "<init>"), (0, u "()V"), (1, .class_ 10), (1, u "java/lang/Object")] 113

def k0m0 : Method := { name := "<init>", desc := "()V", sig := { parameters := [], returnType := none }, accessFlags := 1, code := none }
/-- java/lang/Object -/
def k0 : Class := { plain "java/lang/Object" none with
  accessFlags := 33
  interfaces := #[]
  cf := some (fileOf pool0 8 #[] #[{ accessFlags := 1, nameIndex := 5, descriptorIndex := 6, attributes := #[] }] 33 0 #[] #[])
  fields := #[]
  methods := #[k0m0]
  instanceTypes := #[]
  staticTypes := #[]
  resolved := Array.replicate 124 none
  statics := none }

def pool1 : Array CpInfo := pool [(2, .class_ 4), (1, u "java/lang/Object"), (0, u "<init>"), (0, u "()V"), (0, .fieldref 8 9), (0, .class_ 10), (0, .nameAndType 11 12), (0, u "tenantry/store/Role"), (0, u "ADMIN"), (0, u "Ltenantry/store/Role;"), (0, .fieldref 8 14), (0, .nameAndType 15 12), (0, u "OPERATOR"), (0, .fieldref 8 17), (0, .nameAndType 18 12), (0, u "VIEWER"), (0, .integer 2147483647), (0, .methodref 21 22), (0, .class_ 23), (0, .nameAndType 24 25), (0, u "tenantry/store/RoleMayManageOrganizationPinLaw"), (0, u "pick"), (0, u "(I)Ltenantry/store/Role;"), (0, .methodref 8 27), (0, .nameAndType 28 29), (0, u "mayManageOrganization"), (0, u "()Z"), (0, .methodref 8 31), (0, .nameAndType 32 33), (0, u "key"), (0, u "()Ljava/lang/String;"), (0, .string 35), (0, u "admin"), (0, .methodref 37 38), (0, .class_ 39), (0, .nameAndType 40 41), (0, u "java/lang/String"), (0, u "equals"), (0, u "(Ljava/lang/Object;)Z"), (3, u "law"), (0, u "(I)Z")] 2

def k1m0 : Method := { name := "<init>", desc := "()V", sig := { parameters := [], returnType := none }, accessFlags := 2, code := none }
def k1c1 : Code := { maxStack := 2, maxLocals := 1, code := method_2_code, exceptionTable := #[], attributes := #[] }
def k1m1 : Method := { name := "pick", desc := "(I)Ltenantry/store/Role;", sig := { parameters := [.int], returnType := some (.object "tenantry/store/Role") }, accessFlags := 10, code := some k1c1 }
def k1c2 : Code := { maxStack := 2, maxLocals := 6, code := code, exceptionTable := #[], attributes := #[] }
def k1m2 : Method := { name := "law", desc := "(I)Z", sig := { parameters := [.int], returnType := some .boolean }, accessFlags := 9, code := some k1c2 }
/-- tenantry/store/RoleMayManageOrganizationPinLaw -/
def k1 : Class := { plain "tenantry/store/RoleMayManageOrganizationPinLaw" (some 0) with
  accessFlags := 49
  interfaces := #[]
  cf := some (fileOf pool1 21 #[] #[{ accessFlags := 2, nameIndex := 5, descriptorIndex := 6, attributes := #[] }, { accessFlags := 10, nameIndex := 24, descriptorIndex := 25, attributes := #[] }, { accessFlags := 9, nameIndex := 45, descriptorIndex := 46, attributes := #[] }] 49 2 #[] #[])
  fields := #[]
  methods := #[k1m0, k1m1, k1m2]
  instanceTypes := #[]
  staticTypes := #[]
  resolved := Array.replicate 49 none
  statics := none }

def pool2 : Array CpInfo := pool [(1, .class_ 2), (0, u "java/lang/constant/Constable"), (0, .class_ 4), (0, u "java/lang/Object")] 6

/-- java/lang/constant/Constable -/
def k2 : Class := { plain "java/lang/constant/Constable" (some 0) with
  accessFlags := 1537
  interfaces := #[]
  cf := some (fileOf pool2 1 #[] #[] 1537 3 #[] #[])
  fields := #[]
  methods := #[]
  instanceTypes := #[]
  staticTypes := #[]
  resolved := Array.replicate 11 none
  statics := none }

def pool3 : Array CpInfo := pool [(1, .class_ 2), (0, u "java/lang/Comparable"), (0, .class_ 4), (0, u "java/lang/Object")] 7

/-- java/lang/Comparable -/
def k3 : Class := { plain "java/lang/Comparable" (some 0) with
  accessFlags := 1537
  interfaces := #[]
  cf := some (fileOf pool3 1 #[] #[] 1537 3 #[] #[])
  fields := #[]
  methods := #[]
  instanceTypes := #[]
  staticTypes := #[]
  resolved := Array.replicate 12 none
  statics := none }

def pool4 : Array CpInfo := pool [(1, .class_ 2), (0, u "java/io/Serializable"), (0, .class_ 4), (0, u "java/lang/Object")] 2

/-- java/io/Serializable -/
def k4 : Class := { plain "java/io/Serializable" (some 0) with
  accessFlags := 1537
  interfaces := #[]
  cf := some (fileOf pool4 1 #[] #[] 1537 3 #[] #[])
  fields := #[]
  methods := #[]
  instanceTypes := #[]
  staticTypes := #[]
  resolved := Array.replicate 7 none
  statics := none }

def pool5 : Array CpInfo := pool [(2, .class_ 4), (1, u "java/lang/Enum"), (0, u "name"), (0, u "Ljava/lang/String;"), (2, u "ordinal"), (0, u "I"), (1, .class_ 14), (1, u "java/lang/Object"), (4, u "hash"), (86, .class_ 108), (1, u "java/lang/Enum$EnumDesc"), (2, .class_ 112), (0, u "java/lang/constant/Constable"), (0, .class_ 114), (0, u "java/lang/Comparable"), (0, .class_ 116), (0, u "java/io/Serializable")] 87

/-- java/lang/Enum -/
def k5 : Class := { plain "java/lang/Enum" (some 0) with
  accessFlags := 1057
  interfaces := #[2, 3, 4]
  cf := some (fileOf pool5 2 #[.nestMembers #[106]] #[] 1057 12 #[111, 113, 115] #[{ accessFlags := 18, nameIndex := 5, descriptorIndex := 6, attributes := #[] }, { accessFlags := 18, nameIndex := 9, descriptorIndex := 10, attributes := #[] }, { accessFlags := 2, nameIndex := 19, descriptorIndex := 10, attributes := #[] }])
  fields := #[{ name := "name", type := (.object "java/lang/String"), accessFlags := 18, slot := 0, constantValue := 0 }, { name := "ordinal", type := .int, accessFlags := 18, slot := 1, constantValue := 0 }, { name := "hash", type := .int, accessFlags := 2, slot := 2, constantValue := 0 }]
  methods := #[]
  instanceTypes := #[(.object "java/lang/String"), .int, .int]
  staticTypes := #[]
  resolved := Array.replicate 204 none
  statics := none }

def pool6 : Array CpInfo := pool [(1, .class_ 2), (0, u "tenantry/store/Role"), (0, .fieldref 1 4), (0, .nameAndType 5 6), (0, u "ADMIN"), (0, u "Ltenantry/store/Role;"), (2, u "OPERATOR"), (2, u "VIEWER"), (2, u "$VALUES"), (0, u "[Ltenantry/store/Role;"), (6, .class_ 25), (1, u "java/lang/Enum"), (9, u "()Ljava/lang/String;"), (12, .fieldref 1 49), (0, .nameAndType 50 51), (0, u "key"), (0, u "Ljava/lang/String;"), (33, u "mayManageOrganization"), (0, u "()Z")] 8

def k6c0 : Code := { maxStack := 1, maxLocals := 1, code := prog_43_method_4_code, exceptionTable := #[], attributes := #[] }
def k6m0 : Method := { name := "key", desc := "()Ljava/lang/String;", sig := { parameters := [], returnType := some (.object "java/lang/String") }, accessFlags := 1, code := some k6c0 }
def k6c1 : Code := { maxStack := 2, maxLocals := 1, code := prog_43_method_5_code, exceptionTable := #[], attributes := #[] }
def k6m1 : Method := { name := "mayManageOrganization", desc := "()Z", sig := { parameters := [], returnType := some .boolean }, accessFlags := 1, code := some k6c1 }
/-- tenantry/store/Role -/
def k6 : Class := { plain "tenantry/store/Role" (some 5) with
  accessFlags := 16433
  interfaces := #[]
  cf := some (fileOf pool6 1 #[] #[{ accessFlags := 1, nameIndex := 50, descriptorIndex := 35, attributes := #[] }, { accessFlags := 1, nameIndex := 85, descriptorIndex := 86, attributes := #[] }] 16433 23 #[] #[{ accessFlags := 16409, nameIndex := 5, descriptorIndex := 6, attributes := #[] }, { accessFlags := 16409, nameIndex := 9, descriptorIndex := 6, attributes := #[] }, { accessFlags := 16409, nameIndex := 12, descriptorIndex := 6, attributes := #[] }, { accessFlags := 18, nameIndex := 50, descriptorIndex := 51, attributes := #[] }, { accessFlags := 4122, nameIndex := 15, descriptorIndex := 16, attributes := #[] }])
  fields := #[{ name := "ADMIN", type := (.object "tenantry/store/Role"), accessFlags := 16409, slot := 0, constantValue := 0 }, { name := "OPERATOR", type := (.object "tenantry/store/Role"), accessFlags := 16409, slot := 1, constantValue := 0 }, { name := "VIEWER", type := (.object "tenantry/store/Role"), accessFlags := 16409, slot := 2, constantValue := 0 }, { name := "key", type := (.object "java/lang/String"), accessFlags := 18, slot := 3, constantValue := 0 }, { name := "$VALUES", type := (.array (.object "tenantry/store/Role")), accessFlags := 4122, slot := 3, constantValue := 0 }]
  methods := #[k6m0, k6m1]
  instanceTypes := #[(.object "java/lang/String"), .int, .int, (.object "java/lang/String")]
  staticTypes := #[(.object "tenantry/store/Role"), (.object "tenantry/store/Role"), (.object "tenantry/store/Role"), (.array (.object "tenantry/store/Role"))]
  resolved := Array.replicate 95 none
  statics := some 0 }

def pool7 : Array CpInfo := pool [(2, .class_ 4), (1, u "java/lang/CharSequence"), (42, .class_ 48), (0, u "java/lang/CharSequence$1CodePointIterator"), (10, .class_ 60), (0, u "java/lang/CharSequence$1CharIterator"), (5, .class_ 67), (0, u "java/lang/Object")] 63

/-- java/lang/CharSequence -/
def k7 : Class := { plain "java/lang/CharSequence" (some 0) with
  accessFlags := 1537
  interfaces := #[]
  cf := some (fileOf pool7 2 #[.nestMembers #[47, 59]] #[] 1537 66 #[] #[])
  fields := #[]
  methods := #[]
  instanceTypes := #[]
  staticTypes := #[]
  resolved := Array.replicate 131 none
  statics := none }

def pool8 : Array CpInfo := pool [(1, .class_ 2), (0, u "java/lang/constant/ConstantDesc"), (0, .class_ 4), (0, u "java/lang/Object")] 32

/-- java/lang/constant/ConstantDesc -/
def k8 : Class := { plain "java/lang/constant/ConstantDesc" (some 0) with
  accessFlags := 1537
  interfaces := #[]
  cf := some (fileOf pool8 1 #[] #[] 1537 3 #[] #[])
  fields := #[]
  methods := #[]
  instanceTypes := #[]
  staticTypes := #[]
  resolved := Array.replicate 37 none
  statics := none }

def pool9 : Array CpInfo := pool [(2, .class_ 4), (1, u "java/lang/Object"), (0, u "<init>"), (0, u "()V"), (2, .fieldref 10 11), (0, .class_ 12), (0, .nameAndType 13 14), (0, u "java/lang/String"), (0, u "value"), (0, u "[B"), (0, .fieldref 10 16), (0, .nameAndType 17 18), (0, u "coder"), (0, u "B"), (2, u "hash"), (0, u "I"), (2, u "hashIsZero"), (0, u "Z"), (11, .fieldref 10 39), (0, .nameAndType 40 26), (0, u "COMPACT_STRINGS"), (66, .class_ 109), (1, u "java/lang/StringLatin1"), (431, .methodref 107 542), (0, .nameAndType 543 544), (0, u "equals"), (0, u "([B[B)Z"), (28, u "(Ljava/lang/Object;)Z"), (1, .class_ 576), (0, u "java/lang/CharSequence"), (22, u "CASE_INSENSITIVE_ORDER"), (0, u "Ljava/util/Comparator;"), (500, u "serialPersistentFields"), (0, u "[Ljava/io/ObjectStreamField;"), (0, .class_ 1104), (0, u "java/lang/String$CaseInsensitiveComparator"), (1, .class_ 1107), (0, u "java/io/Serializable"), (0, .class_ 1109), (0, u "java/lang/Comparable"), (0, .class_ 1111), (0, u "java/lang/constant/Constable"), (0, .class_ 1113), (0, u "java/lang/constant/ConstantDesc"), (2, u "serialVersionUID"), (0, u "J"), (3, u "REPL"), (0, u "C"), (2, u "LATIN1"), (1, u "UTF16")] 323

def k9m0 : Method := { name := "<init>", desc := "()V", sig := { parameters := [], returnType := none }, accessFlags := 1, code := none }
def k9c1 : Code := { maxStack := 2, maxLocals := 3, code := jdk_42_method_66_code, exceptionTable := #[], attributes := #[] }
def k9m1 : Method := { name := "equals", desc := "(Ljava/lang/Object;)Z", sig := { parameters := [(.object "java/lang/Object")], returnType := some .boolean }, accessFlags := 1, code := some k9c1 }
/-- java/lang/String -/
def k9 : Class := { plain "java/lang/String" (some 0) with
  accessFlags := 49
  interfaces := #[4, 3, 7, 2, 8]
  cf := some (fileOf pool9 10 #[.nestMembers #[1103]] #[{ accessFlags := 1, nameIndex := 5, descriptorIndex := 6, attributes := #[] }, { accessFlags := 1, nameIndex := 543, descriptorIndex := 573, attributes := #[] }] 49 2 #[1106, 1108, 575, 1110, 1112] #[{ accessFlags := 18, nameIndex := 13, descriptorIndex := 14, attributes := #[] }, { accessFlags := 18, nameIndex := 17, descriptorIndex := 18, attributes := #[] }, { accessFlags := 2, nameIndex := 21, descriptorIndex := 22, attributes := #[] }, { accessFlags := 2, nameIndex := 25, descriptorIndex := 26, attributes := #[] }, { accessFlags := 26, nameIndex := 1116, descriptorIndex := 1117, attributes := #[] }, { accessFlags := 24, nameIndex := 40, descriptorIndex := 26, attributes := #[] }, { accessFlags := 26, nameIndex := 1101, descriptorIndex := 1102, attributes := #[] }, { accessFlags := 26, nameIndex := 1121, descriptorIndex := 1122, attributes := #[] }, { accessFlags := 25, nameIndex := 599, descriptorIndex := 600, attributes := #[] }, { accessFlags := 24, nameIndex := 1125, descriptorIndex := 18, attributes := #[] }, { accessFlags := 24, nameIndex := 1127, descriptorIndex := 18, attributes := #[] }])
  fields := #[{ name := "value", type := (.array .byte), accessFlags := 18, slot := 0, constantValue := 0 }, { name := "coder", type := .byte, accessFlags := 18, slot := 1, constantValue := 0 }, { name := "hash", type := .int, accessFlags := 2, slot := 2, constantValue := 0 }, { name := "hashIsZero", type := .boolean, accessFlags := 2, slot := 3, constantValue := 0 }, { name := "serialVersionUID", type := .long, accessFlags := 26, slot := 0, constantValue := 0 }, { name := "COMPACT_STRINGS", type := .boolean, accessFlags := 24, slot := 1, constantValue := 0 }, { name := "serialPersistentFields", type := (.array (.object "java/io/ObjectStreamField")), accessFlags := 26, slot := 2, constantValue := 0 }, { name := "REPL", type := .char, accessFlags := 26, slot := 3, constantValue := 0 }, { name := "CASE_INSENSITIVE_ORDER", type := (.object "java/util/Comparator"), accessFlags := 25, slot := 4, constantValue := 0 }, { name := "LATIN1", type := .byte, accessFlags := 24, slot := 5, constantValue := 0 }, { name := "UTF16", type := .byte, accessFlags := 24, slot := 6, constantValue := 0 }]
  methods := #[k9m0, k9m1]
  instanceTypes := #[(.array .byte), .byte, .int, .boolean]
  staticTypes := #[.long, .boolean, (.array (.object "java/io/ObjectStreamField")), .char, (.object "java/util/Comparator"), .byte, .byte]
  resolved := Array.replicate 1451 none
  statics := some 1 }

def pool10 : Array CpInfo := pool [(4, .class_ 6), (1, u "java/lang/Object"), (0, u "<init>"), (0, u "()V"), (5, .class_ 16), (1, u "java/lang/StringLatin1"), (104, u "$assertionsDisabled"), (0, u "Z"), (98, .class_ 223), (1, u "java/lang/StringLatin1$LinesSpliterator"), (57, u "equals"), (0, u "([B[B)Z"), (107, .class_ 391), (0, u "java/lang/StringLatin1$CharsSpliterator")] 3

def k10m0 : Method := { name := "<init>", desc := "()V", sig := { parameters := [], returnType := none }, accessFlags := 0, code := none }
def k10c1 : Code := { maxStack := 3, maxLocals := 3, code := jdk_43_method_13_code, exceptionTable := #[], attributes := #[] }
def k10m1 : Method := { name := "equals", desc := "([B[B)Z", sig := { parameters := [(.array .byte), (.array .byte)], returnType := some .boolean }, accessFlags := 9, code := some k10c1 }
/-- java/lang/StringLatin1 -/
def k10 : Class := { plain "java/lang/StringLatin1" (some 0) with
  accessFlags := 48
  interfaces := #[]
  cf := some (fileOf pool10 14 #[.nestMembers #[390, 221]] #[{ accessFlags := 0, nameIndex := 7, descriptorIndex := 8, attributes := #[] }, { accessFlags := 9, nameIndex := 281, descriptorIndex := 282, attributes := #[] }] 48 4 #[] #[{ accessFlags := 4120, nameIndex := 121, descriptorIndex := 122, attributes := #[] }])
  fields := #[{ name := "$assertionsDisabled", type := .boolean, accessFlags := 4120, slot := 0, constantValue := 0 }]
  methods := #[k10m0, k10m1]
  instanceTypes := #[]
  staticTypes := #[.boolean]
  resolved := Array.replicate 395 none
  statics := none }

def pool11 : Array CpInfo := pool [(2, .class_ 4), (1, u "java/lang/Object"), (0, u "<init>"), (0, u "()V"), (17, .class_ 26), (1, u "jdk/internal/util/Preconditions"), (28, .class_ 56), (0, u "jdk/internal/util/Preconditions$4"), (57, .class_ 115), (0, u "jdk/internal/util/Preconditions$1"), (7, u "SIOOBE_FORMATTER"), (0, u "Ljava/util/function/BiFunction;"), (0, .class_ 126), (0, u "jdk/internal/util/Preconditions$2"), (3, u "AIOOBE_FORMATTER"), (0, .class_ 132), (0, u "jdk/internal/util/Preconditions$3"), (3, u "IOOBE_FORMATTER")] 57

def k11m0 : Method := { name := "<init>", desc := "()V", sig := { parameters := [], returnType := none }, accessFlags := 1, code := none }
/-- jdk/internal/util/Preconditions -/
def k11 : Class := { plain "jdk/internal/util/Preconditions" (some 0) with
  accessFlags := 33
  interfaces := #[]
  cf := some (fileOf pool11 24 #[.nestMembers #[55, 131, 125, 114]] #[{ accessFlags := 1, nameIndex := 5, descriptorIndex := 6, attributes := #[] }] 33 2 #[] #[{ accessFlags := 25, nameIndex := 123, descriptorIndex := 124, attributes := #[] }, { accessFlags := 25, nameIndex := 130, descriptorIndex := 124, attributes := #[] }, { accessFlags := 25, nameIndex := 136, descriptorIndex := 124, attributes := #[] }])
  fields := #[{ name := "SIOOBE_FORMATTER", type := (.object "java/util/function/BiFunction"), accessFlags := 25, slot := 0, constantValue := 0 }, { name := "AIOOBE_FORMATTER", type := (.object "java/util/function/BiFunction"), accessFlags := 25, slot := 1, constantValue := 0 }, { name := "IOOBE_FORMATTER", type := (.object "java/util/function/BiFunction"), accessFlags := 25, slot := 2, constantValue := 0 }]
  methods := #[k11m0]
  instanceTypes := #[]
  staticTypes := #[(.object "java/util/function/BiFunction"), (.object "java/util/function/BiFunction"), (.object "java/util/function/BiFunction")]
  resolved := Array.replicate 194 none
  statics := some 2 }

def pool12 : Array CpInfo := pool [(9, u "<init>"), (6, .class_ 18), (1, u "java/lang/Object"), (0, u "()V"), (1, .class_ 23), (1, u "jdk/internal/util/ArraysSupport"), (0, u "LOG2_ARRAY_LONG_INDEX_SCALE"), (0, u "I"), (2, u "U"), (0, u "Ljdk/internal/misc/Unsafe;"), (8, u "BIG_ENDIAN"), (0, u "Z"), (8, u "LOG2_BYTE_BIT_SIZE"), (4, u "LOG2_ARRAY_INT_INDEX_SCALE"), (54, u "JLA"), (0, u "Ljdk/internal/access/JavaLangAccess;"), (11, u "LOG2_ARRAY_BOOLEAN_INDEX_SCALE"), (9, u "LOG2_ARRAY_BYTE_INDEX_SCALE"), (5, u "LOG2_ARRAY_CHAR_INDEX_SCALE"), (5, u "LOG2_ARRAY_SHORT_INDEX_SCALE"), (18, u "LOG2_ARRAY_FLOAT_INDEX_SCALE"), (24, u "LOG2_ARRAY_DOUBLE_INDEX_SCALE"), (89, u "T_BOOLEAN"), (2, u "T_CHAR"), (1, u "T_FLOAT"), (1, u "T_DOUBLE"), (1, u "T_BYTE"), (1, u "T_SHORT"), (1, u "T_INT"), (1, u "T_LONG"), (1, u "SOFT_MAX_ARRAY_LENGTH")] 83

def k12m0 : Method := { name := "<init>", desc := "()V", sig := { parameters := [], returnType := none }, accessFlags := 2, code := none }
/-- jdk/internal/util/ArraysSupport -/
def k12 : Class := { plain "jdk/internal/util/ArraysSupport" (some 0) with
  accessFlags := 33
  interfaces := #[]
  cf := some (fileOf pool12 21 #[] #[{ accessFlags := 2, nameIndex := 9, descriptorIndex := 19, attributes := #[] }] 33 16 #[] #[{ accessFlags := 24, nameIndex := 28, descriptorIndex := 29, attributes := #[] }, { accessFlags := 26, nameIndex := 38, descriptorIndex := 39, attributes := #[] }, { accessFlags := 25, nameIndex := 121, descriptorIndex := 25, attributes := #[] }, { accessFlags := 25, nameIndex := 131, descriptorIndex := 25, attributes := #[] }, { accessFlags := 25, nameIndex := 137, descriptorIndex := 25, attributes := #[] }, { accessFlags := 25, nameIndex := 143, descriptorIndex := 25, attributes := #[] }, { accessFlags := 25, nameIndex := 53, descriptorIndex := 25, attributes := #[] }, { accessFlags := 25, nameIndex := 24, descriptorIndex := 25, attributes := #[] }, { accessFlags := 25, nameIndex := 162, descriptorIndex := 25, attributes := #[] }, { accessFlags := 25, nameIndex := 187, descriptorIndex := 25, attributes := #[] }, { accessFlags := 26, nameIndex := 48, descriptorIndex := 25, attributes := #[] }, { accessFlags := 25, nameIndex := 277, descriptorIndex := 25, attributes := #[] }, { accessFlags := 25, nameIndex := 280, descriptorIndex := 25, attributes := #[] }, { accessFlags := 25, nameIndex := 282, descriptorIndex := 25, attributes := #[] }, { accessFlags := 25, nameIndex := 284, descriptorIndex := 25, attributes := #[] }, { accessFlags := 25, nameIndex := 286, descriptorIndex := 25, attributes := #[] }, { accessFlags := 25, nameIndex := 288, descriptorIndex := 25, attributes := #[] }, { accessFlags := 25, nameIndex := 290, descriptorIndex := 25, attributes := #[] }, { accessFlags := 25, nameIndex := 292, descriptorIndex := 25, attributes := #[] }, { accessFlags := 26, nameIndex := 108, descriptorIndex := 109, attributes := #[] }, { accessFlags := 25, nameIndex := 294, descriptorIndex := 25, attributes := #[] }])
  fields := #[{ name := "U", type := (.object "jdk/internal/misc/Unsafe"), accessFlags := 24, slot := 0, constantValue := 0 }, { name := "BIG_ENDIAN", type := .boolean, accessFlags := 26, slot := 1, constantValue := 0 }, { name := "LOG2_ARRAY_BOOLEAN_INDEX_SCALE", type := .int, accessFlags := 25, slot := 2, constantValue := 0 }, { name := "LOG2_ARRAY_BYTE_INDEX_SCALE", type := .int, accessFlags := 25, slot := 3, constantValue := 0 }, { name := "LOG2_ARRAY_CHAR_INDEX_SCALE", type := .int, accessFlags := 25, slot := 4, constantValue := 0 }, { name := "LOG2_ARRAY_SHORT_INDEX_SCALE", type := .int, accessFlags := 25, slot := 5, constantValue := 0 }, { name := "LOG2_ARRAY_INT_INDEX_SCALE", type := .int, accessFlags := 25, slot := 6, constantValue := 0 }, { name := "LOG2_ARRAY_LONG_INDEX_SCALE", type := .int, accessFlags := 25, slot := 7, constantValue := 0 }, { name := "LOG2_ARRAY_FLOAT_INDEX_SCALE", type := .int, accessFlags := 25, slot := 8, constantValue := 0 }, { name := "LOG2_ARRAY_DOUBLE_INDEX_SCALE", type := .int, accessFlags := 25, slot := 9, constantValue := 0 }, { name := "LOG2_BYTE_BIT_SIZE", type := .int, accessFlags := 26, slot := 10, constantValue := 0 }, { name := "T_BOOLEAN", type := .int, accessFlags := 25, slot := 11, constantValue := 0 }, { name := "T_CHAR", type := .int, accessFlags := 25, slot := 12, constantValue := 0 }, { name := "T_FLOAT", type := .int, accessFlags := 25, slot := 13, constantValue := 0 }, { name := "T_DOUBLE", type := .int, accessFlags := 25, slot := 14, constantValue := 0 }, { name := "T_BYTE", type := .int, accessFlags := 25, slot := 15, constantValue := 0 }, { name := "T_SHORT", type := .int, accessFlags := 25, slot := 16, constantValue := 0 }, { name := "T_INT", type := .int, accessFlags := 25, slot := 17, constantValue := 0 }, { name := "T_LONG", type := .int, accessFlags := 25, slot := 18, constantValue := 0 }, { name := "JLA", type := (.object "jdk/internal/access/JavaLangAccess"), accessFlags := 26, slot := 19, constantValue := 0 }, { name := "SOFT_MAX_ARRAY_LENGTH", type := .int, accessFlags := 25, slot := 20, constantValue := 0 }]
  methods := #[k12m0]
  instanceTypes := #[]
  staticTypes := #[(.object "jdk/internal/misc/Unsafe"), .boolean, .int, .int, .int, .int, .int, .int, .int, .int, .int, .int, .int, .int, .int, .int, .int, .int, .int, (.object "jdk/internal/access/JavaLangAccess"), .int]
  resolved := Array.replicate 378 none
  statics := none }

def pool13 : Array CpInfo := pool [(1, u "java/lang/Cloneable"), (0, .class_ 1), (0, u "java/lang/Object"), (0, .class_ 3)] 3

/-- java/lang/Cloneable -/
def k13 : Class := { plain "java/lang/Cloneable" (some 0) with
  accessFlags := 1537
  interfaces := #[]
  cf := some (fileOf pool13 2 #[] #[] 1537 4 #[] #[])
  fields := #[]
  methods := #[]
  instanceTypes := #[]
  staticTypes := #[]
  resolved := Array.replicate 8 none
  statics := none }

/-- the primitive byte -/
def k14 : Class := { plain "byte" none with kind := .primitive 'B', accessFlags := 0x411 }
/-- [B -/
def k15 : Class := { plain "[B" (some 0) with kind := .array 14 .byte, interfaces := #[13, 4], accessFlags := 1041 }

/-- the primitive int -/
def k16 : Class := { plain "int" none with kind := .primitive 'I', accessFlags := 0x411 }
/-- [I -/
def k17 : Class := { plain "[I" (some 0) with kind := .array 16 .int, interfaces := #[13, 4], accessFlags := 1041 }

def heap : Heap := #[{ cls := 6, slots := #[.ref 5, .ref 8, .ref 11, .null], vm := .statics 6 },
  { cls := 9, slots := #[.long 0, .int 1, .null, .int 0, .null, .int 0, .int 0], vm := .statics 9 },
  { cls := 11, slots := #[.null, .null, .null], vm := .statics 11 },
  { cls := 15, slots := #[.int 97, .int 100, .int 109, .int 105, .int 110], vm := .none },
  { cls := 9, slots := #[.ref 3, .int 0, .int 0, .int 0], vm := .none },
  { cls := 6, slots := #[.null, .int 0, .int 0, .ref 4], vm := .none },
  { cls := 15, slots := #[.int 111, .int 112, .int 101, .int 114, .int 97, .int 116, .int 111, .int 114], vm := .none },
  { cls := 9, slots := #[.ref 6, .int 0, .int 0, .int 0], vm := .none },
  { cls := 6, slots := #[.null, .int 1, .int 0, .ref 7], vm := .none },
  { cls := 15, slots := #[.int 118, .int 105, .int 101, .int 119, .int 101, .int 114], vm := .none },
  { cls := 9, slots := #[.ref 9, .int 0, .int 0, .int 0], vm := .none },
  { cls := 6, slots := #[.null, .int 2, .int 0, .ref 10], vm := .none }]
def classes : Array Class := #[k0, k1, k2, k3, k4, k5, k6, k7, k8, k9, k10, k11, k12, k13, k14, k15, k16, k17]
def interned : List (Array UInt16 × Addr) := []
def slotsUsed : Nat := 57
def theMethod : MethodId := ⟨1, 2⟩
def args0 : Array Value := #[.int 5]
def aboutOver (below : List Frame) : State where
  vm := { classes := classes, interned := interned.toArray }
  heap := heap
  slotsUsed := slotsUsed
  threads := #[{ frames := .invoking theMethod args0 :: below }]
def below0 : List Frame := [.native { method := ⟨0, 0⟩, args := #[] }]
def about1 : State := aboutOver below0
def p0 : Program := .bare "" "" ""
def e0 : Env := launch0.env 0 0 0
theorem w_frames : about1.frames = Frame.invoking theMethod args0 :: below0 := rfl
set_option maxRecDepth 65536 in
theorem w_args : argsFit about1.vm theMethod args0 = true := by decide +kernel
set_option maxRecDepth 65536 in
theorem w_heap : heapFits about1 = true := by decide +kernel
set_option maxRecDepth 65536 in
theorem w_runnable : about1.curStatus? = some .runnable := by decide +kernel
set_option maxRecDepth 65536 in
theorem w_alone : about1.alone = true := by decide +kernel
set_option maxRecDepth 65536 in
theorem w_named : about1.methodNamed? x = some theMethod := by decide +kernel
set_option maxRecDepth 65536 in
theorem w_hears : about1.hears theMethod below0 = true := by decide +kernel
set_option maxRecDepth 65536 in
theorem w_ripe : about1.ripe theMethod args0 below0 = true := by decide +kernel
theorem w_running : about1.status = .running := rfl
set_option maxRecDepth 65536 in
theorem w_room : about1.hasRoom e0.platform room_1 = true :=
  launch0.hasRoom_least _ room_1 (by decide +kernel) (by decide +kernel) (by decide +kernel) (by decide +kernel) (by decide +kernel) (by decide +kernel)
theorem allAtoms_all (ts : List Jvm.Cond) (a : Array Jvm.Value) (st : Jvm.State) : (allAtoms ts).before a st = ts.all (fun c => c.before a st) := by
  induction ts with
  | nil => rfl
  | cons c t ih =>
    show (Jvm.Cond.and c (allAtoms t)).before a st = _
    rw [Jvm.Cond.before_and, ih, List.all_cons]
def words1 : List Jvm.Cond := Jvm.Cond.code x code maxLocals ret :: tables_1
/-- a 'code' word, met by the world's own term for the bytes: nothing is compared byte by byte -/
theorem code_word {y : MethodName} {bytes : ByteArray} {mx : Nat} {rt : Option FieldType} {a : Array Value} {s : State} {m : MethodId} {meth : Method} {c : Code} (h1 : s.methodNamed? y = some m) (h2 : s.vm.method? m = some meth) (h3 : meth.code = some c) (h4 : c.code = bytes)
    (h5 : (c.maxLocals == mx && c.exceptionTable.isEmpty && decide (c.maxStack ≤ mostOperands) && decide (meth.sig.returnType = rt) && !meth.locks && decide (parseMethodDescriptor y.desc = some meth.sig)) = true) : (Jvm.Cond.code y bytes mx rt).before a s = true := by
  simp only [Bool.and_eq_true, beq_iff_eq, Bool.not_eq_true', decide_eq_true_eq] at h5
  obtain ⟨⟨⟨⟨⟨g1, g2⟩, g3⟩, g4⟩, g5⟩, g6⟩ := h5
  simp [Cond.before, Cond.holds, Cond.value, h1, h2, h3, h4, g1, g2, g3, g4, g5, g6]
def isCode : Jvm.Cond → Bool
  | .code _ _ _ _ => true
  | _ => false
theorem all_split {L : List Jvm.Cond} {P : Jvm.Cond → Bool} (h1 : L.all (fun c => isCode c || P c) = true) (h2 : ∀ c ∈ L.filter isCode, P c = true) : L.all P = true := by
  refine List.all_eq_true.mpr fun c hc => ?_
  have h := List.all_eq_true.mp h1 c hc
  rcases Bool.eq_false_or_eq_true (isCode c) with hi | hi
  · exact h2 c (List.mem_filter.mpr ⟨hc, hi⟩)
  · simpa [hi] using h
set_option maxRecDepth 65536 in
theorem w_c0 : (Jvm.Cond.code x code maxLocals ret).before args0 about1 = true := code_word (m := ⟨1, 2⟩) (meth := k1m2) (c := k1c2) (by decide +kernel) rfl rfl rfl (by decide +kernel)
set_option maxRecDepth 65536 in
theorem w_c1 : (Jvm.Cond.code ({ cls := "tenantry/store/RoleMayManageOrganizationPinLaw", name := "pick", desc := "(I)Ltenantry/store/Role;" } : Jvm.MethodName) method_2_code (1 : Nat) (Option.some (Jvm.ClassFile.FieldType.object "tenantry/store/Role"))).before args0 about1 = true := code_word (m := ⟨1, 1⟩) (meth := k1m1) (c := k1c1) (by decide +kernel) rfl rfl rfl (by decide +kernel)
set_option maxRecDepth 65536 in
theorem w_c2 : (Jvm.Cond.code ({ cls := "tenantry/store/Role", name := "mayManageOrganization", desc := "()Z" } : Jvm.MethodName) prog_43_method_5_code (1 : Nat) (Option.some Jvm.ClassFile.FieldType.boolean)).before args0 about1 = true := code_word (m := ⟨6, 1⟩) (meth := k6m1) (c := k6c1) (by decide +kernel) rfl rfl rfl (by decide +kernel)
set_option maxRecDepth 65536 in
theorem w_c3 : (Jvm.Cond.code ({ cls := "tenantry/store/Role", name := "key", desc := "()Ljava/lang/String;" } : Jvm.MethodName) prog_43_method_4_code (1 : Nat) (Option.some (Jvm.ClassFile.FieldType.object "java/lang/String"))).before args0 about1 = true := code_word (m := ⟨6, 0⟩) (meth := k6m0) (c := k6c0) (by decide +kernel) rfl rfl rfl (by decide +kernel)
set_option maxRecDepth 65536 in
theorem w_c4 : (Jvm.Cond.code ({ cls := "java/lang/String", name := "equals", desc := "(Ljava/lang/Object;)Z" } : Jvm.MethodName) jdk_42_method_66_code (3 : Nat) (Option.some Jvm.ClassFile.FieldType.boolean)).before args0 about1 = true := code_word (m := ⟨9, 1⟩) (meth := k9m1) (c := k9c1) (by decide +kernel) rfl rfl rfl (by decide +kernel)
set_option maxRecDepth 65536 in
theorem w_c5 : (Jvm.Cond.code ({ cls := "java/lang/StringLatin1", name := "equals", desc := "([B[B)Z" } : Jvm.MethodName) jdk_43_method_13_code (3 : Nat) (Option.some Jvm.ClassFile.FieldType.boolean)).before args0 about1 = true := code_word (m := ⟨10, 1⟩) (meth := k10m1) (c := k10c1) (by decide +kernel) rfl rfl rfl (by decide +kernel)
def codes1 : List Jvm.Cond := [Jvm.Cond.code x code maxLocals ret, Jvm.Cond.code ({ cls := "tenantry/store/RoleMayManageOrganizationPinLaw", name := "pick", desc := "(I)Ltenantry/store/Role;" } : Jvm.MethodName) method_2_code (1 : Nat) (Option.some (Jvm.ClassFile.FieldType.object "tenantry/store/Role")), Jvm.Cond.code ({ cls := "tenantry/store/Role", name := "mayManageOrganization", desc := "()Z" } : Jvm.MethodName) prog_43_method_5_code (1 : Nat) (Option.some Jvm.ClassFile.FieldType.boolean), Jvm.Cond.code ({ cls := "tenantry/store/Role", name := "key", desc := "()Ljava/lang/String;" } : Jvm.MethodName) prog_43_method_4_code (1 : Nat) (Option.some (Jvm.ClassFile.FieldType.object "java/lang/String")), Jvm.Cond.code ({ cls := "java/lang/String", name := "equals", desc := "(Ljava/lang/Object;)Z" } : Jvm.MethodName) jdk_42_method_66_code (3 : Nat) (Option.some Jvm.ClassFile.FieldType.boolean), Jvm.Cond.code ({ cls := "java/lang/StringLatin1", name := "equals", desc := "([B[B)Z" } : Jvm.MethodName) jdk_43_method_13_code (3 : Nat) (Option.some Jvm.ClassFile.FieldType.boolean)]
set_option maxRecDepth 65536 in
theorem codes_eq : words1.filter isCode = codes1 := rfl
theorem w_codes : ∀ c ∈ words1.filter isCode, c.before args0 about1 = true := by
  rw [codes_eq]
  intro c hc
  simp only [codes1, List.mem_cons, List.not_mem_nil, or_false] at hc
  rcases hc with rfl | rfl | rfl | rfl | rfl | rfl
  · exact w_c0
  · exact w_c1
  · exact w_c2
  · exact w_c3
  · exact w_c4
  · exact w_c5
set_option maxRecDepth 65536 in
theorem w_t1 : (words1.take 24).all (fun c => isCode c || c.before args0 about1) = true := by decide +kernel
set_option maxRecDepth 65536 in
theorem w_t2 : (words1.drop 24).all (fun c => isCode c || c.before args0 about1) = true := by decide +kernel
theorem w_tables : (allAtoms (Jvm.Cond.code x code maxLocals ret :: tables_1)).before args0 about1 = true := by
  rw [allAtoms_all]
  show words1.all (fun c => c.before args0 about1) = true
  refine all_split ?_ w_codes
  rw [← List.take_append_drop 24 words1, List.all_append, w_t1, w_t2]
  rfl
set_option maxRecDepth 65536 in
theorem w_rest : rest_1_c.before args0 about1 = true := by decide +kernel
set_option maxRecDepth 65536 in
theorem w_case : (Jvm.Cond.and given_1 narrow_1).before args0 about1 = true := by decide +kernel
set_option maxRecDepth 65536 in
theorem w_consts : constsHeld consts_1 about1 := Jvm.Lit.constsHeldB_iff.mp (by decide +kernel)
theorem w_applies : (headSpec (Jvm.Cond.code x code maxLocals ret :: tables_1) room_1).applies x e0.platform about1 = true :=
  (Spec.applies_iff w_frames).mpr ⟨w_running, w_runnable, w_alone, w_named, w_hears, w_ripe, w_room, w_tables⟩
theorem atStart : AtStart classFile x code maxLocals ret World_1 tables_1 room_1 Calls_1 rest_1 Pre_1 launch0 p0 e0 about1 theMethod args0 below0 :=
  ⟨lists_1, trivial, launch0.admits_env _ _ _, launch0.least_env, fairChoices_fair.cas, fairChoices_fair.clock, w_frames, w_args, w_heap, w_applies, ⟨w_consts, trivial⟩, w_rest, w_case⟩
end start1
theorem witness_1 : WitnessClaimed_1 := ⟨start1.p0, start1.e0, start1.about1, start1.theMethod, start1.args0, start1.below0, start1.atStart⟩
end Jvm.Pilot.@@N@@
