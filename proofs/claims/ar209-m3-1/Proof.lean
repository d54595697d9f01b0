import JvmDerived
import JvmDerived.Pilot.@@N@@Statement
import JvmDerived.Pilot.@@N@@Code
set_option linter.unusedVariables false
set_option linter.unusedSimpArgs false
namespace Jvm.Pilot.@@N@@
open Jvm Jvm.ClassFile Sem Op Lib Jvm.Free Jvm.Stand Jvm.LawKit Jvm.RoadKit Bundle Jvm.Pilot.@@N@@.Jvm.D
theorem own_lt32 {x y : Int32} {i j : Int} (hi : x.toInt = i) (hj : y.toInt = j) (h : i < j) : x < y := by rw [Int32.lt_iff_toInt_lt, hi, hj]; exact h
theorem own_nlt32 {x y : Int32} {i j : Int} (hi : x.toInt = i) (hj : y.toInt = j) (h : ¬ i < j) : ¬ x < y := by rw [Int32.lt_iff_toInt_lt, hi, hj]; exact h
theorem own_eq32 {x y : Int32} {i j : Int} (hi : x.toInt = i) (hj : y.toInt = j) (h : i = j) : x = y := by rw [← Int32.toInt_inj, hi, hj]; exact h
theorem own_neq32 {x y : Int32} {i j : Int} (hi : x.toInt = i) (hj : y.toInt = j) (h : ¬ i = j) : ¬ x = y := by rw [← Int32.toInt_inj, hi, hj]; exact h
theorem own_lt64 {x y : Int64} {i j : Int} (hi : x.toInt = i) (hj : y.toInt = j) (h : i < j) : x < y := by rw [Int64.lt_iff_toInt_lt, hi, hj]; exact h
theorem own_nlt64 {x y : Int64} {i j : Int} (hi : x.toInt = i) (hj : y.toInt = j) (h : ¬ i < j) : ¬ x < y := by rw [Int64.lt_iff_toInt_lt, hi, hj]; exact h
theorem own_eq64 {x y : Int64} {i j : Int} (hi : x.toInt = i) (hj : y.toInt = j) (h : i = j) : x = y := by rw [← Int64.toInt_inj, hi, hj]; exact h
theorem own_neq64 {x y : Int64} {i j : Int} (hi : x.toInt = i) (hj : y.toInt = j) (h : ¬ i = j) : ¬ x = y := by rw [← Int64.toInt_inj, hi, hj]; exact h
/-! OWN LAYER 1: the run goes on (own_Go), a method's contract (own_Met), its entry, its returns, its calls. -/
section OwnGo
variable {p : Program} {l : Launch} {e : Env} {R : Room} {s : State} {m : MethodId} {args : Array Value} {below : List Frame} {meth : Method} {c : Code} {T : State} {locs : List Loc} {cells slots : Nat} {Z : State} {a0 : Array Value} {h : Heap}
/-- from A the run comes to a state of which G holds -/
def own_Go (p : Program) (e : Env) (below : List Frame) (G : State → Prop) (A : State) : Prop := ∃ t, Steps p.tables e below A t ∧ G t
theorem own_go {G : State → Prop} {A B : State} (h : ∀ t, Steps p.tables e below B t → Steps p.tables e below A t) (k : own_Go p e below G B) : own_Go p e below G A := by
  obtain ⟨t, h1, h2⟩ := k; exact ⟨t, h t h1, h2⟩
/-- the invocation from s has ended by a return: what came back, the heap and the places written are as Q says -/
def own_End (below : List Frame) (s : State) (Q : Option Value → Heap → List Loc → Prop) (C N : Nat) (t : State) : Prop := t.status = .running ∧ ∃ v L, Ended t below (.returned v) ∧ Q v t.heap L ∧ FrameEnd s (.returned v) t L C N
/-- a contract of a method at one heap -/
def own_Met (l : Launch) (Z : State) (ws : List Jvm.Cond) (y : MethodName) (bytes : ByteArray) (maxL : Nat) (ret : Option FieldType) (rm : Room) (as' : Array Value) (h : Heap) (Q : Option Value → Heap → List Loc → Prop) : Prop :=
  MetFree l y (head1 (Jvm.Cond.code y bytes maxL ret :: ws) rm) (fun a U => a = as' ∧ Z.Warmed39 U.vm ∧ U.heap = h) (fun _ _ _ _ _ => True) (fun _ U o U' => ∃ v L, o = .returned v ∧ Q v U'.heap L ∧ FrameEnd U o U' L rm.cells rm.slots)
theorem own_met {ws : List Jvm.Cond} {y : MethodName} {bytes : ByteArray} {maxL : Nat} {ret : Option FieldType} {rm : Room} {as' : Array Value} {Q : Option Value → Heap → List Loc → Prop} (hpf : plainFor y = true)
    (body : ∀ (p : Program) (e : Env) (s : State) (m : MethodId) (below : List Frame) (meth : Method) (c : Code) (s₁ : State), p.tables.exec = Jvm.exec → c.code = bytes → c.maxLocals = maxL → s.vm.findClass y.cls = some m.cls → meth.name = y.name → meth.sig.returnType = ret → meth.locks = false → Z.Warmed39 s.vm →
      Stand p l e rm s m as' below meth c s₁ [] 0 0 → s₁.heap = h → own_Go p e below (own_End below s Q rm.cells rm.slots) (s₁.setTop (entryFrame m as' maxL))) :
    own_Met l Z ws y bytes maxL ret rm as' h Q := by
  refine MetFree.of_bodySF hpf hisR ?_
  intro p e s m args below meth c s₁ Bd hml0 hP hK
  obtain ⟨rfl, hZ, hh⟩ := hP
  obtain ⟨t, h1, h2, v, L, h3, h4, h5⟩ := body p e s m below meth c s₁ Bd.exec Bd.bytes hml0 (findClass_of_methodNamed Bd.named) (name_of_methodNamed Bd.named Bd.method).1 Bd.returns Bd.notSynchronized hZ (Stand.of_body Bd) (by rw [← hh, Bd.state]; rfl)
  exact ⟨t, _, h1, h2, h3, v, L, rfl, h4, h5⟩
theorem own_entry {G : State → Prop} {f g : JFrame} (q : f = g) (k : own_Go p e below G (T.setTop g)) : own_Go p e below G (T.setTop f) := q ▸ k
theorem own_ret (X : Stand p l e R s m args below meth c T locs cells slots) (hx : p.tables.exec = Jvm.exec) (hlk : meth.locks = false) {pc : Nat} {Ls : Array Slot} {w : Value} {t : FieldType} {i : Instr} {rest : List Value} (hret : meth.sig.returnType = some t) (hn : narrow t w = w)
    (hi : (i = .ireturn ∧ (t = .int ∨ t = .boolean ∨ t = .byte ∨ t = .char ∨ t = .short) ∧ ∃ z, w = .int z) ∨ (i = .lreturn ∧ t = .long ∧ ∃ z, w = .long z) ∨ (i = .dreturn ∧ t = .double ∧ ∃ z, w = .double z) ∨ (i = .freturn ∧ t = .float ∧ ∃ z, w = .float z) ∨ (i = .areturn ∧ t.isReference = true ∧ w.isRef = true))
    (hd : decode c.code pc = .ok (i, 1)) {Q : Option Value → Heap → List Loc → Prop} {C N : Nat} (hQ : Q (some w) T.heap locs) (hc : cells ≤ C) (hs : slots ≤ N) : own_Go p e below (own_End below s Q C N) (T.setTop (mkF m pc Ls (w :: rest))) := by
  obtain ⟨fs, hr, hrun, hended, hW, hsame⟩ := X.leave (v := some w) (fun h => by rw [hret] at h; cases h) hlk
  exact ⟨_, retOut X hx hret hn hi hd hr, hrun, _, _, hended, hQ, ⟨_, rfl⟩, hW, hsame.mono hc hs⟩
theorem own_retI (X : Stand p l e R s m args below meth c T locs cells slots) (hx : p.tables.exec = Jvm.exec) (hlk : meth.locks = false) {pc : Nat} {Ls : Array Slot} {z : Int32} {rest : List Value} (hret : meth.sig.returnType = some .int)
    (hd : decode c.code pc = .ok (.ireturn, 1)) {Q : Option Value → Heap → List Loc → Prop} {C N : Nat} (hQ : Q (some (.int z)) T.heap locs) (hc : cells ≤ C) (hs : slots ≤ N) : own_Go p e below (own_End below s Q C N) (T.setTop (mkF m pc Ls (.int z :: rest))) :=
  own_ret X hx hlk hret rfl (Or.inl ⟨rfl, Or.inl rfl, z, rfl⟩) hd hQ hc hs
theorem own_retZ (X : Stand p l e R s m args below meth c T locs cells slots) (hx : p.tables.exec = Jvm.exec) (hlk : meth.locks = false) {pc : Nat} {Ls : Array Slot} {z : Int32} {rest : List Value} (hret : meth.sig.returnType = some .boolean) (hz : z &&& 1 = z)
    (hd : decode c.code pc = .ok (.ireturn, 1)) {Q : Option Value → Heap → List Loc → Prop} {C N : Nat} (hQ : Q (some (.int z)) T.heap locs) (hc : cells ≤ C) (hs : slots ≤ N) : own_Go p e below (own_End below s Q C N) (T.setTop (mkF m pc Ls (.int z :: rest))) :=
  own_ret X hx hlk hret (by show Value.int (z &&& 1) = _; rw [hz]) (Or.inl ⟨rfl, Or.inr (Or.inl rfl), z, rfl⟩) hd hQ hc hs
theorem own_retJ (X : Stand p l e R s m args below meth c T locs cells slots) (hx : p.tables.exec = Jvm.exec) (hlk : meth.locks = false) {pc : Nat} {Ls : Array Slot} {z : Int64} {rest : List Value} (hret : meth.sig.returnType = some .long)
    (hd : decode c.code pc = .ok (.lreturn, 1)) {Q : Option Value → Heap → List Loc → Prop} {C N : Nat} (hQ : Q (some (.long z)) T.heap locs) (hc : cells ≤ C) (hs : slots ≤ N) : own_Go p e below (own_End below s Q C N) (T.setTop (mkF m pc Ls (.long z :: rest))) :=
  own_ret X hx hlk hret rfl (Or.inr (Or.inl ⟨rfl, rfl, z, rfl⟩)) hd hQ hc hs
theorem own_retA (X : Stand p l e R s m args below meth c T locs cells slots) (hx : p.tables.exec = Jvm.exec) (hlk : meth.locks = false) {pc : Nat} {Ls : Array Slot} {a : Addr} {t : FieldType} {rest : List Value} (hret : meth.sig.returnType = some t) (ht : t.isReference = true) (hn : narrow t (.ref a) = .ref a)
    (hd : decode c.code pc = .ok (.areturn, 1)) {Q : Option Value → Heap → List Loc → Prop} {C N : Nat} (hQ : Q (some (.ref a)) T.heap locs) (hc : cells ≤ C) (hs : slots ≤ N) : own_Go p e below (own_End below s Q C N) (T.setTop (mkF m pc Ls (.ref a :: rest))) :=
  own_ret X hx hlk hret hn (Or.inr (Or.inr (Or.inr (Or.inr ⟨rfl, ht, rfl⟩)))) hd hQ hc hs
theorem own_retV (X : Stand p l e R s m args below meth c T locs cells slots) (hx : p.tables.exec = Jvm.exec) (hlk : meth.locks = false) {pc : Nat} {Ls : Array Slot} (hret : meth.sig.returnType = none)
    (hd : decode c.code pc = .ok (.return_, 1)) {Q : Option Value → Heap → List Loc → Prop} {C N : Nat} (hQ : Q none T.heap locs) (hc : cells ≤ C) (hs : slots ≤ N) : own_Go p e below (own_End below s Q C N) (T.setTop (mkF m pc Ls [])) := by
  obtain ⟨fs, hr, hrun, hended, hW, hsame⟩ := X.leave (v := none) (fun _ => rfl) hlk
  exact ⟨_, X.returnOut hx hret hd hr, hrun, _, _, hended, hQ, ⟨_, rfl⟩, hW, hsame.mono hc hs⟩
/-- a static method by its contract -/
theorem own_callS (X : Stand p l e R s m args below meth c T locs cells slots) (hx : p.tables.exec = Jvm.exec) (hZ : Z.Warmed39 s.vm) {own : String} {index : Nat} {y : MethodName} {bytes : ByteArray} {maxL : Nat} {ret : Option FieldType} (hown : s.vm.findClass own = some m.cls)
    (w1 : (Jvm.Cond.methodLink own index y).before a0 Z = true) (w2 : (Jvm.Cond.static y).before a0 Z = true) (w3 : (Jvm.Cond.initialized y.cls).before a0 Z = true) (w4 : (Jvm.Cond.code y bytes maxL ret).before a0 Z = true) (hy : y.cls ≠ "java/lang/invoke/MethodHandle" ∧ y.cls ≠ "java/lang/invoke/VarHandle")
    {rm : Room} {as' : Array Value} {Q : Option Value → Heap → List Loc → Prop} (hM : own_Met l Z [] y bytes maxL ret rm as' h Q) (eT : T.heap = h) {pc : Nat} {Ls : Array Slot} {argsL rest st : List Value} (ha : argsL.toArray = as') (hsz : Ls.size = c.maxLocals)
    {ps : List FieldType} {r : Option FieldType} (hpd : parseMethodDescriptor y.desc = some ⟨ps, r⟩) (hpl : argsL.length = ps.length) (hst : st = argsL.reverse ++ rest) (hd : decode c.code pc = .ok (.invokestatic index, 3)) (W : Nat) (hW : (rest.map fun v => v.category).sum ≤ W)
    (hf : rm.frames + 1 ≤ R.frames) (hl : W + (maxL + 11) + rm.locals ≤ R.locals) (hc : cells + rm.cells ≤ R.cells) (hsl : slots + rm.slots ≤ R.slots) :
    ∃ (v : Option Value) (L : List Loc) (T' : State), Stand p l e R s m args below meth c T' (locs ++ L) (cells + rm.cells) (slots + rm.slots) ∧ Q v T'.heap L ∧ ∀ t, Steps p.tables e below (T'.setTop (mkF m (pc + 3) Ls (v.toList ++ rest))) t → Steps p.tables e below (T.setTop (mkF m pc Ls st)) t := by
  subst ha
  obtain ⟨v, _, ⟨T', L', k', n'⟩, -, X', ⟨L, hQ, l1, y1, z1⟩, st'⟩ := Jvm.LawKit.callS X hx (y := y) hown (mvT hZ w1) (mvT hZ w2) (mvT hZ w3) (mvT hZ w4) hy (backOf (W := W) hM hZ w4 w3 hf hl) (g := mkF m pc Ls st) rfl hsz (argsL := argsL) (rest := rest) (lenOf hpd hpl) hst (by show 2 * 0 + _ ≤ _; omega) hd (fun _ _ => ⟨rfl, eT, hc, hsl⟩)
  dsimp only [Pt.U, Pt.locs, Pt.cells, Pt.slots] at X' l1 y1 z1 st' hQ
  subst l1 y1 z1
  exact ⟨v, L, T', X', hQ, st'⟩
/-- an instance method by its contract, the receiver exactly of the class C -/
theorem own_callV (X : Stand p l e R s m args below meth c T locs cells slots) (hx : p.tables.exec = Jvm.exec) (hZ : Z.Warmed39 s.vm) {own C : String} {index : Nat} {y : MethodName} {bytes : ByteArray} {maxL : Nat} {ret : Option FieldType} (hown : s.vm.findClass own = some m.cls)
    (w1 : (Jvm.Cond.methodLink own index y).before a0 Z = true) (w2 : (Jvm.Cond.declares y).before a0 Z = true) (w3 : (Jvm.Cond.selects C y y).before a0 Z = true) (w4 : (Jvm.Cond.instanceMethod y).before a0 Z = true) (w5 : (Jvm.Cond.code y bytes maxL ret).before a0 Z = true) (w6 : (Jvm.Cond.initialized y.cls).before a0 Z = true)
    (hy : y.cls ≠ "java/lang/invoke/MethodHandle" ∧ y.cls ≠ "java/lang/invoke/VarHandle") {b : Addr} (E : Exa Z h b C)
    {rm : Room} {as' : Array Value} {Q : Option Value → Heap → List Loc → Prop} (hM : own_Met l Z [] y bytes maxL ret rm as' h Q) (eT : T.heap = h) {pc : Nat} {Ls : Array Slot} {argsL rest st : List Value} (ha : (.ref b :: argsL).toArray = as') (hsz : Ls.size = c.maxLocals)
    {ps : List FieldType} {r : Option FieldType} (hpd : parseMethodDescriptor y.desc = some ⟨ps, r⟩) (hpl : argsL.length = ps.length) (hst : st = argsL.reverse ++ .ref b :: rest) (hd : decode c.code pc = .ok (.invokevirtual index, 3)) (W : Nat) (hW : (rest.map fun v => v.category).sum ≤ W)
    (hf : rm.frames + 1 ≤ R.frames) (hl : W + (maxL + 11) + rm.locals ≤ R.locals) (hc : cells + rm.cells ≤ R.cells) (hsl : slots + rm.slots ≤ R.slots) :
    ∃ (v : Option Value) (L : List Loc) (T' : State), Stand p l e R s m args below meth c T' (locs ++ L) (cells + rm.cells) (slots + rm.slots) ∧ Q v T'.heap L ∧ ∀ t, Steps p.tables e below (T'.setTop (mkF m (pc + 3) Ls (v.toList ++ rest))) t → Steps p.tables e below (T.setTop (mkF m pc Ls st)) t := by
  subst ha
  obtain ⟨cq, kq, qa, qb, qc⟩ := isOf hZ eT E
  obtain ⟨v, _, ⟨T', L', k', n'⟩, -, X', ⟨L, hQ, l1, y1, z1⟩, st'⟩ := X.virtualBack hx (y := y) (z := y) hown (mvT hZ w1) (mvT hZ w2) (notFace_of_selects (args := #[]) (mvT hZ w3)) (mvT hZ w3) (mvT hZ w4) hy (backOf (W := W) hM hZ w5 w6 hf hl) qa qc (g := mkF m pc Ls st) rfl hsz (Steps.refl _) (argsL := argsL) (rest := rest) (lenOf hpd hpl) hst (by show 2 * 0 + _ ≤ _; omega) hd (fun _ _ => ⟨rfl, eT, hc, hsl⟩)
  dsimp only [Pt.U, Pt.locs, Pt.cells, Pt.slots] at X' l1 y1 z1 st' hQ
  subst l1 y1 z1
  exact ⟨v, L, T', X', hQ, fun t k => st'.trans k⟩
/-- a constructor by its contract -/
theorem own_callI (X : Stand p l e R s m args below meth c T locs cells slots) (hx : p.tables.exec = Jvm.exec) (hZ : Z.Warmed39 s.vm) {own : String} {index : Nat} {y : MethodName} {bytes : ByteArray} {maxL : Nat} (hyn : y.name = "<init>") (hown : s.vm.findClass own = some m.cls)
    (w1 : (Jvm.Cond.methodLink own index y).before a0 Z = true) (w2 : (Jvm.Cond.instanceMethod y).before a0 Z = true) (w3 : (Jvm.Cond.code y bytes maxL none).before a0 Z = true) (w4 : (Jvm.Cond.initialized y.cls).before a0 Z = true) (hy : y.cls ≠ "java/lang/invoke/MethodHandle" ∧ y.cls ≠ "java/lang/invoke/VarHandle") {b : Addr}
    {rm : Room} {as' : Array Value} {Q : Option Value → Heap → List Loc → Prop} (hM : own_Met l Z [] y bytes maxL none rm as' h Q) (eT : T.heap = h) {pc : Nat} {Ls : Array Slot} {argsL rest st : List Value} (ha : (.ref b :: argsL).toArray = as') (hsz : Ls.size = c.maxLocals)
    {ps : List FieldType} {r : Option FieldType} (hpd : parseMethodDescriptor y.desc = some ⟨ps, r⟩) (hpl : argsL.length = ps.length) (hst : st = argsL.reverse ++ .ref b :: rest) (hd : decode c.code pc = .ok (.invokespecial index, 3)) (W : Nat) (hW : (rest.map fun v => v.category).sum ≤ W)
    (hf : rm.frames + 1 ≤ R.frames) (hl : W + (maxL + 11) + rm.locals ≤ R.locals) (hc : cells + rm.cells ≤ R.cells) (hsl : slots + rm.slots ≤ R.slots) :
    ∃ (v : Option Value) (L : List Loc) (T' : State), Stand p l e R s m args below meth c T' (locs ++ L) (cells + rm.cells) (slots + rm.slots) ∧ Q v T'.heap L ∧ ∀ t, Steps p.tables e below (T'.setTop (mkF m (pc + 3) Ls (v.toList ++ rest))) t → Steps p.tables e below (T.setTop (mkF m pc Ls st)) t := by
  subst ha
  obtain ⟨v, _, ⟨T', L', k', n'⟩, -, X', ⟨L, hQ, l1, y1, z1⟩, st'⟩ := X.specialBack hx (y := y) hyn hown (mvT hZ w1) (mvT hZ w2) (mvT hZ w3) hy (backOf (W := W) hM hZ w3 w4 hf hl) (g := mkF m pc Ls st) rfl hsz (Steps.refl _) (a := b) (argsL := argsL) (rest := rest) (lenOf hpd hpl) hst (by show 2 * 0 + _ ≤ _; omega) hd (fun _ _ => ⟨rfl, eT, hc, hsl⟩)
  dsimp only [Pt.U, Pt.locs, Pt.cells, Pt.slots] at X' l1 y1 z1 st' hQ
  subst l1 y1 z1
  exact ⟨v, L, T', X', hQ, fun t k => st'.trans k⟩
end OwnGo
theorem pd_0 : parseMethodDescriptor "(JJ)J" = some ⟨[.long, .long], some .long⟩ := by decide +kernel
theorem pd_1 : parseMethodDescriptor "(JJJ)J" = some ⟨[.long, .long, .long], some .long⟩ := by decide +kernel
theorem d3_0 : decode jdk_29_method_70_code 0 = .ok (.lload_n 0, 1) := by decide +kernel
theorem d3_1 : decode jdk_29_method_70_code 1 = .ok (.lload_n 2, 1) := by decide +kernel
theorem d3_2 : decode jdk_29_method_70_code 2 = .ok (.lcmp, 1) := by decide +kernel
theorem d3_3 : decode jdk_29_method_70_code 3 = .ok (.ifCond .gt 7, 3) := by decide +kernel
theorem d3_6 : decode jdk_29_method_70_code 6 = .ok (.lload_n 0, 1) := by decide +kernel
theorem d3_7 : decode jdk_29_method_70_code 7 = .ok (.goto 4, 3) := by decide +kernel
theorem d3_10 : decode jdk_29_method_70_code 10 = .ok (.lload_n 2, 1) := by decide +kernel
theorem d3_11 : decode jdk_29_method_70_code 11 = .ok (.lreturn, 1) := by decide +kernel
theorem pn_3 : plainFor (⟨"java/lang/Math", "min", "(JJ)J"⟩ : MethodName) = true := by first | exact plainFor_of_name (by first | (simp [plainName, overriddenIn]; done) | decide +kernel) | decide +kernel
theorem ef_3 (m : MethodId) (x0 : Int64) (x1 : Int64) : entryFrame m #[(.long x0), (.long x1)] 4 = mkF m 0 #[.val (.long x0), .second, .val (.long x1), .second] [] := by first | (simp [entryFrame, mkF, argsToLocals, Value.category]; done) | rfl
theorem d2_0 : decode jdk_29_method_66_code 0 = .ok (.lload_n 0, 1) := by decide +kernel
theorem d2_1 : decode jdk_29_method_66_code 1 = .ok (.lload_n 2, 1) := by decide +kernel
theorem d2_2 : decode jdk_29_method_66_code 2 = .ok (.lcmp, 1) := by decide +kernel
theorem d2_3 : decode jdk_29_method_66_code 3 = .ok (.ifCond .lt 7, 3) := by decide +kernel
theorem d2_6 : decode jdk_29_method_66_code 6 = .ok (.lload_n 0, 1) := by decide +kernel
theorem d2_7 : decode jdk_29_method_66_code 7 = .ok (.goto 4, 3) := by decide +kernel
theorem d2_10 : decode jdk_29_method_66_code 10 = .ok (.lload_n 2, 1) := by decide +kernel
theorem d2_11 : decode jdk_29_method_66_code 11 = .ok (.lreturn, 1) := by decide +kernel
theorem pn_2 : plainFor (⟨"java/lang/Math", "max", "(JJ)J"⟩ : MethodName) = true := by first | exact plainFor_of_name (by first | (simp [plainName, overriddenIn]; done) | decide +kernel) | decide +kernel
theorem ef_2 (m : MethodId) (x0 : Int64) (x1 : Int64) : entryFrame m #[(.long x0), (.long x1)] 4 = mkF m 0 #[.val (.long x0), .second, .val (.long x1), .second] [] := by first | (simp [entryFrame, mkF, argsToLocals, Value.category]; done) | rfl
theorem d1_0 : decode prog_1_method_3_code 0 = .ok (.lload_n 0, 1) := by decide +kernel
theorem d1_1 : decode prog_1_method_3_code 1 = .ok (.lload_n 2, 1) := by decide +kernel
theorem d1_2 : decode prog_1_method_3_code 2 = .ok (.lconst 0, 1) := by decide +kernel
theorem d1_3 : decode prog_1_method_3_code 3 = .ok (.invokestatic 23, 3) := by decide +kernel
theorem d1_6 : decode prog_1_method_3_code 6 = .ok (.lload 4, 2) := by decide +kernel
theorem d1_8 : decode prog_1_method_3_code 8 = .ok (.invokestatic 29, 3) := by decide +kernel
theorem d1_11 : decode prog_1_method_3_code 11 = .ok (.ladd, 1) := by decide +kernel
theorem d1_12 : decode prog_1_method_3_code 12 = .ok (.lreturn, 1) := by decide +kernel
theorem pn_1 : plainFor (⟨"com/example/turnstile/turnstile/Deadlines", "after", "(JJJ)J"⟩ : MethodName) = true := by first | exact plainFor_of_name (by first | (simp [plainName, overriddenIn]; done) | decide +kernel) | decide +kernel
theorem ef_1 (m : MethodId) (x0 : Int64) (x1 : Int64) (x2 : Int64) : entryFrame m #[(.long x0), (.long x1), (.long x2)] 6 = mkF m 0 #[.val (.long x0), .second, .val (.long x1), .second, .val (.long x2), .second] [] := by first | (simp [entryFrame, mkF, argsToLocals, Value.category]; done) | rfl
theorem pn_0 : plainFor (⟨"com/example/turnstile/turnstile/DeadlinesAfterPinLaw", "law", "(JJJ)Z"⟩ : MethodName) = true := by first | exact plainFor_of_name (by first | (simp [plainName, overriddenIn]; done) | decide +kernel) | decide +kernel
theorem ef_0 (m : MethodId) (x0 : Int64) (x1 : Int64) (x2 : Int64) : entryFrame m #[(.long x0), (.long x1), (.long x2)] maxLocals = mkF m 0 #[.val (.long x0), .second, .val (.long x1), .second, .val (.long x2), .second, .unset, .unset, .unset, .unset, .unset, .unset, .unset, .unset] [] := by first | (simp [entryFrame, mkF, argsToLocals, Value.category, maxLocals]; done) | rfl
set_option maxRecDepth 65536 in
set_option maxHeartbeats 40000000 in
theorem rmMin (l : Launch) (Z : State) (a0 : Array Value) (hw : ∀ d ∈ tables_1, d.before a0 Z = true) (ws : List Jvm.Cond) (q1 q2 : Int64) (h0 : Heap)  :
    own_Met l Z ws (⟨"java/lang/Math", "min", "(JJ)J"⟩ : MethodName) jdk_29_method_70_code 4 (some .long) ({ frames := 0, cells := 0, slots := 0, locals := 0 } : Room) #[(.long q1), (.long q2)] h0 (fun v h L => ∃ z : Int64, v = some (.long z) ∧ ((z = q1 ∧ q1.toInt ≤ q2.toInt) ∨ (z = q2 ∧ q2.toInt < q1.toInt)) ∧ h = h0 ∧ L = []) := by
  refine own_met pn_3 ?_
  intro p e s m below meth c s₁ hx hby hml hown hnm hret hlk hZ X0 e0
  refine own_entry (ef_3 m q1 q2) ?_
  show own_Go p e below _ (s₁.setTop (mkF m 0 #[.val (.long q1), .second, .val (.long q2), .second] []))
  refine own_go (fun tt kk => XS.lloadN X0.here hx rfl (hb hby d3_0) rfl kk) ?_
  show own_Go p e below _ (s₁.setTop (mkF m 1 #[.val (.long q1), .second, .val (.long q2), .second] [(.long q1)]))
  refine own_go (fun tt kk => XS.lloadN X0.here hx rfl (hb hby d3_1) rfl kk) ?_
  show own_Go p e below _ (s₁.setTop (mkF m 2 #[.val (.long q1), .second, .val (.long q2), .second] [(.long q2), (.long q1)]))
  refine own_go (fun tt kk => XS.lcmp X0.here hx rfl (hb hby d3_2) rfl kk) ?_
  show own_Go p e below _ (s₁.setTop (mkF m 3 #[.val (.long q1), .second, .val (.long q2), .second] [(.int (lcmpW q1 q2))]))
  by_cases hc3 : q2.toInt < q1.toInt
  · refine own_go (fun tt kk => XS.ifYes X0.here hx rfl (pc0 := 3) (pc' := 10) rfl (hb hby d3_3) rfl ((if0 _ _).trans (tlt ((lw_gt q1 q2).mpr (own_lt64 (x := q2) (y := q1) (i := q2.toInt) (j := q1.toInt) rfl rfl hc3))).2.2.1) (by decide) (by decide) kk) ?_
    show own_Go p e below _ (s₁.setTop (mkF m 10 #[.val (.long q1), .second, .val (.long q2), .second] []))
    refine own_go (fun tt kk => XS.lloadN X0.here hx rfl (hb hby d3_10) rfl kk) ?_
    show own_Go p e below _ (s₁.setTop (mkF m 11 #[.val (.long q1), .second, .val (.long q2), .second] [(.long q2)]))
    exact own_retJ X0 hx hlk hret (hb hby d3_11) ⟨q2, rfl, by first | exact Or.inl ⟨rfl, by omega⟩ | exact Or.inr ⟨rfl, by omega⟩, e0, rfl⟩ (by decide) (by decide)
  · refine own_go (fun tt kk => XS.ifNo X0.here hx rfl (hb hby d3_3) rfl ((if0 _ _).trans (flt (fun q => (own_nlt64 (x := q2) (y := q1) (i := q2.toInt) (j := q1.toInt) rfl rfl hc3) ((lw_gt q1 q2).mp q))).2.2.1) kk) ?_
    show own_Go p e below _ (s₁.setTop (mkF m 6 #[.val (.long q1), .second, .val (.long q2), .second] []))
    refine own_go (fun tt kk => XS.lloadN X0.here hx rfl (hb hby d3_6) rfl kk) ?_
    show own_Go p e below _ (s₁.setTop (mkF m 7 #[.val (.long q1), .second, .val (.long q2), .second] [(.long q1)]))
    refine own_go (fun tt kk => XS.goto X0.here hx rfl (pc0 := 7) (pc' := 11) rfl (hb hby d3_7) (by decide) (by decide) kk) ?_
    show own_Go p e below _ (s₁.setTop (mkF m 11 #[.val (.long q1), .second, .val (.long q2), .second] [(.long q1)]))
    exact own_retJ X0 hx hlk hret (hb hby d3_11) ⟨q1, rfl, by first | exact Or.inl ⟨rfl, by omega⟩ | exact Or.inr ⟨rfl, by omega⟩, e0, rfl⟩ (by decide) (by decide)
set_option maxRecDepth 65536 in
set_option maxHeartbeats 40000000 in
theorem rmMax (l : Launch) (Z : State) (a0 : Array Value) (hw : ∀ d ∈ tables_1, d.before a0 Z = true) (ws : List Jvm.Cond) (q1 q2 : Int64) (h0 : Heap)  :
    own_Met l Z ws (⟨"java/lang/Math", "max", "(JJ)J"⟩ : MethodName) jdk_29_method_66_code 4 (some .long) ({ frames := 0, cells := 0, slots := 0, locals := 0 } : Room) #[(.long q1), (.long q2)] h0 (fun v h L => ∃ z : Int64, v = some (.long z) ∧ ((z = q1 ∧ q2.toInt ≤ q1.toInt) ∨ (z = q2 ∧ q1.toInt < q2.toInt)) ∧ h = h0 ∧ L = []) := by
  refine own_met pn_2 ?_
  intro p e s m below meth c s₁ hx hby hml hown hnm hret hlk hZ X0 e0
  refine own_entry (ef_2 m q1 q2) ?_
  show own_Go p e below _ (s₁.setTop (mkF m 0 #[.val (.long q1), .second, .val (.long q2), .second] []))
  refine own_go (fun tt kk => XS.lloadN X0.here hx rfl (hb hby d2_0) rfl kk) ?_
  show own_Go p e below _ (s₁.setTop (mkF m 1 #[.val (.long q1), .second, .val (.long q2), .second] [(.long q1)]))
  refine own_go (fun tt kk => XS.lloadN X0.here hx rfl (hb hby d2_1) rfl kk) ?_
  show own_Go p e below _ (s₁.setTop (mkF m 2 #[.val (.long q1), .second, .val (.long q2), .second] [(.long q2), (.long q1)]))
  refine own_go (fun tt kk => XS.lcmp X0.here hx rfl (hb hby d2_2) rfl kk) ?_
  show own_Go p e below _ (s₁.setTop (mkF m 3 #[.val (.long q1), .second, .val (.long q2), .second] [(.int (lcmpW q1 q2))]))
  by_cases hc3 : q1.toInt < q2.toInt
  · refine own_go (fun tt kk => XS.ifYes X0.here hx rfl (pc0 := 3) (pc' := 10) rfl (hb hby d2_3) rfl ((if0 _ _).trans (tlt ((lw_lt q1 q2).mpr (own_lt64 (x := q1) (y := q2) (i := q1.toInt) (j := q2.toInt) rfl rfl hc3))).1) (by decide) (by decide) kk) ?_
    show own_Go p e below _ (s₁.setTop (mkF m 10 #[.val (.long q1), .second, .val (.long q2), .second] []))
    refine own_go (fun tt kk => XS.lloadN X0.here hx rfl (hb hby d2_10) rfl kk) ?_
    show own_Go p e below _ (s₁.setTop (mkF m 11 #[.val (.long q1), .second, .val (.long q2), .second] [(.long q2)]))
    exact own_retJ X0 hx hlk hret (hb hby d2_11) ⟨q2, rfl, by first | exact Or.inl ⟨rfl, by omega⟩ | exact Or.inr ⟨rfl, by omega⟩, e0, rfl⟩ (by decide) (by decide)
  · refine own_go (fun tt kk => XS.ifNo X0.here hx rfl (hb hby d2_3) rfl ((if0 _ _).trans (flt (fun q => (own_nlt64 (x := q1) (y := q2) (i := q1.toInt) (j := q2.toInt) rfl rfl hc3) ((lw_lt q1 q2).mp q))).1) kk) ?_
    show own_Go p e below _ (s₁.setTop (mkF m 6 #[.val (.long q1), .second, .val (.long q2), .second] []))
    refine own_go (fun tt kk => XS.lloadN X0.here hx rfl (hb hby d2_6) rfl kk) ?_
    show own_Go p e below _ (s₁.setTop (mkF m 7 #[.val (.long q1), .second, .val (.long q2), .second] [(.long q1)]))
    refine own_go (fun tt kk => XS.goto X0.here hx rfl (pc0 := 7) (pc' := 11) rfl (hb hby d2_7) (by decide) (by decide) kk) ?_
    show own_Go p e below _ (s₁.setTop (mkF m 11 #[.val (.long q1), .second, .val (.long q2), .second] [(.long q1)]))
    exact own_retJ X0 hx hlk hret (hb hby d2_11) ⟨q1, rfl, by first | exact Or.inl ⟨rfl, by omega⟩ | exact Or.inr ⟨rfl, by omega⟩, e0, rfl⟩ (by decide) (by decide)
set_option maxRecDepth 65536 in
set_option maxHeartbeats 40000000 in
theorem rmAft (l : Launch) (Z : State) (a0 : Array Value) (hw : ∀ d ∈ tables_1, d.before a0 Z = true) (ws : List Jvm.Cond) (q1 q2 q3 : Int64) (h0 : Heap)  :
    own_Met l Z ws (⟨"com/example/turnstile/turnstile/Deadlines", "after", "(JJJ)J"⟩ : MethodName) prog_1_method_3_code 6 (some .long) ({ frames := 1, cells := 0, slots := 0, locals := 17 } : Room) #[(.long q1), (.long q2), (.long q3)] h0 (fun v h L => ∃ d : Int64, v = some (.long (q1 + d)) ∧ ((d = q3 ∧ q3.toInt < q2.toInt ∧ 0 ≤ q2.toInt) ∨ (d = q2 ∧ 0 ≤ q2.toInt ∧ q2.toInt ≤ q3.toInt) ∨ (d = 0 ∧ q2.toInt < 0 ∧ 0 ≤ q3.toInt) ∨ q3.toInt < 0) ∧ h = h0 ∧ L = []) := by
  refine own_met pn_1 ?_
  intro p e s m below meth c s₁ hx hby hml hown hnm hret hlk hZ X0 e0
  refine own_entry (ef_1 m q1 q2 q3) ?_
  show own_Go p e below _ (s₁.setTop (mkF m 0 #[.val (.long q1), .second, .val (.long q2), .second, .val (.long q3), .second] []))
  refine own_go (fun tt kk => XS.lloadN X0.here hx rfl (hb hby d1_0) rfl kk) ?_
  show own_Go p e below _ (s₁.setTop (mkF m 1 #[.val (.long q1), .second, .val (.long q2), .second, .val (.long q3), .second] [(.long q1)]))
  refine own_go (fun tt kk => XS.lloadN X0.here hx rfl (hb hby d1_1) rfl kk) ?_
  show own_Go p e below _ (s₁.setTop (mkF m 2 #[.val (.long q1), .second, .val (.long q2), .second, .val (.long q3), .second] [(.long q2), (.long q1)]))
  refine own_go (fun tt kk => XS.lconst X0.here hx rfl (hb hby d1_2) kk) ?_
  show own_Go p e below _ (s₁.setTop (mkF m 3 #[.val (.long q1), .second, .val (.long q2), .second, .val (.long q3), .second] [(.long (0 : Int64)), (.long q2), (.long q1)]))
  obtain ⟨v1, L1, T1, X1, qq1, st1⟩ := own_callS X0 hx hZ hown (hw _ (List.mem_of_getElem? (i := 5) rfl)) (hw _ (List.mem_of_getElem? (i := 6) rfl)) (hw _ (List.mem_of_getElem? (i := 7) rfl)) (hw _ (List.mem_of_getElem? (i := 8) rfl)) (by decide) (rmMax l Z a0 hw [] q2 (0 : Int64) h0) e0 (pc := 3) (Ls := #[.val (.long q1), .second, .val (.long q2), .second, .val (.long q3), .second]) (argsL := [(.long q2), (.long (0 : Int64))]) (rest := [(.long q1)]) rfl (by rw [hml]; rfl) pd_0 rfl rfl (hb hby d1_3) 2 (Nat.le_of_eq rfl) (by decide) (by decide) (by decide) (by decide)
  obtain ⟨z1, rfl, hz1, hh1, rfl⟩ := qq1
  refine own_go st1 ?_
  show own_Go p e below _ (T1.setTop (mkF m 6 #[.val (.long q1), .second, .val (.long q2), .second, .val (.long q3), .second] [(.long z1), (.long q1)]))
  refine own_go (fun tt kk => XS.lload X1.here hx rfl (hb hby d1_6) rfl kk) ?_
  show own_Go p e below _ (T1.setTop (mkF m 8 #[.val (.long q1), .second, .val (.long q2), .second, .val (.long q3), .second] [(.long q3), (.long z1), (.long q1)]))
  obtain ⟨v2, L2, T2, X2, qq2, st2⟩ := own_callS X1 hx hZ hown (hw _ (List.mem_of_getElem? (i := 9) rfl)) (hw _ (List.mem_of_getElem? (i := 10) rfl)) (hw _ (List.mem_of_getElem? (i := 7) rfl)) (hw _ (List.mem_of_getElem? (i := 11) rfl)) (by decide) (rmMin l Z a0 hw [] z1 q3 h0) hh1 (pc := 8) (Ls := #[.val (.long q1), .second, .val (.long q2), .second, .val (.long q3), .second]) (argsL := [(.long z1), (.long q3)]) (rest := [(.long q1)]) rfl (by rw [hml]; rfl) pd_0 rfl rfl (hb hby d1_8) 2 (Nat.le_of_eq rfl) (by decide) (by decide) (by decide) (by decide)
  obtain ⟨z2, rfl, hz2, hh2, rfl⟩ := qq2
  refine own_go st2 ?_
  show own_Go p e below _ (T2.setTop (mkF m 11 #[.val (.long q1), .second, .val (.long q2), .second, .val (.long q3), .second] [(.long z2), (.long q1)]))
  refine own_go (fun tt kk => XS.ladd X2.here hx rfl (hb hby d1_11) rfl kk) ?_
  show own_Go p e below _ (T2.setTop (mkF m 12 #[.val (.long q1), .second, .val (.long q2), .second, .val (.long q3), .second] [(.long (q1 + z2))]))
  have F0 : (0 : Int64).toInt = 0 := rfl
  refine own_retJ X2 hx hlk hret (hb hby d1_12) ⟨z2, rfl, ?_, hh2, rfl⟩ (by decide) (by decide)
  rcases hz1 with ⟨rfl, h⟩ | ⟨rfl, h⟩ <;> rcases hz2 with ⟨rfl, h'⟩ | ⟨rfl, h'⟩ <;> first | exact Or.inl ⟨rfl, by omega, by omega⟩ | exact Or.inr (Or.inl ⟨rfl, by omega, by omega⟩) | exact Or.inr (Or.inr (Or.inl ⟨rfl, by omega, by omega⟩)) | exact Or.inr (Or.inr (Or.inr (by omega)))
set_option maxRecDepth 65536 in
set_option maxHeartbeats 40000000 in
theorem rm0 (l : Launch) (Z : State) (a0 : Array Value) (hw : ∀ d ∈ tables_1, d.before a0 Z = true) (ws : List Jvm.Cond) (q1 q2 q3 : Int64) (h0 : Heap)  :
    own_Met l Z ws x code maxLocals ret room_1 #[(.long q1), (.long q2), (.long q3)] h0 (fun v h L => v = some (.int 1) ∧ Fr h0.size L) := by
  refine own_met pn_0 ?_
  intro p e s m below meth c s₁ hx hby hml hown hnm hret hlk hZ X0 e0
  refine own_entry (ef_0 m q1 q2 q3) ?_
  show own_Go p e below _ (s₁.setTop (mkF m 0 #[.val (.long q1), .second, .val (.long q2), .second, .val (.long q3), .second, .unset, .unset, .unset, .unset, .unset, .unset, .unset, .unset] []))
  have F0 : (0 : Int64).toInt = 0 := rfl
  have F1 : (q3 &&& (9223372036854775807 : Int64)).toInt = q3.toInt % 9223372036854775808 := c_maskL _ _ 63 (by decide) (by decide)
  refine own_go (fun tt kk => XS.lload X0.here hx rfl (hb hby at_0) rfl kk) ?_
  show own_Go p e below _ (s₁.setTop (mkF m 2 #[.val (.long q1), .second, .val (.long q2), .second, .val (.long q3), .second, .unset, .unset, .unset, .unset, .unset, .unset, .unset, .unset] [(.long q3)]))
  refine own_go (X0.ldc2Long hx hown (mvT hZ (hw _ (List.mem_of_getElem? (i := 0) rfl))) (g := (mkF m 2 #[.val (.long q1), .second, .val (.long q2), .second, .val (.long q3), .second, .unset, .unset, .unset, .unset, .unset, .unset, .unset, .unset] [(.long q3)])) rfl (hb hby at_2)) ?_
  show own_Go p e below _ (s₁.setTop (mkF m 5 #[.val (.long q1), .second, .val (.long q2), .second, .val (.long q3), .second, .unset, .unset, .unset, .unset, .unset, .unset, .unset, .unset] [(.long (9223372036854775807 : Int64)), (.long q3)]))
  refine own_go (fun tt kk => XS.land X0.here hx rfl (hb hby at_5) rfl kk) ?_
  show own_Go p e below _ (s₁.setTop (mkF m 6 #[.val (.long q1), .second, .val (.long q2), .second, .val (.long q3), .second, .unset, .unset, .unset, .unset, .unset, .unset, .unset, .unset] [(.long (q3 &&& (9223372036854775807 : Int64)))]))
  refine own_go (fun tt kk => XS.lstore X0.here hx rfl (hb hby at_6) rfl (l' := #[.val (.long q1), .second, .val (.long q2), .second, .val (.long q3), .second, .val (.long (q3 &&& (9223372036854775807 : Int64))), .second, .unset, .unset, .unset, .unset, .unset, .unset]) rfl kk) ?_
  show own_Go p e below _ (s₁.setTop (mkF m 8 #[.val (.long q1), .second, .val (.long q2), .second, .val (.long q3), .second, .val (.long (q3 &&& (9223372036854775807 : Int64))), .second, .unset, .unset, .unset, .unset, .unset, .unset] []))
  refine own_go (fun tt kk => XS.lloadN X0.here hx rfl (hb hby at_8) rfl kk) ?_
  show own_Go p e below _ (s₁.setTop (mkF m 9 #[.val (.long q1), .second, .val (.long q2), .second, .val (.long q3), .second, .val (.long (q3 &&& (9223372036854775807 : Int64))), .second, .unset, .unset, .unset, .unset, .unset, .unset] [(.long q1)]))
  refine own_go (fun tt kk => XS.lloadN X0.here hx rfl (hb hby at_9) rfl kk) ?_
  show own_Go p e below _ (s₁.setTop (mkF m 10 #[.val (.long q1), .second, .val (.long q2), .second, .val (.long q3), .second, .val (.long (q3 &&& (9223372036854775807 : Int64))), .second, .unset, .unset, .unset, .unset, .unset, .unset] [(.long q2), (.long q1)]))
  refine own_go (fun tt kk => XS.lload X0.here hx rfl (hb hby at_10) rfl kk) ?_
  show own_Go p e below _ (s₁.setTop (mkF m 12 #[.val (.long q1), .second, .val (.long q2), .second, .val (.long q3), .second, .val (.long (q3 &&& (9223372036854775807 : Int64))), .second, .unset, .unset, .unset, .unset, .unset, .unset] [(.long (q3 &&& (9223372036854775807 : Int64))), (.long q2), (.long q1)]))
  obtain ⟨v1, L1, T1, X1, qq1, st1⟩ := own_callS X0 hx hZ hown (hw _ (List.mem_of_getElem? (i := 1) rfl)) (hw _ (List.mem_of_getElem? (i := 2) rfl)) (hw _ (List.mem_of_getElem? (i := 3) rfl)) (hw _ (List.mem_of_getElem? (i := 4) rfl)) (by decide) (rmAft l Z a0 hw [] q1 q2 (q3 &&& (9223372036854775807 : Int64)) h0) e0 (pc := 12) (Ls := #[.val (.long q1), .second, .val (.long q2), .second, .val (.long q3), .second, .val (.long (q3 &&& (9223372036854775807 : Int64))), .second, .unset, .unset, .unset, .unset, .unset, .unset]) (argsL := [(.long q1), (.long q2), (.long (q3 &&& (9223372036854775807 : Int64)))]) (rest := []) rfl (by rw [hml]; rfl) pd_1 rfl rfl (hb hby at_12) 0 (Nat.le_of_eq rfl) (by decide) (by decide) (by decide) (by decide)
  obtain ⟨d1, rfl, hd1, hh1, rfl⟩ := qq1
  refine own_go st1 ?_
  show own_Go p e below _ (T1.setTop (mkF m 15 #[.val (.long q1), .second, .val (.long q2), .second, .val (.long q3), .second, .val (.long (q3 &&& (9223372036854775807 : Int64))), .second, .unset, .unset, .unset, .unset, .unset, .unset] [(.long (q1 + d1))]))
  have F2 := c_ladd q1 d1
  have F3 := c_lsub (q1 + d1) q1
  have F4 := rng64 d1
  have F5 := rng64 (q1 + d1 - q1)
  have F6 := rng64 (q1 + d1)
  have F7 := rng64 q1
  have F8 : (q1 + d1 - q1).toInt = d1.toInt := by omega
  have F9 : (d1.toInt = if q2.toInt ≤ 0 then 0 else if (q3 &&& (9223372036854775807 : Int64)).toInt < q2.toInt then (q3 &&& (9223372036854775807 : Int64)).toInt else q2.toInt) := by
    rcases hd1 with ⟨rfl, h1, h2⟩ | ⟨rfl, h1, h2⟩ | ⟨rfl, h1, h2⟩ | h <;> (repeat' split) <;> omega
  refine own_go (fun tt kk => XS.lstore X1.here hx rfl (hb hby at_15) rfl (l' := #[.val (.long q1), .second, .val (.long q2), .second, .val (.long q3), .second, .val (.long (q3 &&& (9223372036854775807 : Int64))), .second, .val (.long (q1 + d1)), .second, .unset, .unset, .unset, .unset]) rfl kk) ?_
  show own_Go p e below _ (T1.setTop (mkF m 17 #[.val (.long q1), .second, .val (.long q2), .second, .val (.long q3), .second, .val (.long (q3 &&& (9223372036854775807 : Int64))), .second, .val (.long (q1 + d1)), .second, .unset, .unset, .unset, .unset] []))
  refine own_go (fun tt kk => XS.lload X1.here hx rfl (hb hby at_17) rfl kk) ?_
  show own_Go p e below _ (T1.setTop (mkF m 19 #[.val (.long q1), .second, .val (.long q2), .second, .val (.long q3), .second, .val (.long (q3 &&& (9223372036854775807 : Int64))), .second, .val (.long (q1 + d1)), .second, .unset, .unset, .unset, .unset] [(.long (q1 + d1))]))
  refine own_go (fun tt kk => XS.lloadN X1.here hx rfl (hb hby at_19) rfl kk) ?_
  show own_Go p e below _ (T1.setTop (mkF m 20 #[.val (.long q1), .second, .val (.long q2), .second, .val (.long q3), .second, .val (.long (q3 &&& (9223372036854775807 : Int64))), .second, .val (.long (q1 + d1)), .second, .unset, .unset, .unset, .unset] [(.long q1), (.long (q1 + d1))]))
  refine own_go (fun tt kk => XS.lsub X1.here hx rfl (hb hby at_20) rfl kk) ?_
  show own_Go p e below _ (T1.setTop (mkF m 21 #[.val (.long q1), .second, .val (.long q2), .second, .val (.long q3), .second, .val (.long (q3 &&& (9223372036854775807 : Int64))), .second, .val (.long (q1 + d1)), .second, .unset, .unset, .unset, .unset] [(.long ((q1 + d1) - q1))]))
  refine own_go (fun tt kk => XS.lstore X1.here hx rfl (hb hby at_21) rfl (l' := #[.val (.long q1), .second, .val (.long q2), .second, .val (.long q3), .second, .val (.long (q3 &&& (9223372036854775807 : Int64))), .second, .val (.long (q1 + d1)), .second, .val (.long ((q1 + d1) - q1)), .second, .unset, .unset]) rfl kk) ?_
  show own_Go p e below _ (T1.setTop (mkF m 23 #[.val (.long q1), .second, .val (.long q2), .second, .val (.long q3), .second, .val (.long (q3 &&& (9223372036854775807 : Int64))), .second, .val (.long (q1 + d1)), .second, .val (.long ((q1 + d1) - q1)), .second, .unset, .unset] []))
  refine own_go (fun tt kk => XS.lloadN X1.here hx rfl (hb hby at_23) rfl kk) ?_
  show own_Go p e below _ (T1.setTop (mkF m 24 #[.val (.long q1), .second, .val (.long q2), .second, .val (.long q3), .second, .val (.long (q3 &&& (9223372036854775807 : Int64))), .second, .val (.long (q1 + d1)), .second, .val (.long ((q1 + d1) - q1)), .second, .unset, .unset] [(.long q2)]))
  refine own_go (fun tt kk => XS.lconst X1.here hx rfl (hb hby at_24) kk) ?_
  show own_Go p e below _ (T1.setTop (mkF m 25 #[.val (.long q1), .second, .val (.long q2), .second, .val (.long q3), .second, .val (.long (q3 &&& (9223372036854775807 : Int64))), .second, .val (.long (q1 + d1)), .second, .val (.long ((q1 + d1) - q1)), .second, .unset, .unset] [(.long (0 : Int64)), (.long q2)]))
  refine own_go (fun tt kk => XS.lcmp X1.here hx rfl (hb hby at_25) rfl kk) ?_
  show own_Go p e below _ (T1.setTop (mkF m 26 #[.val (.long q1), .second, .val (.long q2), .second, .val (.long q3), .second, .val (.long (q3 &&& (9223372036854775807 : Int64))), .second, .val (.long (q1 + d1)), .second, .val (.long ((q1 + d1) - q1)), .second, .unset, .unset] [(.int (lcmpW q2 (0 : Int64)))]))
  by_cases hc26 : 0 < q2.toInt
  · refine own_go (fun tt kk => XS.ifYes X1.here hx rfl (pc0 := 26) (pc' := 35) rfl (hb hby at_26) rfl ((if0 _ _).trans (tlt ((lw_gt q2 (0 : Int64)).mpr (own_lt64 (x := (0 : Int64)) (y := q2) (i := 0) (j := q2.toInt) rfl rfl hc26))).2.2.1) (by decide) (by decide) kk) ?_
    show own_Go p e below _ (T1.setTop (mkF m 35 #[.val (.long q1), .second, .val (.long q2), .second, .val (.long q3), .second, .val (.long (q3 &&& (9223372036854775807 : Int64))), .second, .val (.long (q1 + d1)), .second, .val (.long ((q1 + d1) - q1)), .second, .unset, .unset] []))
    rw [if_neg (by omega)] at F9
    refine own_go (fun tt kk => XS.lloadN X1.here hx rfl (hb hby at_35) rfl kk) ?_
    show own_Go p e below _ (T1.setTop (mkF m 36 #[.val (.long q1), .second, .val (.long q2), .second, .val (.long q3), .second, .val (.long (q3 &&& (9223372036854775807 : Int64))), .second, .val (.long (q1 + d1)), .second, .val (.long ((q1 + d1) - q1)), .second, .unset, .unset] [(.long q2)]))
    refine own_go (fun tt kk => XS.lload X1.here hx rfl (hb hby at_36) rfl kk) ?_
    show own_Go p e below _ (T1.setTop (mkF m 38 #[.val (.long q1), .second, .val (.long q2), .second, .val (.long q3), .second, .val (.long (q3 &&& (9223372036854775807 : Int64))), .second, .val (.long (q1 + d1)), .second, .val (.long ((q1 + d1) - q1)), .second, .unset, .unset] [(.long (q3 &&& (9223372036854775807 : Int64))), (.long q2)]))
    refine own_go (fun tt kk => XS.lcmp X1.here hx rfl (hb hby at_38) rfl kk) ?_
    show own_Go p e below _ (T1.setTop (mkF m 39 #[.val (.long q1), .second, .val (.long q2), .second, .val (.long q3), .second, .val (.long (q3 &&& (9223372036854775807 : Int64))), .second, .val (.long (q1 + d1)), .second, .val (.long ((q1 + d1) - q1)), .second, .unset, .unset] [(.int (lcmpW q2 (q3 &&& (9223372036854775807 : Int64))))]))
    by_cases hc39 : (q3 &&& (9223372036854775807 : Int64)).toInt < q2.toInt
    · refine own_go (fun tt kk => XS.ifNo X1.here hx rfl (hb hby at_39) rfl ((if0 _ _).trans (tlt ((lw_gt q2 (q3 &&& (9223372036854775807 : Int64))).mpr (own_lt64 (x := (q3 &&& (9223372036854775807 : Int64))) (y := q2) (i := (q3 &&& (9223372036854775807 : Int64)).toInt) (j := q2.toInt) rfl rfl hc39))).2.2.2) kk) ?_
      show own_Go p e below _ (T1.setTop (mkF m 42 #[.val (.long q1), .second, .val (.long q2), .second, .val (.long q3), .second, .val (.long (q3 &&& (9223372036854775807 : Int64))), .second, .val (.long (q1 + d1)), .second, .val (.long ((q1 + d1) - q1)), .second, .unset, .unset] []))
      rw [if_pos (by omega)] at F9
      refine own_go (fun tt kk => XS.lload X1.here hx rfl (hb hby at_42) rfl kk) ?_
      show own_Go p e below _ (T1.setTop (mkF m 44 #[.val (.long q1), .second, .val (.long q2), .second, .val (.long q3), .second, .val (.long (q3 &&& (9223372036854775807 : Int64))), .second, .val (.long (q1 + d1)), .second, .val (.long ((q1 + d1) - q1)), .second, .unset, .unset] [(.long (q3 &&& (9223372036854775807 : Int64)))]))
      refine own_go (fun tt kk => XS.lstore X1.here hx rfl (hb hby at_44) rfl (l' := #[.val (.long q1), .second, .val (.long q2), .second, .val (.long q3), .second, .val (.long (q3 &&& (9223372036854775807 : Int64))), .second, .val (.long (q1 + d1)), .second, .val (.long ((q1 + d1) - q1)), .second, .val (.long (q3 &&& (9223372036854775807 : Int64))), .second]) rfl kk) ?_
      show own_Go p e below _ (T1.setTop (mkF m 46 #[.val (.long q1), .second, .val (.long q2), .second, .val (.long q3), .second, .val (.long (q3 &&& (9223372036854775807 : Int64))), .second, .val (.long (q1 + d1)), .second, .val (.long ((q1 + d1) - q1)), .second, .val (.long (q3 &&& (9223372036854775807 : Int64))), .second] []))
      refine own_go (fun tt kk => XS.goto X1.here hx rfl (pc0 := 46) (pc' := 52) rfl (hb hby at_46) (by decide) (by decide) kk) ?_
      show own_Go p e below _ (T1.setTop (mkF m 52 #[.val (.long q1), .second, .val (.long q2), .second, .val (.long q3), .second, .val (.long (q3 &&& (9223372036854775807 : Int64))), .second, .val (.long (q1 + d1)), .second, .val (.long ((q1 + d1) - q1)), .second, .val (.long (q3 &&& (9223372036854775807 : Int64))), .second] []))
      refine own_go (fun tt kk => XS.lload X1.here hx rfl (hb hby at_52) rfl kk) ?_
      show own_Go p e below _ (T1.setTop (mkF m 54 #[.val (.long q1), .second, .val (.long q2), .second, .val (.long q3), .second, .val (.long (q3 &&& (9223372036854775807 : Int64))), .second, .val (.long (q1 + d1)), .second, .val (.long ((q1 + d1) - q1)), .second, .val (.long (q3 &&& (9223372036854775807 : Int64))), .second] [(.long ((q1 + d1) - q1))]))
      refine own_go (fun tt kk => XS.lload X1.here hx rfl (hb hby at_54) rfl kk) ?_
      show own_Go p e below _ (T1.setTop (mkF m 56 #[.val (.long q1), .second, .val (.long q2), .second, .val (.long q3), .second, .val (.long (q3 &&& (9223372036854775807 : Int64))), .second, .val (.long (q1 + d1)), .second, .val (.long ((q1 + d1) - q1)), .second, .val (.long (q3 &&& (9223372036854775807 : Int64))), .second] [(.long (q3 &&& (9223372036854775807 : Int64))), (.long ((q1 + d1) - q1))]))
      refine own_go (fun tt kk => XS.lcmp X1.here hx rfl (hb hby at_56) rfl kk) ?_
      show own_Go p e below _ (T1.setTop (mkF m 57 #[.val (.long q1), .second, .val (.long q2), .second, .val (.long q3), .second, .val (.long (q3 &&& (9223372036854775807 : Int64))), .second, .val (.long (q1 + d1)), .second, .val (.long ((q1 + d1) - q1)), .second, .val (.long (q3 &&& (9223372036854775807 : Int64))), .second] [(.int (lcmpW ((q1 + d1) - q1) (q3 &&& (9223372036854775807 : Int64))))]))
      refine own_go (fun tt kk => XS.ifNo X1.here hx rfl (hb hby at_57) rfl ((if0 _ _).trans (teq ((lw_eq ((q1 + d1) - q1) (q3 &&& (9223372036854775807 : Int64))).mpr (own_eq64 (x := ((q1 + d1) - q1)) (y := (q3 &&& (9223372036854775807 : Int64))) (i := ((q1 + d1) - q1).toInt) (j := (q3 &&& (9223372036854775807 : Int64)).toInt) rfl rfl (by first | omega | (simp only [F0]; omega))))).2) kk) ?_
      show own_Go p e below _ (T1.setTop (mkF m 60 #[.val (.long q1), .second, .val (.long q2), .second, .val (.long q3), .second, .val (.long (q3 &&& (9223372036854775807 : Int64))), .second, .val (.long (q1 + d1)), .second, .val (.long ((q1 + d1) - q1)), .second, .val (.long (q3 &&& (9223372036854775807 : Int64))), .second] []))
      refine own_go (fun tt kk => XS.lload X1.here hx rfl (hb hby at_60) rfl kk) ?_
      show own_Go p e below _ (T1.setTop (mkF m 62 #[.val (.long q1), .second, .val (.long q2), .second, .val (.long q3), .second, .val (.long (q3 &&& (9223372036854775807 : Int64))), .second, .val (.long (q1 + d1)), .second, .val (.long ((q1 + d1) - q1)), .second, .val (.long (q3 &&& (9223372036854775807 : Int64))), .second] [(.long ((q1 + d1) - q1))]))
      refine own_go (fun tt kk => XS.lconst X1.here hx rfl (hb hby at_62) kk) ?_
      show own_Go p e below _ (T1.setTop (mkF m 63 #[.val (.long q1), .second, .val (.long q2), .second, .val (.long q3), .second, .val (.long (q3 &&& (9223372036854775807 : Int64))), .second, .val (.long (q1 + d1)), .second, .val (.long ((q1 + d1) - q1)), .second, .val (.long (q3 &&& (9223372036854775807 : Int64))), .second] [(.long (0 : Int64)), (.long ((q1 + d1) - q1))]))
      refine own_go (fun tt kk => XS.lcmp X1.here hx rfl (hb hby at_63) rfl kk) ?_
      show own_Go p e below _ (T1.setTop (mkF m 64 #[.val (.long q1), .second, .val (.long q2), .second, .val (.long q3), .second, .val (.long (q3 &&& (9223372036854775807 : Int64))), .second, .val (.long (q1 + d1)), .second, .val (.long ((q1 + d1) - q1)), .second, .val (.long (q3 &&& (9223372036854775807 : Int64))), .second] [(.int (lcmpW ((q1 + d1) - q1) (0 : Int64)))]))
      refine own_go (fun tt kk => XS.ifNo X1.here hx rfl (hb hby at_64) rfl ((if0 _ _).trans (flt (fun q => (own_nlt64 (x := ((q1 + d1) - q1)) (y := (0 : Int64)) (i := ((q1 + d1) - q1).toInt) (j := 0) rfl rfl (by omega)) ((lw_lt ((q1 + d1) - q1) (0 : Int64)).mp q))).1) kk) ?_
      show own_Go p e below _ (T1.setTop (mkF m 67 #[.val (.long q1), .second, .val (.long q2), .second, .val (.long q3), .second, .val (.long (q3 &&& (9223372036854775807 : Int64))), .second, .val (.long (q1 + d1)), .second, .val (.long ((q1 + d1) - q1)), .second, .val (.long (q3 &&& (9223372036854775807 : Int64))), .second] []))
      refine own_go (fun tt kk => XS.lload X1.here hx rfl (hb hby at_67) rfl kk) ?_
      show own_Go p e below _ (T1.setTop (mkF m 69 #[.val (.long q1), .second, .val (.long q2), .second, .val (.long q3), .second, .val (.long (q3 &&& (9223372036854775807 : Int64))), .second, .val (.long (q1 + d1)), .second, .val (.long ((q1 + d1) - q1)), .second, .val (.long (q3 &&& (9223372036854775807 : Int64))), .second] [(.long ((q1 + d1) - q1))]))
      refine own_go (fun tt kk => XS.lload X1.here hx rfl (hb hby at_69) rfl kk) ?_
      show own_Go p e below _ (T1.setTop (mkF m 71 #[.val (.long q1), .second, .val (.long q2), .second, .val (.long q3), .second, .val (.long (q3 &&& (9223372036854775807 : Int64))), .second, .val (.long (q1 + d1)), .second, .val (.long ((q1 + d1) - q1)), .second, .val (.long (q3 &&& (9223372036854775807 : Int64))), .second] [(.long (q3 &&& (9223372036854775807 : Int64))), (.long ((q1 + d1) - q1))]))
      refine own_go (fun tt kk => XS.lcmp X1.here hx rfl (hb hby at_71) rfl kk) ?_
      show own_Go p e below _ (T1.setTop (mkF m 72 #[.val (.long q1), .second, .val (.long q2), .second, .val (.long q3), .second, .val (.long (q3 &&& (9223372036854775807 : Int64))), .second, .val (.long (q1 + d1)), .second, .val (.long ((q1 + d1) - q1)), .second, .val (.long (q3 &&& (9223372036854775807 : Int64))), .second] [(.int (lcmpW ((q1 + d1) - q1) (q3 &&& (9223372036854775807 : Int64))))]))
      refine own_go (fun tt kk => XS.ifNo X1.here hx rfl (hb hby at_72) rfl ((if0 _ _).trans (flt (fun q => (own_nlt64 (x := (q3 &&& (9223372036854775807 : Int64))) (y := ((q1 + d1) - q1)) (i := (q3 &&& (9223372036854775807 : Int64)).toInt) (j := ((q1 + d1) - q1).toInt) rfl rfl (by omega)) ((lw_gt ((q1 + d1) - q1) (q3 &&& (9223372036854775807 : Int64))).mp q))).2.2.1) kk) ?_
      show own_Go p e below _ (T1.setTop (mkF m 75 #[.val (.long q1), .second, .val (.long q2), .second, .val (.long q3), .second, .val (.long (q3 &&& (9223372036854775807 : Int64))), .second, .val (.long (q1 + d1)), .second, .val (.long ((q1 + d1) - q1)), .second, .val (.long (q3 &&& (9223372036854775807 : Int64))), .second] []))
      refine own_go (fun tt kk => XS.iconst X1.here hx rfl (hb hby at_75) kk) ?_
      show own_Go p e below _ (T1.setTop (mkF m 76 #[.val (.long q1), .second, .val (.long q2), .second, .val (.long q3), .second, .val (.long (q3 &&& (9223372036854775807 : Int64))), .second, .val (.long (q1 + d1)), .second, .val (.long ((q1 + d1) - q1)), .second, .val (.long (q3 &&& (9223372036854775807 : Int64))), .second] [(.int (1 : Int32))]))
      refine own_go (fun tt kk => XS.goto X1.here hx rfl (pc0 := 76) (pc' := 80) rfl (hb hby at_76) (by decide) (by decide) kk) ?_
      show own_Go p e below _ (T1.setTop (mkF m 80 #[.val (.long q1), .second, .val (.long q2), .second, .val (.long q3), .second, .val (.long (q3 &&& (9223372036854775807 : Int64))), .second, .val (.long (q1 + d1)), .second, .val (.long ((q1 + d1) - q1)), .second, .val (.long (q3 &&& (9223372036854775807 : Int64))), .second] [(.int (1 : Int32))]))
      exact own_retZ X1 hx hlk hret (by decide) (hb hby at_80) ⟨rfl, Fr.nil _⟩ (by decide) (by decide)
    · refine own_go (fun tt kk => XS.ifYes X1.here hx rfl (pc0 := 39) (pc' := 49) rfl (hb hby at_39) rfl ((if0 _ _).trans (flt (fun q => (own_nlt64 (x := (q3 &&& (9223372036854775807 : Int64))) (y := q2) (i := (q3 &&& (9223372036854775807 : Int64)).toInt) (j := q2.toInt) rfl rfl hc39) ((lw_gt q2 (q3 &&& (9223372036854775807 : Int64))).mp q))).2.2.2) (by decide) (by decide) kk) ?_
      show own_Go p e below _ (T1.setTop (mkF m 49 #[.val (.long q1), .second, .val (.long q2), .second, .val (.long q3), .second, .val (.long (q3 &&& (9223372036854775807 : Int64))), .second, .val (.long (q1 + d1)), .second, .val (.long ((q1 + d1) - q1)), .second, .unset, .unset] []))
      rw [if_neg (by omega)] at F9
      refine own_go (fun tt kk => XS.lloadN X1.here hx rfl (hb hby at_49) rfl kk) ?_
      show own_Go p e below _ (T1.setTop (mkF m 50 #[.val (.long q1), .second, .val (.long q2), .second, .val (.long q3), .second, .val (.long (q3 &&& (9223372036854775807 : Int64))), .second, .val (.long (q1 + d1)), .second, .val (.long ((q1 + d1) - q1)), .second, .unset, .unset] [(.long q2)]))
      refine own_go (fun tt kk => XS.lstore X1.here hx rfl (hb hby at_50) rfl (l' := #[.val (.long q1), .second, .val (.long q2), .second, .val (.long q3), .second, .val (.long (q3 &&& (9223372036854775807 : Int64))), .second, .val (.long (q1 + d1)), .second, .val (.long ((q1 + d1) - q1)), .second, .val (.long q2), .second]) rfl kk) ?_
      show own_Go p e below _ (T1.setTop (mkF m 52 #[.val (.long q1), .second, .val (.long q2), .second, .val (.long q3), .second, .val (.long (q3 &&& (9223372036854775807 : Int64))), .second, .val (.long (q1 + d1)), .second, .val (.long ((q1 + d1) - q1)), .second, .val (.long q2), .second] []))
      refine own_go (fun tt kk => XS.lload X1.here hx rfl (hb hby at_52) rfl kk) ?_
      show own_Go p e below _ (T1.setTop (mkF m 54 #[.val (.long q1), .second, .val (.long q2), .second, .val (.long q3), .second, .val (.long (q3 &&& (9223372036854775807 : Int64))), .second, .val (.long (q1 + d1)), .second, .val (.long ((q1 + d1) - q1)), .second, .val (.long q2), .second] [(.long ((q1 + d1) - q1))]))
      refine own_go (fun tt kk => XS.lload X1.here hx rfl (hb hby at_54) rfl kk) ?_
      show own_Go p e below _ (T1.setTop (mkF m 56 #[.val (.long q1), .second, .val (.long q2), .second, .val (.long q3), .second, .val (.long (q3 &&& (9223372036854775807 : Int64))), .second, .val (.long (q1 + d1)), .second, .val (.long ((q1 + d1) - q1)), .second, .val (.long q2), .second] [(.long q2), (.long ((q1 + d1) - q1))]))
      refine own_go (fun tt kk => XS.lcmp X1.here hx rfl (hb hby at_56) rfl kk) ?_
      show own_Go p e below _ (T1.setTop (mkF m 57 #[.val (.long q1), .second, .val (.long q2), .second, .val (.long q3), .second, .val (.long (q3 &&& (9223372036854775807 : Int64))), .second, .val (.long (q1 + d1)), .second, .val (.long ((q1 + d1) - q1)), .second, .val (.long q2), .second] [(.int (lcmpW ((q1 + d1) - q1) q2))]))
      refine own_go (fun tt kk => XS.ifNo X1.here hx rfl (hb hby at_57) rfl ((if0 _ _).trans (teq ((lw_eq ((q1 + d1) - q1) q2).mpr (own_eq64 (x := ((q1 + d1) - q1)) (y := q2) (i := ((q1 + d1) - q1).toInt) (j := q2.toInt) rfl rfl (by first | omega | (simp only [F0]; omega))))).2) kk) ?_
      show own_Go p e below _ (T1.setTop (mkF m 60 #[.val (.long q1), .second, .val (.long q2), .second, .val (.long q3), .second, .val (.long (q3 &&& (9223372036854775807 : Int64))), .second, .val (.long (q1 + d1)), .second, .val (.long ((q1 + d1) - q1)), .second, .val (.long q2), .second] []))
      refine own_go (fun tt kk => XS.lload X1.here hx rfl (hb hby at_60) rfl kk) ?_
      show own_Go p e below _ (T1.setTop (mkF m 62 #[.val (.long q1), .second, .val (.long q2), .second, .val (.long q3), .second, .val (.long (q3 &&& (9223372036854775807 : Int64))), .second, .val (.long (q1 + d1)), .second, .val (.long ((q1 + d1) - q1)), .second, .val (.long q2), .second] [(.long ((q1 + d1) - q1))]))
      refine own_go (fun tt kk => XS.lconst X1.here hx rfl (hb hby at_62) kk) ?_
      show own_Go p e below _ (T1.setTop (mkF m 63 #[.val (.long q1), .second, .val (.long q2), .second, .val (.long q3), .second, .val (.long (q3 &&& (9223372036854775807 : Int64))), .second, .val (.long (q1 + d1)), .second, .val (.long ((q1 + d1) - q1)), .second, .val (.long q2), .second] [(.long (0 : Int64)), (.long ((q1 + d1) - q1))]))
      refine own_go (fun tt kk => XS.lcmp X1.here hx rfl (hb hby at_63) rfl kk) ?_
      show own_Go p e below _ (T1.setTop (mkF m 64 #[.val (.long q1), .second, .val (.long q2), .second, .val (.long q3), .second, .val (.long (q3 &&& (9223372036854775807 : Int64))), .second, .val (.long (q1 + d1)), .second, .val (.long ((q1 + d1) - q1)), .second, .val (.long q2), .second] [(.int (lcmpW ((q1 + d1) - q1) (0 : Int64)))]))
      refine own_go (fun tt kk => XS.ifNo X1.here hx rfl (hb hby at_64) rfl ((if0 _ _).trans (flt (fun q => (own_nlt64 (x := ((q1 + d1) - q1)) (y := (0 : Int64)) (i := ((q1 + d1) - q1).toInt) (j := 0) rfl rfl (by omega)) ((lw_lt ((q1 + d1) - q1) (0 : Int64)).mp q))).1) kk) ?_
      show own_Go p e below _ (T1.setTop (mkF m 67 #[.val (.long q1), .second, .val (.long q2), .second, .val (.long q3), .second, .val (.long (q3 &&& (9223372036854775807 : Int64))), .second, .val (.long (q1 + d1)), .second, .val (.long ((q1 + d1) - q1)), .second, .val (.long q2), .second] []))
      refine own_go (fun tt kk => XS.lload X1.here hx rfl (hb hby at_67) rfl kk) ?_
      show own_Go p e below _ (T1.setTop (mkF m 69 #[.val (.long q1), .second, .val (.long q2), .second, .val (.long q3), .second, .val (.long (q3 &&& (9223372036854775807 : Int64))), .second, .val (.long (q1 + d1)), .second, .val (.long ((q1 + d1) - q1)), .second, .val (.long q2), .second] [(.long ((q1 + d1) - q1))]))
      refine own_go (fun tt kk => XS.lload X1.here hx rfl (hb hby at_69) rfl kk) ?_
      show own_Go p e below _ (T1.setTop (mkF m 71 #[.val (.long q1), .second, .val (.long q2), .second, .val (.long q3), .second, .val (.long (q3 &&& (9223372036854775807 : Int64))), .second, .val (.long (q1 + d1)), .second, .val (.long ((q1 + d1) - q1)), .second, .val (.long q2), .second] [(.long (q3 &&& (9223372036854775807 : Int64))), (.long ((q1 + d1) - q1))]))
      refine own_go (fun tt kk => XS.lcmp X1.here hx rfl (hb hby at_71) rfl kk) ?_
      show own_Go p e below _ (T1.setTop (mkF m 72 #[.val (.long q1), .second, .val (.long q2), .second, .val (.long q3), .second, .val (.long (q3 &&& (9223372036854775807 : Int64))), .second, .val (.long (q1 + d1)), .second, .val (.long ((q1 + d1) - q1)), .second, .val (.long q2), .second] [(.int (lcmpW ((q1 + d1) - q1) (q3 &&& (9223372036854775807 : Int64))))]))
      refine own_go (fun tt kk => XS.ifNo X1.here hx rfl (hb hby at_72) rfl ((if0 _ _).trans (flt (fun q => (own_nlt64 (x := (q3 &&& (9223372036854775807 : Int64))) (y := ((q1 + d1) - q1)) (i := (q3 &&& (9223372036854775807 : Int64)).toInt) (j := ((q1 + d1) - q1).toInt) rfl rfl (by omega)) ((lw_gt ((q1 + d1) - q1) (q3 &&& (9223372036854775807 : Int64))).mp q))).2.2.1) kk) ?_
      show own_Go p e below _ (T1.setTop (mkF m 75 #[.val (.long q1), .second, .val (.long q2), .second, .val (.long q3), .second, .val (.long (q3 &&& (9223372036854775807 : Int64))), .second, .val (.long (q1 + d1)), .second, .val (.long ((q1 + d1) - q1)), .second, .val (.long q2), .second] []))
      refine own_go (fun tt kk => XS.iconst X1.here hx rfl (hb hby at_75) kk) ?_
      show own_Go p e below _ (T1.setTop (mkF m 76 #[.val (.long q1), .second, .val (.long q2), .second, .val (.long q3), .second, .val (.long (q3 &&& (9223372036854775807 : Int64))), .second, .val (.long (q1 + d1)), .second, .val (.long ((q1 + d1) - q1)), .second, .val (.long q2), .second] [(.int (1 : Int32))]))
      refine own_go (fun tt kk => XS.goto X1.here hx rfl (pc0 := 76) (pc' := 80) rfl (hb hby at_76) (by decide) (by decide) kk) ?_
      show own_Go p e below _ (T1.setTop (mkF m 80 #[.val (.long q1), .second, .val (.long q2), .second, .val (.long q3), .second, .val (.long (q3 &&& (9223372036854775807 : Int64))), .second, .val (.long (q1 + d1)), .second, .val (.long ((q1 + d1) - q1)), .second, .val (.long q2), .second] [(.int (1 : Int32))]))
      exact own_retZ X1 hx hlk hret (by decide) (hb hby at_80) ⟨rfl, Fr.nil _⟩ (by decide) (by decide)
  · refine own_go (fun tt kk => XS.ifNo X1.here hx rfl (hb hby at_26) rfl ((if0 _ _).trans (flt (fun q => (own_nlt64 (x := (0 : Int64)) (y := q2) (i := 0) (j := q2.toInt) rfl rfl hc26) ((lw_gt q2 (0 : Int64)).mp q))).2.2.1) kk) ?_
    show own_Go p e below _ (T1.setTop (mkF m 29 #[.val (.long q1), .second, .val (.long q2), .second, .val (.long q3), .second, .val (.long (q3 &&& (9223372036854775807 : Int64))), .second, .val (.long (q1 + d1)), .second, .val (.long ((q1 + d1) - q1)), .second, .unset, .unset] []))
    rw [if_pos (by omega)] at F9
    refine own_go (fun tt kk => XS.lconst X1.here hx rfl (hb hby at_29) kk) ?_
    show own_Go p e below _ (T1.setTop (mkF m 30 #[.val (.long q1), .second, .val (.long q2), .second, .val (.long q3), .second, .val (.long (q3 &&& (9223372036854775807 : Int64))), .second, .val (.long (q1 + d1)), .second, .val (.long ((q1 + d1) - q1)), .second, .unset, .unset] [(.long (0 : Int64))]))
    refine own_go (fun tt kk => XS.lstore X1.here hx rfl (hb hby at_30) rfl (l' := #[.val (.long q1), .second, .val (.long q2), .second, .val (.long q3), .second, .val (.long (q3 &&& (9223372036854775807 : Int64))), .second, .val (.long (q1 + d1)), .second, .val (.long ((q1 + d1) - q1)), .second, .val (.long (0 : Int64)), .second]) rfl kk) ?_
    show own_Go p e below _ (T1.setTop (mkF m 32 #[.val (.long q1), .second, .val (.long q2), .second, .val (.long q3), .second, .val (.long (q3 &&& (9223372036854775807 : Int64))), .second, .val (.long (q1 + d1)), .second, .val (.long ((q1 + d1) - q1)), .second, .val (.long (0 : Int64)), .second] []))
    refine own_go (fun tt kk => XS.goto X1.here hx rfl (pc0 := 32) (pc' := 52) rfl (hb hby at_32) (by decide) (by decide) kk) ?_
    show own_Go p e below _ (T1.setTop (mkF m 52 #[.val (.long q1), .second, .val (.long q2), .second, .val (.long q3), .second, .val (.long (q3 &&& (9223372036854775807 : Int64))), .second, .val (.long (q1 + d1)), .second, .val (.long ((q1 + d1) - q1)), .second, .val (.long (0 : Int64)), .second] []))
    refine own_go (fun tt kk => XS.lload X1.here hx rfl (hb hby at_52) rfl kk) ?_
    show own_Go p e below _ (T1.setTop (mkF m 54 #[.val (.long q1), .second, .val (.long q2), .second, .val (.long q3), .second, .val (.long (q3 &&& (9223372036854775807 : Int64))), .second, .val (.long (q1 + d1)), .second, .val (.long ((q1 + d1) - q1)), .second, .val (.long (0 : Int64)), .second] [(.long ((q1 + d1) - q1))]))
    refine own_go (fun tt kk => XS.lload X1.here hx rfl (hb hby at_54) rfl kk) ?_
    show own_Go p e below _ (T1.setTop (mkF m 56 #[.val (.long q1), .second, .val (.long q2), .second, .val (.long q3), .second, .val (.long (q3 &&& (9223372036854775807 : Int64))), .second, .val (.long (q1 + d1)), .second, .val (.long ((q1 + d1) - q1)), .second, .val (.long (0 : Int64)), .second] [(.long (0 : Int64)), (.long ((q1 + d1) - q1))]))
    refine own_go (fun tt kk => XS.lcmp X1.here hx rfl (hb hby at_56) rfl kk) ?_
    show own_Go p e below _ (T1.setTop (mkF m 57 #[.val (.long q1), .second, .val (.long q2), .second, .val (.long q3), .second, .val (.long (q3 &&& (9223372036854775807 : Int64))), .second, .val (.long (q1 + d1)), .second, .val (.long ((q1 + d1) - q1)), .second, .val (.long (0 : Int64)), .second] [(.int (lcmpW ((q1 + d1) - q1) (0 : Int64)))]))
    refine own_go (fun tt kk => XS.ifNo X1.here hx rfl (hb hby at_57) rfl ((if0 _ _).trans (teq ((lw_eq ((q1 + d1) - q1) (0 : Int64)).mpr (own_eq64 (x := ((q1 + d1) - q1)) (y := (0 : Int64)) (i := ((q1 + d1) - q1).toInt) (j := 0) rfl rfl (by first | omega | (simp only [F0]; omega))))).2) kk) ?_
    show own_Go p e below _ (T1.setTop (mkF m 60 #[.val (.long q1), .second, .val (.long q2), .second, .val (.long q3), .second, .val (.long (q3 &&& (9223372036854775807 : Int64))), .second, .val (.long (q1 + d1)), .second, .val (.long ((q1 + d1) - q1)), .second, .val (.long (0 : Int64)), .second] []))
    refine own_go (fun tt kk => XS.lload X1.here hx rfl (hb hby at_60) rfl kk) ?_
    show own_Go p e below _ (T1.setTop (mkF m 62 #[.val (.long q1), .second, .val (.long q2), .second, .val (.long q3), .second, .val (.long (q3 &&& (9223372036854775807 : Int64))), .second, .val (.long (q1 + d1)), .second, .val (.long ((q1 + d1) - q1)), .second, .val (.long (0 : Int64)), .second] [(.long ((q1 + d1) - q1))]))
    refine own_go (fun tt kk => XS.lconst X1.here hx rfl (hb hby at_62) kk) ?_
    show own_Go p e below _ (T1.setTop (mkF m 63 #[.val (.long q1), .second, .val (.long q2), .second, .val (.long q3), .second, .val (.long (q3 &&& (9223372036854775807 : Int64))), .second, .val (.long (q1 + d1)), .second, .val (.long ((q1 + d1) - q1)), .second, .val (.long (0 : Int64)), .second] [(.long (0 : Int64)), (.long ((q1 + d1) - q1))]))
    refine own_go (fun tt kk => XS.lcmp X1.here hx rfl (hb hby at_63) rfl kk) ?_
    show own_Go p e below _ (T1.setTop (mkF m 64 #[.val (.long q1), .second, .val (.long q2), .second, .val (.long q3), .second, .val (.long (q3 &&& (9223372036854775807 : Int64))), .second, .val (.long (q1 + d1)), .second, .val (.long ((q1 + d1) - q1)), .second, .val (.long (0 : Int64)), .second] [(.int (lcmpW ((q1 + d1) - q1) (0 : Int64)))]))
    refine own_go (fun tt kk => XS.ifNo X1.here hx rfl (hb hby at_64) rfl ((if0 _ _).trans (flt (fun q => (own_nlt64 (x := ((q1 + d1) - q1)) (y := (0 : Int64)) (i := ((q1 + d1) - q1).toInt) (j := 0) rfl rfl (by omega)) ((lw_lt ((q1 + d1) - q1) (0 : Int64)).mp q))).1) kk) ?_
    show own_Go p e below _ (T1.setTop (mkF m 67 #[.val (.long q1), .second, .val (.long q2), .second, .val (.long q3), .second, .val (.long (q3 &&& (9223372036854775807 : Int64))), .second, .val (.long (q1 + d1)), .second, .val (.long ((q1 + d1) - q1)), .second, .val (.long (0 : Int64)), .second] []))
    refine own_go (fun tt kk => XS.lload X1.here hx rfl (hb hby at_67) rfl kk) ?_
    show own_Go p e below _ (T1.setTop (mkF m 69 #[.val (.long q1), .second, .val (.long q2), .second, .val (.long q3), .second, .val (.long (q3 &&& (9223372036854775807 : Int64))), .second, .val (.long (q1 + d1)), .second, .val (.long ((q1 + d1) - q1)), .second, .val (.long (0 : Int64)), .second] [(.long ((q1 + d1) - q1))]))
    refine own_go (fun tt kk => XS.lload X1.here hx rfl (hb hby at_69) rfl kk) ?_
    show own_Go p e below _ (T1.setTop (mkF m 71 #[.val (.long q1), .second, .val (.long q2), .second, .val (.long q3), .second, .val (.long (q3 &&& (9223372036854775807 : Int64))), .second, .val (.long (q1 + d1)), .second, .val (.long ((q1 + d1) - q1)), .second, .val (.long (0 : Int64)), .second] [(.long (q3 &&& (9223372036854775807 : Int64))), (.long ((q1 + d1) - q1))]))
    refine own_go (fun tt kk => XS.lcmp X1.here hx rfl (hb hby at_71) rfl kk) ?_
    show own_Go p e below _ (T1.setTop (mkF m 72 #[.val (.long q1), .second, .val (.long q2), .second, .val (.long q3), .second, .val (.long (q3 &&& (9223372036854775807 : Int64))), .second, .val (.long (q1 + d1)), .second, .val (.long ((q1 + d1) - q1)), .second, .val (.long (0 : Int64)), .second] [(.int (lcmpW ((q1 + d1) - q1) (q3 &&& (9223372036854775807 : Int64))))]))
    refine own_go (fun tt kk => XS.ifNo X1.here hx rfl (hb hby at_72) rfl ((if0 _ _).trans (flt (fun q => (own_nlt64 (x := (q3 &&& (9223372036854775807 : Int64))) (y := ((q1 + d1) - q1)) (i := (q3 &&& (9223372036854775807 : Int64)).toInt) (j := ((q1 + d1) - q1).toInt) rfl rfl (by omega)) ((lw_gt ((q1 + d1) - q1) (q3 &&& (9223372036854775807 : Int64))).mp q))).2.2.1) kk) ?_
    show own_Go p e below _ (T1.setTop (mkF m 75 #[.val (.long q1), .second, .val (.long q2), .second, .val (.long q3), .second, .val (.long (q3 &&& (9223372036854775807 : Int64))), .second, .val (.long (q1 + d1)), .second, .val (.long ((q1 + d1) - q1)), .second, .val (.long (0 : Int64)), .second] []))
    refine own_go (fun tt kk => XS.iconst X1.here hx rfl (hb hby at_75) kk) ?_
    show own_Go p e below _ (T1.setTop (mkF m 76 #[.val (.long q1), .second, .val (.long q2), .second, .val (.long q3), .second, .val (.long (q3 &&& (9223372036854775807 : Int64))), .second, .val (.long (q1 + d1)), .second, .val (.long ((q1 + d1) - q1)), .second, .val (.long (0 : Int64)), .second] [(.int (1 : Int32))]))
    refine own_go (fun tt kk => XS.goto X1.here hx rfl (pc0 := 76) (pc' := 80) rfl (hb hby at_76) (by decide) (by decide) kk) ?_
    show own_Go p e below _ (T1.setTop (mkF m 80 #[.val (.long q1), .second, .val (.long q2), .second, .val (.long q3), .second, .val (.long (q3 &&& (9223372036854775807 : Int64))), .second, .val (.long (q1 + d1)), .second, .val (.long ((q1 + d1) - q1)), .second, .val (.long (0 : Int64)), .second] [(.int (1 : Int32))]))
    exact own_retZ X1 hx hlk hret (by decide) (hb hby at_80) ⟨rfl, Fr.nil _⟩ (by decide) (by decide)
set_option maxRecDepth 65536 in
set_option maxHeartbeats 40000000 in
theorem comes_1 {Post : Tables → Env → Array Value → State → Outcome → State → Prop} (hpost : ∀ tb e args s v u, (limb_1_1.after args s (.returned v) u = true ∧ limb_1_2.after args s (.returned v) u = true ∧ True) → FrameEnd s (.returned v) u (Jvm.fieldLocs frame_1_writes args s ++ Jvm.arrayLocs frame_1_arrays args s ++ Jvm.staticLocs frame_1_statics s) 0 0 → Post tb e args s (.returned v) u) :
    ArmFor flags0 classFile x code maxLocals ret World_1 tables_1 room_1 Calls_1 rest_1 Pre_1 Post := by
  intro l hfl _ _ p e ha hc hk s m args below hf hA hF happ hP
  obtain ⟨hcalls, hrest, hpre⟩ := hP
  obtain ⟨-, -, -, hnamed, -, -, -, hat⟩ := (Spec.applies_iff hf).mp happ
  obtain ⟨hg, hn⟩ := and_e (Cond.before_iff.mp (show (Jvm.Cond.and given_1 narrow_1).before args s = true from hpre))
  obtain ⟨h1, h2⟩ := and_e hg
  obtain ⟨w0, w1, w2, rfl⟩ : ∃ w0 w1 w2 : Value, args = #[w0, w1, w2] := by
    have hs : args.size = 3 := by simpa [Cond.value, given_1] using h1
    obtain ⟨L⟩ := args
    match L, hs with
    | [w0, w1, w2], _ => exact ⟨w0, w1, w2, rfl⟩
  have hw := fun d (hd : d ∈ tables_1) => atoms_spec (ws := Jvm.Cond.code x code maxLocals ret :: tables_1) hat d (List.mem_cons_of_mem _ hd)
  obtain ⟨g0, h20⟩ := and_e h2
  obtain ⟨i0, e0⟩ := isL_v g0
  obtain rfl : w0 = (.long i0) := Option.some.inj e0
  obtain ⟨g1, h21⟩ := and_e h20
  obtain ⟨i1, e1⟩ := isL_v g1
  obtain rfl : w1 = (.long i1) := Option.some.inj e1
  obtain ⟨i2, e2⟩ := isL_v h21
  obtain rfl : w2 = (.long i2) := Option.some.inj e2
  obtain ⟨n, o, h1, h2, h3, _, L, rfl, ⟨rfl, N⟩, hq⟩ := rm0 l s _ hw tables_1 i0 i1 i2 s.heap p e ha hc hk s m _ below hf ((Spec.applies_iff_loose hf).mp happ).1 ⟨rfl, State.Warmed39.refl s, rfl⟩ trivial
  refine ⟨n, _, h1, h2, h3, hpost _ _ _ _ _ _ ⟨Cond.after_iff.mpr rfl, Cond.after_iff.mpr (eq_i res_at (Term.int_eval (1)) rfl), trivial⟩ ⟨hq.1, hq.2.1, (hq.2.2.sift fun y hy => Or.inr (N y hy)).mono (by decide) (by decide)⟩⟩
theorem main_1_1 : Claimed_1_1 := comes_1 fun _ _ _ _ _ _ h hF => ⟨h.1, hF⟩
theorem main_1_2 : Claimed_1_2 := comes_1 fun _ _ _ _ _ _ h hF => ⟨h.2.1, hF⟩
end Jvm.Pilot.@@N@@
namespace Jvm.Pilot.@@N@@
open Jvm Jvm.ClassFile Sem Op Lib Jvm.Free Jvm.Stand Jvm.Pilot.@@N@@.Jvm.D
/-! MADE BY PROGRAM (witnessworld.py) out of the Statement's table words and the real class files: 10 classes; the members and pool entries that the words name. The judged class is class 1, her method 1. -/
namespace start1
open Jvm.ClassFile
def u (s : String) : CpInfo := .utf8 (stringToUtf16 s)
/-- a pool by its gaps: so many unusable entries, then the entry; so many at the end -/
def gap : Nat → List CpInfo → List CpInfo
  | 0, r => r
  | n + 1, r => .unusable :: gap n r
def poolList (es : List (Nat × CpInfo)) (last : Nat) : List CpInfo := es.foldr (fun e r => gap e.1 (e.2 :: r)) (gap last [])
def pool (es : List (Nat × CpInfo)) (last : Nat) : Array CpInfo := ⟨poolList es last⟩
def fileOf (pool : Array CpInfo) (this : Nat) (attrs : Array Attribute := #[]) (ms : Array MethodInfo := #[]) (fl : Nat := 33) (sup : Nat := 0) (ifs : Array Nat := #[]) (fds : Array FieldInfo := #[]) : ClassFile where
  minorVersion := 0
  majorVersion := 65
  constantPool := pool
  accessFlags := fl
  thisClass := this
  superClass := sup
  interfaces := ifs
  fields := fds
  methods := ms
  attributes := attrs
def plain (name : String) (sup : Option ClassId) : Class where
  name := name
  kind := .ordinary
  loader := none
  accessFlags := 33
  super := sup
  interfaces := #[]
  cf := none
  fields := #[]
  methods := #[]
  instanceTypes := #[]
  staticTypes := #[]
  resolved := #[]
  callSites := []
  init := .initialized
  statics := none
  mirror := none

def pool0 : Array CpInfo := pool [(5, u "<init>"), (0, u "()V"), (1, .class_ 10), (1, u "java/lang/Object")] 113

def k0m0 : Method := { name := "<init>", desc := "()V", sig := { parameters := [], returnType := none }, accessFlags := 1, code := none }
/-- java/lang/Object -/
def k0 : Class := { plain "java/lang/Object" none with
  accessFlags := 33
  interfaces := #[]
  cf := some (fileOf pool0 8 #[] #[{ accessFlags := 1, nameIndex := 5, descriptorIndex := 6, attributes := #[] }] 33 0 #[] #[])
  fields := #[]
  methods := #[k0m0]
  instanceTypes := #[]
  staticTypes := #[]
  resolved := Array.replicate 124 none
  statics := none }

def pool1 : Array CpInfo := pool [(2, .class_ 4), (1, u "java/lang/Object"), (0, u "<init>"), (0, u "()V"), (2, .long 9223372036854775807), (1, .methodref 12 13), (0, .class_ 14), (0, .nameAndType 15 16), (0, u "com/example/turnstile/turnstile/Deadlines"), (0, u "after"), (0, u "(JJJ)J"), (0, .class_ 18), (0, u "com/example/turnstile/turnstile/DeadlinesAfterPinLaw"), (2, u "law"), (0, u "(JJJ)Z")] 3

def k1m0 : Method := { name := "<init>", desc := "()V", sig := { parameters := [], returnType := none }, accessFlags := 2, code := none }
def k1c1 : Code := { maxStack := 6, maxLocals := 14, code := code, exceptionTable := #[], attributes := #[] }
def k1m1 : Method := { name := "law", desc := "(JJJ)Z", sig := { parameters := [.long, .long, .long], returnType := some .boolean }, accessFlags := 9, code := some k1c1 }
/-- com/example/turnstile/turnstile/DeadlinesAfterPinLaw -/
def k1 : Class := { plain "com/example/turnstile/turnstile/DeadlinesAfterPinLaw" (some 0) with
  accessFlags := 49
  interfaces := #[]
  cf := some (fileOf pool1 17 #[] #[{ accessFlags := 2, nameIndex := 5, descriptorIndex := 6, attributes := #[] }, { accessFlags := 9, nameIndex := 21, descriptorIndex := 22, attributes := #[] }] 49 2 #[] #[])
  fields := #[]
  methods := #[k1m0, k1m1]
  instanceTypes := #[]
  staticTypes := #[]
  resolved := Array.replicate 26 none
  statics := none }

def pool2 : Array CpInfo := pool [(2, .class_ 4), (1, u "java/lang/Object"), (0, u "<init>"), (0, u "()V"), (11, .class_ 20), (1, u "com/example/turnstile/turnstile/Deadlines"), (0, u "after"), (0, u "(JJJ)J"), (0, .methodref 24 25), (0, .class_ 26), (0, .nameAndType 27 28), (0, u "java/lang/Math"), (0, u "max"), (0, u "(JJ)J"), (0, .methodref 24 30), (0, .nameAndType 31 28), (0, u "min")] 6

def k2m0 : Method := { name := "<init>", desc := "()V", sig := { parameters := [], returnType := none }, accessFlags := 2, code := none }
def k2c1 : Code := { maxStack := 6, maxLocals := 6, code := prog_1_method_3_code, exceptionTable := #[], attributes := #[] }
def k2m1 : Method := { name := "after", desc := "(JJJ)J", sig := { parameters := [.long, .long, .long], returnType := some .long }, accessFlags := 8, code := some k2c1 }
/-- com/example/turnstile/turnstile/Deadlines -/
def k2 : Class := { plain "com/example/turnstile/turnstile/Deadlines" (some 0) with
  accessFlags := 48
  interfaces := #[]
  cf := some (fileOf pool2 18 #[] #[{ accessFlags := 2, nameIndex := 5, descriptorIndex := 6, attributes := #[] }, { accessFlags := 8, nameIndex := 21, descriptorIndex := 22, attributes := #[] }] 48 2 #[] #[])
  fields := #[]
  methods := #[k2m0, k2m1]
  instanceTypes := #[]
  staticTypes := #[]
  resolved := Array.replicate 38 none
  statics := none }

def pool3 : Array CpInfo := pool [(1, .class_ 2), (0, u "java/lang/Math"), (1, .class_ 6), (1, u "java/lang/Object"), (0, u "<init>"), (0, u "()V"), (89, .class_ 100), (1, u "java/lang/Math$RandomNumberGeneratorHolder"), (20, u "(JJ)J"), (50, u "negativeZeroFloatBits"), (0, u "J"), (2, u "negativeZeroDoubleBits"), (21, u "max"), (2, u "min"), (43, u "$assertionsDisabled"), (0, u "Z"), (91, u "twoToTheDoubleScaleDown"), (0, u "D"), (4, u "twoToTheDoubleScaleUp"), (9, u "E"), (3, u "PI"), (2, u "TAU"), (2, u "DEGREES_TO_RADIANS"), (0, u "RADIANS_TO_DEGREES")] 94

def k3m0 : Method := { name := "<init>", desc := "()V", sig := { parameters := [], returnType := none }, accessFlags := 2, code := none }
def k3c1 : Code := { maxStack := 4, maxLocals := 4, code := jdk_29_method_66_code, exceptionTable := #[], attributes := #[] }
def k3m1 : Method := { name := "max", desc := "(JJ)J", sig := { parameters := [.long, .long], returnType := some .long }, accessFlags := 9, code := some k3c1 }
def k3c2 : Code := { maxStack := 4, maxLocals := 4, code := jdk_29_method_70_code, exceptionTable := #[], attributes := #[] }
def k3m2 : Method := { name := "min", desc := "(JJ)J", sig := { parameters := [.long, .long], returnType := some .long }, accessFlags := 9, code := some k3c2 }
/-- java/lang/Math -/
def k3 : Class := { plain "java/lang/Math" (some 0) with
  accessFlags := 49
  interfaces := #[]
  cf := some (fileOf pool3 1 #[.nestMembers #[98]] #[{ accessFlags := 2, nameIndex := 7, descriptorIndex := 8, attributes := #[] }, { accessFlags := 9, nameIndex := 198, descriptorIndex := 121, attributes := #[] }, { accessFlags := 9, nameIndex := 201, descriptorIndex := 121, attributes := #[] }] 49 4 #[] #[{ accessFlags := 25, nameIndex := 354, descriptorIndex := 339, attributes := #[] }, { accessFlags := 25, nameIndex := 358, descriptorIndex := 339, attributes := #[] }, { accessFlags := 25, nameIndex := 361, descriptorIndex := 339, attributes := #[] }, { accessFlags := 26, nameIndex := 364, descriptorIndex := 339, attributes := #[] }, { accessFlags := 26, nameIndex := 365, descriptorIndex := 339, attributes := #[] }, { accessFlags := 26, nameIndex := 172, descriptorIndex := 173, attributes := #[] }, { accessFlags := 26, nameIndex := 176, descriptorIndex := 173, attributes := #[] }, { accessFlags := 8, nameIndex := 344, descriptorIndex := 339, attributes := #[] }, { accessFlags := 8, nameIndex := 338, descriptorIndex := 339, attributes := #[] }, { accessFlags := 4120, nameIndex := 245, descriptorIndex := 246, attributes := #[] }])
  fields := #[{ name := "E", type := .double, accessFlags := 25, slot := 0, constantValue := 0 }, { name := "PI", type := .double, accessFlags := 25, slot := 1, constantValue := 0 }, { name := "TAU", type := .double, accessFlags := 25, slot := 2, constantValue := 0 }, { name := "DEGREES_TO_RADIANS", type := .double, accessFlags := 26, slot := 3, constantValue := 0 }, { name := "RADIANS_TO_DEGREES", type := .double, accessFlags := 26, slot := 4, constantValue := 0 }, { name := "negativeZeroFloatBits", type := .long, accessFlags := 26, slot := 5, constantValue := 0 }, { name := "negativeZeroDoubleBits", type := .long, accessFlags := 26, slot := 6, constantValue := 0 }, { name := "twoToTheDoubleScaleUp", type := .double, accessFlags := 8, slot := 7, constantValue := 0 }, { name := "twoToTheDoubleScaleDown", type := .double, accessFlags := 8, slot := 8, constantValue := 0 }, { name := "$assertionsDisabled", type := .boolean, accessFlags := 4120, slot := 9, constantValue := 0 }]
  methods := #[k3m0, k3m1, k3m2]
  instanceTypes := #[]
  staticTypes := #[.double, .double, .double, .double, .double, .long, .long, .double, .double, .boolean]
  resolved := Array.replicate 460 none
  statics := none }

def pool4 : Array CpInfo := pool [(1, u "java/lang/Cloneable"), (0, .class_ 1), (0, u "java/lang/Object"), (0, .class_ 3)] 3

/-- java/lang/Cloneable -/
def k4 : Class := { plain "java/lang/Cloneable" (some 0) with
  accessFlags := 1537
  interfaces := #[]
  cf := some (fileOf pool4 2 #[] #[] 1537 4 #[] #[])
  fields := #[]
  methods := #[]
  instanceTypes := #[]
  staticTypes := #[]
  resolved := Array.replicate 8 none
  statics := none }

def pool5 : Array CpInfo := pool [(1, u "java/io/Serializable"), (0, .class_ 1), (0, u "java/lang/Object"), (0, .class_ 3)] 3

/-- java/io/Serializable -/
def k5 : Class := { plain "java/io/Serializable" (some 0) with
  accessFlags := 1537
  interfaces := #[]
  cf := some (fileOf pool5 2 #[] #[] 1537 4 #[] #[])
  fields := #[]
  methods := #[]
  instanceTypes := #[]
  staticTypes := #[]
  resolved := Array.replicate 8 none
  statics := none }

/-- the primitive byte -/
def k6 : Class := { plain "byte" none with kind := .primitive 'B', accessFlags := 0x411 }
/-- [B -/
def k7 : Class := { plain "[B" (some 0) with kind := .array 6 .byte, interfaces := #[4, 5], accessFlags := 1041 }

/-- the primitive int -/
def k8 : Class := { plain "int" none with kind := .primitive 'I', accessFlags := 0x411 }
/-- [I -/
def k9 : Class := { plain "[I" (some 0) with kind := .array 8 .int, interfaces := #[4, 5], accessFlags := 1041 }

def heap : Heap := #[]
def classes : Array Class := #[k0, k1, k2, k3, k4, k5, k6, k7, k8, k9]
def interned : List (Array UInt16 × Addr) := []
def slotsUsed : Nat := 0
def theMethod : MethodId := ⟨1, 1⟩
def args0 : Array Value := #[.long 5, .long 7, .long 9]
def aboutOver (below : List Frame) : State where
  vm := { classes := classes, interned := interned.toArray }
  heap := heap
  slotsUsed := slotsUsed
  threads := #[{ frames := .invoking theMethod args0 :: below }]
def below0 : List Frame := [.native { method := ⟨0, 0⟩, args := #[] }]
def about1 : State := aboutOver below0
def p0 : Program := .bare "" "" ""
def e0 : Env := launch0.env 0 0 0
theorem w_frames : about1.frames = Frame.invoking theMethod args0 :: below0 := rfl
set_option maxRecDepth 65536 in
theorem w_args : argsFit about1.vm theMethod args0 = true := by decide +kernel
set_option maxRecDepth 65536 in
theorem w_heap : heapFits about1 = true := by decide +kernel
set_option maxRecDepth 65536 in
theorem w_runnable : about1.curStatus? = some .runnable := by decide +kernel
set_option maxRecDepth 65536 in
theorem w_alone : about1.alone = true := by decide +kernel
set_option maxRecDepth 65536 in
theorem w_named : about1.methodNamed? x = some theMethod := by decide +kernel
set_option maxRecDepth 65536 in
theorem w_hears : about1.hears theMethod below0 = true := by decide +kernel
set_option maxRecDepth 65536 in
theorem w_ripe : about1.ripe theMethod args0 below0 = true := by decide +kernel
theorem w_running : about1.status = .running := rfl
set_option maxRecDepth 65536 in
theorem w_room : about1.hasRoom e0.platform room_1 = true :=
  launch0.hasRoom_least _ room_1 (by decide +kernel) (by decide +kernel) (by decide +kernel) (by decide +kernel) (by decide +kernel) (by decide +kernel)
theorem allAtoms_all (ts : List Jvm.Cond) (a : Array Jvm.Value) (st : Jvm.State) : (allAtoms ts).before a st = ts.all (fun c => c.before a st) := by
  induction ts with
  | nil => rfl
  | cons c t ih =>
    show (Jvm.Cond.and c (allAtoms t)).before a st = _
    rw [Jvm.Cond.before_and, ih, List.all_cons]
def words1 : List Jvm.Cond := Jvm.Cond.code x code maxLocals ret :: tables_1
/-- a 'code' word, met by the world's own term for the bytes: nothing is compared byte by byte -/
theorem code_word {y : MethodName} {bytes : ByteArray} {mx : Nat} {rt : Option FieldType} {a : Array Value} {s : State} {m : MethodId} {meth : Method} {c : Code} (h1 : s.methodNamed? y = some m) (h2 : s.vm.method? m = some meth) (h3 : meth.code = some c) (h4 : c.code = bytes)
    (h5 : (c.maxLocals == mx && c.exceptionTable.isEmpty && decide (c.maxStack ≤ mostOperands) && decide (meth.sig.returnType = rt) && !meth.locks && decide (parseMethodDescriptor y.desc = some meth.sig)) = true) : (Jvm.Cond.code y bytes mx rt).before a s = true := by
  simp only [Bool.and_eq_true, beq_iff_eq, Bool.not_eq_true', decide_eq_true_eq] at h5
  obtain ⟨⟨⟨⟨⟨g1, g2⟩, g3⟩, g4⟩, g5⟩, g6⟩ := h5
  simp [Cond.before, Cond.holds, Cond.value, h1, h2, h3, h4, g1, g2, g3, g4, g5, g6]
def isCode : Jvm.Cond → Bool
  | .code _ _ _ _ => true
  | _ => false
theorem all_split {L : List Jvm.Cond} {P : Jvm.Cond → Bool} (h1 : L.all (fun c => isCode c || P c) = true) (h2 : ∀ c ∈ L.filter isCode, P c = true) : L.all P = true := by
  refine List.all_eq_true.mpr fun c hc => ?_
  have h := List.all_eq_true.mp h1 c hc
  rcases Bool.eq_false_or_eq_true (isCode c) with hi | hi
  · exact h2 c (List.mem_filter.mpr ⟨hc, hi⟩)
  · simpa [hi] using h
set_option maxRecDepth 65536 in
theorem w_c0 : (Jvm.Cond.code x code maxLocals ret).before args0 about1 = true := code_word (m := ⟨1, 1⟩) (meth := k1m1) (c := k1c1) (by decide +kernel) rfl rfl rfl (by decide +kernel)
set_option maxRecDepth 65536 in
theorem w_c1 : (Jvm.Cond.code ({ cls := "com/example/turnstile/turnstile/Deadlines", name := "after", desc := "(JJJ)J" } : Jvm.MethodName) prog_1_method_3_code (6 : Nat) (Option.some Jvm.ClassFile.FieldType.long)).before args0 about1 = true := code_word (m := ⟨2, 1⟩) (meth := k2m1) (c := k2c1) (by decide +kernel) rfl rfl rfl (by decide +kernel)
set_option maxRecDepth 65536 in
theorem w_c2 : (Jvm.Cond.code ({ cls := "java/lang/Math", name := "max", desc := "(JJ)J" } : Jvm.MethodName) jdk_29_method_66_code (4 : Nat) (Option.some Jvm.ClassFile.FieldType.long)).before args0 about1 = true := code_word (m := ⟨3, 1⟩) (meth := k3m1) (c := k3c1) (by decide +kernel) rfl rfl rfl (by decide +kernel)
set_option maxRecDepth 65536 in
theorem w_c3 : (Jvm.Cond.code ({ cls := "java/lang/Math", name := "min", desc := "(JJ)J" } : Jvm.MethodName) jdk_29_method_70_code (4 : Nat) (Option.some Jvm.ClassFile.FieldType.long)).before args0 about1 = true := code_word (m := ⟨3, 2⟩) (meth := k3m2) (c := k3c2) (by decide +kernel) rfl rfl rfl (by decide +kernel)
def codes1 : List Jvm.Cond := [Jvm.Cond.code x code maxLocals ret, Jvm.Cond.code ({ cls := "com/example/turnstile/turnstile/Deadlines", name := "after", desc := "(JJJ)J" } : Jvm.MethodName) prog_1_method_3_code (6 : Nat) (Option.some Jvm.ClassFile.FieldType.long), Jvm.Cond.code ({ cls := "java/lang/Math", name := "max", desc := "(JJ)J" } : Jvm.MethodName) jdk_29_method_66_code (4 : Nat) (Option.some Jvm.ClassFile.FieldType.long), Jvm.Cond.code ({ cls := "java/lang/Math", name := "min", desc := "(JJ)J" } : Jvm.MethodName) jdk_29_method_70_code (4 : Nat) (Option.some Jvm.ClassFile.FieldType.long)]
set_option maxRecDepth 65536 in
theorem codes_eq : words1.filter isCode = codes1 := rfl
theorem w_codes : ∀ c ∈ words1.filter isCode, c.before args0 about1 = true := by
  rw [codes_eq]
  intro c hc
  simp only [codes1, List.mem_cons, List.not_mem_nil, or_false] at hc
  rcases hc with rfl | rfl | rfl | rfl
  · exact w_c0
  · exact w_c1
  · exact w_c2
  · exact w_c3
set_option maxRecDepth 65536 in
theorem w_t1 : words1.all (fun c => isCode c || c.before args0 about1) = true := by decide +kernel
theorem w_tables : (allAtoms (Jvm.Cond.code x code maxLocals ret :: tables_1)).before args0 about1 = true := by
  rw [allAtoms_all]
  show words1.all (fun c => c.before args0 about1) = true
  refine all_split ?_ w_codes
  rw [w_t1]
set_option maxRecDepth 65536 in
theorem w_case : (Jvm.Cond.and given_1 narrow_1).before args0 about1 = true := by decide +kernel
theorem w_applies : (headSpec (Jvm.Cond.code x code maxLocals ret :: tables_1) room_1).applies x e0.platform about1 = true :=
  (Spec.applies_iff w_frames).mpr ⟨w_running, w_runnable, w_alone, w_named, w_hears, w_ripe, w_room, w_tables⟩
theorem atStart : AtStart classFile x code maxLocals ret World_1 tables_1 room_1 Calls_1 rest_1 Pre_1 launch0 p0 e0 about1 theMethod args0 below0 :=
  ⟨lists_1, trivial, launch0.admits_env _ _ _, launch0.least_env, fairChoices_fair.cas, fairChoices_fair.clock, w_frames, w_args, w_heap, w_applies, trivial, trivial, w_case⟩
end start1
theorem witness_1 : WitnessClaimed_1 := ⟨start1.p0, start1.e0, start1.about1, start1.theMethod, start1.args0, start1.below0, start1.atStart⟩
end Jvm.Pilot.@@N@@
