import JvmDerived
import JvmDerived.Pilot.@@N@@Statement
import JvmDerived.Pilot.@@N@@Code
set_option linter.unusedVariables false
set_option linter.unusedSimpArgs false
namespace Jvm.Pilot.@@N@@
open Jvm Jvm.ClassFile Sem Op Lib Jvm.Free Jvm.Stand Jvm.LawKit Jvm.RoadKit Bundle Jvm.Pilot.@@N@@.Jvm.D
section Own
variable {p : Program} {l : Launch} {e : Env} {R : Room} {s : State} {m : MethodId} {args : Array Value} {below : List Frame} {meth : Method} {c : Code} {T T' Z : State} {locs : List Loc} {cells slots : Nat} {P : Outcome → State → Prop} {a0 : Array Value} {h : Heap}
/-- from the frame g over the state T the run ends, and P holds of the end -/
def Ends (p : Program) (e : Env) (below : List Frame) (P : Outcome → State → Prop) (T : State) (g : JFrame) : Prop :=
  ∃ s₂ o, Steps p.tables e below (T.setTop g) s₂ ∧ s₂.status = .running ∧ Ended s₂ below o ∧ P o s₂
theorem Ends.by {g g' : JFrame} (h : ∀ t, Steps p.tables e below (T'.setTop g') t → Steps p.tables e below (T.setTop g) t) (k : Ends p e below P T' g') : Ends p e below P T g :=
  let ⟨s₂, o, h1, r⟩ := k; ⟨s₂, o, h _ h1, r⟩
theorem Ends.on {g g' : JFrame} (h : Steps p.tables e below (T.setTop g) (T'.setTop g')) (k : Ends p e below P T' g') : Ends p e below P T g :=
  let ⟨s₂, o, h1, r⟩ := k; ⟨s₂, o, h.trans h1, r⟩
/-- the end: it returned v, Q holds of v, the heap and the places written; the frame -/
def Fini (s : State) (Q : Option Value → Heap → List Loc → Prop) (rc rs : Nat) : Outcome → State → Prop :=
  fun o U' => ∃ v L, o = .returned v ∧ Q v U'.heap L ∧ FrameEnd s o U' L rc rs
/-- a body's contract: from these arguments over the heap h0 it returns with Q -/
def Con (l : Launch) (Z : State) (y : MethodName) (bytes : ByteArray) (maxL : Nat) (ret : Option FieldType) (rm : Room) (as' : Array Value) (h0 : Heap) (Q : Option Value → Heap → List Loc → Prop) : Prop :=
  ∀ ws : List Jvm.Cond, MetFree l y (head1 (Jvm.Cond.code y bytes maxL ret :: ws) rm) (fun a U => a = as' ∧ Z.Warmed39 U.vm ∧ U.heap = h0) (fun _ _ _ _ _ => True) (fun _ U o U' => ∃ v L, o = .returned v ∧ Q v U'.heap L ∧ FrameEnd U o U' L rm.cells rm.slots)
theorem Con.intro {y : MethodName} {bytes : ByteArray} {maxL : Nat} {ret : Option FieldType} {rm : Room} {as' : Array Value} {h0 : Heap} {Q : Option Value → Heap → List Loc → Prop} (hpl : plainFor y = true)
    (body : ∀ (p : Program) (e : Env) (s : State) (m : MethodId) (below : List Frame) (meth : Method) (c : Code) (s₁ : State), p.tables.exec = Jvm.exec → c.code = bytes → c.maxLocals = maxL → s.vm.findClass y.cls = some m.cls → meth.name = y.name → meth.sig.returnType = ret → meth.locks = false → Z.Warmed39 s.vm →
      Stand p l e rm s m as' below meth c s₁ [] 0 0 → s₁.heap = h0 → Ends p e below (Fini s Q rm.cells rm.slots) s₁ (entryFrame m as' maxL)) : Con l Z y bytes maxL ret rm as' h0 Q := by
  intro ws
  refine MetFree.of_bodySF hpl hisR ?_
  intro p e s m args below meth c s₁ Bd hml0 hP hK
  obtain ⟨rfl, hZ, hh⟩ := hP
  have X0 : Stand p l e rm s m args below meth c s₁ [] 0 0 := Stand.of_body Bd
  have e0 : s₁.heap = h0 := by rw [← hh, Bd.state]; rfl
  exact body p e s m below meth c s₁ Bd.exec Bd.bytes hml0 (findClass_of_methodNamed Bd.named) (name_of_methodNamed Bd.named Bd.method).1 Bd.returns Bd.notSynchronized hZ X0 e0
theorem Con.mono {y : MethodName} {bytes : ByteArray} {maxL : Nat} {ret : Option FieldType} {rm : Room} {as' : Array Value} {h0 : Heap} {Q Q' : Option Value → Heap → List Loc → Prop} (C : Con l Z y bytes maxL ret rm as' h0 Q) (hq : ∀ v h L, Q v h L → Q' v h L) : Con l Z y bytes maxL ret rm as' h0 Q' :=
  fun ws p e ha hc hk s m args below hf happ hP hK => let ⟨n, o, h1, h2, h3, v, L, r1, r2, r3⟩ := C ws p e ha hc hk s m args below hf happ hP hK; ⟨n, o, h1, h2, h3, v, L, r1, hq _ _ _ r2, r3⟩
theorem Ends.cast {g g' : JFrame} (q : g = g') (k : Ends p e below P T g') : Ends p e below P T g := q ▸ k
theorem Ends.retV (X : Stand p l e R s m args below meth c T locs cells slots) (hx : p.tables.exec = Jvm.exec) (hlk : meth.locks = false) {pc : Nat} {Ls : Array Slot} (hret : meth.sig.returnType = none) (hd : decode c.code pc = .ok (.return_, 1))
    {Q : Option Value → Heap → List Loc → Prop} {rc rs : Nat} (hc : cells ≤ rc) (hs : slots ≤ rs) (hQ : Q none T.heap locs) : Ends p e below (Fini s Q rc rs) T (mkF m pc Ls []) := by
  obtain ⟨fs, hr, hrun, hended, hW, hsame⟩ := X.leave (v := none) (fun _ => rfl) hlk
  exact ⟨_, _, X.returnOut hx hret hd hr, hrun, hended, _, _, rfl, hQ, ⟨_, rfl⟩, hW, hsame.mono hc hs⟩
theorem Ends.retI (X : Stand p l e R s m args below meth c T locs cells slots) (hx : p.tables.exec = Jvm.exec) (hlk : meth.locks = false) {pc : Nat} {Ls : Array Slot} {z : Int32} {rest : List Value} (hret : meth.sig.returnType = some .int) (hd : decode c.code pc = .ok (.ireturn, 1))
    {Q : Option Value → Heap → List Loc → Prop} {rc rs : Nat} (hc : cells ≤ rc) (hs : slots ≤ rs) (hQ : Q (some (.int z)) T.heap locs) : Ends p e below (Fini s Q rc rs) T (mkF m pc Ls (.int z :: rest)) := by
  obtain ⟨fs, hr, hrun, hended, hW, hsame⟩ := X.leave (v := some (.int z)) (fun h => by rw [hret] at h; cases h) hlk
  exact ⟨_, _, retOut X hx hret rfl (Or.inl ⟨rfl, Or.inl rfl, z, rfl⟩) hd hr, hrun, hended, _, _, rfl, hQ, ⟨_, rfl⟩, hW, hsame.mono hc hs⟩
theorem Ends.retL (X : Stand p l e R s m args below meth c T locs cells slots) (hx : p.tables.exec = Jvm.exec) (hlk : meth.locks = false) {pc : Nat} {Ls : Array Slot} {z : Int64} {rest : List Value} (hret : meth.sig.returnType = some .long) (hd : decode c.code pc = .ok (.lreturn, 1))
    {Q : Option Value → Heap → List Loc → Prop} {rc rs : Nat} (hc : cells ≤ rc) (hs : slots ≤ rs) (hQ : Q (some (.long z)) T.heap locs) : Ends p e below (Fini s Q rc rs) T (mkF m pc Ls (.long z :: rest)) := by
  obtain ⟨fs, hr, hrun, hended, hW, hsame⟩ := X.leave (v := some (.long z)) (fun h => by rw [hret] at h; cases h) hlk
  exact ⟨_, _, retOut X hx hret rfl (Or.inr (Or.inl ⟨rfl, rfl, z, rfl⟩)) hd hr, hrun, hended, _, _, rfl, hQ, ⟨_, rfl⟩, hW, hsame.mono hc hs⟩
theorem Ends.retA (X : Stand p l e R s m args below meth c T locs cells slots) (hx : p.tables.exec = Jvm.exec) (hlk : meth.locks = false) {pc : Nat} {Ls : Array Slot} {t : FieldType} {a : Addr} {rest : List Value} (hret : meth.sig.returnType = some t) (ht : t.isReference = true) (hn : narrow t (.ref a) = .ref a) (hd : decode c.code pc = .ok (.areturn, 1))
    {Q : Option Value → Heap → List Loc → Prop} {rc rs : Nat} (hc : cells ≤ rc) (hs : slots ≤ rs) (hQ : Q (some (.ref a)) T.heap locs) : Ends p e below (Fini s Q rc rs) T (mkF m pc Ls (.ref a :: rest)) := by
  obtain ⟨fs, hr, hrun, hended, hW, hsame⟩ := X.leave (v := some (.ref a)) (fun h => by rw [hret] at h; cases h) hlk
  exact ⟨_, _, retOut X hx hret hn (Or.inr (Or.inr (Or.inr (Or.inr ⟨rfl, ht, rfl⟩)))) hd hr, hrun, hended, _, _, rfl, hQ, ⟨_, rfl⟩, hW, hsame.mono hc hs⟩
/-- a boolean that is 0 or 1 -/
theorem Ends.retZ (X : Stand p l e R s m args below meth c T locs cells slots) (hx : p.tables.exec = Jvm.exec) (hlk : meth.locks = false) {pc : Nat} {Ls : Array Slot} {z : Int32} {rest : List Value} (hret : meth.sig.returnType = some .boolean) (hd : decode c.code pc = .ok (.ireturn, 1)) (h01 : z &&& 1 = z)
    {Q : Option Value → Heap → List Loc → Prop} {rc rs : Nat} (hc : cells ≤ rc) (hs : slots ≤ rs) (hQ : Q (some (.int z)) T.heap locs) : Ends p e below (Fini s Q rc rs) T (mkF m pc Ls (.int z :: rest)) := by
  obtain ⟨fs, hr, hrun, hended, hW, hsame⟩ := X.leave (v := some (.int z)) (fun h => by rw [hret] at h; cases h) hlk
  have hn : nar .boolean z = z := h01
  refine ⟨_, _, retN X hx (t := .boolean) hret (by simp) hd (fs := fs) ?_, hrun, hended, _, _, rfl, hQ, ⟨_, rfl⟩, hW, hsame.mono hc hs⟩
  rw [hn]; exact hr
/-- a static method by its contract -/
theorem Ends.callS (X : Stand p l e R s m args below meth c T locs cells slots) (hx : p.tables.exec = Jvm.exec) (hZ : Z.Warmed39 s.vm) {own : String} {index : Nat} {y : MethodName} {bytes : ByteArray} {maxL : Nat} {ret : Option FieldType}
    (hown : s.vm.findClass own = some m.cls) (w1 : (Jvm.Cond.methodLink own index y).before a0 Z = true) (w2 : (Jvm.Cond.static y).before a0 Z = true) (w3 : (Jvm.Cond.initialized y.cls).before a0 Z = true) (w4 : (Jvm.Cond.code y bytes maxL ret).before a0 Z = true)
    (hy : y.cls ≠ "java/lang/invoke/MethodHandle" ∧ y.cls ≠ "java/lang/invoke/VarHandle") {rm : Room} {argsL rest : List Value} {Q : Option Value → Heap → List Loc → Prop} (C : Con l Z y bytes maxL ret rm argsL.toArray h Q) (eT : T.heap = h)
    {pc : Nat} {Ls : Array Slot} (hsize : Ls.size = c.maxLocals) (hd : decode c.code pc = .ok (.invokestatic index, 3)) (hlen : ∀ sig, parseMethodDescriptor y.desc = some sig → argsL.length = sig.parameters.length)
    (W : Nat) (hW : (rest.map fun v => v.category).sum ≤ W) (hf : rm.frames + 1 ≤ R.frames) (hl : W + (maxL + 11) + rm.locals ≤ R.locals) (hc : cells + rm.cells ≤ R.cells) (hs : slots + rm.slots ≤ R.slots)
    (k : ∀ v T' L, Stand p l e R s m args below meth c T' (locs ++ L) (cells + rm.cells) (slots + rm.slots) → Q v T'.heap L → Ends p e below P T' (mkF m (pc + 3) Ls (v.toList ++ rest))) :
    Ends p e below P T (mkF m pc Ls (argsL.reverse ++ rest)) := by
  obtain ⟨v, _, ⟨T1, L1, k1, n1⟩, -, X1, ⟨Lc, hQ, l1, y1, z1⟩, st⟩ := Jvm.LawKit.callS X hx (y := y) hown (mvT hZ w1) (mvT hZ w2) (mvT hZ w3) (mvT hZ w4) hy (backOf (W := W) (C []) hZ w4 w3 hf hl) (g := mkF m pc Ls (argsL.reverse ++ rest)) rfl hsize (argsL := argsL) (rest := rest) hlen rfl (by show 2 * 0 + _ ≤ _; omega) hd (fun _ _ => ⟨rfl, eT, hc, hs⟩)
  dsimp only [Pt.U, Pt.locs, Pt.cells, Pt.slots] at X1 l1 y1 z1 st hQ
  subst l1 y1 z1
  exact Ends.by st (k v T1 Lc X1 hQ)
/-- a constructor by its contract -/
theorem Ends.callI (X : Stand p l e R s m args below meth c T locs cells slots) (hx : p.tables.exec = Jvm.exec) (hZ : Z.Warmed39 s.vm) {own : String} {index : Nat} {y : MethodName} {bytes : ByteArray} {maxL : Nat} (hy1 : y.name = "<init>")
    (hown : s.vm.findClass own = some m.cls) (w1 : (Jvm.Cond.methodLink own index y).before a0 Z = true) (w2 : (Jvm.Cond.instanceMethod y).before a0 Z = true) (w3 : (Jvm.Cond.initialized y.cls).before a0 Z = true) (w4 : (Jvm.Cond.code y bytes maxL none).before a0 Z = true)
    (hy : y.cls ≠ "java/lang/invoke/MethodHandle" ∧ y.cls ≠ "java/lang/invoke/VarHandle") {rm : Room} {a : Addr} {argsL rest : List Value} {Q : Option Value → Heap → List Loc → Prop} (C : Con l Z y bytes maxL none rm (.ref a :: argsL).toArray h Q) (eT : T.heap = h)
    {pc : Nat} {Ls : Array Slot} (hsize : Ls.size = c.maxLocals) (hd : decode c.code pc = .ok (.invokespecial index, 3)) (hlen : ∀ sig, parseMethodDescriptor y.desc = some sig → argsL.length = sig.parameters.length)
    (W : Nat) (hW : (rest.map fun v => v.category).sum ≤ W) (hf : rm.frames + 1 ≤ R.frames) (hl : W + (maxL + 11) + rm.locals ≤ R.locals) (hc : cells + rm.cells ≤ R.cells) (hs : slots + rm.slots ≤ R.slots)
    (k : ∀ v T' L, Stand p l e R s m args below meth c T' (locs ++ L) (cells + rm.cells) (slots + rm.slots) → Q v T'.heap L → Ends p e below P T' (mkF m (pc + 3) Ls (v.toList ++ rest))) :
    Ends p e below P T (mkF m pc Ls (argsL.reverse ++ .ref a :: rest)) := by
  obtain ⟨v, _, ⟨T1, L1, k1, n1⟩, -, X1, ⟨Lc, hQ, l1, y1, z1⟩, st⟩ := X.specialBack hx (y := y) hy1 hown (mvT hZ w1) (mvT hZ w2) (mvT hZ w4) hy (backOf (W := W) (C []) hZ w4 w3 hf hl) (g := mkF m pc Ls (argsL.reverse ++ .ref a :: rest)) rfl hsize (Steps.refl _) (a := a) (argsL := argsL) (rest := rest) hlen rfl (by show 2 * 0 + _ ≤ _; omega) hd (fun _ _ => ⟨rfl, eT, hc, hs⟩)
  dsimp only [Pt.U, Pt.locs, Pt.cells, Pt.slots] at X1 l1 y1 z1 st hQ
  subst l1 y1 z1
  exact Ends.on st (k v T1 Lc X1 hQ)
/-- an instance method, declared and selected in the receiver's own class -/
theorem Ends.callV (X : Stand p l e R s m args below meth c T locs cells slots) (hx : p.tables.exec = Jvm.exec) (hZ : Z.Warmed39 s.vm) {own : String} {index : Nat} {y : MethodName} {bytes : ByteArray} {maxL : Nat} {ret : Option FieldType}
    (hown : s.vm.findClass own = some m.cls) (w1 : (Jvm.Cond.methodLink own index y).before a0 Z = true) (wd : (Jvm.Cond.declares y).before a0 Z = true) (w2 : (Jvm.Cond.instanceMethod y).before a0 Z = true) (ws : (Jvm.Cond.selects y.cls y y).before a0 Z = true) (w3 : (Jvm.Cond.initialized y.cls).before a0 Z = true) (w4 : (Jvm.Cond.code y bytes maxL ret).before a0 Z = true)
    (hy : y.cls ≠ "java/lang/invoke/MethodHandle" ∧ y.cls ≠ "java/lang/invoke/VarHandle") {rm : Room} {a : Addr} {argsL rest : List Value} {Q : Option Value → Heap → List Loc → Prop} (C : Con l Z y bytes maxL ret rm (.ref a :: argsL).toArray h Q) (eT : T.heap = h) (E : Exa Z h a y.cls)
    {pc : Nat} {Ls : Array Slot} (hsize : Ls.size = c.maxLocals) (hd : decode c.code pc = .ok (.invokevirtual index, 3)) (hlen : ∀ sig, parseMethodDescriptor y.desc = some sig → argsL.length = sig.parameters.length)
    (W : Nat) (hW : (rest.map fun v => v.category).sum ≤ W) (hf : rm.frames + 1 ≤ R.frames) (hl : W + (maxL + 11) + rm.locals ≤ R.locals) (hc : cells + rm.cells ≤ R.cells) (hs : slots + rm.slots ≤ R.slots)
    (k : ∀ v T' L, Stand p l e R s m args below meth c T' (locs ++ L) (cells + rm.cells) (slots + rm.slots) → Q v T'.heap L → Ends p e below P T' (mkF m (pc + 3) Ls (v.toList ++ rest))) :
    Ends p e below P T (mkF m pc Ls (argsL.reverse ++ .ref a :: rest)) := by
  obtain ⟨cq, kq, qa, qb, qc⟩ := isOf (T := T) hZ eT E
  obtain ⟨v, _, ⟨T1, L1, k1, n1⟩, -, X1, ⟨Lc, hQ, l1, y1, z1⟩, st⟩ := X.virtualBack hx (y := y) (z := y) hown (mvT hZ w1) (mvT hZ wd) (notFace_of_selects (args := #[]) (mvT hZ ws)) (mvT hZ ws) (mvT hZ w2) hy (backOf (W := W) (C []) hZ w4 w3 hf hl) qa qc (g := mkF m pc Ls (argsL.reverse ++ .ref a :: rest)) rfl hsize (Steps.refl _) (argsL := argsL) (rest := rest) hlen rfl (by show 2 * 0 + _ ≤ _; omega) hd (fun _ _ => ⟨rfl, eT, hc, hs⟩)
  dsimp only [Pt.U, Pt.locs, Pt.cells, Pt.slots] at X1 l1 y1 z1 st hQ
  subst l1 y1 z1
  exact Ends.on st (k v T1 Lc X1 hQ)
/-- nothing is written, nothing made: it returns v -/
def Pure (h0 : Heap) (r : Option Value) (v : Option Value) (h : Heap) (L : List Loc) : Prop := v = r ∧ h = h0 ∧ L = []
/-- the six comparisons, both ways at once -/
theorem Ends.icmp (X : Stand p l e R s m args below meth c T locs cells slots) (hx : p.tables.exec = Jvm.exec) {cd : ClassFile.Cond} {x y : Int32} {o : Int} {pc : Nat} {Ls : Array Slot} {rest : List Value} (hd : decode c.code pc = .ok (.if_icmp cd o, 3)) (pc' : Nat) (ho : 0 ≤ (pc : Int) + o) (hp : ((pc : Int) + o).toNat = pc')
    (kT : if_icmp.holds cd x y = true → Ends p e below P T (mkF m pc' Ls rest)) (kF : if_icmp.holds cd x y = false → Ends p e below P T (mkF m (pc + 3) Ls rest)) : Ends p e below P T (mkF m pc Ls (.int y :: .int x :: rest)) := by
  rcases hb : if_icmp.holds cd x y with _ | _
  · exact Ends.by (fun _ => XS.icmpNo X.here hx rfl hd rfl hb) (kF hb)
  · exact Ends.by (fun _ => XS.icmpYes X.here hx rfl (pc0 := pc) (pc' := pc') rfl hd rfl hb ho hp) (kT hb)
theorem own_wrap {x y : Int} (h : (x - y) % 4294967296 = 0) (r : -2147483648 ≤ x ∧ x < 2147483648) (b : -2147483648 ≤ y ∧ y < 2147483648) : x = y := by omega
theorem own_andor (x a b : Int32) : (x &&& a) ||| (x &&& b) = x &&& (a ||| b) := by
  apply Int32.toBitVec_inj.mp
  rw [Int32.toBitVec_or, Int32.toBitVec_and, Int32.toBitVec_and, Int32.toBitVec_and, Int32.toBitVec_or, ← BitVec.and_or_distrib_left]
theorem own_lt {x y : Int32} : (if_icmp.holds .lt x y = true → x < y) ∧ (if_icmp.holds .lt x y = false → ¬ x < y) := ⟨fun q => Classical.byContradiction fun n => (by rw [(flt n).1] at q; cases q), fun q n => (by rw [(tlt n).1] at q; cases q)⟩
theorem own_ge {x y : Int32} : (if_icmp.holds .ge x y = true → ¬ x < y) ∧ (if_icmp.holds .ge x y = false → x < y) := ⟨fun q n => (by rw [(tlt n).2.1] at q; cases q), fun q => Classical.byContradiction fun n => (by rw [(flt n).2.1] at q; cases q)⟩
theorem own_gt {x y : Int32} : (if_icmp.holds .gt x y = true → y < x) ∧ (if_icmp.holds .gt x y = false → ¬ y < x) := ⟨fun q => Classical.byContradiction fun n => (by rw [(flt n).2.2.1] at q; cases q), fun q n => (by rw [(tlt n).2.2.1] at q; cases q)⟩
theorem own_le {x y : Int32} : (if_icmp.holds .le x y = true → ¬ y < x) ∧ (if_icmp.holds .le x y = false → y < x) := ⟨fun q n => (by rw [(tlt n).2.2.2] at q; cases q), fun q => Classical.byContradiction fun n => (by rw [(flt n).2.2.2] at q; cases q)⟩
theorem own_eq {x y : Int32} : (if_icmp.holds .eq x y = true → x = y) ∧ (if_icmp.holds .eq x y = false → ¬ x = y) := ⟨fun q => Classical.byContradiction fun n => (by rw [(feq n).1] at q; cases q), fun q n => (by rw [(teq n).1] at q; cases q)⟩
theorem own_ne {x y : Int32} : (if_icmp.holds .ne x y = true → ¬ x = y) ∧ (if_icmp.holds .ne x y = false → x = y) := ⟨fun q n => (by rw [(teq n).2] at q; cases q), fun q => Classical.byContradiction fun n => (by rw [(feq n).2] at q; cases q)⟩
theorem Ends.ifc (X : Stand p l e R s m args below meth c T locs cells slots) (hx : p.tables.exec = Jvm.exec) {cd : ClassFile.Cond} {x : Int32} {o : Int} {pc : Nat} {Ls : Array Slot} {rest : List Value} (hd : decode c.code pc = .ok (.ifCond cd o, 3)) (pc' : Nat) (ho : 0 ≤ (pc : Int) + o) (hp : ((pc : Int) + o).toNat = pc')
    (kT : if_icmp.holds cd x 0 = true → Ends p e below P T (mkF m pc' Ls rest)) (kF : if_icmp.holds cd x 0 = false → Ends p e below P T (mkF m (pc + 3) Ls rest)) : Ends p e below P T (mkF m pc Ls (.int x :: rest)) := by
  rcases hb : if_icmp.holds cd x 0 with _ | _
  · exact Ends.by (fun _ => XS.ifNo X.here hx rfl hd rfl ((if0 _ _).trans hb)) (kF hb)
  · exact Ends.by (fun _ => XS.ifYes X.here hx rfl (pc0 := pc) (pc' := pc') rfl hd rfl ((if0 _ _).trans hb) ho hp) (kT hb)
end Own
end Jvm.Pilot.@@N@@
namespace Jvm.Pilot.@@N@@
open Jvm Jvm.ClassFile Sem Op Lib Jvm.Free Jvm.Stand Jvm.LawKit Jvm.RoadKit Bundle Jvm.Pilot.@@N@@.Jvm.D
section Own2
variable {p : Program} {l : Launch} {e : Env} {R : Room} {s : State} {m : MethodId} {args : Array Value} {below : List Frame} {meth : Method} {c : Code} {T T' Z : State} {locs : List Loc} {cells slots : Nat} {P : Outcome → State → Prop} {a0 : Array Value} {h h' h0 : Heap} {a b : Addr} {ty : FieldType} {n k n0 : Nat} {f : Nat → Value} {ws : List Addr}
/-- g with v at the place k -/
def upd {α : Type} (g : Nat → α) (k : Nat) (v : α) : Nat → α := fun i => if i = k then v else g i
theorem upd_hit {α : Type} (g : Nat → α) (k : Nat) (v : α) : upd g k v k = v := if_pos rfl
theorem upd_miss {α : Type} (g : Nat → α) {k i : Nat} (v : α) (q : i ≠ k) : upd g k v i = g i := if_neg q
/-- an array of n elements, the i-th is f i -/
def Af (Z : State) (h : Heap) (a : Addr) (ty : FieldType) (n : Nat) (f : Nat → Value) : Prop :=
  ∃ c : Cell, Arr Z h a c ty ∧ c.slots.size = n ∧ n < 2147483648 ∧ (∀ i, i < n → c.slots[i]? = some (f i)) ∧ ∀ i, i < n → fits ty (f i) = true
theorem Af.lt (F : Af Z h a ty n f) : a < h.size := by obtain ⟨c, A, -⟩ := F; exact A.lt
theorem Af.small (F : Af Z h a ty n f) : n < 2147483648 := by obtain ⟨c, -, -, q, -⟩ := F; exact q
theorem Af.ext (F : Af Z h a ty n f) (E : Ext h h') : Af Z h' a ty n f := by obtain ⟨c, A, r⟩ := F; exact ⟨c, A.ext E, r⟩
theorem Af.keep (F : Af Z h a ty n f) (K : Keep h h' ws) (q : a ∉ ws) : Af Z h' a ty n f := by obtain ⟨c, A, r⟩ := F; exact ⟨c, ⟨K.2.1 a c A.1 q, A.2⟩, r⟩
theorem Af.other {sl : Nat} {v : Value} (F : Af Z h b ty n f) (W : Wr h h' a sl v) (q : b ≠ a) : Af Z h' b ty n f := by obtain ⟨c, A, r⟩ := F; exact ⟨c, A.other W q, r⟩
theorem Af.congr {f' : Nat → Value} (F : Af Z h a ty n f) (q : ∀ i, i < n → f' i = f i) : Af Z h a ty n f' := by
  obtain ⟨c, A, r1, r2, r3, r4⟩ := F; exact ⟨c, A, r1, r2, fun i hi => by rw [q i hi]; exact r3 i hi, fun i hi => by rw [q i hi]; exact r4 i hi⟩
theorem Af.set {v : Value} (F : Af Z h a ty n f) (W : Wr h h' a k v) (hk : k < n) (hv : fits ty v = true) : Af Z h' a ty n (upd f k v) := by
  obtain ⟨c, A, r1, r2, r3, r4⟩ := F
  refine ⟨c.setSlot k v, A.same W, by rw [sz_set]; exact r1, r2, fun i hi => ?_, fun i hi => ?_⟩
  · by_cases q : i = k
    · subst q; rw [upd_hit]; simp [Cell.setSlot, r1, hi]
    · rw [upd_miss _ _ q, ← r3 i hi]; simp [Cell.setSlot, Array.getElem?_setIfInBounds, Ne.symm q]
  · by_cases q : i = k
    · subst q; rw [upd_hit]; exact hv
    · rw [upd_miss _ _ q]; exact r4 i hi
theorem Af.new {k : ClassId} {z : Int32} (A : Arr Z h a (newA k ty z) ty) (q : z.toInt = (n : Int)) (hd : fits ty (defaultValue ty) = true) : Af Z h a ty n (fun _ => defaultValue ty) := by
  have e : z.toNatClampNeg = n := by show z.toInt.toNat = n; omega
  have r := z.toInt_lt
  refine ⟨_, A, by rw [sz_new, e], by omega, fun i hi => ?_, fun i _ => hd⟩
  simp [newA, e, hi]
theorem own_idx {j : Int32} (q : j.toInt = (k : Int)) : j.toNatClampNeg = k ∧ ¬ j < 0 := by
  refine ⟨by show j.toInt.toNat = k; omega, ?_⟩
  rw [Int32.lt_iff_toInt_lt]; have : (0 : Int32).toInt = 0 := rfl; omega
theorem own_inb {j : Int32} {c : Cell} (S : c.slots.size = n) (q : j.toInt = (k : Int)) (hk : k < n) : ¬ (j < 0 ∨ c.slots.size ≤ j.toNatClampNeg) := by
  obtain ⟨q1, q2⟩ := own_idx q
  rw [S, q1]; intro o; rcases o with o | o
  · exact q2 o
  · omega
/-- the array's length -/
theorem Ends.len (X : Stand p l e R s m args below meth c T locs cells slots) (hx : p.tables.exec = Jvm.exec) (hZ : Z.Warmed39 s.vm) (eT : T.heap = h) (F : Af Z h a ty n f) {z : Int32} (hz : z.toInt = (n : Int)) {pc : Nat} {Ls : Array Slot} {rest : List Value} (hd : decode c.code pc = .ok (.arraylength, 1))
    (kk : Ends p e below P T (mkF m (pc + 1) Ls (.int z :: rest))) : Ends p e below P T (mkF m pc Ls (.ref a :: rest)) := by
  obtain ⟨cl, A, r1, r2, -⟩ := F
  refine Ends.by (fun t => X.arraylength hx (by rw [eT]; exact A.1) (State.isArrayOf_alike hZ.alike A.2.1) (g := mkF m pc Ls (.ref a :: rest)) rfl rfl hd t) ?_
  have q : cl.slots.size.toInt32 = z := by
    apply Int32.toInt_inj.mp; rw [r1, hz]; exact Int32.toInt_ofNat_of_lt (by omega)
  rw [q]; exact kk
theorem Ends.ldB (X : Stand p l e R s m args below meth c T locs cells slots) (hx : p.tables.exec = Jvm.exec) (hZ : Z.Warmed39 s.vm) (eT : T.heap = h) (F : Af Z h a .byte n f) {j : Int32} (hj : j.toInt = (k : Int)) (hk : k < n) {v : Value} (hv : f k = v) {pc : Nat} {Ls : Array Slot} {rest : List Value} (hd : decode c.code pc = .ok (.baload, 1))
    (kk : Ends p e below P T (mkF m (pc + 1) Ls (v :: rest))) : Ends p e below P T (mkF m pc Ls (.int j :: .ref a :: rest)) := by
  obtain ⟨cl, A, r1, r2, r3, -⟩ := F
  exact Ends.by (fun t => X.baloadBytes hx (j := j) (v := v) (by rw [eT]; exact A.1) (State.isArrayOf_alike hZ.alike A.2.1) A.2.2 (own_inb r1 hj hk) (by rw [(own_idx hj).1, ← hv]; exact r3 k hk) (g := mkF m pc Ls (.int j :: .ref a :: rest)) rfl rfl hd t) kk
theorem Ends.ldI (X : Stand p l e R s m args below meth c T locs cells slots) (hx : p.tables.exec = Jvm.exec) (hZ : Z.Warmed39 s.vm) (eT : T.heap = h) (F : Af Z h a .int n f) {j : Int32} (hj : j.toInt = (k : Int)) (hk : k < n) {v : Value} (hv : f k = v) {pc : Nat} {Ls : Array Slot} {rest : List Value} (hd : decode c.code pc = .ok (.iaload, 1))
    (kk : Ends p e below P T (mkF m (pc + 1) Ls (v :: rest))) : Ends p e below P T (mkF m pc Ls (.int j :: .ref a :: rest)) := by
  obtain ⟨cl, A, r1, r2, r3, -⟩ := F
  exact Ends.by (fun t => X.iaload hx (j := j) (v := v) (by rw [eT]; exact A.1) (State.isArrayOf_alike hZ.alike A.2.1) A.2.2 (own_inb r1 hj hk) (by rw [(own_idx hj).1, ← hv]; exact r3 k hk) (g := mkF m pc Ls (.int j :: .ref a :: rest)) rfl rfl hd t) kk
theorem Ends.ldJ (X : Stand p l e R s m args below meth c T locs cells slots) (hx : p.tables.exec = Jvm.exec) (hZ : Z.Warmed39 s.vm) (eT : T.heap = h) (F : Af Z h a .long n f) {j : Int32} (hj : j.toInt = (k : Int)) (hk : k < n) {v : Value} (hv : f k = v) {pc : Nat} {Ls : Array Slot} {rest : List Value} (hd : decode c.code pc = .ok (.laload, 1))
    (kk : Ends p e below P T (mkF m (pc + 1) Ls (v :: rest))) : Ends p e below P T (mkF m pc Ls (.int j :: .ref a :: rest)) := by
  obtain ⟨cl, A, r1, r2, r3, -⟩ := F
  exact Ends.by (fun t => X.laload hx (j := j) (v := v) (by rw [eT]; exact A.1) (State.isArrayOf_alike hZ.alike A.2.1) A.2.2 (own_inb r1 hj hk) (by rw [(own_idx hj).1, ← hv]; exact r3 k hk) (g := mkF m pc Ls (.int j :: .ref a :: rest)) rfl rfl hd t) kk
theorem own_snoc {sl : Nat} (N : Fr n0 locs) (q : n0 ≤ a) : Fr n0 (locs ++ [⟨a, sl⟩]) := N.app fun y hy => by cases List.mem_singleton.mp hy; exact q
theorem Ends.stB (X : Stand p l e R s m args below meth c T locs cells slots) (hx : p.tables.exec = Jvm.exec) (hZ : Z.Warmed39 s.vm) (eT : T.heap = h) (N : Fr n0 locs) (ge : n0 ≤ a) (F : Af Z h a .byte n f) {j x : Int32} (hj : j.toInt = (k : Int)) (hk : k < n) {pc : Nat} {Ls : Array Slot} {rest : List Value} (hd : decode c.code pc = .ok (.bastore, 1))
    (kk : ∀ T' h' L', Stand p l e R s m args below meth c T' L' cells slots → T'.heap = h' → Fr n0 L' → Wr h h' a k (.int x.toInt8.toInt32) → Af Z h' a .byte n (upd f k (.int x.toInt8.toInt32)) → Ends p e below P T' (mkF m (pc + 1) Ls rest)) : Ends p e below P T (mkF m pc Ls (.int x :: .int j :: .ref a :: rest)) := by
  obtain ⟨cl, A, r1, r2, r3, r4⟩ := F
  obtain ⟨T1, h1, X1, e1, W1, st⟩ := Jvm.RoadKit.stB X hx hZ eT A (j := j) (x := x) (own_inb r1 hj hk) (g := mkF m pc Ls (.int x :: .int j :: .ref a :: rest)) rfl rfl hd
  rw [(own_idx hj).1] at W1
  have W2 : Wr h h1 a k (.int x.toInt8.toInt32) := W1
  exact Ends.by st (kk T1 h1 _ X1 e1 (own_snoc N ge) W2 (Af.set ⟨cl, A, r1, r2, r3, r4⟩ W2 hk (fits_nar_byte x)))
theorem Ends.stI (X : Stand p l e R s m args below meth c T locs cells slots) (hx : p.tables.exec = Jvm.exec) (hZ : Z.Warmed39 s.vm) (eT : T.heap = h) (N : Fr n0 locs) (ge : n0 ≤ a) (F : Af Z h a .int n f) {j x : Int32} (hj : j.toInt = (k : Int)) (hk : k < n) {pc : Nat} {Ls : Array Slot} {rest : List Value} (hd : decode c.code pc = .ok (.iastore, 1))
    (kk : ∀ T' h' L', Stand p l e R s m args below meth c T' L' cells slots → T'.heap = h' → Fr n0 L' → Wr h h' a k (.int x) → Af Z h' a .int n (upd f k (.int x)) → Ends p e below P T' (mkF m (pc + 1) Ls rest)) : Ends p e below P T (mkF m pc Ls (.int x :: .int j :: .ref a :: rest)) := by
  obtain ⟨cl, A, r1, r2, r3, r4⟩ := F
  obtain ⟨T1, h1, X1, e1, W1, st⟩ := Jvm.RoadKit.stI X hx hZ eT A (j := j) (x := x) (own_inb r1 hj hk) (g := mkF m pc Ls (.int x :: .int j :: .ref a :: rest)) rfl rfl hd
  rw [(own_idx hj).1] at W1
  exact Ends.by st (kk T1 h1 _ X1 e1 (own_snoc N ge) W1 (Af.set ⟨cl, A, r1, r2, r3, r4⟩ W1 hk rfl))
theorem Ends.stJ (X : Stand p l e R s m args below meth c T locs cells slots) (hx : p.tables.exec = Jvm.exec) (hZ : Z.Warmed39 s.vm) (eT : T.heap = h) (N : Fr n0 locs) (ge : n0 ≤ a) (F : Af Z h a .long n f) {j : Int32} {x : Int64} (hj : j.toInt = (k : Int)) (hk : k < n) {pc : Nat} {Ls : Array Slot} {rest : List Value} (hd : decode c.code pc = .ok (.lastore, 1))
    (kk : ∀ T' h' L', Stand p l e R s m args below meth c T' L' cells slots → T'.heap = h' → Fr n0 L' → Wr h h' a k (.long x) → Af Z h' a .long n (upd f k (.long x)) → Ends p e below P T' (mkF m (pc + 1) Ls rest)) : Ends p e below P T (mkF m pc Ls (.long x :: .int j :: .ref a :: rest)) := by
  obtain ⟨cl, A, r1, r2, r3, r4⟩ := F
  obtain ⟨T1, h1, X1, e1, W1, st⟩ := Jvm.RoadKit.stJ X hx hZ eT A (j := j) (x := x) (own_inb r1 hj hk) (g := mkF m pc Ls (.long x :: .int j :: .ref a :: rest)) rfl rfl hd
  rw [(own_idx hj).1] at W1
  exact Ends.by st (kk T1 h1 _ X1 e1 (own_snoc N ge) W1 (Af.set ⟨cl, A, r1, r2, r3, r4⟩ W1 hk rfl))
/-- a new array of bytes, ints, longs .. -/
theorem Ends.newA (X : Stand p l e R s m args below meth c T locs cells slots) (hx : p.tables.exec = Jvm.exec) (hZ : Z.Warmed39 s.vm) {aty : ArrayType} (w : (Jvm.Cond.arrayClass (newarray.typeOf aty)).before a0 Z = true) (eT : T.heap = h) {z : Int32} (hz : z.toInt = (n : Int)) (cap : Nat) (hcap : n ≤ cap) (hb : cap * 8 ≤ 536870912) (hc : cells + 1 ≤ R.cells) (hl : slots + cap ≤ R.slots) (hdf : fits (newarray.typeOf aty) (defaultValue (newarray.typeOf aty)) = true)
    {ad : String} (had : "[" ++ (newarray.typeOf aty).toString = ad) {pc : Nat} {Ls : Array Slot} {rest : List Value} (hd : decode c.code pc = .ok (.newarray aty, 2))
    (kk : ∀ T' h', Stand p l e R s m args below meth c T' locs (cells + 1) (slots + cap) → T'.heap = h' → Ext h h' → Af Z h' h.size (newarray.typeOf aty) n (fun _ => defaultValue (newarray.typeOf aty)) → Exa Z h' h.size ad → Ends p e below P T' (mkF m (pc + 2) Ls (.ref h.size :: rest))) : Ends p e below P T (mkF m pc Ls (.int z :: rest)) := by
  obtain ⟨q1, q2⟩ := own_idx hz
  obtain ⟨T1, h1, cA, X1, e1, E1, A1, Ex1, st⟩ := newPE X hx hZ w eT (g := mkF m pc Ls (.int z :: rest)) rfl hd rfl q2 (cap := cap) (by rw [q1]; exact hcap) hb hc hl had
  exact Ends.by st (kk T1 h1 X1 e1 E1 (Af.new A1 hz hdf) Ex1)
theorem own_updL (g : Nat → Int64) (k : Nat) (x : Int64) (q : Nat) : Value.long (upd g k x q) = upd (fun q => Value.long (g q)) k (.long x) q := by
  unfold upd; split <;> rfl
theorem own_updI (g : Nat → Int32) (k : Nat) (x : Int32) (q : Nat) : Value.int (upd g k x q) = upd (fun q => Value.int (g q)) k (.int x) q := by
  unfold upd; split <;> rfl
/-- an array's clone -/
theorem Ends.clone (X : Stand p l e R s m args below meth c T locs cells slots) (hx : p.tables.exec = Jvm.exec) (hZ : Z.Warmed39 s.vm) {own ad : String} {index : Nat} (hown : s.vm.findClass own = some m.cls)
    (w1 : (Jvm.Cond.methodLink own index ⟨ad, "clone", "()Ljava/lang/Object;"⟩).before a0 Z = true) (w2 : (Jvm.Cond.sameMethod ad "java/lang/Object" "clone" "()Ljava/lang/Object;").before a0 Z = true) (w3 : (Jvm.Cond.native ⟨"java/lang/Object", "clone", "()Ljava/lang/Object;"⟩).before a0 Z = true)
    (w4 : (Jvm.Cond.instanceMethod ⟨"java/lang/Object", "clone", "()Ljava/lang/Object;"⟩).before a0 Z = true) (w5 : (Jvm.Cond.selects ad ⟨ad, "clone", "()Ljava/lang/Object;"⟩ ⟨"java/lang/Object", "clone", "()Ljava/lang/Object;"⟩).before a0 Z = true) (w6 : (Jvm.Cond.castable ad "java/lang/Cloneable").before a0 Z = true)
    (eT : T.heap = h) (F : Af Z h a ty n f) (E : Exa Z h a ad) (W : Nat) {rest : List Value} (hW : (rest.map fun v => v.category).sum ≤ W) {pc : Nat} {Ls : Array Slot} (hsize : Ls.size = c.maxLocals) (hd : decode c.code pc = .ok (.invokevirtual index, 3))
    (hf : 1 ≤ R.frames) (hl : W + 14 ≤ R.locals) (hty : refKind ty = false) (cap : Nat) (hcap : n ≤ cap) (hc : cells + 1 ≤ R.cells) (hsl : slots + cap ≤ R.slots)
    (kk : ∀ T' h', Stand p l e R s m args below meth c T' locs (cells + 1) (slots + cap) → T'.heap = h' → Ext h h' → Af Z h' h.size ty n f → Exa Z h' h.size ad → Ends p e below P T' (mkF m (pc + 3) Ls (.ref h.size :: rest))) : Ends p e below P T (mkF m pc Ls (.ref a :: rest)) := by
  obtain ⟨cl, A, r1, r2, r3, r4⟩ := F
  have FC : FitC Z cl := fitC_of A fun i hi v hv => by rw [r3 i (r1 ▸ hi)] at hv; cases hv; exact r4 i (r1 ▸ hi)
  obtain ⟨T1, h1, X1, e1, E1, A1, Ex1, st⟩ := cloneA X hx hZ hown w1 w2 w3 w4 w5 w6 eT A E FC (g := mkF m pc Ls (.ref a :: rest)) rfl hsize rfl hd hf (W := W) (by show 2 * 0 + _ ≤ _; omega) hl (cap := cap) (by rw [r1]; exact hcap) hc hsl
  exact Ends.by st (kk T1 h1 X1 e1 E1 ⟨_, A1, r1, r2, r3, r4⟩ Ex1)
theorem own_apart {C : String} (F : Exa Z h a C) (G : Af Z h b ty n f) {kk : Nat} (wi : (Jvm.Cond.instantiable C kk).before a0 Z = true) : a ≠ b := by
  obtain ⟨cl, A, -⟩ := G; exact ne_arr F wi A
end Own2
end Jvm.Pilot.@@N@@
namespace Jvm.Pilot.@@N@@
open Jvm Jvm.ClassFile Sem Op Lib Jvm.Free Jvm.Stand Jvm.LawKit Jvm.RoadKit Bundle Jvm.Pilot.@@N@@.Jvm.D
theorem d1_0 : decode jdk_29_method_66_code 0 = .ok (.lload_n 0, 1) := by decide +kernel
theorem d1_1 : decode jdk_29_method_66_code 1 = .ok (.lload_n 2, 1) := by decide +kernel
theorem d1_2 : decode jdk_29_method_66_code 2 = .ok (.lcmp, 1) := by decide +kernel
theorem d1_3 : decode jdk_29_method_66_code 3 = .ok (.ifCond .lt 7, 3) := by decide +kernel
theorem d1_6 : decode jdk_29_method_66_code 6 = .ok (.lload_n 0, 1) := by decide +kernel
theorem d1_7 : decode jdk_29_method_66_code 7 = .ok (.goto 4, 3) := by decide +kernel
theorem d1_10 : decode jdk_29_method_66_code 10 = .ok (.lload_n 2, 1) := by decide +kernel
theorem d1_11 : decode jdk_29_method_66_code 11 = .ok (.lreturn, 1) := by decide +kernel
theorem pd_1 : parseMethodDescriptor "(JJ)J" = some ⟨[.long, .long], some .long⟩ := by decide +kernel
theorem pf_1 : plainFor (⟨"java/lang/Math", "max", "(JJ)J"⟩ : MethodName) = true := Jvm.Free.JP.mathPlain rfl (by decide +kernel)
theorem ef_1 (m : MethodId) (u : Int64) (w : Int64) : entryFrame m #[(.long u), (.long w)] 4 = mkF m 0 #[.val (.long u), .second, .val (.long w), .second] [] := by first | (simp [entryFrame, mkF, argsToLocals, Value.category]; done) | rfl
def f_1 (u : Int64) (w : Int64) : Int64 :=
  if (lcmpW u w) < (0 : Int32) then w
  else u
set_option maxRecDepth 65536 in
set_option maxHeartbeats 40000000 in
theorem con_1 (l : Launch) (Z : State) (a0 : Array Value) (hw : ∀ d ∈ tables_1, d.before a0 Z = true) (u : Int64) (w : Int64) (h0 : Heap) : Con l Z (⟨"java/lang/Math", "max", "(JJ)J"⟩ : MethodName) jdk_29_method_66_code 4 (some .long) ({ frames := 0, cells := 0, slots := 0, locals := 0 } : Room) #[(.long u), (.long w)] h0 (Pure h0 (some (.long (f_1 u w)))) := by
  refine Con.intro pf_1 ?_
  intro p e s m below meth c s₁ hx hby hml hown hnm hret hlk hZ X0 e0
  refine Ends.cast (ef_1 m u w) ?_
  refine Ends.by (fun _ => XS.lloadN X0.here hx rfl (hb hby d1_0) rfl) ?_
  show Ends p e below _ s₁ (mkF m 1 #[.val (.long u), .second, .val (.long w), .second] [(.long u)])
  refine Ends.by (fun _ => XS.lloadN X0.here hx rfl (hb hby d1_1) rfl) ?_
  show Ends p e below _ s₁ (mkF m 2 #[.val (.long u), .second, .val (.long w), .second] [(.long w), (.long u)])
  refine Ends.by (fun _ => XS.lcmp X0.here hx rfl (hb hby d1_2) rfl) ?_
  show Ends p e below _ s₁ (mkF m 3 #[.val (.long u), .second, .val (.long w), .second] [(.int (lcmpW u w))])
  refine Ends.ifc X0 hx (hb hby d1_3) 10 (by decide) (by decide) (fun q => ?_) (fun q => ?_)
  · have c3 : (lcmpW u w) < (0 : Int32) := own_lt.1 q
    show Ends p e below _ s₁ (mkF m 10 #[.val (.long u), .second, .val (.long w), .second] [])
    refine Ends.by (fun _ => XS.lloadN X0.here hx rfl (hb hby d1_10) rfl) ?_
    show Ends p e below _ s₁ (mkF m 11 #[.val (.long u), .second, .val (.long w), .second] [(.long w)])
    exact Ends.retL X0 hx hlk hret (hb hby d1_11) (by decide) (by decide) ⟨by rw [f_1, if_pos c3], e0, rfl⟩
  · have c3 : ¬ ((lcmpW u w) < (0 : Int32)) := own_lt.2 q
    show Ends p e below _ s₁ (mkF m 6 #[.val (.long u), .second, .val (.long w), .second] [])
    refine Ends.by (fun _ => XS.lloadN X0.here hx rfl (hb hby d1_6) rfl) ?_
    show Ends p e below _ s₁ (mkF m 7 #[.val (.long u), .second, .val (.long w), .second] [(.long u)])
    refine Ends.by (fun _ => XS.goto X0.here hx rfl (pc0 := 7) (pc' := 11) rfl (hb hby d1_7) (by decide) (by decide)) ?_
    show Ends p e below _ s₁ (mkF m 11 #[.val (.long u), .second, .val (.long w), .second] [(.long u)])
    exact Ends.retL X0 hx hlk hret (hb hby d1_11) (by decide) (by decide) ⟨by rw [f_1, if_neg c3], e0, rfl⟩
theorem d3_0 : decode prog_33_method_1_code 0 = .ok (.aload_n 0, 1) := by decide +kernel
theorem d3_1 : decode prog_33_method_1_code 1 = .ok (.invokespecial 1, 3) := by decide +kernel
theorem d3_4 : decode prog_33_method_1_code 4 = .ok (.aload_n 0, 1) := by decide +kernel
theorem d3_5 : decode prog_33_method_1_code 5 = .ok (.aload_n 1, 1) := by decide +kernel
theorem d3_6 : decode prog_33_method_1_code 6 = .ok (.putfield 7, 3) := by decide +kernel
theorem d3_9 : decode prog_33_method_1_code 9 = .ok (.aload_n 0, 1) := by decide +kernel
theorem d3_10 : decode prog_33_method_1_code 10 = .ok (.lload_n 2, 1) := by decide +kernel
theorem d3_11 : decode prog_33_method_1_code 11 = .ok (.putfield 13, 3) := by decide +kernel
theorem d3_14 : decode prog_33_method_1_code 14 = .ok (.return_, 1) := by decide +kernel
theorem pd_3 : parseMethodDescriptor "(Ljava/time/Duration;J)V" = some ⟨[(.object "java/time/Duration"), .long], none⟩ := by decide +kernel
theorem pf_3 : plainFor (⟨"com/example/palimpsest/palimpsest/workload/tpcc/Stop", "<init>", "(Ljava/time/Duration;J)V"⟩ : MethodName) = true := plainFor_of_name (by first | (simp [plainName, overriddenIn, x]; done) | decide +kernel)
theorem ef_3 (m : MethodId) (a : Addr) (n : Int64) : entryFrame m #[(.ref a), .null, (.long n)] 4 = mkF m 0 #[.val (.ref a), .val .null, .val (.long n), .second] [] := by first | (simp [entryFrame, mkF, argsToLocals, Value.category]; done) | rfl
set_option maxRecDepth 65536 in
set_option maxHeartbeats 40000000 in
theorem con_3 (l : Launch) (Z : State) (a0 : Array Value) (hw : ∀ d ∈ tables_1, d.before a0 Z = true) (a : Addr) (n : Int64)  (h0 : Heap) (n0 : Nat) (Z0 : n0 ≤ h0.size) (E0 : Exa Z h0 a "com/example/palimpsest/palimpsest/workload/tpcc/Stop") (F1 : Fld Z h0 a "com/example/palimpsest/palimpsest/workload/tpcc/Stop" "time" "Ljava/time/Duration;" .null) (F2 : Fld Z h0 a "com/example/palimpsest/palimpsest/workload/tpcc/Stop" "commits" "J" (.long (0 : Int64))) (ga : n0 ≤ a) : Con l Z (⟨"com/example/palimpsest/palimpsest/workload/tpcc/Stop", "<init>", "(Ljava/time/Duration;J)V"⟩ : MethodName) prog_33_method_1_code 4 none ({ frames := 1, cells := 0, slots := 0, locals := 12 } : Room) #[(.ref a), .null, (.long n)] h0 (fun v h L => v = none ∧ Fr n0 L ∧ Keep h0 h [a] ∧ Exa Z h a "com/example/palimpsest/palimpsest/workload/tpcc/Stop" ∧ Fld Z h a "com/example/palimpsest/palimpsest/workload/tpcc/Stop" "time" "Ljava/time/Duration;" .null ∧ Fld Z h a "com/example/palimpsest/palimpsest/workload/tpcc/Stop" "commits" "J" (.long n)) := by
  refine Con.intro pf_3 ?_
  intro p e s m below meth c s₁ hx hby hml hown hnm hret hlk hZ X0 e0
  refine Ends.cast (ef_3 m a n) ?_
  have N0 := Fr.nil n0
  have K0 : Keep h0 h0 [a] := Keep.refl _ _
  refine Ends.by (fun _ => XS.aloadN X0.here hx rfl (hb hby d3_0) rfl rfl) ?_
  show Ends p e below _ s₁ (mkF m 1 #[.val (.ref a), .val .null, .val (.long n), .second] [(.ref a)])
  obtain ⟨T1, X1, e1, st1⟩ := initO X0 hx hZ hown (hw _ (List.mem_of_getElem? (i := 14) rfl)) (hw _ (List.mem_of_getElem? (i := 15) rfl)) (hw _ (List.mem_of_getElem? (i := 16) rfl)) e0 (g := (mkF m 1 #[.val (.ref a), .val .null, .val (.long n), .second] [(.ref a)])) rfl (by rw [hml]; rfl) rfl (hb hby d3_1) (by decide) (W := 0) (by show 2 * 0 + _ ≤ _; exact Nat.le_of_eq rfl) (by decide)
  refine Ends.by st1 ?_
  show Ends p e below _ T1 (mkF m 4 #[.val (.ref a), .val .null, .val (.long n), .second] [])
  refine Ends.by (fun _ => XS.aloadN X1.here hx rfl (hb hby d3_4) rfl rfl) ?_
  show Ends p e below _ T1 (mkF m 5 #[.val (.ref a), .val .null, .val (.long n), .second] [(.ref a)])
  refine Ends.by (fun _ => XS.aloadN X1.here hx rfl (hb hby d3_5) rfl rfl) ?_
  show Ends p e below _ T1 (mkF m 6 #[.val (.ref a), .val .null, .val (.long n), .second] [.null, (.ref a)])
  obtain ⟨T2, h2, X2, e2, W2, st2⟩ := putF X1 hx hZ hown (host := "") (Or.inl (hw _ (List.mem_of_getElem? (i := 17) rfl))) Via.refl e1 F1 E0 (Or.inr ⟨(hw _ (List.mem_of_getElem? (i := 18) rfl)), rfl, hnm⟩) (hw _ (List.mem_of_getElem? (i := 10) rfl)) (ty := (.object "java/time/Duration")) (by decide) rfl rfl (g := (mkF m 6 #[.val (.ref a), .val .null, .val (.long n), .second] [.null, (.ref a)])) rfl rfl (hb hby d3_6)
  refine Ends.by st2 ?_
  have F_a_time_2 : Fld Z h2 a "com/example/palimpsest/palimpsest/workload/tpcc/Stop" "time" "Ljava/time/Duration;" .null := F1.same W2
  have N2 := Fr.snoc X2 N0 ga
  have E_a_2 : Exa Z h2 a "com/example/palimpsest/palimpsest/workload/tpcc/Stop" := E0.wr W2
  have F_a_commits_2 : Fld Z h2 a "com/example/palimpsest/palimpsest/workload/tpcc/Stop" "commits" "J" (.long (0 : Int64)) := F2.other W2 (Or.inr (slot_ne (Or.inr (hw _ (List.mem_of_getElem? (i := 20) rfl))) (Or.inr (hw _ (List.mem_of_getElem? (i := 18) rfl))) (by decide) (t := .long) (t' := (.object "java/time/Duration")) (by decide) (by decide)))
  have Z2 : n0 ≤ h2.size := Nat.le_trans Z0 (Nat.le_of_eq W2.size.symm)
  have K2 : Keep h0 h2 [a] := K0.wr W2 (Or.inl (List.mem_of_getElem? (i := 0) rfl))
  show Ends p e below _ T2 (mkF m 9 #[.val (.ref a), .val .null, .val (.long n), .second] [])
  refine Ends.by (fun _ => XS.aloadN X2.here hx rfl (hb hby d3_9) rfl rfl) ?_
  show Ends p e below _ T2 (mkF m 10 #[.val (.ref a), .val .null, .val (.long n), .second] [(.ref a)])
  refine Ends.by (fun _ => XS.lloadN X2.here hx rfl (hb hby d3_10) rfl) ?_
  show Ends p e below _ T2 (mkF m 11 #[.val (.ref a), .val .null, .val (.long n), .second] [(.long n), (.ref a)])
  obtain ⟨T3, h3, X3, e3, W3, st3⟩ := putF X2 hx hZ hown (host := "") (Or.inl (hw _ (List.mem_of_getElem? (i := 19) rfl))) Via.refl e2 F_a_commits_2 E_a_2 (Or.inr ⟨(hw _ (List.mem_of_getElem? (i := 20) rfl)), rfl, hnm⟩) (hw _ (List.mem_of_getElem? (i := 10) rfl)) (ty := .long) (by decide) rfl rfl (g := (mkF m 11 #[.val (.ref a), .val .null, .val (.long n), .second] [(.long n), (.ref a)])) rfl rfl (hb hby d3_11)
  refine Ends.by st3 ?_
  have F_a_commits_3 : Fld Z h3 a "com/example/palimpsest/palimpsest/workload/tpcc/Stop" "commits" "J" (.long n) := F_a_commits_2.same W3
  have N3 := Fr.snoc X3 N2 ga
  have E_a_3 : Exa Z h3 a "com/example/palimpsest/palimpsest/workload/tpcc/Stop" := E_a_2.wr W3
  have F_a_time_3 : Fld Z h3 a "com/example/palimpsest/palimpsest/workload/tpcc/Stop" "time" "Ljava/time/Duration;" .null := F_a_time_2.other W3 (Or.inr (slot_ne (Or.inr (hw _ (List.mem_of_getElem? (i := 18) rfl))) (Or.inr (hw _ (List.mem_of_getElem? (i := 20) rfl))) (by decide) (t := (.object "java/time/Duration")) (t' := .long) (by decide) (by decide)))
  have Z3 : n0 ≤ h3.size := Nat.le_trans Z2 (Nat.le_of_eq W3.size.symm)
  have K3 : Keep h0 h3 [a] := K2.wr W3 (Or.inl (List.mem_of_getElem? (i := 0) rfl))
  show Ends p e below _ T3 (mkF m 14 #[.val (.ref a), .val .null, .val (.long n), .second] [])
  exact Ends.retV X3 hx hlk hret (hb hby d3_14) (by decide) (by decide) (by rw [e3]; exact ⟨rfl, N3, K3, E_a_3, F_a_time_3, F_a_commits_3⟩)
theorem d2_0 : decode prog_33_method_3_code 0 = .ok (.lload_n 0, 1) := by decide +kernel
theorem d2_1 : decode prog_33_method_3_code 1 = .ok (.lconst 1, 1) := by decide +kernel
theorem d2_2 : decode prog_33_method_3_code 2 = .ok (.lcmp, 1) := by decide +kernel
theorem d2_3 : decode prog_33_method_3_code 3 = .ok (.ifCond .ge 17, 3) := by decide +kernel
theorem d2_6 : decode prog_33_method_3_code 6 = .ok (.new 23, 3) := by decide +kernel
theorem d2_9 : decode prog_33_method_3_code 9 = .ok (.dup, 1) := by decide +kernel
theorem d2_10 : decode prog_33_method_3_code 10 = .ok (.lload_n 0, 1) := by decide +kernel
theorem d2_11 : decode prog_33_method_3_code 11 = .ok (.invokedynamic 49, 5) := by decide +kernel
theorem d2_16 : decode prog_33_method_3_code 16 = .ok (.invokespecial 29, 3) := by decide +kernel
theorem d2_19 : decode prog_33_method_3_code 19 = .ok (.athrow, 1) := by decide +kernel
theorem d2_20 : decode prog_33_method_3_code 20 = .ok (.new 8, 3) := by decide +kernel
theorem d2_23 : decode prog_33_method_3_code 23 = .ok (.dup, 1) := by decide +kernel
theorem d2_24 : decode prog_33_method_3_code 24 = .ok (.aconst_null, 1) := by decide +kernel
theorem d2_25 : decode prog_33_method_3_code 25 = .ok (.lload_n 0, 1) := by decide +kernel
theorem d2_26 : decode prog_33_method_3_code 26 = .ok (.invokespecial 46, 3) := by decide +kernel
theorem d2_29 : decode prog_33_method_3_code 29 = .ok (.areturn, 1) := by decide +kernel
theorem pd_2 : parseMethodDescriptor "(J)Lcom/example/palimpsest/palimpsest/workload/tpcc/Stop;" = some ⟨[.long], some (.object "com/example/palimpsest/palimpsest/workload/tpcc/Stop")⟩ := by decide +kernel
theorem pf_2 : plainFor (⟨"com/example/palimpsest/palimpsest/workload/tpcc/Stop", "afterCommits", "(J)Lcom/example/palimpsest/palimpsest/workload/tpcc/Stop;"⟩ : MethodName) = true := plainFor_of_name (by first | (simp [plainName, overriddenIn, x]; done) | decide +kernel)
theorem ef_2 (m : MethodId) (n : Int64) : entryFrame m #[(.long n)] 2 = mkF m 0 #[.val (.long n), .second] [] := by first | (simp [entryFrame, mkF, argsToLocals, Value.category]; done) | rfl
set_option maxRecDepth 65536 in
set_option maxHeartbeats 40000000 in
theorem con_2 (l : Launch) (Z : State) (a0 : Array Value) (hw : ∀ d ∈ tables_1, d.before a0 Z = true) (n : Int64)  (h0 : Heap) (n0 : Nat) (Z0 : n0 ≤ h0.size) (hp : ¬ (lcmpW n (1 : Int64)) < (0 : Int32)) : Con l Z (⟨"com/example/palimpsest/palimpsest/workload/tpcc/Stop", "afterCommits", "(J)Lcom/example/palimpsest/palimpsest/workload/tpcc/Stop;"⟩ : MethodName) prog_33_method_3_code 2 (some (.object "com/example/palimpsest/palimpsest/workload/tpcc/Stop")) ({ frames := 2, cells := 1, slots := 2, locals := 28 } : Room) #[(.long n)] h0 (fun v h L => ∃ a : Addr, v = some (.ref a) ∧ Fr n0 L ∧ Keep h0 h [] ∧ Exa Z h a "com/example/palimpsest/palimpsest/workload/tpcc/Stop" ∧ Fld Z h a "com/example/palimpsest/palimpsest/workload/tpcc/Stop" "time" "Ljava/time/Duration;" .null ∧ Fld Z h a "com/example/palimpsest/palimpsest/workload/tpcc/Stop" "commits" "J" (.long n) ∧ n0 ≤ a) := by
  refine Con.intro pf_2 ?_
  intro p e s m below meth c s₁ hx hby hml hown hnm hret hlk hZ X0 e0
  refine Ends.cast (ef_2 m n) ?_
  have N0 := Fr.nil n0
  have K0 : Keep h0 h0 [] := Keep.refl _ _
  refine Ends.by (fun _ => XS.lloadN X0.here hx rfl (hb hby d2_0) rfl) ?_
  show Ends p e below _ s₁ (mkF m 1 #[.val (.long n), .second] [(.long n)])
  refine Ends.by (fun _ => XS.lconst X0.here hx rfl (hb hby d2_1)) ?_
  show Ends p e below _ s₁ (mkF m 2 #[.val (.long n), .second] [(.long (1 : Int64)), (.long n)])
  refine Ends.by (fun _ => XS.lcmp X0.here hx rfl (hb hby d2_2) rfl) ?_
  show Ends p e below _ s₁ (mkF m 3 #[.val (.long n), .second] [(.int (lcmpW n (1 : Int64)))])
  refine Ends.ifc X0 hx (hb hby d2_3) 20 (by decide) (by decide) (fun q => ?_) (fun q => ?_)
  · have c3 : ¬ ((lcmpW n (1 : Int64)) < (0 : Int32)) := own_ge.1 q
    show Ends p e below _ s₁ (mkF m 20 #[.val (.long n), .second] [])
    obtain ⟨T1, h1, X1, e1, E1, A1, D1, -, st1⟩ := newO X0 hx hZ hown (hw _ (List.mem_of_getElem? (i := 9) rfl)) (hw _ (List.mem_of_getElem? (i := 10) rfl)) (hw _ (List.mem_of_getElem? (i := 7) rfl)) e0 (g := (mkF m 20 #[.val (.long n), .second] [])) rfl (hb hby d2_20) (by decide) (by decide)
    obtain ⟨b1, g1⟩ : ∃ z, z = h0.size := ⟨_, rfl⟩
    rw [← g1] at A1 D1 st1
    refine Ends.by st1 ?_
    have Z1 : n0 ≤ h1.size := Nat.le_trans Z0 E1.1
    have K1 : Keep h0 h1 [] := K0.ext E1
    have g_b1 : n0 ≤ b1 := Nat.le_trans Z0 (Nat.le_of_eq g1.symm)
    have gz_b1 : h0.size ≤ b1 := Nat.le_trans K0.1 (Nat.le_of_eq g1.symm)
    have F_b1_time : Fld Z h1 b1 "com/example/palimpsest/palimpsest/workload/tpcc/Stop" "time" "Ljava/time/Duration;" .null := D1 (Or.inr (hw _ (List.mem_of_getElem? (i := 18) rfl))) (ty := (.object "java/time/Duration")) (by decide)
    have F_b1_commits : Fld Z h1 b1 "com/example/palimpsest/palimpsest/workload/tpcc/Stop" "commits" "J" (.long (0 : Int64)) := D1 (Or.inr (hw _ (List.mem_of_getElem? (i := 20) rfl))) (ty := .long) (by decide)
    show Ends p e below _ T1 (mkF m 23 #[.val (.long n), .second] [(.ref b1)])
    refine Ends.by (fun _ => XS.dup X1.here hx rfl (hb hby d2_23) rfl rfl) ?_
    show Ends p e below _ T1 (mkF m 24 #[.val (.long n), .second] [(.ref b1), (.ref b1)])
    refine Ends.by (fun _ => XS.aconstNull X1.here hx rfl (hb hby d2_24)) ?_
    show Ends p e below _ T1 (mkF m 25 #[.val (.long n), .second] [.null, (.ref b1), (.ref b1)])
    refine Ends.by (fun _ => XS.lloadN X1.here hx rfl (hb hby d2_25) rfl) ?_
    show Ends p e below _ T1 (mkF m 26 #[.val (.long n), .second] [(.long n), .null, (.ref b1), (.ref b1)])
    refine Ends.callI (a := b1) (argsL := [.null, (.long n)]) (rest := [(.ref b1)]) X1 hx hZ rfl hown (hw _ (List.mem_of_getElem? (i := 11) rfl)) (hw _ (List.mem_of_getElem? (i := 12) rfl)) (hw _ (List.mem_of_getElem? (i := 7) rfl)) (hw _ (List.mem_of_getElem? (i := 13) rfl)) (by decide) (con_3 l Z a0 hw b1 n h1 n0 Z1 A1 F_b1_time F_b1_commits g_b1) e1 (by rw [hml]; rfl) (hb hby d2_26) (lenOf pd_3 rfl) 1 (Nat.le_of_eq rfl) (by decide) (by decide) (by decide) (by decide) ?_
    intro v T2 L2 X2 hQ
    obtain ⟨rfl, N2q, K2q, E2q, F2q, G2q⟩ := hQ
    have N2 := Fr.app N0 N2q
    have E_b1_2 : Exa Z T2.heap b1 "com/example/palimpsest/palimpsest/workload/tpcc/Stop" := A1.keep K2q
    have Z2 : n0 ≤ T2.heap.size := Nat.le_trans Z1 K2q.1
    have K2 : Keep h0 T2.heap [] := K1.trans K2q (allS (P := fun q => q ∈ [] ∨ h0.size ≤ q) (Or.inr gz_b1) all0)
    show Ends p e below _ T2 (mkF m 29 #[.val (.long n), .second] [(.ref b1)])
    exact Ends.retA X2 hx hlk hret rfl rfl (hb hby d2_29) (by decide) (by decide) (⟨b1, rfl, N2, K2, E2q, F2q, G2q, g_b1⟩)
  · have c3 : (lcmpW n (1 : Int64)) < (0 : Int32) := own_ge.2 q
    exact absurd c3 hp
theorem d5_0 : decode prog_33_method_4_code 0 = .ok (.aload_n 0, 1) := by decide +kernel
theorem d5_1 : decode prog_33_method_4_code 1 = .ok (.getfield 7, 3) := by decide +kernel
theorem d5_4 : decode prog_33_method_4_code 4 = .ok (.ifnull 7, 3) := by decide +kernel
theorem d5_7 : decode prog_33_method_4_code 7 = .ok (.iconst 1, 1) := by decide +kernel
theorem d5_8 : decode prog_33_method_4_code 8 = .ok (.goto 4, 3) := by decide +kernel
theorem d5_11 : decode prog_33_method_4_code 11 = .ok (.iconst 0, 1) := by decide +kernel
theorem d5_12 : decode prog_33_method_4_code 12 = .ok (.ireturn, 1) := by decide +kernel
theorem pd_5 : parseMethodDescriptor "()Z" = some ⟨[], some .boolean⟩ := by decide +kernel
theorem pf_5 : plainFor (⟨"com/example/palimpsest/palimpsest/workload/tpcc/Stop", "timed", "()Z"⟩ : MethodName) = true := plainFor_of_name (by first | (simp [plainName, overriddenIn, x]; done) | decide +kernel)
theorem ef_5 (m : MethodId) (a : Addr) : entryFrame m #[(.ref a)] 1 = mkF m 0 #[.val (.ref a)] [] := by first | (simp [entryFrame, mkF, argsToLocals, Value.category]; done) | rfl
set_option maxRecDepth 65536 in
set_option maxHeartbeats 40000000 in
theorem con_5 (l : Launch) (Z : State) (a0 : Array Value) (hw : ∀ d ∈ tables_1, d.before a0 Z = true) (a : Addr)  (h0 : Heap) (n0 : Nat) (Z0 : n0 ≤ h0.size) (F1 : Fld Z h0 a "com/example/palimpsest/palimpsest/workload/tpcc/Stop" "time" "Ljava/time/Duration;" .null) : Con l Z (⟨"com/example/palimpsest/palimpsest/workload/tpcc/Stop", "timed", "()Z"⟩ : MethodName) prog_33_method_4_code 1 (some .boolean) ({ frames := 0, cells := 0, slots := 0, locals := 0 } : Room) #[(.ref a)] h0 (Pure h0 (some (.int 0))) := by
  refine Con.intro pf_5 ?_
  intro p e s m below meth c s₁ hx hby hml hown hnm hret hlk hZ X0 e0
  refine Ends.cast (ef_5 m a) ?_
  have N0 := Fr.nil n0
  refine Ends.by (fun _ => XS.aloadN X0.here hx rfl (hb hby d5_0) rfl rfl) ?_
  show Ends p e below _ s₁ (mkF m 1 #[.val (.ref a)] [(.ref a)])
  obtain ⟨T1, X1, e1, st1⟩ := getF X0 hx hZ hown (host := "") (Or.inl (hw _ (List.mem_of_getElem? (i := 17) rfl))) Via.refl e0 F1 (g := (mkF m 1 #[.val (.ref a)] [(.ref a)])) rfl rfl (hb hby d5_1)
  refine Ends.by st1 ?_
  show Ends p e below _ T1 (mkF m 4 #[.val (.ref a)] [.null])
  refine Ends.by (fun _ => XS.ifnullYes X1.here hx rfl (pc0 := 4) (pc' := 11) rfl (hb hby d5_4) rfl (by decide) (by decide)) ?_
  show Ends p e below _ T1 (mkF m 11 #[.val (.ref a)] [])
  refine Ends.by (fun _ => XS.iconst X1.here hx rfl (hb hby d5_11)) ?_
  show Ends p e below _ T1 (mkF m 12 #[.val (.ref a)] [(.int (0 : Int32))])
  exact Ends.retZ X1 hx hlk hret (hb hby d5_12) (by first | decide | (simp; done)) (by decide) (by decide) (by rw [e1]; exact ⟨rfl, rfl, rfl⟩)
theorem d6_0 : decode prog_33_method_5_code 0 = .ok (.aload_n 0, 1) := by decide +kernel
theorem d6_1 : decode prog_33_method_5_code 1 = .ok (.getfield 7, 3) := by decide +kernel
theorem d6_4 : decode prog_33_method_5_code 4 = .ok (.ifnull 19, 3) := by decide +kernel
theorem d6_7 : decode prog_33_method_5_code 7 = .ok (.lload_n 1, 1) := by decide +kernel
theorem d6_8 : decode prog_33_method_5_code 8 = .ok (.aload_n 0, 1) := by decide +kernel
theorem d6_9 : decode prog_33_method_5_code 9 = .ok (.getfield 7, 3) := by decide +kernel
theorem d6_12 : decode prog_33_method_5_code 12 = .ok (.invokevirtual 52, 3) := by decide +kernel
theorem d6_15 : decode prog_33_method_5_code 15 = .ok (.lcmp, 1) := by decide +kernel
theorem d6_16 : decode prog_33_method_5_code 16 = .ok (.ifCond .lt 7, 3) := by decide +kernel
theorem d6_19 : decode prog_33_method_5_code 19 = .ok (.iconst 1, 1) := by decide +kernel
theorem d6_20 : decode prog_33_method_5_code 20 = .ok (.goto 4, 3) := by decide +kernel
theorem d6_23 : decode prog_33_method_5_code 23 = .ok (.iconst 0, 1) := by decide +kernel
theorem d6_24 : decode prog_33_method_5_code 24 = .ok (.ireturn, 1) := by decide +kernel
theorem pd_6 : parseMethodDescriptor "(J)Z" = some ⟨[.long], some .boolean⟩ := by decide +kernel
theorem pf_6 : plainFor (⟨"com/example/palimpsest/palimpsest/workload/tpcc/Stop", "timeUp", "(J)Z"⟩ : MethodName) = true := plainFor_of_name (by first | (simp [plainName, overriddenIn, x]; done) | decide +kernel)
theorem ef_6 (m : MethodId) (a : Addr) (n : Int64) : entryFrame m #[(.ref a), (.long n)] 3 = mkF m 0 #[.val (.ref a), .val (.long n), .second] [] := by first | (simp [entryFrame, mkF, argsToLocals, Value.category]; done) | rfl
set_option maxRecDepth 65536 in
set_option maxHeartbeats 40000000 in
theorem con_6 (l : Launch) (Z : State) (a0 : Array Value) (hw : ∀ d ∈ tables_1, d.before a0 Z = true) (a : Addr) (n : Int64)  (h0 : Heap) (n0 : Nat) (Z0 : n0 ≤ h0.size) (F1 : Fld Z h0 a "com/example/palimpsest/palimpsest/workload/tpcc/Stop" "time" "Ljava/time/Duration;" .null) : Con l Z (⟨"com/example/palimpsest/palimpsest/workload/tpcc/Stop", "timeUp", "(J)Z"⟩ : MethodName) prog_33_method_5_code 3 (some .boolean) ({ frames := 0, cells := 0, slots := 0, locals := 0 } : Room) #[(.ref a), (.long n)] h0 (Pure h0 (some (.int 0))) := by
  refine Con.intro pf_6 ?_
  intro p e s m below meth c s₁ hx hby hml hown hnm hret hlk hZ X0 e0
  refine Ends.cast (ef_6 m a n) ?_
  have N0 := Fr.nil n0
  refine Ends.by (fun _ => XS.aloadN X0.here hx rfl (hb hby d6_0) rfl rfl) ?_
  show Ends p e below _ s₁ (mkF m 1 #[.val (.ref a), .val (.long n), .second] [(.ref a)])
  obtain ⟨T1, X1, e1, st1⟩ := getF X0 hx hZ hown (host := "") (Or.inl (hw _ (List.mem_of_getElem? (i := 17) rfl))) Via.refl e0 F1 (g := (mkF m 1 #[.val (.ref a), .val (.long n), .second] [(.ref a)])) rfl rfl (hb hby d6_1)
  refine Ends.by st1 ?_
  show Ends p e below _ T1 (mkF m 4 #[.val (.ref a), .val (.long n), .second] [.null])
  refine Ends.by (fun _ => XS.ifnullYes X1.here hx rfl (pc0 := 4) (pc' := 23) rfl (hb hby d6_4) rfl (by decide) (by decide)) ?_
  show Ends p e below _ T1 (mkF m 23 #[.val (.ref a), .val (.long n), .second] [])
  refine Ends.by (fun _ => XS.iconst X1.here hx rfl (hb hby d6_23)) ?_
  show Ends p e below _ T1 (mkF m 24 #[.val (.ref a), .val (.long n), .second] [(.int (0 : Int32))])
  exact Ends.retZ X1 hx hlk hret (hb hby d6_24) (by first | decide | (simp; done)) (by decide) (by decide) (by rw [e1]; exact ⟨rfl, rfl, rfl⟩)
theorem d7_0 : decode prog_33_method_6_code 0 = .ok (.aload_n 0, 1) := by decide +kernel
theorem d7_1 : decode prog_33_method_6_code 1 = .ok (.getfield 7, 3) := by decide +kernel
theorem d7_4 : decode prog_33_method_6_code 4 = .ok (.ifnonnull 16, 3) := by decide +kernel
theorem d7_7 : decode prog_33_method_6_code 7 = .ok (.lload_n 1, 1) := by decide +kernel
theorem d7_8 : decode prog_33_method_6_code 8 = .ok (.aload_n 0, 1) := by decide +kernel
theorem d7_9 : decode prog_33_method_6_code 9 = .ok (.getfield 13, 3) := by decide +kernel
theorem d7_12 : decode prog_33_method_6_code 12 = .ok (.lcmp, 1) := by decide +kernel
theorem d7_13 : decode prog_33_method_6_code 13 = .ok (.ifCond .lt 7, 3) := by decide +kernel
theorem d7_16 : decode prog_33_method_6_code 16 = .ok (.iconst 1, 1) := by decide +kernel
theorem d7_17 : decode prog_33_method_6_code 17 = .ok (.goto 4, 3) := by decide +kernel
theorem d7_20 : decode prog_33_method_6_code 20 = .ok (.iconst 0, 1) := by decide +kernel
theorem d7_21 : decode prog_33_method_6_code 21 = .ok (.ireturn, 1) := by decide +kernel
theorem pd_7 : parseMethodDescriptor "(J)Z" = some ⟨[.long], some .boolean⟩ := by decide +kernel
theorem pf_7 : plainFor (⟨"com/example/palimpsest/palimpsest/workload/tpcc/Stop", "reached", "(J)Z"⟩ : MethodName) = true := plainFor_of_name (by first | (simp [plainName, overriddenIn, x]; done) | decide +kernel)
theorem ef_7 (m : MethodId) (a : Addr) (u : Int64) : entryFrame m #[(.ref a), (.long u)] 3 = mkF m 0 #[.val (.ref a), .val (.long u), .second] [] := by first | (simp [entryFrame, mkF, argsToLocals, Value.category]; done) | rfl
def own_reached (u n : Int64) : Int32 := if (lcmpW u n) < (0 : Int32) then 0 else 1
set_option maxRecDepth 65536 in
set_option maxHeartbeats 40000000 in
theorem con_7 (l : Launch) (Z : State) (a0 : Array Value) (hw : ∀ d ∈ tables_1, d.before a0 Z = true) (a : Addr) (u : Int64) (n : Int64) (h0 : Heap) (n0 : Nat) (Z0 : n0 ≤ h0.size) (F1 : Fld Z h0 a "com/example/palimpsest/palimpsest/workload/tpcc/Stop" "time" "Ljava/time/Duration;" .null) (F2 : Fld Z h0 a "com/example/palimpsest/palimpsest/workload/tpcc/Stop" "commits" "J" (.long n)) : Con l Z (⟨"com/example/palimpsest/palimpsest/workload/tpcc/Stop", "reached", "(J)Z"⟩ : MethodName) prog_33_method_6_code 3 (some .boolean) ({ frames := 0, cells := 0, slots := 0, locals := 0 } : Room) #[(.ref a), (.long u)] h0 (Pure h0 (some (.int (own_reached u n)))) := by
  refine Con.intro pf_7 ?_
  intro p e s m below meth c s₁ hx hby hml hown hnm hret hlk hZ X0 e0
  refine Ends.cast (ef_7 m a u) ?_
  have N0 := Fr.nil n0
  refine Ends.by (fun _ => XS.aloadN X0.here hx rfl (hb hby d7_0) rfl rfl) ?_
  show Ends p e below _ s₁ (mkF m 1 #[.val (.ref a), .val (.long u), .second] [(.ref a)])
  obtain ⟨T1, X1, e1, st1⟩ := getF X0 hx hZ hown (host := "") (Or.inl (hw _ (List.mem_of_getElem? (i := 17) rfl))) Via.refl e0 F1 (g := (mkF m 1 #[.val (.ref a), .val (.long u), .second] [(.ref a)])) rfl rfl (hb hby d7_1)
  refine Ends.by st1 ?_
  show Ends p e below _ T1 (mkF m 4 #[.val (.ref a), .val (.long u), .second] [.null])
  refine Ends.by (fun _ => XS.ifnonnullNo X1.here hx rfl (hb hby d7_4) rfl) ?_
  show Ends p e below _ T1 (mkF m 7 #[.val (.ref a), .val (.long u), .second] [])
  refine Ends.by (fun _ => XS.lloadN X1.here hx rfl (hb hby d7_7) rfl) ?_
  show Ends p e below _ T1 (mkF m 8 #[.val (.ref a), .val (.long u), .second] [(.long u)])
  refine Ends.by (fun _ => XS.aloadN X1.here hx rfl (hb hby d7_8) rfl rfl) ?_
  show Ends p e below _ T1 (mkF m 9 #[.val (.ref a), .val (.long u), .second] [(.ref a), (.long u)])
  obtain ⟨T2, X2, e2, st2⟩ := getF X1 hx hZ hown (host := "") (Or.inl (hw _ (List.mem_of_getElem? (i := 19) rfl))) Via.refl e1 F2 (g := (mkF m 9 #[.val (.ref a), .val (.long u), .second] [(.ref a), (.long u)])) rfl rfl (hb hby d7_9)
  refine Ends.by st2 ?_
  show Ends p e below _ T2 (mkF m 12 #[.val (.ref a), .val (.long u), .second] [(.long n), (.long u)])
  refine Ends.by (fun _ => XS.lcmp X2.here hx rfl (hb hby d7_12) rfl) ?_
  show Ends p e below _ T2 (mkF m 13 #[.val (.ref a), .val (.long u), .second] [(.int (lcmpW u n))])
  refine Ends.ifc X2 hx (hb hby d7_13) 20 (by decide) (by decide) (fun q => ?_) (fun q => ?_)
  · have c13 : (lcmpW u n) < (0 : Int32) := own_lt.1 q
    show Ends p e below _ T2 (mkF m 20 #[.val (.ref a), .val (.long u), .second] [])
    refine Ends.by (fun _ => XS.iconst X2.here hx rfl (hb hby d7_20)) ?_
    show Ends p e below _ T2 (mkF m 21 #[.val (.ref a), .val (.long u), .second] [(.int (0 : Int32))])
    exact Ends.retZ X2 hx hlk hret (hb hby d7_21) (by first | decide | (simp; done)) (by decide) (by decide) (by rw [e2]; exact ⟨by rw [own_reached, if_pos c13], rfl, rfl⟩)
  · have c13 : ¬ ((lcmpW u n) < (0 : Int32)) := own_lt.2 q
    show Ends p e below _ T2 (mkF m 16 #[.val (.ref a), .val (.long u), .second] [])
    refine Ends.by (fun _ => XS.iconst X2.here hx rfl (hb hby d7_16)) ?_
    show Ends p e below _ T2 (mkF m 17 #[.val (.ref a), .val (.long u), .second] [(.int (1 : Int32))])
    refine Ends.by (fun _ => XS.goto X2.here hx rfl (pc0 := 17) (pc' := 21) rfl (hb hby d7_17) (by decide) (by decide)) ?_
    show Ends p e below _ T2 (mkF m 21 #[.val (.ref a), .val (.long u), .second] [(.int (1 : Int32))])
    exact Ends.retZ X2 hx hlk hret (hb hby d7_21) (by first | decide | (simp; done)) (by decide) (by decide) (by rw [e2]; exact ⟨by rw [own_reached, if_neg c13], rfl, rfl⟩)
theorem own_pos (w : Int64) : ¬ (lcmpW (f_1 (1 : Int64) w) (1 : Int64)) < (0 : Int32) := by
  rw [lw_lt]
  simp only [f_1]
  split
  · rename_i h
    rw [lw_lt] at h
    rw [Int64.lt_iff_toInt_lt] at h ⊢
    omega
  · rw [Int64.lt_iff_toInt_lt]; omega
theorem own_r1 (n : Int64) : ¬ own_reached n n = 0 := by
  have h : ¬ (lcmpW n n) < (0 : Int32) := by rw [lw_lt, Int64.lt_iff_toInt_lt]; omega
  rw [own_reached, if_neg h]; decide
theorem own_r0 (n : Int64) (hp : ¬ (lcmpW n (1 : Int64)) < (0 : Int32)) : own_reached (n - 1) n = 0 := by
  rw [lw_lt, Int64.lt_iff_toInt_lt] at hp
  have e : (1 : Int64).toInt = 1 := by decide
  have e1 := c_lsub n 1
  have r := rng64 (n - 1)
  have r2 := rng64 n
  have h : (lcmpW (n - 1) n) < (0 : Int32) := by rw [lw_lt, Int64.lt_iff_toInt_lt]; omega
  rw [own_reached, if_pos h]
theorem pd_0 : parseMethodDescriptor "(JJJ)Z" = some ⟨[.long, .long, .long], some .boolean⟩ := by decide +kernel
theorem pf_0 : plainFor x = true := plainFor_of_name (by first | (simp [plainName, overriddenIn, x]; done) | decide +kernel)
theorem ef_0 (m : MethodId) (i0 : Int64) (i1 : Int64) (i2 : Int64) : entryFrame m #[(.long i0), (.long i1), (.long i2)] maxLocals = mkF m 0 #[.val (.long i0), .second, .val (.long i1), .second, .val (.long i2), .second, .unset, .unset, .unset] [] := by first | (simp [entryFrame, mkF, argsToLocals, Value.category, maxLocals]; done) | rfl
set_option maxRecDepth 65536 in
set_option maxHeartbeats 40000000 in
theorem con_0 (l : Launch) (Z : State) (a0 : Array Value) (hw : ∀ d ∈ tables_1, d.before a0 Z = true) (i0 : Int64) (i1 : Int64) (i2 : Int64)  (h0 : Heap) (n0 : Nat) (Z0 : n0 ≤ h0.size) : Con l Z x code maxLocals ret room_1 #[(.long i0), (.long i1), (.long i2)] h0 (fun v h L => v = some (.int 1) ∧ Fr n0 L) := by
  refine Con.intro pf_0 ?_
  intro p e s m below meth c s₁ hx hby hml hown hnm hret hlk hZ X0 e0
  refine Ends.cast (ef_0 m i0 i1 i2) ?_
  have N0 := Fr.nil n0
  refine Ends.by (fun _ => XS.lconst X0.here hx rfl (hb hby at_0)) ?_
  show Ends p e below _ s₁ (mkF m 1 #[.val (.long i0), .second, .val (.long i1), .second, .val (.long i2), .second, .unset, .unset, .unset] [(.long (1 : Int64))])
  refine Ends.by (fun _ => XS.lloadN X0.here hx rfl (hb hby at_1) rfl) ?_
  show Ends p e below _ s₁ (mkF m 2 #[.val (.long i0), .second, .val (.long i1), .second, .val (.long i2), .second, .unset, .unset, .unset] [(.long i0), (.long (1 : Int64))])
  refine Ends.by (X0.ldc2Long hx hown (mvT hZ (hw _ (List.mem_of_getElem? (i := 0) rfl))) (g := (mkF m 2 #[.val (.long i0), .second, .val (.long i1), .second, .val (.long i2), .second, .unset, .unset, .unset] [(.long i0), (.long (1 : Int64))])) rfl (hb hby at_2)) ?_
  show Ends p e below _ s₁ (mkF m 5 #[.val (.long i0), .second, .val (.long i1), .second, .val (.long i2), .second, .unset, .unset, .unset] [(.long (9223372036854775807 : Int64)), (.long i0), (.long (1 : Int64))])
  refine Ends.by (fun _ => XS.land X0.here hx rfl (hb hby at_5) rfl) ?_
  show Ends p e below _ s₁ (mkF m 6 #[.val (.long i0), .second, .val (.long i1), .second, .val (.long i2), .second, .unset, .unset, .unset] [(.long (i0 &&& (9223372036854775807 : Int64))), (.long (1 : Int64))])
  refine Ends.callS (argsL := [(.long (1 : Int64)), (.long (i0 &&& (9223372036854775807 : Int64)))]) (rest := []) X0 hx hZ hown (hw _ (List.mem_of_getElem? (i := 1) rfl)) (hw _ (List.mem_of_getElem? (i := 2) rfl)) (hw _ (List.mem_of_getElem? (i := 3) rfl)) (hw _ (List.mem_of_getElem? (i := 4) rfl)) (by decide) (con_1 l Z a0 hw (1 : Int64) (i0 &&& (9223372036854775807 : Int64)) h0) e0 (by rw [hml]; rfl) (hb hby at_6) (lenOf pd_1 rfl) 0 (Nat.le_of_eq rfl) (by decide) (by decide) (by decide) (by decide) ?_
  intro v T1 L1 X1 hQ
  obtain ⟨rfl, e1, rfl⟩ := hQ
  rw [List.append_nil] at X1
  show Ends p e below _ T1 (mkF m 9 #[.val (.long i0), .second, .val (.long i1), .second, .val (.long i2), .second, .unset, .unset, .unset] [(.long (f_1 (1 : Int64) (i0 &&& (9223372036854775807 : Int64))))])
  refine Ends.by (fun _ => XS.lstore X1.here hx rfl (hb hby at_9) rfl (l' := #[.val (.long i0), .second, .val (.long i1), .second, .val (.long i2), .second, .val (.long (f_1 (1 : Int64) (i0 &&& (9223372036854775807 : Int64)))), .second, .unset]) rfl) ?_
  show Ends p e below _ T1 (mkF m 11 #[.val (.long i0), .second, .val (.long i1), .second, .val (.long i2), .second, .val (.long (f_1 (1 : Int64) (i0 &&& (9223372036854775807 : Int64)))), .second, .unset] [])
  refine Ends.by (fun _ => XS.lload X1.here hx rfl (hb hby at_11) rfl) ?_
  show Ends p e below _ T1 (mkF m 13 #[.val (.long i0), .second, .val (.long i1), .second, .val (.long i2), .second, .val (.long (f_1 (1 : Int64) (i0 &&& (9223372036854775807 : Int64)))), .second, .unset] [(.long (f_1 (1 : Int64) (i0 &&& (9223372036854775807 : Int64))))])
  refine Ends.callS (argsL := [(.long (f_1 (1 : Int64) (i0 &&& (9223372036854775807 : Int64))))]) (rest := []) X1 hx hZ hown (hw _ (List.mem_of_getElem? (i := 5) rfl)) (hw _ (List.mem_of_getElem? (i := 6) rfl)) (hw _ (List.mem_of_getElem? (i := 7) rfl)) (hw _ (List.mem_of_getElem? (i := 8) rfl)) (by decide) (con_2 l Z a0 hw (f_1 (1 : Int64) (i0 &&& (9223372036854775807 : Int64))) h0 n0 Z0 (own_pos _)) e1 (by rw [hml]; rfl) (hb hby at_13) (lenOf pd_2 rfl) 0 (Nat.le_of_eq rfl) (by decide) (by decide) (by decide) (by decide) ?_
  intro v T2 L2 X2 hQ
  obtain ⟨o2, rfl, N2q, K2q, E2q, F2q, G2q, ge2q⟩ := hQ
  have N2 := Fr.app N0 N2q
  have Z2 : n0 ≤ T2.heap.size := Nat.le_trans Z0 K2q.1
  show Ends p e below _ T2 (mkF m 16 #[.val (.long i0), .second, .val (.long i1), .second, .val (.long i2), .second, .val (.long (f_1 (1 : Int64) (i0 &&& (9223372036854775807 : Int64)))), .second, .unset] [(.ref o2)])
  refine Ends.by (fun _ => XS.astore X2.here hx rfl (hb hby at_16) rfl rfl (l' := #[.val (.long i0), .second, .val (.long i1), .second, .val (.long i2), .second, .val (.long (f_1 (1 : Int64) (i0 &&& (9223372036854775807 : Int64)))), .second, .val (.ref o2)]) rfl) ?_
  show Ends p e below _ T2 (mkF m 18 #[.val (.long i0), .second, .val (.long i1), .second, .val (.long i2), .second, .val (.long (f_1 (1 : Int64) (i0 &&& (9223372036854775807 : Int64)))), .second, .val (.ref o2)] [])
  refine Ends.by (fun _ => XS.aload X2.here hx rfl (hb hby at_18) rfl rfl) ?_
  show Ends p e below _ T2 (mkF m 20 #[.val (.long i0), .second, .val (.long i1), .second, .val (.long i2), .second, .val (.long (f_1 (1 : Int64) (i0 &&& (9223372036854775807 : Int64)))), .second, .val (.ref o2)] [(.ref o2)])
  refine Ends.by (fun _ => XS.ifnonnullYes X2.here hx rfl (pc0 := 20) (pc' := 25) rfl (hb hby at_20) rfl (by decide) (by decide)) ?_
  show Ends p e below _ T2 (mkF m 25 #[.val (.long i0), .second, .val (.long i1), .second, .val (.long i2), .second, .val (.long (f_1 (1 : Int64) (i0 &&& (9223372036854775807 : Int64)))), .second, .val (.ref o2)] [])
  refine Ends.by (fun _ => XS.aload X2.here hx rfl (hb hby at_25) rfl rfl) ?_
  show Ends p e below _ T2 (mkF m 27 #[.val (.long i0), .second, .val (.long i1), .second, .val (.long i2), .second, .val (.long (f_1 (1 : Int64) (i0 &&& (9223372036854775807 : Int64)))), .second, .val (.ref o2)] [(.ref o2)])
  refine Ends.callV (a := o2) (argsL := []) (rest := []) X2 hx hZ hown (hw _ (List.mem_of_getElem? (i := 21) rfl)) (hw _ (List.mem_of_getElem? (i := 22) rfl)) (hw _ (List.mem_of_getElem? (i := 23) rfl)) (hw _ (List.mem_of_getElem? (i := 24) rfl)) (hw _ (List.mem_of_getElem? (i := 7) rfl)) (hw _ (List.mem_of_getElem? (i := 25) rfl)) (by decide) (con_5 l Z a0 hw o2 T2.heap n0 Z2 F2q) rfl E2q (by rw [hml]; rfl) (hb hby at_27) (lenOf pd_5 rfl) 0 (Nat.le_of_eq rfl) (by decide) (by decide) (by decide) (by decide) ?_
  intro v T3 L3 X3 hQ
  obtain ⟨rfl, e3, rfl⟩ := hQ
  rw [List.append_nil] at X3
  show Ends p e below _ T3 (mkF m 30 #[.val (.long i0), .second, .val (.long i1), .second, .val (.long i2), .second, .val (.long (f_1 (1 : Int64) (i0 &&& (9223372036854775807 : Int64)))), .second, .val (.ref o2)] [(.int (0 : Int32))])
  refine Ends.ifc X3 hx (hb hby at_30) 35 (by decide) (by decide) (fun q => ?_) (fun q => ?_)
  · have c30 : (0 : Int32) = (0 : Int32) := own_eq.1 q
    show Ends p e below _ T3 (mkF m 35 #[.val (.long i0), .second, .val (.long i1), .second, .val (.long i2), .second, .val (.long (f_1 (1 : Int64) (i0 &&& (9223372036854775807 : Int64)))), .second, .val (.ref o2)] [])
    refine Ends.by (fun _ => XS.aload X3.here hx rfl (hb hby at_35) rfl rfl) ?_
    show Ends p e below _ T3 (mkF m 37 #[.val (.long i0), .second, .val (.long i1), .second, .val (.long i2), .second, .val (.long (f_1 (1 : Int64) (i0 &&& (9223372036854775807 : Int64)))), .second, .val (.ref o2)] [(.ref o2)])
    refine Ends.by (fun _ => XS.lload X3.here hx rfl (hb hby at_37) rfl) ?_
    show Ends p e below _ T3 (mkF m 39 #[.val (.long i0), .second, .val (.long i1), .second, .val (.long i2), .second, .val (.long (f_1 (1 : Int64) (i0 &&& (9223372036854775807 : Int64)))), .second, .val (.ref o2)] [(.long i2), (.ref o2)])
    refine Ends.callV (a := o2) (argsL := [(.long i2)]) (rest := []) X3 hx hZ hown (hw _ (List.mem_of_getElem? (i := 26) rfl)) (hw _ (List.mem_of_getElem? (i := 27) rfl)) (hw _ (List.mem_of_getElem? (i := 28) rfl)) (hw _ (List.mem_of_getElem? (i := 29) rfl)) (hw _ (List.mem_of_getElem? (i := 7) rfl)) (hw _ (List.mem_of_getElem? (i := 30) rfl)) (by decide) (con_6 l Z a0 hw o2 i2 T2.heap n0 Z2 F2q) e3 E2q (by rw [hml]; rfl) (hb hby at_39) (lenOf pd_6 rfl) 0 (Nat.le_of_eq rfl) (by decide) (by decide) (by decide) (by decide) ?_
    intro v T4 L4 X4 hQ
    obtain ⟨rfl, e4, rfl⟩ := hQ
    rw [List.append_nil] at X4
    show Ends p e below _ T4 (mkF m 42 #[.val (.long i0), .second, .val (.long i1), .second, .val (.long i2), .second, .val (.long (f_1 (1 : Int64) (i0 &&& (9223372036854775807 : Int64)))), .second, .val (.ref o2)] [(.int (0 : Int32))])
    refine Ends.ifc X4 hx (hb hby at_42) 47 (by decide) (by decide) (fun q => ?_) (fun q => ?_)
    · have c42 : (0 : Int32) = (0 : Int32) := own_eq.1 q
      show Ends p e below _ T4 (mkF m 47 #[.val (.long i0), .second, .val (.long i1), .second, .val (.long i2), .second, .val (.long (f_1 (1 : Int64) (i0 &&& (9223372036854775807 : Int64)))), .second, .val (.ref o2)] [])
      refine Ends.by (fun _ => XS.aload X4.here hx rfl (hb hby at_47) rfl rfl) ?_
      show Ends p e below _ T4 (mkF m 49 #[.val (.long i0), .second, .val (.long i1), .second, .val (.long i2), .second, .val (.long (f_1 (1 : Int64) (i0 &&& (9223372036854775807 : Int64)))), .second, .val (.ref o2)] [(.ref o2)])
      refine Ends.by (X4.ldc2Long hx hown (mvT hZ (hw _ (List.mem_of_getElem? (i := 0) rfl))) (g := (mkF m 49 #[.val (.long i0), .second, .val (.long i1), .second, .val (.long i2), .second, .val (.long (f_1 (1 : Int64) (i0 &&& (9223372036854775807 : Int64)))), .second, .val (.ref o2)] [(.ref o2)])) rfl (hb hby at_49)) ?_
      show Ends p e below _ T4 (mkF m 52 #[.val (.long i0), .second, .val (.long i1), .second, .val (.long i2), .second, .val (.long (f_1 (1 : Int64) (i0 &&& (9223372036854775807 : Int64)))), .second, .val (.ref o2)] [(.long (9223372036854775807 : Int64)), (.ref o2)])
      refine Ends.callV (a := o2) (argsL := [(.long (9223372036854775807 : Int64))]) (rest := []) X4 hx hZ hown (hw _ (List.mem_of_getElem? (i := 26) rfl)) (hw _ (List.mem_of_getElem? (i := 27) rfl)) (hw _ (List.mem_of_getElem? (i := 28) rfl)) (hw _ (List.mem_of_getElem? (i := 29) rfl)) (hw _ (List.mem_of_getElem? (i := 7) rfl)) (hw _ (List.mem_of_getElem? (i := 30) rfl)) (by decide) (con_6 l Z a0 hw o2 (9223372036854775807 : Int64) T2.heap n0 Z2 F2q) e4 E2q (by rw [hml]; rfl) (hb hby at_52) (lenOf pd_6 rfl) 0 (Nat.le_of_eq rfl) (by decide) (by decide) (by decide) (by decide) ?_
      intro v T5 L5 X5 hQ
      obtain ⟨rfl, e5, rfl⟩ := hQ
      rw [List.append_nil] at X5
      show Ends p e below _ T5 (mkF m 55 #[.val (.long i0), .second, .val (.long i1), .second, .val (.long i2), .second, .val (.long (f_1 (1 : Int64) (i0 &&& (9223372036854775807 : Int64)))), .second, .val (.ref o2)] [(.int (0 : Int32))])
      refine Ends.ifc X5 hx (hb hby at_55) 60 (by decide) (by decide) (fun q => ?_) (fun q => ?_)
      · have c55 : (0 : Int32) = (0 : Int32) := own_eq.1 q
        show Ends p e below _ T5 (mkF m 60 #[.val (.long i0), .second, .val (.long i1), .second, .val (.long i2), .second, .val (.long (f_1 (1 : Int64) (i0 &&& (9223372036854775807 : Int64)))), .second, .val (.ref o2)] [])
        refine Ends.by (fun _ => XS.aload X5.here hx rfl (hb hby at_60) rfl rfl) ?_
        show Ends p e below _ T5 (mkF m 62 #[.val (.long i0), .second, .val (.long i1), .second, .val (.long i2), .second, .val (.long (f_1 (1 : Int64) (i0 &&& (9223372036854775807 : Int64)))), .second, .val (.ref o2)] [(.ref o2)])
        refine Ends.by (fun _ => XS.lload X5.here hx rfl (hb hby at_62) rfl) ?_
        show Ends p e below _ T5 (mkF m 64 #[.val (.long i0), .second, .val (.long i1), .second, .val (.long i2), .second, .val (.long (f_1 (1 : Int64) (i0 &&& (9223372036854775807 : Int64)))), .second, .val (.ref o2)] [(.long (f_1 (1 : Int64) (i0 &&& (9223372036854775807 : Int64)))), (.ref o2)])
        refine Ends.callV (a := o2) (argsL := [(.long (f_1 (1 : Int64) (i0 &&& (9223372036854775807 : Int64))))]) (rest := []) X5 hx hZ hown (hw _ (List.mem_of_getElem? (i := 31) rfl)) (hw _ (List.mem_of_getElem? (i := 32) rfl)) (hw _ (List.mem_of_getElem? (i := 33) rfl)) (hw _ (List.mem_of_getElem? (i := 34) rfl)) (hw _ (List.mem_of_getElem? (i := 7) rfl)) (hw _ (List.mem_of_getElem? (i := 35) rfl)) (by decide) (con_7 l Z a0 hw o2 (f_1 (1 : Int64) (i0 &&& (9223372036854775807 : Int64))) (f_1 (1 : Int64) (i0 &&& (9223372036854775807 : Int64))) T2.heap n0 Z2 F2q G2q) e5 E2q (by rw [hml]; rfl) (hb hby at_64) (lenOf pd_7 rfl) 0 (Nat.le_of_eq rfl) (by decide) (by decide) (by decide) (by decide) ?_
        intro v T6 L6 X6 hQ
        obtain ⟨rfl, e6, rfl⟩ := hQ
        rw [List.append_nil] at X6
        show Ends p e below _ T6 (mkF m 67 #[.val (.long i0), .second, .val (.long i1), .second, .val (.long i2), .second, .val (.long (f_1 (1 : Int64) (i0 &&& (9223372036854775807 : Int64)))), .second, .val (.ref o2)] [(.int (own_reached (f_1 (1 : Int64) (i0 &&& (9223372036854775807 : Int64))) (f_1 (1 : Int64) (i0 &&& (9223372036854775807 : Int64)))))])
        refine Ends.ifc X6 hx (hb hby at_67) 72 (by decide) (by decide) (fun q => ?_) (fun q => ?_)
        · have c67 : ¬ ((own_reached (f_1 (1 : Int64) (i0 &&& (9223372036854775807 : Int64))) (f_1 (1 : Int64) (i0 &&& (9223372036854775807 : Int64)))) = (0 : Int32)) := own_ne.1 q
          show Ends p e below _ T6 (mkF m 72 #[.val (.long i0), .second, .val (.long i1), .second, .val (.long i2), .second, .val (.long (f_1 (1 : Int64) (i0 &&& (9223372036854775807 : Int64)))), .second, .val (.ref o2)] [])
          refine Ends.by (fun _ => XS.aload X6.here hx rfl (hb hby at_72) rfl rfl) ?_
          show Ends p e below _ T6 (mkF m 74 #[.val (.long i0), .second, .val (.long i1), .second, .val (.long i2), .second, .val (.long (f_1 (1 : Int64) (i0 &&& (9223372036854775807 : Int64)))), .second, .val (.ref o2)] [(.ref o2)])
          refine Ends.by (fun _ => XS.lload X6.here hx rfl (hb hby at_74) rfl) ?_
          show Ends p e below _ T6 (mkF m 76 #[.val (.long i0), .second, .val (.long i1), .second, .val (.long i2), .second, .val (.long (f_1 (1 : Int64) (i0 &&& (9223372036854775807 : Int64)))), .second, .val (.ref o2)] [(.long (f_1 (1 : Int64) (i0 &&& (9223372036854775807 : Int64)))), (.ref o2)])
          refine Ends.by (fun _ => XS.lconst X6.here hx rfl (hb hby at_76)) ?_
          show Ends p e below _ T6 (mkF m 77 #[.val (.long i0), .second, .val (.long i1), .second, .val (.long i2), .second, .val (.long (f_1 (1 : Int64) (i0 &&& (9223372036854775807 : Int64)))), .second, .val (.ref o2)] [(.long (1 : Int64)), (.long (f_1 (1 : Int64) (i0 &&& (9223372036854775807 : Int64)))), (.ref o2)])
          refine Ends.by (fun _ => XS.lsub X6.here hx rfl (hb hby at_77) rfl) ?_
          show Ends p e below _ T6 (mkF m 78 #[.val (.long i0), .second, .val (.long i1), .second, .val (.long i2), .second, .val (.long (f_1 (1 : Int64) (i0 &&& (9223372036854775807 : Int64)))), .second, .val (.ref o2)] [(.long ((f_1 (1 : Int64) (i0 &&& (9223372036854775807 : Int64))) - (1 : Int64))), (.ref o2)])
          refine Ends.callV (a := o2) (argsL := [(.long ((f_1 (1 : Int64) (i0 &&& (9223372036854775807 : Int64))) - (1 : Int64)))]) (rest := []) X6 hx hZ hown (hw _ (List.mem_of_getElem? (i := 31) rfl)) (hw _ (List.mem_of_getElem? (i := 32) rfl)) (hw _ (List.mem_of_getElem? (i := 33) rfl)) (hw _ (List.mem_of_getElem? (i := 34) rfl)) (hw _ (List.mem_of_getElem? (i := 7) rfl)) (hw _ (List.mem_of_getElem? (i := 35) rfl)) (by decide) (con_7 l Z a0 hw o2 ((f_1 (1 : Int64) (i0 &&& (9223372036854775807 : Int64))) - (1 : Int64)) (f_1 (1 : Int64) (i0 &&& (9223372036854775807 : Int64))) T2.heap n0 Z2 F2q G2q) e6 E2q (by rw [hml]; rfl) (hb hby at_78) (lenOf pd_7 rfl) 0 (Nat.le_of_eq rfl) (by decide) (by decide) (by decide) (by decide) ?_
          intro v T7 L7 X7 hQ
          obtain ⟨rfl, e7, rfl⟩ := hQ
          rw [List.append_nil] at X7
          show Ends p e below _ T7 (mkF m 81 #[.val (.long i0), .second, .val (.long i1), .second, .val (.long i2), .second, .val (.long (f_1 (1 : Int64) (i0 &&& (9223372036854775807 : Int64)))), .second, .val (.ref o2)] [(.int (own_reached ((f_1 (1 : Int64) (i0 &&& (9223372036854775807 : Int64))) - (1 : Int64)) (f_1 (1 : Int64) (i0 &&& (9223372036854775807 : Int64)))))])
          refine Ends.ifc X7 hx (hb hby at_81) 86 (by decide) (by decide) (fun q => ?_) (fun q => ?_)
          · have c81 : (own_reached ((f_1 (1 : Int64) (i0 &&& (9223372036854775807 : Int64))) - (1 : Int64)) (f_1 (1 : Int64) (i0 &&& (9223372036854775807 : Int64)))) = (0 : Int32) := own_eq.1 q
            show Ends p e below _ T7 (mkF m 86 #[.val (.long i0), .second, .val (.long i1), .second, .val (.long i2), .second, .val (.long (f_1 (1 : Int64) (i0 &&& (9223372036854775807 : Int64)))), .second, .val (.ref o2)] [])
            refine Ends.by (fun _ => XS.aload X7.here hx rfl (hb hby at_86) rfl rfl) ?_
            show Ends p e below _ T7 (mkF m 88 #[.val (.long i0), .second, .val (.long i1), .second, .val (.long i2), .second, .val (.long (f_1 (1 : Int64) (i0 &&& (9223372036854775807 : Int64)))), .second, .val (.ref o2)] [(.ref o2)])
            refine Ends.by (fun _ => XS.lloadN X7.here hx rfl (hb hby at_88) rfl) ?_
            show Ends p e below _ T7 (mkF m 89 #[.val (.long i0), .second, .val (.long i1), .second, .val (.long i2), .second, .val (.long (f_1 (1 : Int64) (i0 &&& (9223372036854775807 : Int64)))), .second, .val (.ref o2)] [(.long i1), (.ref o2)])
            refine Ends.callV (a := o2) (argsL := [(.long i1)]) (rest := []) X7 hx hZ hown (hw _ (List.mem_of_getElem? (i := 31) rfl)) (hw _ (List.mem_of_getElem? (i := 32) rfl)) (hw _ (List.mem_of_getElem? (i := 33) rfl)) (hw _ (List.mem_of_getElem? (i := 34) rfl)) (hw _ (List.mem_of_getElem? (i := 7) rfl)) (hw _ (List.mem_of_getElem? (i := 35) rfl)) (by decide) (con_7 l Z a0 hw o2 i1 (f_1 (1 : Int64) (i0 &&& (9223372036854775807 : Int64))) T2.heap n0 Z2 F2q G2q) e7 E2q (by rw [hml]; rfl) (hb hby at_89) (lenOf pd_7 rfl) 0 (Nat.le_of_eq rfl) (by decide) (by decide) (by decide) (by decide) ?_
            intro v T8 L8 X8 hQ
            obtain ⟨rfl, e8, rfl⟩ := hQ
            rw [List.append_nil] at X8
            show Ends p e below _ T8 (mkF m 92 #[.val (.long i0), .second, .val (.long i1), .second, .val (.long i2), .second, .val (.long (f_1 (1 : Int64) (i0 &&& (9223372036854775807 : Int64)))), .second, .val (.ref o2)] [(.int (own_reached i1 (f_1 (1 : Int64) (i0 &&& (9223372036854775807 : Int64)))))])
            refine Ends.by (fun _ => XS.lloadN X8.here hx rfl (hb hby at_92) rfl) ?_
            show Ends p e below _ T8 (mkF m 93 #[.val (.long i0), .second, .val (.long i1), .second, .val (.long i2), .second, .val (.long (f_1 (1 : Int64) (i0 &&& (9223372036854775807 : Int64)))), .second, .val (.ref o2)] [(.long i1), (.int (own_reached i1 (f_1 (1 : Int64) (i0 &&& (9223372036854775807 : Int64)))))])
            refine Ends.by (fun _ => XS.lload X8.here hx rfl (hb hby at_93) rfl) ?_
            show Ends p e below _ T8 (mkF m 95 #[.val (.long i0), .second, .val (.long i1), .second, .val (.long i2), .second, .val (.long (f_1 (1 : Int64) (i0 &&& (9223372036854775807 : Int64)))), .second, .val (.ref o2)] [(.long (f_1 (1 : Int64) (i0 &&& (9223372036854775807 : Int64)))), (.long i1), (.int (own_reached i1 (f_1 (1 : Int64) (i0 &&& (9223372036854775807 : Int64)))))])
            refine Ends.by (fun _ => XS.lcmp X8.here hx rfl (hb hby at_95) rfl) ?_
            show Ends p e below _ T8 (mkF m 96 #[.val (.long i0), .second, .val (.long i1), .second, .val (.long i2), .second, .val (.long (f_1 (1 : Int64) (i0 &&& (9223372036854775807 : Int64)))), .second, .val (.ref o2)] [(.int (lcmpW i1 (f_1 (1 : Int64) (i0 &&& (9223372036854775807 : Int64))))), (.int (own_reached i1 (f_1 (1 : Int64) (i0 &&& (9223372036854775807 : Int64)))))])
            refine Ends.ifc X8 hx (hb hby at_96) 103 (by decide) (by decide) (fun q => ?_) (fun q => ?_)
            · have c96 : (lcmpW i1 (f_1 (1 : Int64) (i0 &&& (9223372036854775807 : Int64)))) < (0 : Int32) := own_lt.1 q
              show Ends p e below _ T8 (mkF m 103 #[.val (.long i0), .second, .val (.long i1), .second, .val (.long i2), .second, .val (.long (f_1 (1 : Int64) (i0 &&& (9223372036854775807 : Int64)))), .second, .val (.ref o2)] [(.int (own_reached i1 (f_1 (1 : Int64) (i0 &&& (9223372036854775807 : Int64)))))])
              refine Ends.by (fun _ => XS.iconst X8.here hx rfl (hb hby at_103)) ?_
              show Ends p e below _ T8 (mkF m 104 #[.val (.long i0), .second, .val (.long i1), .second, .val (.long i2), .second, .val (.long (f_1 (1 : Int64) (i0 &&& (9223372036854775807 : Int64)))), .second, .val (.ref o2)] [(.int (0 : Int32)), (.int (own_reached i1 (f_1 (1 : Int64) (i0 &&& (9223372036854775807 : Int64)))))])
              refine Ends.icmp X8 hx (hb hby at_104) 111 (by decide) (by decide) (fun q => ?_) (fun q => ?_)
              · have c104 : ¬ ((own_reached i1 (f_1 (1 : Int64) (i0 &&& (9223372036854775807 : Int64)))) = (0 : Int32)) := own_ne.1 q
                exact absurd (show own_reached _ _ = _ from if_pos c96) c104
              · have c104 : (own_reached i1 (f_1 (1 : Int64) (i0 &&& (9223372036854775807 : Int64)))) = (0 : Int32) := own_ne.2 q
                show Ends p e below _ T8 (mkF m 107 #[.val (.long i0), .second, .val (.long i1), .second, .val (.long i2), .second, .val (.long (f_1 (1 : Int64) (i0 &&& (9223372036854775807 : Int64)))), .second, .val (.ref o2)] [])
                refine Ends.by (fun _ => XS.iconst X8.here hx rfl (hb hby at_107)) ?_
                show Ends p e below _ T8 (mkF m 108 #[.val (.long i0), .second, .val (.long i1), .second, .val (.long i2), .second, .val (.long (f_1 (1 : Int64) (i0 &&& (9223372036854775807 : Int64)))), .second, .val (.ref o2)] [(.int (1 : Int32))])
                refine Ends.by (fun _ => XS.goto X8.here hx rfl (pc0 := 108) (pc' := 112) rfl (hb hby at_108) (by decide) (by decide)) ?_
                show Ends p e below _ T8 (mkF m 112 #[.val (.long i0), .second, .val (.long i1), .second, .val (.long i2), .second, .val (.long (f_1 (1 : Int64) (i0 &&& (9223372036854775807 : Int64)))), .second, .val (.ref o2)] [(.int (1 : Int32))])
                exact Ends.retZ X8 hx hlk hret (hb hby at_112) (by first | decide | (simp; done)) (by decide) (by decide) (⟨rfl, N2⟩)
            · have c96 : ¬ ((lcmpW i1 (f_1 (1 : Int64) (i0 &&& (9223372036854775807 : Int64)))) < (0 : Int32)) := own_lt.2 q
              show Ends p e below _ T8 (mkF m 99 #[.val (.long i0), .second, .val (.long i1), .second, .val (.long i2), .second, .val (.long (f_1 (1 : Int64) (i0 &&& (9223372036854775807 : Int64)))), .second, .val (.ref o2)] [(.int (own_reached i1 (f_1 (1 : Int64) (i0 &&& (9223372036854775807 : Int64)))))])
              refine Ends.by (fun _ => XS.iconst X8.here hx rfl (hb hby at_99)) ?_
              show Ends p e below _ T8 (mkF m 100 #[.val (.long i0), .second, .val (.long i1), .second, .val (.long i2), .second, .val (.long (f_1 (1 : Int64) (i0 &&& (9223372036854775807 : Int64)))), .second, .val (.ref o2)] [(.int (1 : Int32)), (.int (own_reached i1 (f_1 (1 : Int64) (i0 &&& (9223372036854775807 : Int64)))))])
              refine Ends.by (fun _ => XS.goto X8.here hx rfl (pc0 := 100) (pc' := 104) rfl (hb hby at_100) (by decide) (by decide)) ?_
              show Ends p e below _ T8 (mkF m 104 #[.val (.long i0), .second, .val (.long i1), .second, .val (.long i2), .second, .val (.long (f_1 (1 : Int64) (i0 &&& (9223372036854775807 : Int64)))), .second, .val (.ref o2)] [(.int (1 : Int32)), (.int (own_reached i1 (f_1 (1 : Int64) (i0 &&& (9223372036854775807 : Int64)))))])
              refine Ends.icmp X8 hx (hb hby at_104) 111 (by decide) (by decide) (fun q => ?_) (fun q => ?_)
              · have c104 : ¬ ((own_reached i1 (f_1 (1 : Int64) (i0 &&& (9223372036854775807 : Int64)))) = (1 : Int32)) := own_ne.1 q
                exact absurd (show own_reached _ _ = _ from if_neg c96) c104
              · have c104 : (own_reached i1 (f_1 (1 : Int64) (i0 &&& (9223372036854775807 : Int64)))) = (1 : Int32) := own_ne.2 q
                show Ends p e below _ T8 (mkF m 107 #[.val (.long i0), .second, .val (.long i1), .second, .val (.long i2), .second, .val (.long (f_1 (1 : Int64) (i0 &&& (9223372036854775807 : Int64)))), .second, .val (.ref o2)] [])
                refine Ends.by (fun _ => XS.iconst X8.here hx rfl (hb hby at_107)) ?_
                show Ends p e below _ T8 (mkF m 108 #[.val (.long i0), .second, .val (.long i1), .second, .val (.long i2), .second, .val (.long (f_1 (1 : Int64) (i0 &&& (9223372036854775807 : Int64)))), .second, .val (.ref o2)] [(.int (1 : Int32))])
                refine Ends.by (fun _ => XS.goto X8.here hx rfl (pc0 := 108) (pc' := 112) rfl (hb hby at_108) (by decide) (by decide)) ?_
                show Ends p e below _ T8 (mkF m 112 #[.val (.long i0), .second, .val (.long i1), .second, .val (.long i2), .second, .val (.long (f_1 (1 : Int64) (i0 &&& (9223372036854775807 : Int64)))), .second, .val (.ref o2)] [(.int (1 : Int32))])
                exact Ends.retZ X8 hx hlk hret (hb hby at_112) (by first | decide | (simp; done)) (by decide) (by decide) (⟨rfl, N2⟩)
          · have c81 : ¬ ((own_reached ((f_1 (1 : Int64) (i0 &&& (9223372036854775807 : Int64))) - (1 : Int64)) (f_1 (1 : Int64) (i0 &&& (9223372036854775807 : Int64)))) = (0 : Int32)) := own_eq.2 q
            exact absurd (own_r0 _ (own_pos _)) c81
        · have c67 : (own_reached (f_1 (1 : Int64) (i0 &&& (9223372036854775807 : Int64))) (f_1 (1 : Int64) (i0 &&& (9223372036854775807 : Int64)))) = (0 : Int32) := own_ne.2 q
          exact absurd c67 (own_r1 _)
      · have c55 : ¬ ((0 : Int32) = (0 : Int32)) := own_eq.2 q
        exact absurd c55 (by decide)
    · have c42 : ¬ ((0 : Int32) = (0 : Int32)) := own_eq.2 q
      exact absurd c42 (by decide)
  · have c30 : ¬ ((0 : Int32) = (0 : Int32)) := own_eq.2 q
    exact absurd c30 (by decide)
set_option maxRecDepth 65536 in
set_option maxHeartbeats 40000000 in
theorem comes_1 {Post : Tables → Env → Array Value → State → Outcome → State → Prop} (hpost : ∀ tb e args s v u, (limb_1_1.after args s (.returned v) u = true ∧ limb_1_2.after args s (.returned v) u = true) → FrameEnd s (.returned v) u (Jvm.fieldLocs frame_1_writes args s ++ Jvm.arrayLocs frame_1_arrays args s ++ Jvm.staticLocs frame_1_statics s) 16 128 → Post tb e args s (.returned v) u) :
    ArmFor flags0 classFile x code maxLocals ret World_1 tables_1 room_1 Calls_1 rest_1 Pre_1 Post := by
  intro l hfl _ _ p e ha hc hk s m args below hf hA hF happ hP
  obtain ⟨hcalls, hrest, hpre⟩ := hP
  obtain ⟨-, -, -, hnamed, -, -, -, hat⟩ := (Spec.applies_iff hf).mp happ
  obtain ⟨hg, hn⟩ := and_e (Cond.before_iff.mp (show (Jvm.Cond.and given_1 narrow_1).before args s = true from hpre))
  obtain ⟨hcount, g0⟩ := and_e hg
  obtain ⟨k0, g1⟩ := and_e g0
  obtain ⟨k1, g2⟩ := and_e g1
  obtain ⟨w0, w1, w2, rfl⟩ : ∃ w0 w1 w2 : Value, args = #[w0, w1, w2] := by
    have hs : args.size = 3 := by simpa [Cond.value, given_1] using hcount
    obtain ⟨L⟩ := args
    match L, hs with
    | [w0, w1, w2], _ => exact ⟨w0, w1, w2, rfl⟩
  have hw := fun d (hd : d ∈ tables_1) => atoms_spec (ws := Jvm.Cond.code x code maxLocals ret :: tables_1) hat d (List.mem_cons_of_mem _ hd)
  obtain ⟨i0, ei0⟩ := isL_v k0
  obtain rfl : w0 = (.long i0) := Option.some.inj ei0
  obtain ⟨i1, ei1⟩ := isL_v k1
  obtain rfl : w1 = (.long i1) := Option.some.inj ei1
  obtain ⟨i2, ei2⟩ := isL_v g2
  obtain rfl : w2 = (.long i2) := Option.some.inj ei2
  obtain ⟨n, o, h1, h2, h3, _, L, rfl, ⟨rfl, N⟩, hq⟩ := con_0 l s _ hw i0 i1 i2 s.heap s.heap.size (Nat.le_refl _) tables_1 p e ha hc hk s m _ below hf ((Spec.applies_iff_loose hf).mp happ).1 ⟨rfl, State.Warmed39.refl s, rfl⟩ trivial
  refine ⟨n, _, h1, h2, h3, hpost _ _ _ _ _ _ ⟨Cond.after_iff.mpr rfl, Cond.after_iff.mpr (eq_i res_at (Term.int_eval (1)) rfl)⟩ ⟨hq.1, hq.2.1, (hq.2.2.sift fun y hy => Or.inr (N y hy)).mono (by decide) (by decide)⟩⟩
theorem main_1_1 : Claimed_1_1 := comes_1 fun _ _ _ _ _ _ h hF => ⟨h.1, hF⟩
theorem main_1_2 : Claimed_1_2 := comes_1 fun _ _ _ _ _ _ h hF => ⟨h.2, hF⟩
end Jvm.Pilot.@@N@@
namespace Jvm.Pilot.@@N@@
open Jvm Jvm.ClassFile Sem Op Lib Jvm.Free Jvm.Stand Jvm.Pilot.@@N@@.Jvm.D
/-! MADE BY PROGRAM (witnessworld.py) out of the Statement's table words and the real class files: 10 classes; the members and pool entries that the words name. The judged class is class 1, her method 1. -/
namespace start1
open Jvm.ClassFile
def u (s : String) : CpInfo := .utf8 (stringToUtf16 s)
/-- a pool by its gaps: so many unusable entries, then the entry; so many at the end -/
def gap : Nat → List CpInfo → List CpInfo
  | 0, r => r
  | n + 1, r => .unusable :: gap n r
def poolList (es : List (Nat × CpInfo)) (last : Nat) : List CpInfo := es.foldr (fun e r => gap e.1 (e.2 :: r)) (gap last [])
def pool (es : List (Nat × CpInfo)) (last : Nat) : Array CpInfo := ⟨poolList es last⟩
def fileOf (pool : Array CpInfo) (this : Nat) (attrs : Array Attribute := #[]) (ms : Array MethodInfo := #[]) (fl : Nat := 33) (sup : Nat := 0) (ifs : Array Nat := #[]) (fds : Array FieldInfo := #[]) : ClassFile where
  minorVersion := 0
  majorVersion := 65
  constantPool := pool
  accessFlags := fl
  thisClass := this
  superClass := sup
  interfaces := ifs
  fields := fds
  methods := ms
  attributes := attrs
def plain (name : String) (sup : Option ClassId) : Class where
  name := name
  kind := .ordinary
  loader := none
  accessFlags := 33
  super := sup
  interfaces := #[]
  cf := none
  fields := #[]
  methods := #[]
  instanceTypes := #[]
  staticTypes := #[]
  resolved := #[]
  callSites := []
  init := .initialized
  statics := none
  mirror := none

def pool0 : Array CpInfo := pool [(5, u "<init>"), (0, u "()V"), (1, .class_ 10), (1, u "java/lang/Object")] 113

def k0c0 : Code := { maxStack := 0, maxLocals := 1, code := object_method_1_code, exceptionTable := #[], attributes := #[] }
def k0m0 : Method := { name := "<init>", desc := "()V", sig := { parameters := [], returnType := none }, accessFlags := 1, code := some k0c0 }
/-- java/lang/Object -/
def k0 : Class := { plain "java/lang/Object" none with
  accessFlags := 33
  interfaces := #[]
  cf := some (fileOf pool0 8 #[] #[{ accessFlags := 1, nameIndex := 5, descriptorIndex := 6, attributes := #[] }] 33 0 #[] #[])
  fields := #[]
  methods := #[k0m0]
  instanceTypes := #[]
  staticTypes := #[]
  resolved := Array.replicate 124 none
  statics := none }

def pool1 : Array CpInfo := pool [(2, .class_ 4), (1, u "java/lang/Object"), (0, u "<init>"), (0, u "()V"), (2, .long 9223372036854775807), (1, .methodref 12 13), (0, .class_ 14), (0, .nameAndType 15 16), (0, u "java/lang/Math"), (0, u "max"), (0, u "(JJ)J"), (0, .methodref 18 19), (0, .class_ 20), (0, .nameAndType 21 22), (0, u "com/example/palimpsest/palimpsest/workload/tpcc/Stop"), (0, u "afterCommits"), (0, u "(J)Lcom/example/palimpsest/palimpsest/workload/tpcc/Stop;"), (0, .methodref 18 24), (0, .nameAndType 25 26), (0, u "timed"), (0, u "()Z"), (0, .methodref 18 28), (0, .nameAndType 29 30), (0, u "timeUp"), (0, u "(J)Z"), (0, .methodref 18 32), (0, .nameAndType 33 30), (0, u "reached"), (0, .class_ 35), (0, u "com/example/palimpsest/palimpsest/workload/tpcc/StopAfterCommitsPinLaw"), (2, u "law"), (0, u "(JJJ)Z")] 3

def k1m0 : Method := { name := "<init>", desc := "()V", sig := { parameters := [], returnType := none }, accessFlags := 1, code := none }
def k1c1 : Code := { maxStack := 6, maxLocals := 9, code := code, exceptionTable := #[], attributes := #[] }
def k1m1 : Method := { name := "law", desc := "(JJJ)Z", sig := { parameters := [.long, .long, .long], returnType := some .boolean }, accessFlags := 9, code := some k1c1 }
/-- com/example/palimpsest/palimpsest/workload/tpcc/StopAfterCommitsPinLaw -/
def k1 : Class := { plain "com/example/palimpsest/palimpsest/workload/tpcc/StopAfterCommitsPinLaw" (some 0) with
  accessFlags := 49
  interfaces := #[]
  cf := some (fileOf pool1 34 #[] #[{ accessFlags := 1, nameIndex := 5, descriptorIndex := 6, attributes := #[] }, { accessFlags := 9, nameIndex := 38, descriptorIndex := 39, attributes := #[] }] 49 2 #[] #[])
  fields := #[]
  methods := #[k1m0, k1m1]
  instanceTypes := #[]
  staticTypes := #[]
  resolved := Array.replicate 43 none
  statics := none }

def pool2 : Array CpInfo := pool [(1, .class_ 2), (0, u "java/lang/Math"), (1, .class_ 6), (1, u "java/lang/Object"), (0, u "<init>"), (0, u "()V"), (89, .class_ 100), (1, u "java/lang/Math$RandomNumberGeneratorHolder"), (20, u "(JJ)J"), (50, u "negativeZeroFloatBits"), (0, u "J"), (2, u "negativeZeroDoubleBits"), (21, u "max"), (46, u "$assertionsDisabled"), (0, u "Z"), (91, u "twoToTheDoubleScaleDown"), (0, u "D"), (4, u "twoToTheDoubleScaleUp"), (9, u "E"), (3, u "PI"), (2, u "TAU"), (2, u "DEGREES_TO_RADIANS"), (0, u "RADIANS_TO_DEGREES")] 94

def k2m0 : Method := { name := "<init>", desc := "()V", sig := { parameters := [], returnType := none }, accessFlags := 2, code := none }
def k2c1 : Code := { maxStack := 4, maxLocals := 4, code := jdk_29_method_66_code, exceptionTable := #[], attributes := #[] }
def k2m1 : Method := { name := "max", desc := "(JJ)J", sig := { parameters := [.long, .long], returnType := some .long }, accessFlags := 9, code := some k2c1 }
/-- java/lang/Math -/
def k2 : Class := { plain "java/lang/Math" (some 0) with
  accessFlags := 49
  interfaces := #[]
  cf := some (fileOf pool2 1 #[.nestMembers #[98]] #[{ accessFlags := 2, nameIndex := 7, descriptorIndex := 8, attributes := #[] }, { accessFlags := 9, nameIndex := 198, descriptorIndex := 121, attributes := #[] }] 49 4 #[] #[{ accessFlags := 25, nameIndex := 354, descriptorIndex := 339, attributes := #[] }, { accessFlags := 25, nameIndex := 358, descriptorIndex := 339, attributes := #[] }, { accessFlags := 25, nameIndex := 361, descriptorIndex := 339, attributes := #[] }, { accessFlags := 26, nameIndex := 364, descriptorIndex := 339, attributes := #[] }, { accessFlags := 26, nameIndex := 365, descriptorIndex := 339, attributes := #[] }, { accessFlags := 26, nameIndex := 172, descriptorIndex := 173, attributes := #[] }, { accessFlags := 26, nameIndex := 176, descriptorIndex := 173, attributes := #[] }, { accessFlags := 8, nameIndex := 344, descriptorIndex := 339, attributes := #[] }, { accessFlags := 8, nameIndex := 338, descriptorIndex := 339, attributes := #[] }, { accessFlags := 4120, nameIndex := 245, descriptorIndex := 246, attributes := #[] }])
  fields := #[{ name := "E", type := .double, accessFlags := 25, slot := 0, constantValue := 0 }, { name := "PI", type := .double, accessFlags := 25, slot := 1, constantValue := 0 }, { name := "TAU", type := .double, accessFlags := 25, slot := 2, constantValue := 0 }, { name := "DEGREES_TO_RADIANS", type := .double, accessFlags := 26, slot := 3, constantValue := 0 }, { name := "RADIANS_TO_DEGREES", type := .double, accessFlags := 26, slot := 4, constantValue := 0 }, { name := "negativeZeroFloatBits", type := .long, accessFlags := 26, slot := 5, constantValue := 0 }, { name := "negativeZeroDoubleBits", type := .long, accessFlags := 26, slot := 6, constantValue := 0 }, { name := "twoToTheDoubleScaleUp", type := .double, accessFlags := 8, slot := 7, constantValue := 0 }, { name := "twoToTheDoubleScaleDown", type := .double, accessFlags := 8, slot := 8, constantValue := 0 }, { name := "$assertionsDisabled", type := .boolean, accessFlags := 4120, slot := 9, constantValue := 0 }]
  methods := #[k2m0, k2m1]
  instanceTypes := #[]
  staticTypes := #[.double, .double, .double, .double, .double, .long, .long, .double, .double, .boolean]
  resolved := Array.replicate 460 none
  statics := none }

def pool3 : Array CpInfo := pool [(1, .methodref 2 3), (0, .class_ 4), (0, .nameAndType 5 6), (0, u "java/lang/Object"), (0, u "<init>"), (0, u "()V"), (0, .fieldref 8 9), (0, .class_ 10), (0, .nameAndType 11 12), (0, u "com/example/palimpsest/palimpsest/workload/tpcc/Stop"), (0, u "time"), (0, u "Ljava/time/Duration;"), (0, .fieldref 8 14), (0, .nameAndType 15 16), (0, u "commits"), (0, u "J"), (29, .methodref 8 47), (0, .nameAndType 5 48), (0, u "(Ljava/time/Duration;J)V"), (12, u "afterCommits"), (0, u "(J)Lcom/example/palimpsest/palimpsest/workload/tpcc/Stop;"), (0, u "timed"), (0, u "()Z"), (0, u "timeUp"), (0, u "(J)Z"), (0, u "reached")] 19

def k3c0 : Code := { maxStack := 3, maxLocals := 4, code := prog_33_method_1_code, exceptionTable := #[], attributes := #[] }
def k3m0 : Method := { name := "<init>", desc := "(Ljava/time/Duration;J)V", sig := { parameters := [(.object "java/time/Duration"), .long], returnType := none }, accessFlags := 2, code := some k3c0 }
def k3c1 : Code := { maxStack := 5, maxLocals := 2, code := prog_33_method_3_code, exceptionTable := #[], attributes := #[] }
def k3m1 : Method := { name := "afterCommits", desc := "(J)Lcom/example/palimpsest/palimpsest/workload/tpcc/Stop;", sig := { parameters := [.long], returnType := some (.object "com/example/palimpsest/palimpsest/workload/tpcc/Stop") }, accessFlags := 9, code := some k3c1 }
def k3c2 : Code := { maxStack := 1, maxLocals := 1, code := prog_33_method_4_code, exceptionTable := #[], attributes := #[] }
def k3m2 : Method := { name := "timed", desc := "()Z", sig := { parameters := [], returnType := some .boolean }, accessFlags := 0, code := some k3c2 }
def k3c3 : Code := { maxStack := 4, maxLocals := 3, code := prog_33_method_5_code, exceptionTable := #[], attributes := #[] }
def k3m3 : Method := { name := "timeUp", desc := "(J)Z", sig := { parameters := [.long], returnType := some .boolean }, accessFlags := 0, code := some k3c3 }
def k3c4 : Code := { maxStack := 4, maxLocals := 3, code := prog_33_method_6_code, exceptionTable := #[], attributes := #[] }
def k3m4 : Method := { name := "reached", desc := "(J)Z", sig := { parameters := [.long], returnType := some .boolean }, accessFlags := 0, code := some k3c4 }
/-- com/example/palimpsest/palimpsest/workload/tpcc/Stop -/
def k3 : Class := { plain "com/example/palimpsest/palimpsest/workload/tpcc/Stop" (some 0) with
  accessFlags := 49
  interfaces := #[]
  cf := some (fileOf pool3 8 #[] #[{ accessFlags := 2, nameIndex := 5, descriptorIndex := 48, attributes := #[] }, { accessFlags := 9, nameIndex := 61, descriptorIndex := 62, attributes := #[] }, { accessFlags := 0, nameIndex := 63, descriptorIndex := 64, attributes := #[] }, { accessFlags := 0, nameIndex := 65, descriptorIndex := 66, attributes := #[] }, { accessFlags := 0, nameIndex := 67, descriptorIndex := 66, attributes := #[] }] 49 2 #[] #[{ accessFlags := 18, nameIndex := 11, descriptorIndex := 12, attributes := #[] }, { accessFlags := 18, nameIndex := 15, descriptorIndex := 16, attributes := #[] }])
  fields := #[{ name := "time", type := (.object "java/time/Duration"), accessFlags := 18, slot := 0, constantValue := 0 }, { name := "commits", type := .long, accessFlags := 18, slot := 1, constantValue := 0 }]
  methods := #[k3m0, k3m1, k3m2, k3m3, k3m4]
  instanceTypes := #[(.object "java/time/Duration"), .long]
  staticTypes := #[]
  resolved := Array.replicate 87 none
  statics := none }

def pool4 : Array CpInfo := pool [(1, u "java/lang/Cloneable"), (0, .class_ 1), (0, u "java/lang/Object"), (0, .class_ 3)] 3

/-- java/lang/Cloneable -/
def k4 : Class := { plain "java/lang/Cloneable" (some 0) with
  accessFlags := 1537
  interfaces := #[]
  cf := some (fileOf pool4 2 #[] #[] 1537 4 #[] #[])
  fields := #[]
  methods := #[]
  instanceTypes := #[]
  staticTypes := #[]
  resolved := Array.replicate 8 none
  statics := none }

def pool5 : Array CpInfo := pool [(1, u "java/io/Serializable"), (0, .class_ 1), (0, u "java/lang/Object"), (0, .class_ 3)] 3

/-- java/io/Serializable -/
def k5 : Class := { plain "java/io/Serializable" (some 0) with
  accessFlags := 1537
  interfaces := #[]
  cf := some (fileOf pool5 2 #[] #[] 1537 4 #[] #[])
  fields := #[]
  methods := #[]
  instanceTypes := #[]
  staticTypes := #[]
  resolved := Array.replicate 8 none
  statics := none }

/-- the primitive byte -/
def k6 : Class := { plain "byte" none with kind := .primitive 'B', accessFlags := 0x411 }
/-- [B -/
def k7 : Class := { plain "[B" (some 0) with kind := .array 6 .byte, interfaces := #[4, 5], accessFlags := 1041 }

/-- the primitive int -/
def k8 : Class := { plain "int" none with kind := .primitive 'I', accessFlags := 0x411 }
/-- [I -/
def k9 : Class := { plain "[I" (some 0) with kind := .array 8 .int, interfaces := #[4, 5], accessFlags := 1041 }

def heap : Heap := #[]
def classes : Array Class := #[k0, k1, k2, k3, k4, k5, k6, k7, k8, k9]
def interned : List (Array UInt16 × Addr) := []
def slotsUsed : Nat := 0
def theMethod : MethodId := ⟨1, 1⟩
def args0 : Array Value := #[.long 5, .long 7, .long 9]
def aboutOver (below : List Frame) : State where
  vm := { classes := classes, interned := interned.toArray }
  heap := heap
  slotsUsed := slotsUsed
  threads := #[{ frames := .invoking theMethod args0 :: below }]
def below0 : List Frame := [.native { method := ⟨0, 0⟩, args := #[] }]
def about1 : State := aboutOver below0
def p0 : Program := .bare "" "" ""
def e0 : Env := launch0.env 0 0 0
theorem w_frames : about1.frames = Frame.invoking theMethod args0 :: below0 := rfl
set_option maxRecDepth 65536 in
theorem w_args : argsFit about1.vm theMethod args0 = true := by decide +kernel
set_option maxRecDepth 65536 in
theorem w_heap : heapFits about1 = true := by decide +kernel
set_option maxRecDepth 65536 in
theorem w_runnable : about1.curStatus? = some .runnable := by decide +kernel
set_option maxRecDepth 65536 in
theorem w_alone : about1.alone = true := by decide +kernel
set_option maxRecDepth 65536 in
theorem w_named : about1.methodNamed? x = some theMethod := by decide +kernel
set_option maxRecDepth 65536 in
theorem w_hears : about1.hears theMethod below0 = true := by decide +kernel
set_option maxRecDepth 65536 in
theorem w_ripe : about1.ripe theMethod args0 below0 = true := by decide +kernel
theorem w_running : about1.status = .running := rfl
set_option maxRecDepth 65536 in
theorem w_room : about1.hasRoom e0.platform room_1 = true :=
  launch0.hasRoom_least _ room_1 (by decide +kernel) (by decide +kernel) (by decide +kernel) (by decide +kernel) (by decide +kernel) (by decide +kernel)
theorem allAtoms_all (ts : List Jvm.Cond) (a : Array Jvm.Value) (st : Jvm.State) : (allAtoms ts).before a st = ts.all (fun c => c.before a st) := by
  induction ts with
  | nil => rfl
  | cons c t ih =>
    show (Jvm.Cond.and c (allAtoms t)).before a st = _
    rw [Jvm.Cond.before_and, ih, List.all_cons]
def words1 : List Jvm.Cond := Jvm.Cond.code x code maxLocals ret :: tables_1
/-- a 'code' word, met by the world's own term for the bytes: nothing is compared byte by byte -/
theorem code_word {y : MethodName} {bytes : ByteArray} {mx : Nat} {rt : Option FieldType} {a : Array Value} {s : State} {m : MethodId} {meth : Method} {c : Code} (h1 : s.methodNamed? y = some m) (h2 : s.vm.method? m = some meth) (h3 : meth.code = some c) (h4 : c.code = bytes)
    (h5 : (c.maxLocals == mx && c.exceptionTable.isEmpty && decide (c.maxStack ≤ mostOperands) && decide (meth.sig.returnType = rt) && !meth.locks && decide (parseMethodDescriptor y.desc = some meth.sig)) = true) : (Jvm.Cond.code y bytes mx rt).before a s = true := by
  simp only [Bool.and_eq_true, beq_iff_eq, Bool.not_eq_true', decide_eq_true_eq] at h5
  obtain ⟨⟨⟨⟨⟨g1, g2⟩, g3⟩, g4⟩, g5⟩, g6⟩ := h5
  simp [Cond.before, Cond.holds, Cond.value, h1, h2, h3, h4, g1, g2, g3, g4, g5, g6]
def isCode : Jvm.Cond → Bool
  | .code _ _ _ _ => true
  | _ => false
theorem all_split {L : List Jvm.Cond} {P : Jvm.Cond → Bool} (h1 : L.all (fun c => isCode c || P c) = true) (h2 : ∀ c ∈ L.filter isCode, P c = true) : L.all P = true := by
  refine List.all_eq_true.mpr fun c hc => ?_
  have h := List.all_eq_true.mp h1 c hc
  rcases Bool.eq_false_or_eq_true (isCode c) with hi | hi
  · exact h2 c (List.mem_filter.mpr ⟨hc, hi⟩)
  · simpa [hi] using h
set_option maxRecDepth 65536 in
theorem w_c0 : (Jvm.Cond.code x code maxLocals ret).before args0 about1 = true := code_word (m := ⟨1, 1⟩) (meth := k1m1) (c := k1c1) (by decide +kernel) rfl rfl rfl (by decide +kernel)
set_option maxRecDepth 65536 in
theorem w_c1 : (Jvm.Cond.code ({ cls := "java/lang/Math", name := "max", desc := "(JJ)J" } : Jvm.MethodName) jdk_29_method_66_code (4 : Nat) (Option.some Jvm.ClassFile.FieldType.long)).before args0 about1 = true := code_word (m := ⟨2, 1⟩) (meth := k2m1) (c := k2c1) (by decide +kernel) rfl rfl rfl (by decide +kernel)
set_option maxRecDepth 65536 in
theorem w_c2 : (Jvm.Cond.code ({ cls := "com/example/palimpsest/palimpsest/workload/tpcc/Stop", name := "afterCommits", desc := "(J)Lcom/example/palimpsest/palimpsest/workload/tpcc/Stop;" } : Jvm.MethodName) prog_33_method_3_code (2 : Nat) (Option.some (Jvm.ClassFile.FieldType.object "com/example/palimpsest/palimpsest/workload/tpcc/Stop"))).before args0 about1 = true := code_word (m := ⟨3, 1⟩) (meth := k3m1) (c := k3c1) (by decide +kernel) rfl rfl rfl (by decide +kernel)
set_option maxRecDepth 65536 in
theorem w_c3 : (Jvm.Cond.code ({ cls := "com/example/palimpsest/palimpsest/workload/tpcc/Stop", name := "<init>", desc := "(Ljava/time/Duration;J)V" } : Jvm.MethodName) prog_33_method_1_code (4 : Nat) (Option.none : Option Jvm.ClassFile.FieldType)).before args0 about1 = true := code_word (m := ⟨3, 0⟩) (meth := k3m0) (c := k3c0) (by decide +kernel) rfl rfl rfl (by decide +kernel)
set_option maxRecDepth 65536 in
theorem w_c4 : (Jvm.Cond.code ({ cls := "java/lang/Object", name := "<init>", desc := "()V" } : Jvm.MethodName) object_method_1_code (1 : Nat) (Option.none : Option Jvm.ClassFile.FieldType)).before args0 about1 = true := code_word (m := ⟨0, 0⟩) (meth := k0m0) (c := k0c0) (by decide +kernel) rfl rfl rfl (by decide +kernel)
set_option maxRecDepth 65536 in
theorem w_c5 : (Jvm.Cond.code ({ cls := "com/example/palimpsest/palimpsest/workload/tpcc/Stop", name := "timed", desc := "()Z" } : Jvm.MethodName) prog_33_method_4_code (1 : Nat) (Option.some Jvm.ClassFile.FieldType.boolean)).before args0 about1 = true := code_word (m := ⟨3, 2⟩) (meth := k3m2) (c := k3c2) (by decide +kernel) rfl rfl rfl (by decide +kernel)
set_option maxRecDepth 65536 in
theorem w_c6 : (Jvm.Cond.code ({ cls := "com/example/palimpsest/palimpsest/workload/tpcc/Stop", name := "timeUp", desc := "(J)Z" } : Jvm.MethodName) prog_33_method_5_code (3 : Nat) (Option.some Jvm.ClassFile.FieldType.boolean)).before args0 about1 = true := code_word (m := ⟨3, 3⟩) (meth := k3m3) (c := k3c3) (by decide +kernel) rfl rfl rfl (by decide +kernel)
set_option maxRecDepth 65536 in
theorem w_c7 : (Jvm.Cond.code ({ cls := "com/example/palimpsest/palimpsest/workload/tpcc/Stop", name := "reached", desc := "(J)Z" } : Jvm.MethodName) prog_33_method_6_code (3 : Nat) (Option.some Jvm.ClassFile.FieldType.boolean)).before args0 about1 = true := code_word (m := ⟨3, 4⟩) (meth := k3m4) (c := k3c4) (by decide +kernel) rfl rfl rfl (by decide +kernel)
def codes1 : List Jvm.Cond := [Jvm.Cond.code x code maxLocals ret, Jvm.Cond.code ({ cls := "java/lang/Math", name := "max", desc := "(JJ)J" } : Jvm.MethodName) jdk_29_method_66_code (4 : Nat) (Option.some Jvm.ClassFile.FieldType.long), Jvm.Cond.code ({ cls := "com/example/palimpsest/palimpsest/workload/tpcc/Stop", name := "afterCommits", desc := "(J)Lcom/example/palimpsest/palimpsest/workload/tpcc/Stop;" } : Jvm.MethodName) prog_33_method_3_code (2 : Nat) (Option.some (Jvm.ClassFile.FieldType.object "com/example/palimpsest/palimpsest/workload/tpcc/Stop")), Jvm.Cond.code ({ cls := "com/example/palimpsest/palimpsest/workload/tpcc/Stop", name := "<init>", desc := "(Ljava/time/Duration;J)V" } : Jvm.MethodName) prog_33_method_1_code (4 : Nat) (Option.none : Option Jvm.ClassFile.FieldType), Jvm.Cond.code ({ cls := "java/lang/Object", name := "<init>", desc := "()V" } : Jvm.MethodName) object_method_1_code (1 : Nat) (Option.none : Option Jvm.ClassFile.FieldType), Jvm.Cond.code ({ cls := "com/example/palimpsest/palimpsest/workload/tpcc/Stop", name := "timed", desc := "()Z" } : Jvm.MethodName) prog_33_method_4_code (1 : Nat) (Option.some Jvm.ClassFile.FieldType.boolean), Jvm.Cond.code ({ cls := "com/example/palimpsest/palimpsest/workload/tpcc/Stop", name := "timeUp", desc := "(J)Z" } : Jvm.MethodName) prog_33_method_5_code (3 : Nat) (Option.some Jvm.ClassFile.FieldType.boolean), Jvm.Cond.code ({ cls := "com/example/palimpsest/palimpsest/workload/tpcc/Stop", name := "reached", desc := "(J)Z" } : Jvm.MethodName) prog_33_method_6_code (3 : Nat) (Option.some Jvm.ClassFile.FieldType.boolean)]
set_option maxRecDepth 65536 in
theorem codes_eq : words1.filter isCode = codes1 := rfl
theorem w_codes : ∀ c ∈ words1.filter isCode, c.before args0 about1 = true := by
  rw [codes_eq]
  intro c hc
  simp only [codes1, List.mem_cons, List.not_mem_nil, or_false] at hc
  rcases hc with rfl | rfl | rfl | rfl | rfl | rfl | rfl | rfl
  · exact w_c0
  · exact w_c1
  · exact w_c2
  · exact w_c3
  · exact w_c4
  · exact w_c5
  · exact w_c6
  · exact w_c7
set_option maxRecDepth 65536 in
theorem w_t1 : (words1.take 24).all (fun c => isCode c || c.before args0 about1) = true := by decide +kernel
set_option maxRecDepth 65536 in
theorem w_t2 : (words1.drop 24).all (fun c => isCode c || c.before args0 about1) = true := by decide +kernel
theorem w_tables : (allAtoms (Jvm.Cond.code x code maxLocals ret :: tables_1)).before args0 about1 = true := by
  rw [allAtoms_all]
  show words1.all (fun c => c.before args0 about1) = true
  refine all_split ?_ w_codes
  rw [← List.take_append_drop 24 words1, List.all_append, w_t1, w_t2]
  rfl
set_option maxRecDepth 65536 in
theorem w_case : (Jvm.Cond.and given_1 narrow_1).before args0 about1 = true := by decide +kernel
theorem w_applies : (headSpec (Jvm.Cond.code x code maxLocals ret :: tables_1) room_1).applies x e0.platform about1 = true :=
  (Spec.applies_iff w_frames).mpr ⟨w_running, w_runnable, w_alone, w_named, w_hears, w_ripe, w_room, w_tables⟩
theorem atStart : AtStart classFile x code maxLocals ret World_1 tables_1 room_1 Calls_1 rest_1 Pre_1 launch0 p0 e0 about1 theMethod args0 below0 :=
  ⟨lists_1, trivial, launch0.admits_env _ _ _, launch0.least_env, fairChoices_fair.cas, fairChoices_fair.clock, w_frames, w_args, w_heap, w_applies, trivial, trivial, w_case⟩
end start1
theorem witness_1 : WitnessClaimed_1 := ⟨start1.p0, start1.e0, start1.about1, start1.theMethod, start1.args0, start1.below0, start1.atStart⟩
end Jvm.Pilot.@@N@@
