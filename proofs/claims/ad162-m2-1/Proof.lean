import JvmDerived
import JvmDerived.Pilot.@@N@@Statement
import JvmDerived.Pilot.@@N@@Code
set_option linter.unusedVariables false
set_option linter.unusedSimpArgs false
namespace Jvm.Pilot.@@N@@
open Jvm Jvm.ClassFile Sem Op Lib Jvm.Free Jvm.Stand Jvm.LawKit Jvm.RoadKit Bundle Jvm.Pilot.@@N@@.Jvm.D
section Own
variable {p : Program} {l : Launch} {e : Env} {R : Room} {s : State} {m : MethodId} {args : Array Value} {below : List Frame} {meth : Method} {c : Code} {T T' Z : State} {locs : List Loc} {cells slots : Nat} {P : Outcome → State → Prop} {a0 : Array Value} {h : Heap}
/-- from the frame g over the state T the run ends, and P holds of the end -/
def Ends (p : Program) (e : Env) (below : List Frame) (P : Outcome → State → Prop) (T : State) (g : JFrame) : Prop :=
  ∃ s₂ o, Steps p.tables e below (T.setTop g) s₂ ∧ s₂.status = .running ∧ Ended s₂ below o ∧ P o s₂
theorem Ends.by {g g' : JFrame} (h : ∀ t, Steps p.tables e below (T'.setTop g') t → Steps p.tables e below (T.setTop g) t) (k : Ends p e below P T' g') : Ends p e below P T g :=
  let ⟨s₂, o, h1, r⟩ := k; ⟨s₂, o, h _ h1, r⟩
theorem Ends.on {g g' : JFrame} (h : Steps p.tables e below (T.setTop g) (T'.setTop g')) (k : Ends p e below P T' g') : Ends p e below P T g :=
  let ⟨s₂, o, h1, r⟩ := k; ⟨s₂, o, h.trans h1, r⟩
/-- the end: it returned v, Q holds of v, the heap and the places written; the frame -/
def Fini (s : State) (Q : Option Value → Heap → List Loc → Prop) (rc rs : Nat) : Outcome → State → Prop :=
  fun o U' => ∃ v L, o = .returned v ∧ Q v U'.heap L ∧ FrameEnd s o U' L rc rs
/-- a body's contract: from these arguments over the heap h0 it returns with Q -/
def Con (l : Launch) (Z : State) (y : MethodName) (bytes : ByteArray) (maxL : Nat) (ret : Option FieldType) (rm : Room) (as' : Array Value) (h0 : Heap) (Q : Option Value → Heap → List Loc → Prop) : Prop :=
  ∀ ws : List Jvm.Cond, MetFree l y (head1 (Jvm.Cond.code y bytes maxL ret :: ws) rm) (fun a U => a = as' ∧ Z.Warmed39 U.vm ∧ U.heap = h0) (fun _ _ _ _ _ => True) (fun _ U o U' => ∃ v L, o = .returned v ∧ Q v U'.heap L ∧ FrameEnd U o U' L rm.cells rm.slots)
theorem Con.intro {y : MethodName} {bytes : ByteArray} {maxL : Nat} {ret : Option FieldType} {rm : Room} {as' : Array Value} {h0 : Heap} {Q : Option Value → Heap → List Loc → Prop} (hpl : plainFor y = true)
    (body : ∀ (p : Program) (e : Env) (s : State) (m : MethodId) (below : List Frame) (meth : Method) (c : Code) (s₁ : State), p.tables.exec = Jvm.exec → c.code = bytes → c.maxLocals = maxL → s.vm.findClass y.cls = some m.cls → meth.name = y.name → meth.sig.returnType = ret → meth.locks = false → Z.Warmed39 s.vm →
      Stand p l e rm s m as' below meth c s₁ [] 0 0 → s₁.heap = h0 → Ends p e below (Fini s Q rm.cells rm.slots) s₁ (entryFrame m as' maxL)) : Con l Z y bytes maxL ret rm as' h0 Q := by
  intro ws
  refine MetFree.of_bodySF hpl hisR ?_
  intro p e s m args below meth c s₁ Bd hml0 hP hK
  obtain ⟨rfl, hZ, hh⟩ := hP
  have X0 : Stand p l e rm s m args below meth c s₁ [] 0 0 := Stand.of_body Bd
  have e0 : s₁.heap = h0 := by rw [← hh, Bd.state]; rfl
  exact body p e s m below meth c s₁ Bd.exec Bd.bytes hml0 (findClass_of_methodNamed Bd.named) (name_of_methodNamed Bd.named Bd.method).1 Bd.returns Bd.notSynchronized hZ X0 e0
theorem Con.mono {y : MethodName} {bytes : ByteArray} {maxL : Nat} {ret : Option FieldType} {rm : Room} {as' : Array Value} {h0 : Heap} {Q Q' : Option Value → Heap → List Loc → Prop} (C : Con l Z y bytes maxL ret rm as' h0 Q) (hq : ∀ v h L, Q v h L → Q' v h L) : Con l Z y bytes maxL ret rm as' h0 Q' :=
  fun ws p e ha hc hk s m args below hf happ hP hK => let ⟨n, o, h1, h2, h3, v, L, r1, r2, r3⟩ := C ws p e ha hc hk s m args below hf happ hP hK; ⟨n, o, h1, h2, h3, v, L, r1, hq _ _ _ r2, r3⟩
theorem Ends.cast {g g' : JFrame} (q : g = g') (k : Ends p e below P T g') : Ends p e below P T g := q ▸ k
theorem Ends.retV (X : Stand p l e R s m args below meth c T locs cells slots) (hx : p.tables.exec = Jvm.exec) (hlk : meth.locks = false) {pc : Nat} {Ls : Array Slot} (hret : meth.sig.returnType = none) (hd : decode c.code pc = .ok (.return_, 1))
    {Q : Option Value → Heap → List Loc → Prop} {rc rs : Nat} (hc : cells ≤ rc) (hs : slots ≤ rs) (hQ : Q none T.heap locs) : Ends p e below (Fini s Q rc rs) T (mkF m pc Ls []) := by
  obtain ⟨fs, hr, hrun, hended, hW, hsame⟩ := X.leave (v := none) (fun _ => rfl) hlk
  exact ⟨_, _, X.returnOut hx hret hd hr, hrun, hended, _, _, rfl, hQ, ⟨_, rfl⟩, hW, hsame.mono hc hs⟩
theorem Ends.retI (X : Stand p l e R s m args below meth c T locs cells slots) (hx : p.tables.exec = Jvm.exec) (hlk : meth.locks = false) {pc : Nat} {Ls : Array Slot} {z : Int32} {rest : List Value} (hret : meth.sig.returnType = some .int) (hd : decode c.code pc = .ok (.ireturn, 1))
    {Q : Option Value → Heap → List Loc → Prop} {rc rs : Nat} (hc : cells ≤ rc) (hs : slots ≤ rs) (hQ : Q (some (.int z)) T.heap locs) : Ends p e below (Fini s Q rc rs) T (mkF m pc Ls (.int z :: rest)) := by
  obtain ⟨fs, hr, hrun, hended, hW, hsame⟩ := X.leave (v := some (.int z)) (fun h => by rw [hret] at h; cases h) hlk
  exact ⟨_, _, retOut X hx hret rfl (Or.inl ⟨rfl, Or.inl rfl, z, rfl⟩) hd hr, hrun, hended, _, _, rfl, hQ, ⟨_, rfl⟩, hW, hsame.mono hc hs⟩
theorem Ends.retL (X : Stand p l e R s m args below meth c T locs cells slots) (hx : p.tables.exec = Jvm.exec) (hlk : meth.locks = false) {pc : Nat} {Ls : Array Slot} {z : Int64} {rest : List Value} (hret : meth.sig.returnType = some .long) (hd : decode c.code pc = .ok (.lreturn, 1))
    {Q : Option Value → Heap → List Loc → Prop} {rc rs : Nat} (hc : cells ≤ rc) (hs : slots ≤ rs) (hQ : Q (some (.long z)) T.heap locs) : Ends p e below (Fini s Q rc rs) T (mkF m pc Ls (.long z :: rest)) := by
  obtain ⟨fs, hr, hrun, hended, hW, hsame⟩ := X.leave (v := some (.long z)) (fun h => by rw [hret] at h; cases h) hlk
  exact ⟨_, _, retOut X hx hret rfl (Or.inr (Or.inl ⟨rfl, rfl, z, rfl⟩)) hd hr, hrun, hended, _, _, rfl, hQ, ⟨_, rfl⟩, hW, hsame.mono hc hs⟩
theorem Ends.retA (X : Stand p l e R s m args below meth c T locs cells slots) (hx : p.tables.exec = Jvm.exec) (hlk : meth.locks = false) {pc : Nat} {Ls : Array Slot} {t : FieldType} {a : Addr} {rest : List Value} (hret : meth.sig.returnType = some t) (ht : t.isReference = true) (hn : narrow t (.ref a) = .ref a) (hd : decode c.code pc = .ok (.areturn, 1))
    {Q : Option Value → Heap → List Loc → Prop} {rc rs : Nat} (hc : cells ≤ rc) (hs : slots ≤ rs) (hQ : Q (some (.ref a)) T.heap locs) : Ends p e below (Fini s Q rc rs) T (mkF m pc Ls (.ref a :: rest)) := by
  obtain ⟨fs, hr, hrun, hended, hW, hsame⟩ := X.leave (v := some (.ref a)) (fun h => by rw [hret] at h; cases h) hlk
  exact ⟨_, _, retOut X hx hret hn (Or.inr (Or.inr (Or.inr (Or.inr ⟨rfl, ht, rfl⟩)))) hd hr, hrun, hended, _, _, rfl, hQ, ⟨_, rfl⟩, hW, hsame.mono hc hs⟩
/-- a boolean that is 0 or 1 -/
theorem Ends.retZ (X : Stand p l e R s m args below meth c T locs cells slots) (hx : p.tables.exec = Jvm.exec) (hlk : meth.locks = false) {pc : Nat} {Ls : Array Slot} {z : Int32} {rest : List Value} (hret : meth.sig.returnType = some .boolean) (hd : decode c.code pc = .ok (.ireturn, 1)) (h01 : z &&& 1 = z)
    {Q : Option Value → Heap → List Loc → Prop} {rc rs : Nat} (hc : cells ≤ rc) (hs : slots ≤ rs) (hQ : Q (some (.int z)) T.heap locs) : Ends p e below (Fini s Q rc rs) T (mkF m pc Ls (.int z :: rest)) := by
  obtain ⟨fs, hr, hrun, hended, hW, hsame⟩ := X.leave (v := some (.int z)) (fun h => by rw [hret] at h; cases h) hlk
  have hn : nar .boolean z = z := h01
  refine ⟨_, _, retN X hx (t := .boolean) hret (by simp) hd (fs := fs) ?_, hrun, hended, _, _, rfl, hQ, ⟨_, rfl⟩, hW, hsame.mono hc hs⟩
  rw [hn]; exact hr
/-- a static method by its contract -/
theorem Ends.callS (X : Stand p l e R s m args below meth c T locs cells slots) (hx : p.tables.exec = Jvm.exec) (hZ : Z.Warmed39 s.vm) {own : String} {index : Nat} {y : MethodName} {bytes : ByteArray} {maxL : Nat} {ret : Option FieldType}
    (hown : s.vm.findClass own = some m.cls) (w1 : (Jvm.Cond.methodLink own index y).before a0 Z = true) (w2 : (Jvm.Cond.static y).before a0 Z = true) (w3 : (Jvm.Cond.initialized y.cls).before a0 Z = true) (w4 : (Jvm.Cond.code y bytes maxL ret).before a0 Z = true)
    (hy : y.cls ≠ "java/lang/invoke/MethodHandle" ∧ y.cls ≠ "java/lang/invoke/VarHandle") {rm : Room} {argsL rest : List Value} {Q : Option Value → Heap → List Loc → Prop} (C : Con l Z y bytes maxL ret rm argsL.toArray h Q) (eT : T.heap = h)
    {pc : Nat} {Ls : Array Slot} (hsize : Ls.size = c.maxLocals) (hd : decode c.code pc = .ok (.invokestatic index, 3)) (hlen : ∀ sig, parseMethodDescriptor y.desc = some sig → argsL.length = sig.parameters.length)
    (W : Nat) (hW : (rest.map fun v => v.category).sum ≤ W) (hf : rm.frames + 1 ≤ R.frames) (hl : W + (maxL + 11) + rm.locals ≤ R.locals) (hc : cells + rm.cells ≤ R.cells) (hs : slots + rm.slots ≤ R.slots)
    (k : ∀ v T' L, Stand p l e R s m args below meth c T' (locs ++ L) (cells + rm.cells) (slots + rm.slots) → Q v T'.heap L → Ends p e below P T' (mkF m (pc + 3) Ls (v.toList ++ rest))) :
    Ends p e below P T (mkF m pc Ls (argsL.reverse ++ rest)) := by
  obtain ⟨v, _, ⟨T1, L1, k1, n1⟩, -, X1, ⟨Lc, hQ, l1, y1, z1⟩, st⟩ := Jvm.LawKit.callS X hx (y := y) hown (mvT hZ w1) (mvT hZ w2) (mvT hZ w3) (mvT hZ w4) hy (backOf (W := W) (C []) hZ w4 w3 hf hl) (g := mkF m pc Ls (argsL.reverse ++ rest)) rfl hsize (argsL := argsL) (rest := rest) hlen rfl (by show 2 * 0 + _ ≤ _; omega) hd (fun _ _ => ⟨rfl, eT, hc, hs⟩)
  dsimp only [Pt.U, Pt.locs, Pt.cells, Pt.slots] at X1 l1 y1 z1 st hQ
  subst l1 y1 z1
  exact Ends.by st (k v T1 Lc X1 hQ)
/-- a constructor by its contract -/
theorem Ends.callI (X : Stand p l e R s m args below meth c T locs cells slots) (hx : p.tables.exec = Jvm.exec) (hZ : Z.Warmed39 s.vm) {own : String} {index : Nat} {y : MethodName} {bytes : ByteArray} {maxL : Nat} (hy1 : y.name = "<init>")
    (hown : s.vm.findClass own = some m.cls) (w1 : (Jvm.Cond.methodLink own index y).before a0 Z = true) (w2 : (Jvm.Cond.instanceMethod y).before a0 Z = true) (w3 : (Jvm.Cond.initialized y.cls).before a0 Z = true) (w4 : (Jvm.Cond.code y bytes maxL none).before a0 Z = true)
    (hy : y.cls ≠ "java/lang/invoke/MethodHandle" ∧ y.cls ≠ "java/lang/invoke/VarHandle") {rm : Room} {a : Addr} {argsL rest : List Value} {Q : Option Value → Heap → List Loc → Prop} (C : Con l Z y bytes maxL none rm (.ref a :: argsL).toArray h Q) (eT : T.heap = h)
    {pc : Nat} {Ls : Array Slot} (hsize : Ls.size = c.maxLocals) (hd : decode c.code pc = .ok (.invokespecial index, 3)) (hlen : ∀ sig, parseMethodDescriptor y.desc = some sig → argsL.length = sig.parameters.length)
    (W : Nat) (hW : (rest.map fun v => v.category).sum ≤ W) (hf : rm.frames + 1 ≤ R.frames) (hl : W + (maxL + 11) + rm.locals ≤ R.locals) (hc : cells + rm.cells ≤ R.cells) (hs : slots + rm.slots ≤ R.slots)
    (k : ∀ v T' L, Stand p l e R s m args below meth c T' (locs ++ L) (cells + rm.cells) (slots + rm.slots) → Q v T'.heap L → Ends p e below P T' (mkF m (pc + 3) Ls (v.toList ++ rest))) :
    Ends p e below P T (mkF m pc Ls (argsL.reverse ++ .ref a :: rest)) := by
  obtain ⟨v, _, ⟨T1, L1, k1, n1⟩, -, X1, ⟨Lc, hQ, l1, y1, z1⟩, st⟩ := X.specialBack hx (y := y) hy1 hown (mvT hZ w1) (mvT hZ w2) (mvT hZ w4) hy (backOf (W := W) (C []) hZ w4 w3 hf hl) (g := mkF m pc Ls (argsL.reverse ++ .ref a :: rest)) rfl hsize (Steps.refl _) (a := a) (argsL := argsL) (rest := rest) hlen rfl (by show 2 * 0 + _ ≤ _; omega) hd (fun _ _ => ⟨rfl, eT, hc, hs⟩)
  dsimp only [Pt.U, Pt.locs, Pt.cells, Pt.slots] at X1 l1 y1 z1 st hQ
  subst l1 y1 z1
  exact Ends.on st (k v T1 Lc X1 hQ)
/-- an instance method, declared and selected in the receiver's own class -/
theorem Ends.callV (X : Stand p l e R s m args below meth c T locs cells slots) (hx : p.tables.exec = Jvm.exec) (hZ : Z.Warmed39 s.vm) {own : String} {index : Nat} {y : MethodName} {bytes : ByteArray} {maxL : Nat} {ret : Option FieldType}
    (hown : s.vm.findClass own = some m.cls) (w1 : (Jvm.Cond.methodLink own index y).before a0 Z = true) (wd : (Jvm.Cond.declares y).before a0 Z = true) (w2 : (Jvm.Cond.instanceMethod y).before a0 Z = true) (ws : (Jvm.Cond.selects y.cls y y).before a0 Z = true) (w3 : (Jvm.Cond.initialized y.cls).before a0 Z = true) (w4 : (Jvm.Cond.code y bytes maxL ret).before a0 Z = true)
    (hy : y.cls ≠ "java/lang/invoke/MethodHandle" ∧ y.cls ≠ "java/lang/invoke/VarHandle") {rm : Room} {a : Addr} {argsL rest : List Value} {Q : Option Value → Heap → List Loc → Prop} (C : Con l Z y bytes maxL ret rm (.ref a :: argsL).toArray h Q) (eT : T.heap = h) (E : Exa Z h a y.cls)
    {pc : Nat} {Ls : Array Slot} (hsize : Ls.size = c.maxLocals) (hd : decode c.code pc = .ok (.invokevirtual index, 3)) (hlen : ∀ sig, parseMethodDescriptor y.desc = some sig → argsL.length = sig.parameters.length)
    (W : Nat) (hW : (rest.map fun v => v.category).sum ≤ W) (hf : rm.frames + 1 ≤ R.frames) (hl : W + (maxL + 11) + rm.locals ≤ R.locals) (hc : cells + rm.cells ≤ R.cells) (hs : slots + rm.slots ≤ R.slots)
    (k : ∀ v T' L, Stand p l e R s m args below meth c T' (locs ++ L) (cells + rm.cells) (slots + rm.slots) → Q v T'.heap L → Ends p e below P T' (mkF m (pc + 3) Ls (v.toList ++ rest))) :
    Ends p e below P T (mkF m pc Ls (argsL.reverse ++ .ref a :: rest)) := by
  obtain ⟨cq, kq, qa, qb, qc⟩ := isOf (T := T) hZ eT E
  obtain ⟨v, _, ⟨T1, L1, k1, n1⟩, -, X1, ⟨Lc, hQ, l1, y1, z1⟩, st⟩ := X.virtualBack hx (y := y) (z := y) hown (mvT hZ w1) (mvT hZ wd) (notFace_of_selects (args := #[]) (mvT hZ ws)) (mvT hZ ws) (mvT hZ w2) hy (backOf (W := W) (C []) hZ w4 w3 hf hl) qa qc (g := mkF m pc Ls (argsL.reverse ++ .ref a :: rest)) rfl hsize (Steps.refl _) (argsL := argsL) (rest := rest) hlen rfl (by show 2 * 0 + _ ≤ _; omega) hd (fun _ _ => ⟨rfl, eT, hc, hs⟩)
  dsimp only [Pt.U, Pt.locs, Pt.cells, Pt.slots] at X1 l1 y1 z1 st hQ
  subst l1 y1 z1
  exact Ends.on st (k v T1 Lc X1 hQ)
/-- nothing is written, nothing made: it returns v -/
def Pure (h0 : Heap) (r : Option Value) (v : Option Value) (h : Heap) (L : List Loc) : Prop := v = r ∧ h = h0 ∧ L = []
/-- the six comparisons, both ways at once -/
theorem Ends.icmp (X : Stand p l e R s m args below meth c T locs cells slots) (hx : p.tables.exec = Jvm.exec) {cd : ClassFile.Cond} {x y : Int32} {o : Int} {pc : Nat} {Ls : Array Slot} {rest : List Value} (hd : decode c.code pc = .ok (.if_icmp cd o, 3)) (pc' : Nat) (ho : 0 ≤ (pc : Int) + o) (hp : ((pc : Int) + o).toNat = pc')
    (kT : if_icmp.holds cd x y = true → Ends p e below P T (mkF m pc' Ls rest)) (kF : if_icmp.holds cd x y = false → Ends p e below P T (mkF m (pc + 3) Ls rest)) : Ends p e below P T (mkF m pc Ls (.int y :: .int x :: rest)) := by
  rcases hb : if_icmp.holds cd x y with _ | _
  · exact Ends.by (fun _ => XS.icmpNo X.here hx rfl hd rfl hb) (kF hb)
  · exact Ends.by (fun _ => XS.icmpYes X.here hx rfl (pc0 := pc) (pc' := pc') rfl hd rfl hb ho hp) (kT hb)
theorem own_wrap {x y : Int} (h : (x - y) % 4294967296 = 0) (r : -2147483648 ≤ x ∧ x < 2147483648) (b : -2147483648 ≤ y ∧ y < 2147483648) : x = y := by omega
theorem own_andor (x a b : Int32) : (x &&& a) ||| (x &&& b) = x &&& (a ||| b) := by
  apply Int32.toBitVec_inj.mp
  rw [Int32.toBitVec_or, Int32.toBitVec_and, Int32.toBitVec_and, Int32.toBitVec_and, Int32.toBitVec_or, ← BitVec.and_or_distrib_left]
theorem own_lt {x y : Int32} : (if_icmp.holds .lt x y = true → x < y) ∧ (if_icmp.holds .lt x y = false → ¬ x < y) := ⟨fun q => Classical.byContradiction fun n => (by rw [(flt n).1] at q; cases q), fun q n => (by rw [(tlt n).1] at q; cases q)⟩
theorem own_ge {x y : Int32} : (if_icmp.holds .ge x y = true → ¬ x < y) ∧ (if_icmp.holds .ge x y = false → x < y) := ⟨fun q n => (by rw [(tlt n).2.1] at q; cases q), fun q => Classical.byContradiction fun n => (by rw [(flt n).2.1] at q; cases q)⟩
theorem own_gt {x y : Int32} : (if_icmp.holds .gt x y = true → y < x) ∧ (if_icmp.holds .gt x y = false → ¬ y < x) := ⟨fun q => Classical.byContradiction fun n => (by rw [(flt n).2.2.1] at q; cases q), fun q n => (by rw [(tlt n).2.2.1] at q; cases q)⟩
theorem own_le {x y : Int32} : (if_icmp.holds .le x y = true → ¬ y < x) ∧ (if_icmp.holds .le x y = false → y < x) := ⟨fun q n => (by rw [(tlt n).2.2.2] at q; cases q), fun q => Classical.byContradiction fun n => (by rw [(flt n).2.2.2] at q; cases q)⟩
theorem own_eq {x y : Int32} : (if_icmp.holds .eq x y = true → x = y) ∧ (if_icmp.holds .eq x y = false → ¬ x = y) := ⟨fun q => Classical.byContradiction fun n => (by rw [(feq n).1] at q; cases q), fun q n => (by rw [(teq n).1] at q; cases q)⟩
theorem own_ne {x y : Int32} : (if_icmp.holds .ne x y = true → ¬ x = y) ∧ (if_icmp.holds .ne x y = false → x = y) := ⟨fun q n => (by rw [(teq n).2] at q; cases q), fun q => Classical.byContradiction fun n => (by rw [(feq n).2] at q; cases q)⟩
theorem Ends.ifc (X : Stand p l e R s m args below meth c T locs cells slots) (hx : p.tables.exec = Jvm.exec) {cd : ClassFile.Cond} {x : Int32} {o : Int} {pc : Nat} {Ls : Array Slot} {rest : List Value} (hd : decode c.code pc = .ok (.ifCond cd o, 3)) (pc' : Nat) (ho : 0 ≤ (pc : Int) + o) (hp : ((pc : Int) + o).toNat = pc')
    (kT : if_icmp.holds cd x 0 = true → Ends p e below P T (mkF m pc' Ls rest)) (kF : if_icmp.holds cd x 0 = false → Ends p e below P T (mkF m (pc + 3) Ls rest)) : Ends p e below P T (mkF m pc Ls (.int x :: rest)) := by
  rcases hb : if_icmp.holds cd x 0 with _ | _
  · exact Ends.by (fun _ => XS.ifNo X.here hx rfl hd rfl ((if0 _ _).trans hb)) (kF hb)
  · exact Ends.by (fun _ => XS.ifYes X.here hx rfl (pc0 := pc) (pc' := pc') rfl hd rfl ((if0 _ _).trans hb) ho hp) (kT hb)
end Own
end Jvm.Pilot.@@N@@
namespace Jvm.Pilot.@@N@@
open Jvm Jvm.ClassFile Sem Op Lib Jvm.Free Jvm.Stand Jvm.LawKit Jvm.RoadKit Bundle Jvm.Pilot.@@N@@.Jvm.D
section Own2
variable {p : Program} {l : Launch} {e : Env} {R : Room} {s : State} {m : MethodId} {args : Array Value} {below : List Frame} {meth : Method} {c : Code} {T T' Z : State} {locs : List Loc} {cells slots : Nat} {P : Outcome → State → Prop} {a0 : Array Value} {h h' h0 : Heap} {a b : Addr} {ty : FieldType} {n k n0 : Nat} {f : Nat → Value} {ws : List Addr}
/-- g with v at the place k -/
def upd {α : Type} (g : Nat → α) (k : Nat) (v : α) : Nat → α := fun i => if i = k then v else g i
theorem upd_hit {α : Type} (g : Nat → α) (k : Nat) (v : α) : upd g k v k = v := if_pos rfl
theorem upd_miss {α : Type} (g : Nat → α) {k i : Nat} (v : α) (q : i ≠ k) : upd g k v i = g i := if_neg q
/-- an array of n elements, the i-th is f i -/
def Af (Z : State) (h : Heap) (a : Addr) (ty : FieldType) (n : Nat) (f : Nat → Value) : Prop :=
  ∃ c : Cell, Arr Z h a c ty ∧ c.slots.size = n ∧ n < 2147483648 ∧ (∀ i, i < n → c.slots[i]? = some (f i)) ∧ ∀ i, i < n → fits ty (f i) = true
theorem Af.lt (F : Af Z h a ty n f) : a < h.size := by obtain ⟨c, A, -⟩ := F; exact A.lt
theorem Af.small (F : Af Z h a ty n f) : n < 2147483648 := by obtain ⟨c, -, -, q, -⟩ := F; exact q
theorem Af.ext (F : Af Z h a ty n f) (E : Ext h h') : Af Z h' a ty n f := by obtain ⟨c, A, r⟩ := F; exact ⟨c, A.ext E, r⟩
theorem Af.keep (F : Af Z h a ty n f) (K : Keep h h' ws) (q : a ∉ ws) : Af Z h' a ty n f := by obtain ⟨c, A, r⟩ := F; exact ⟨c, ⟨K.2.1 a c A.1 q, A.2⟩, r⟩
theorem Af.other {sl : Nat} {v : Value} (F : Af Z h b ty n f) (W : Wr h h' a sl v) (q : b ≠ a) : Af Z h' b ty n f := by obtain ⟨c, A, r⟩ := F; exact ⟨c, A.other W q, r⟩
theorem Af.congr {f' : Nat → Value} (F : Af Z h a ty n f) (q : ∀ i, i < n → f' i = f i) : Af Z h a ty n f' := by
  obtain ⟨c, A, r1, r2, r3, r4⟩ := F; exact ⟨c, A, r1, r2, fun i hi => by rw [q i hi]; exact r3 i hi, fun i hi => by rw [q i hi]; exact r4 i hi⟩
theorem Af.set {v : Value} (F : Af Z h a ty n f) (W : Wr h h' a k v) (hk : k < n) (hv : fits ty v = true) : Af Z h' a ty n (upd f k v) := by
  obtain ⟨c, A, r1, r2, r3, r4⟩ := F
  refine ⟨c.setSlot k v, A.same W, by rw [sz_set]; exact r1, r2, fun i hi => ?_, fun i hi => ?_⟩
  · by_cases q : i = k
    · subst q; rw [upd_hit]; simp [Cell.setSlot, r1, hi]
    · rw [upd_miss _ _ q, ← r3 i hi]; simp [Cell.setSlot, Array.getElem?_setIfInBounds, Ne.symm q]
  · by_cases q : i = k
    · subst q; rw [upd_hit]; exact hv
    · rw [upd_miss _ _ q]; exact r4 i hi
theorem Af.new {k : ClassId} {z : Int32} (A : Arr Z h a (newA k ty z) ty) (q : z.toInt = (n : Int)) (hd : fits ty (defaultValue ty) = true) : Af Z h a ty n (fun _ => defaultValue ty) := by
  have e : z.toNatClampNeg = n := by show z.toInt.toNat = n; omega
  have r := z.toInt_lt
  refine ⟨_, A, by rw [sz_new, e], by omega, fun i hi => ?_, fun i _ => hd⟩
  simp [newA, e, hi]
theorem own_idx {j : Int32} (q : j.toInt = (k : Int)) : j.toNatClampNeg = k ∧ ¬ j < 0 := by
  refine ⟨by show j.toInt.toNat = k; omega, ?_⟩
  rw [Int32.lt_iff_toInt_lt]; have : (0 : Int32).toInt = 0 := rfl; omega
theorem own_inb {j : Int32} {c : Cell} (S : c.slots.size = n) (q : j.toInt = (k : Int)) (hk : k < n) : ¬ (j < 0 ∨ c.slots.size ≤ j.toNatClampNeg) := by
  obtain ⟨q1, q2⟩ := own_idx q
  rw [S, q1]; intro o; rcases o with o | o
  · exact q2 o
  · omega
/-- the array's length -/
theorem Ends.len (X : Stand p l e R s m args below meth c T locs cells slots) (hx : p.tables.exec = Jvm.exec) (hZ : Z.Warmed39 s.vm) (eT : T.heap = h) (F : Af Z h a ty n f) {z : Int32} (hz : z.toInt = (n : Int)) {pc : Nat} {Ls : Array Slot} {rest : List Value} (hd : decode c.code pc = .ok (.arraylength, 1))
    (kk : Ends p e below P T (mkF m (pc + 1) Ls (.int z :: rest))) : Ends p e below P T (mkF m pc Ls (.ref a :: rest)) := by
  obtain ⟨cl, A, r1, r2, -⟩ := F
  refine Ends.by (fun t => X.arraylength hx (by rw [eT]; exact A.1) (State.isArrayOf_alike hZ.alike A.2.1) (g := mkF m pc Ls (.ref a :: rest)) rfl rfl hd t) ?_
  have q : cl.slots.size.toInt32 = z := by
    apply Int32.toInt_inj.mp; rw [r1, hz]; exact Int32.toInt_ofNat_of_lt (by omega)
  rw [q]; exact kk
theorem Ends.ldB (X : Stand p l e R s m args below meth c T locs cells slots) (hx : p.tables.exec = Jvm.exec) (hZ : Z.Warmed39 s.vm) (eT : T.heap = h) (F : Af Z h a .byte n f) {j : Int32} (hj : j.toInt = (k : Int)) (hk : k < n) {v : Value} (hv : f k = v) {pc : Nat} {Ls : Array Slot} {rest : List Value} (hd : decode c.code pc = .ok (.baload, 1))
    (kk : Ends p e below P T (mkF m (pc + 1) Ls (v :: rest))) : Ends p e below P T (mkF m pc Ls (.int j :: .ref a :: rest)) := by
  obtain ⟨cl, A, r1, r2, r3, -⟩ := F
  exact Ends.by (fun t => X.baloadBytes hx (j := j) (v := v) (by rw [eT]; exact A.1) (State.isArrayOf_alike hZ.alike A.2.1) A.2.2 (own_inb r1 hj hk) (by rw [(own_idx hj).1, ← hv]; exact r3 k hk) (g := mkF m pc Ls (.int j :: .ref a :: rest)) rfl rfl hd t) kk
theorem Ends.ldI (X : Stand p l e R s m args below meth c T locs cells slots) (hx : p.tables.exec = Jvm.exec) (hZ : Z.Warmed39 s.vm) (eT : T.heap = h) (F : Af Z h a .int n f) {j : Int32} (hj : j.toInt = (k : Int)) (hk : k < n) {v : Value} (hv : f k = v) {pc : Nat} {Ls : Array Slot} {rest : List Value} (hd : decode c.code pc = .ok (.iaload, 1))
    (kk : Ends p e below P T (mkF m (pc + 1) Ls (v :: rest))) : Ends p e below P T (mkF m pc Ls (.int j :: .ref a :: rest)) := by
  obtain ⟨cl, A, r1, r2, r3, -⟩ := F
  exact Ends.by (fun t => X.iaload hx (j := j) (v := v) (by rw [eT]; exact A.1) (State.isArrayOf_alike hZ.alike A.2.1) A.2.2 (own_inb r1 hj hk) (by rw [(own_idx hj).1, ← hv]; exact r3 k hk) (g := mkF m pc Ls (.int j :: .ref a :: rest)) rfl rfl hd t) kk
theorem Ends.ldJ (X : Stand p l e R s m args below meth c T locs cells slots) (hx : p.tables.exec = Jvm.exec) (hZ : Z.Warmed39 s.vm) (eT : T.heap = h) (F : Af Z h a .long n f) {j : Int32} (hj : j.toInt = (k : Int)) (hk : k < n) {v : Value} (hv : f k = v) {pc : Nat} {Ls : Array Slot} {rest : List Value} (hd : decode c.code pc = .ok (.laload, 1))
    (kk : Ends p e below P T (mkF m (pc + 1) Ls (v :: rest))) : Ends p e below P T (mkF m pc Ls (.int j :: .ref a :: rest)) := by
  obtain ⟨cl, A, r1, r2, r3, -⟩ := F
  exact Ends.by (fun t => X.laload hx (j := j) (v := v) (by rw [eT]; exact A.1) (State.isArrayOf_alike hZ.alike A.2.1) A.2.2 (own_inb r1 hj hk) (by rw [(own_idx hj).1, ← hv]; exact r3 k hk) (g := mkF m pc Ls (.int j :: .ref a :: rest)) rfl rfl hd t) kk
theorem own_snoc {sl : Nat} (N : Fr n0 locs) (q : n0 ≤ a) : Fr n0 (locs ++ [⟨a, sl⟩]) := N.app fun y hy => by cases List.mem_singleton.mp hy; exact q
theorem Ends.stB (X : Stand p l e R s m args below meth c T locs cells slots) (hx : p.tables.exec = Jvm.exec) (hZ : Z.Warmed39 s.vm) (eT : T.heap = h) (N : Fr n0 locs) (ge : n0 ≤ a) (F : Af Z h a .byte n f) {j x : Int32} (hj : j.toInt = (k : Int)) (hk : k < n) {pc : Nat} {Ls : Array Slot} {rest : List Value} (hd : decode c.code pc = .ok (.bastore, 1))
    (kk : ∀ T' h' L', Stand p l e R s m args below meth c T' L' cells slots → T'.heap = h' → Fr n0 L' → Wr h h' a k (.int x.toInt8.toInt32) → Af Z h' a .byte n (upd f k (.int x.toInt8.toInt32)) → Ends p e below P T' (mkF m (pc + 1) Ls rest)) : Ends p e below P T (mkF m pc Ls (.int x :: .int j :: .ref a :: rest)) := by
  obtain ⟨cl, A, r1, r2, r3, r4⟩ := F
  obtain ⟨T1, h1, X1, e1, W1, st⟩ := Jvm.RoadKit.stB X hx hZ eT A (j := j) (x := x) (own_inb r1 hj hk) (g := mkF m pc Ls (.int x :: .int j :: .ref a :: rest)) rfl rfl hd
  rw [(own_idx hj).1] at W1
  have W2 : Wr h h1 a k (.int x.toInt8.toInt32) := W1
  exact Ends.by st (kk T1 h1 _ X1 e1 (own_snoc N ge) W2 (Af.set ⟨cl, A, r1, r2, r3, r4⟩ W2 hk (fits_nar_byte x)))
theorem Ends.stI (X : Stand p l e R s m args below meth c T locs cells slots) (hx : p.tables.exec = Jvm.exec) (hZ : Z.Warmed39 s.vm) (eT : T.heap = h) (N : Fr n0 locs) (ge : n0 ≤ a) (F : Af Z h a .int n f) {j x : Int32} (hj : j.toInt = (k : Int)) (hk : k < n) {pc : Nat} {Ls : Array Slot} {rest : List Value} (hd : decode c.code pc = .ok (.iastore, 1))
    (kk : ∀ T' h' L', Stand p l e R s m args below meth c T' L' cells slots → T'.heap = h' → Fr n0 L' → Wr h h' a k (.int x) → Af Z h' a .int n (upd f k (.int x)) → Ends p e below P T' (mkF m (pc + 1) Ls rest)) : Ends p e below P T (mkF m pc Ls (.int x :: .int j :: .ref a :: rest)) := by
  obtain ⟨cl, A, r1, r2, r3, r4⟩ := F
  obtain ⟨T1, h1, X1, e1, W1, st⟩ := Jvm.RoadKit.stI X hx hZ eT A (j := j) (x := x) (own_inb r1 hj hk) (g := mkF m pc Ls (.int x :: .int j :: .ref a :: rest)) rfl rfl hd
  rw [(own_idx hj).1] at W1
  exact Ends.by st (kk T1 h1 _ X1 e1 (own_snoc N ge) W1 (Af.set ⟨cl, A, r1, r2, r3, r4⟩ W1 hk rfl))
theorem Ends.stJ (X : Stand p l e R s m args below meth c T locs cells slots) (hx : p.tables.exec = Jvm.exec) (hZ : Z.Warmed39 s.vm) (eT : T.heap = h) (N : Fr n0 locs) (ge : n0 ≤ a) (F : Af Z h a .long n f) {j : Int32} {x : Int64} (hj : j.toInt = (k : Int)) (hk : k < n) {pc : Nat} {Ls : Array Slot} {rest : List Value} (hd : decode c.code pc = .ok (.lastore, 1))
    (kk : ∀ T' h' L', Stand p l e R s m args below meth c T' L' cells slots → T'.heap = h' → Fr n0 L' → Wr h h' a k (.long x) → Af Z h' a .long n (upd f k (.long x)) → Ends p e below P T' (mkF m (pc + 1) Ls rest)) : Ends p e below P T (mkF m pc Ls (.long x :: .int j :: .ref a :: rest)) := by
  obtain ⟨cl, A, r1, r2, r3, r4⟩ := F
  obtain ⟨T1, h1, X1, e1, W1, st⟩ := Jvm.RoadKit.stJ X hx hZ eT A (j := j) (x := x) (own_inb r1 hj hk) (g := mkF m pc Ls (.long x :: .int j :: .ref a :: rest)) rfl rfl hd
  rw [(own_idx hj).1] at W1
  exact Ends.by st (kk T1 h1 _ X1 e1 (own_snoc N ge) W1 (Af.set ⟨cl, A, r1, r2, r3, r4⟩ W1 hk rfl))
/-- a new array of bytes, ints, longs .. -/
theorem Ends.newA (X : Stand p l e R s m args below meth c T locs cells slots) (hx : p.tables.exec = Jvm.exec) (hZ : Z.Warmed39 s.vm) {aty : ArrayType} (w : (Jvm.Cond.arrayClass (newarray.typeOf aty)).before a0 Z = true) (eT : T.heap = h) {z : Int32} (hz : z.toInt = (n : Int)) (cap : Nat) (hcap : n ≤ cap) (hb : cap * 8 ≤ 536870912) (hc : cells + 1 ≤ R.cells) (hl : slots + cap ≤ R.slots) (hdf : fits (newarray.typeOf aty) (defaultValue (newarray.typeOf aty)) = true)
    {ad : String} (had : "[" ++ (newarray.typeOf aty).toString = ad) {pc : Nat} {Ls : Array Slot} {rest : List Value} (hd : decode c.code pc = .ok (.newarray aty, 2))
    (kk : ∀ T' h' o, o = h.size → Stand p l e R s m args below meth c T' locs (cells + 1) (slots + cap) → T'.heap = h' → Ext h h' → Af Z h' o (newarray.typeOf aty) n (fun _ => defaultValue (newarray.typeOf aty)) → Exa Z h' o ad → Ends p e below P T' (mkF m (pc + 2) Ls (.ref o :: rest))) : Ends p e below P T (mkF m pc Ls (.int z :: rest)) := by
  obtain ⟨q1, q2⟩ := own_idx hz
  obtain ⟨T1, h1, cA, X1, e1, E1, A1, Ex1, st⟩ := newPE X hx hZ w eT (g := mkF m pc Ls (.int z :: rest)) rfl hd rfl q2 (cap := cap) (by rw [q1]; exact hcap) hb hc hl had
  exact Ends.by st (kk T1 h1 h.size rfl X1 e1 E1 (Af.new A1 hz hdf) Ex1)
theorem own_updL (g : Nat → Int64) (k : Nat) (x : Int64) (q : Nat) : Value.long (upd g k x q) = upd (fun q => Value.long (g q)) k (.long x) q := by
  unfold upd; split <;> rfl
theorem own_updI (g : Nat → Int32) (k : Nat) (x : Int32) (q : Nat) : Value.int (upd g k x q) = upd (fun q => Value.int (g q)) k (.int x) q := by
  unfold upd; split <;> rfl
/-- an array's clone -/
theorem Ends.clone (X : Stand p l e R s m args below meth c T locs cells slots) (hx : p.tables.exec = Jvm.exec) (hZ : Z.Warmed39 s.vm) {own ad : String} {index : Nat} (hown : s.vm.findClass own = some m.cls)
    (w1 : (Jvm.Cond.methodLink own index ⟨ad, "clone", "()Ljava/lang/Object;"⟩).before a0 Z = true) (w2 : (Jvm.Cond.sameMethod ad "java/lang/Object" "clone" "()Ljava/lang/Object;").before a0 Z = true) (w3 : (Jvm.Cond.native ⟨"java/lang/Object", "clone", "()Ljava/lang/Object;"⟩).before a0 Z = true)
    (w4 : (Jvm.Cond.instanceMethod ⟨"java/lang/Object", "clone", "()Ljava/lang/Object;"⟩).before a0 Z = true) (w5 : (Jvm.Cond.selects ad ⟨ad, "clone", "()Ljava/lang/Object;"⟩ ⟨"java/lang/Object", "clone", "()Ljava/lang/Object;"⟩).before a0 Z = true) (w6 : (Jvm.Cond.castable ad "java/lang/Cloneable").before a0 Z = true)
    (eT : T.heap = h) (F : Af Z h a ty n f) (E : Exa Z h a ad) (W : Nat) {rest : List Value} (hW : (rest.map fun v => v.category).sum ≤ W) {pc : Nat} {Ls : Array Slot} (hsize : Ls.size = c.maxLocals) (hd : decode c.code pc = .ok (.invokevirtual index, 3))
    (hf : 1 ≤ R.frames) (hl : W + 14 ≤ R.locals) (hty : refKind ty = false) (cap : Nat) (hcap : n ≤ cap) (hc : cells + 1 ≤ R.cells) (hsl : slots + cap ≤ R.slots)
    (kk : ∀ T' h' o, o = h.size → Stand p l e R s m args below meth c T' locs (cells + 1) (slots + cap) → T'.heap = h' → Ext h h' → Af Z h' o ty n f → Exa Z h' o ad → Ends p e below P T' (mkF m (pc + 3) Ls (.ref o :: rest))) : Ends p e below P T (mkF m pc Ls (.ref a :: rest)) := by
  obtain ⟨cl, A, r1, r2, r3, r4⟩ := F
  have FC : FitC Z cl := fitC_of A fun i hi v hv => by rw [r3 i (r1 ▸ hi)] at hv; cases hv; exact r4 i (r1 ▸ hi)
  obtain ⟨T1, h1, X1, e1, E1, A1, Ex1, st⟩ := cloneA X hx hZ hown w1 w2 w3 w4 w5 w6 eT A E FC (g := mkF m pc Ls (.ref a :: rest)) rfl hsize rfl hd hf (W := W) (by show 2 * 0 + _ ≤ _; omega) hl (cap := cap) (by rw [r1]; exact hcap) hc hsl
  exact Ends.by st (kk T1 h1 h.size rfl X1 e1 E1 ⟨_, A1, r1, r2, r3, r4⟩ Ex1)
theorem own_apart {C : String} (F : Exa Z h a C) (G : Af Z h b ty n f) {kk : Nat} (wi : (Jvm.Cond.instantiable C kk).before a0 Z = true) : a ≠ b := by
  obtain ⟨cl, A, -⟩ := G; exact ne_arr F wi A
end Own2
end Jvm.Pilot.@@N@@
namespace Jvm.Pilot.@@N@@
open Jvm Jvm.ClassFile Sem Op Lib Jvm.Free Jvm.Stand Jvm.LawKit Jvm.RoadKit Bundle Jvm.Pilot.@@N@@.Jvm.D
theorem d1_0 : decode jdk_29_method_69_code 0 = .ok (.iload_n 0, 1) := by decide +kernel
theorem d1_1 : decode jdk_29_method_69_code 1 = .ok (.iload_n 1, 1) := by decide +kernel
theorem d1_2 : decode jdk_29_method_69_code 2 = .ok (.if_icmp .gt 7, 3) := by decide +kernel
theorem d1_5 : decode jdk_29_method_69_code 5 = .ok (.iload_n 0, 1) := by decide +kernel
theorem d1_6 : decode jdk_29_method_69_code 6 = .ok (.goto 4, 3) := by decide +kernel
theorem d1_9 : decode jdk_29_method_69_code 9 = .ok (.iload_n 1, 1) := by decide +kernel
theorem d1_10 : decode jdk_29_method_69_code 10 = .ok (.ireturn, 1) := by decide +kernel
theorem pd_1 : parseMethodDescriptor "(II)I" = some ⟨[.int, .int], some .int⟩ := by decide +kernel
theorem pf_1 : plainFor (⟨"java/lang/Math", "min", "(II)I"⟩ : MethodName) = true := Jvm.Free.JP.mathPlain rfl (by decide +kernel)
theorem ef_1 (m : MethodId) (u : Int32) (w : Int32) : entryFrame m #[(.int u), (.int w)] 2 = mkF m 0 #[.val (.int u), .val (.int w)] [] := by first | (simp [entryFrame, mkF, argsToLocals, Value.category]; done) | rfl
def f_1 (u : Int32) (w : Int32) : Int32 :=
  if w < u then w
  else u
set_option maxRecDepth 65536 in
set_option maxHeartbeats 40000000 in
theorem con_1 (l : Launch) (Z : State) (a0 : Array Value) (hw : ∀ d ∈ tables_1, d.before a0 Z = true) (u : Int32) (w : Int32) (h0 : Heap) : Con l Z (⟨"java/lang/Math", "min", "(II)I"⟩ : MethodName) jdk_29_method_69_code 2 (some .int) ({ frames := 0, cells := 0, slots := 0, locals := 0 } : Room) #[(.int u), (.int w)] h0 (Pure h0 (some (.int (f_1 u w)))) := by
  refine Con.intro pf_1 ?_
  intro p e s m below meth c s₁ hx hby hml hown hnm hret hlk hZ X0 e0
  refine Ends.cast (ef_1 m u w) ?_
  refine Ends.by (fun _ => XS.iloadN X0.here hx rfl (hb hby d1_0) rfl) ?_
  show Ends p e below _ s₁ (mkF m 1 #[.val (.int u), .val (.int w)] [(.int u)])
  refine Ends.by (fun _ => XS.iloadN X0.here hx rfl (hb hby d1_1) rfl) ?_
  show Ends p e below _ s₁ (mkF m 2 #[.val (.int u), .val (.int w)] [(.int w), (.int u)])
  refine Ends.icmp X0 hx (hb hby d1_2) 9 (by decide) (by decide) (fun q => ?_) (fun q => ?_)
  · have c2 : w < u := own_gt.1 q
    show Ends p e below _ s₁ (mkF m 9 #[.val (.int u), .val (.int w)] [])
    refine Ends.by (fun _ => XS.iloadN X0.here hx rfl (hb hby d1_9) rfl) ?_
    show Ends p e below _ s₁ (mkF m 10 #[.val (.int u), .val (.int w)] [(.int w)])
    exact Ends.retI X0 hx hlk hret (hb hby d1_10) (by decide) (by decide) ⟨by rw [f_1, if_pos c2], e0, rfl⟩
  · have c2 : ¬ (w < u) := own_gt.2 q
    show Ends p e below _ s₁ (mkF m 5 #[.val (.int u), .val (.int w)] [])
    refine Ends.by (fun _ => XS.iloadN X0.here hx rfl (hb hby d1_5) rfl) ?_
    show Ends p e below _ s₁ (mkF m 6 #[.val (.int u), .val (.int w)] [(.int u)])
    refine Ends.by (fun _ => XS.goto X0.here hx rfl (pc0 := 6) (pc' := 10) rfl (hb hby d1_6) (by decide) (by decide)) ?_
    show Ends p e below _ s₁ (mkF m 10 #[.val (.int u), .val (.int w)] [(.int u)])
    exact Ends.retI X0 hx hlk hret (hb hby d1_10) (by decide) (by decide) ⟨by rw [f_1, if_neg c2], e0, rfl⟩
theorem d2_0 : decode jdk_29_method_65_code 0 = .ok (.iload_n 0, 1) := by decide +kernel
theorem d2_1 : decode jdk_29_method_65_code 1 = .ok (.iload_n 1, 1) := by decide +kernel
theorem d2_2 : decode jdk_29_method_65_code 2 = .ok (.if_icmp .lt 7, 3) := by decide +kernel
theorem d2_5 : decode jdk_29_method_65_code 5 = .ok (.iload_n 0, 1) := by decide +kernel
theorem d2_6 : decode jdk_29_method_65_code 6 = .ok (.goto 4, 3) := by decide +kernel
theorem d2_9 : decode jdk_29_method_65_code 9 = .ok (.iload_n 1, 1) := by decide +kernel
theorem d2_10 : decode jdk_29_method_65_code 10 = .ok (.ireturn, 1) := by decide +kernel
theorem pd_2 : parseMethodDescriptor "(II)I" = some ⟨[.int, .int], some .int⟩ := by decide +kernel
theorem pf_2 : plainFor (⟨"java/lang/Math", "max", "(II)I"⟩ : MethodName) = true := Jvm.Free.JP.mathPlain rfl (by decide +kernel)
theorem ef_2 (m : MethodId) (u : Int32) (w : Int32) : entryFrame m #[(.int u), (.int w)] 2 = mkF m 0 #[.val (.int u), .val (.int w)] [] := by first | (simp [entryFrame, mkF, argsToLocals, Value.category]; done) | rfl
def f_2 (u : Int32) (w : Int32) : Int32 :=
  if u < w then w
  else u
set_option maxRecDepth 65536 in
set_option maxHeartbeats 40000000 in
theorem con_2 (l : Launch) (Z : State) (a0 : Array Value) (hw : ∀ d ∈ tables_1, d.before a0 Z = true) (u : Int32) (w : Int32) (h0 : Heap) : Con l Z (⟨"java/lang/Math", "max", "(II)I"⟩ : MethodName) jdk_29_method_65_code 2 (some .int) ({ frames := 0, cells := 0, slots := 0, locals := 0 } : Room) #[(.int u), (.int w)] h0 (Pure h0 (some (.int (f_2 u w)))) := by
  refine Con.intro pf_2 ?_
  intro p e s m below meth c s₁ hx hby hml hown hnm hret hlk hZ X0 e0
  refine Ends.cast (ef_2 m u w) ?_
  refine Ends.by (fun _ => XS.iloadN X0.here hx rfl (hb hby d2_0) rfl) ?_
  show Ends p e below _ s₁ (mkF m 1 #[.val (.int u), .val (.int w)] [(.int u)])
  refine Ends.by (fun _ => XS.iloadN X0.here hx rfl (hb hby d2_1) rfl) ?_
  show Ends p e below _ s₁ (mkF m 2 #[.val (.int u), .val (.int w)] [(.int w), (.int u)])
  refine Ends.icmp X0 hx (hb hby d2_2) 9 (by decide) (by decide) (fun q => ?_) (fun q => ?_)
  · have c2 : u < w := own_lt.1 q
    show Ends p e below _ s₁ (mkF m 9 #[.val (.int u), .val (.int w)] [])
    refine Ends.by (fun _ => XS.iloadN X0.here hx rfl (hb hby d2_9) rfl) ?_
    show Ends p e below _ s₁ (mkF m 10 #[.val (.int u), .val (.int w)] [(.int w)])
    exact Ends.retI X0 hx hlk hret (hb hby d2_10) (by decide) (by decide) ⟨by rw [f_2, if_pos c2], e0, rfl⟩
  · have c2 : ¬ (u < w) := own_lt.2 q
    show Ends p e below _ s₁ (mkF m 5 #[.val (.int u), .val (.int w)] [])
    refine Ends.by (fun _ => XS.iloadN X0.here hx rfl (hb hby d2_5) rfl) ?_
    show Ends p e below _ s₁ (mkF m 6 #[.val (.int u), .val (.int w)] [(.int u)])
    refine Ends.by (fun _ => XS.goto X0.here hx rfl (pc0 := 6) (pc' := 10) rfl (hb hby d2_6) (by decide) (by decide)) ?_
    show Ends p e below _ s₁ (mkF m 10 #[.val (.int u), .val (.int w)] [(.int u)])
    exact Ends.retI X0 hx hlk hret (hb hby d2_10) (by decide) (by decide) ⟨by rw [f_2, if_neg c2], e0, rfl⟩
theorem d9_0 : decode method_4_code 0 = .ok (.iload_n 0, 1) := by decide +kernel
theorem d9_1 : decode method_4_code 1 = .ok (.ifCond .lt 18, 3) := by decide +kernel
theorem d9_4 : decode method_4_code 4 = .ok (.iload_n 0, 1) := by decide +kernel
theorem d9_5 : decode method_4_code 5 = .ok (.sipush 192, 3) := by decide +kernel
theorem d9_8 : decode method_4_code 8 = .ok (.iand, 1) := by decide +kernel
theorem d9_9 : decode method_4_code 9 = .ok (.sipush 128, 3) := by decide +kernel
theorem d9_12 : decode method_4_code 12 = .ok (.if_icmp .ne 7, 3) := by decide +kernel
theorem d9_15 : decode method_4_code 15 = .ok (.iconst 1, 1) := by decide +kernel
theorem d9_16 : decode method_4_code 16 = .ok (.goto 4, 3) := by decide +kernel
theorem d9_19 : decode method_4_code 19 = .ok (.iconst 0, 1) := by decide +kernel
theorem d9_20 : decode method_4_code 20 = .ok (.ireturn, 1) := by decide +kernel
theorem pd_9 : parseMethodDescriptor "(I)Z" = some ⟨[.int], some .boolean⟩ := by decide +kernel
theorem pf_9 : plainFor (⟨"com/example/vedette/vedette/records/Utf8WellFormedPinLaw", "cont", "(I)Z"⟩ : MethodName) = true := plainFor_of_name (by first | (simp [plainName, overriddenIn, x]; done) | decide +kernel)
theorem ef_9 (m : MethodId) (u : Int32) : entryFrame m #[(.int u)] 1 = mkF m 0 #[.val (.int u)] [] := by first | (simp [entryFrame, mkF, argsToLocals, Value.category]; done) | rfl
def f_9 (u : Int32) : Int32 :=
  if u < (0 : Int32) then (0 : Int32)
  else if (u &&& (192 : Int32)) = (128 : Int32) then (1 : Int32)
  else (0 : Int32)
set_option maxRecDepth 65536 in
set_option maxHeartbeats 40000000 in
theorem con_9 (l : Launch) (Z : State) (a0 : Array Value) (hw : ∀ d ∈ tables_1, d.before a0 Z = true) (u : Int32) (h0 : Heap) : Con l Z (⟨"com/example/vedette/vedette/records/Utf8WellFormedPinLaw", "cont", "(I)Z"⟩ : MethodName) method_4_code 1 (some .boolean) ({ frames := 0, cells := 0, slots := 0, locals := 0 } : Room) #[(.int u)] h0 (Pure h0 (some (.int (f_9 u)))) := by
  refine Con.intro pf_9 ?_
  intro p e s m below meth c s₁ hx hby hml hown hnm hret hlk hZ X0 e0
  refine Ends.cast (ef_9 m u) ?_
  refine Ends.by (fun _ => XS.iloadN X0.here hx rfl (hb hby d9_0) rfl) ?_
  show Ends p e below _ s₁ (mkF m 1 #[.val (.int u)] [(.int u)])
  refine Ends.ifc X0 hx (hb hby d9_1) 19 (by decide) (by decide) (fun q => ?_) (fun q => ?_)
  · have c1 : u < (0 : Int32) := own_lt.1 q
    show Ends p e below _ s₁ (mkF m 19 #[.val (.int u)] [])
    refine Ends.by (fun _ => XS.iconst X0.here hx rfl (hb hby d9_19)) ?_
    show Ends p e below _ s₁ (mkF m 20 #[.val (.int u)] [(.int (0 : Int32))])
    exact Ends.retZ X0 hx hlk hret (hb hby d9_20) (by first | decide | (simp; done) | exact w01) (by decide) (by decide) ⟨by rw [f_9, if_pos c1], e0, rfl⟩
  · have c1 : ¬ (u < (0 : Int32)) := own_lt.2 q
    show Ends p e below _ s₁ (mkF m 4 #[.val (.int u)] [])
    refine Ends.by (fun _ => XS.iloadN X0.here hx rfl (hb hby d9_4) rfl) ?_
    show Ends p e below _ s₁ (mkF m 5 #[.val (.int u)] [(.int u)])
    refine Ends.by (fun _ => XS.sipush X0.here hx rfl (hb hby d9_5)) ?_
    show Ends p e below _ s₁ (mkF m 8 #[.val (.int u)] [(.int (192 : Int32)), (.int u)])
    refine Ends.by (fun _ => XS.iand X0.here hx rfl (hb hby d9_8) rfl) ?_
    show Ends p e below _ s₁ (mkF m 9 #[.val (.int u)] [(.int (u &&& (192 : Int32)))])
    refine Ends.by (fun _ => XS.sipush X0.here hx rfl (hb hby d9_9)) ?_
    show Ends p e below _ s₁ (mkF m 12 #[.val (.int u)] [(.int (128 : Int32)), (.int (u &&& (192 : Int32)))])
    refine Ends.icmp X0 hx (hb hby d9_12) 19 (by decide) (by decide) (fun q => ?_) (fun q => ?_)
    · have c12 : ¬ ((u &&& (192 : Int32)) = (128 : Int32)) := own_ne.1 q
      show Ends p e below _ s₁ (mkF m 19 #[.val (.int u)] [])
      refine Ends.by (fun _ => XS.iconst X0.here hx rfl (hb hby d9_19)) ?_
      show Ends p e below _ s₁ (mkF m 20 #[.val (.int u)] [(.int (0 : Int32))])
      exact Ends.retZ X0 hx hlk hret (hb hby d9_20) (by first | decide | (simp; done) | exact w01) (by decide) (by decide) ⟨by rw [f_9, if_neg c1, if_neg c12], e0, rfl⟩
    · have c12 : (u &&& (192 : Int32)) = (128 : Int32) := own_ne.2 q
      show Ends p e below _ s₁ (mkF m 15 #[.val (.int u)] [])
      refine Ends.by (fun _ => XS.iconst X0.here hx rfl (hb hby d9_15)) ?_
      show Ends p e below _ s₁ (mkF m 16 #[.val (.int u)] [(.int (1 : Int32))])
      refine Ends.by (fun _ => XS.goto X0.here hx rfl (pc0 := 16) (pc' := 20) rfl (hb hby d9_16) (by decide) (by decide)) ?_
      show Ends p e below _ s₁ (mkF m 20 #[.val (.int u)] [(.int (1 : Int32))])
      exact Ends.retZ X0 hx hlk hret (hb hby d9_20) (by first | decide | (simp; done) | exact w01) (by decide) (by decide) ⟨by rw [f_9, if_neg c1, if_pos c12], e0, rfl⟩
theorem d5_0 : decode method_3_code 0 = .ok (.iload_n 1, 1) := by decide +kernel
theorem d5_1 : decode method_3_code 1 = .ok (.iload_n 2, 1) := by decide +kernel
theorem d5_2 : decode method_3_code 2 = .ok (.if_icmp .ge 13, 3) := by decide +kernel
theorem d5_5 : decode method_3_code 5 = .ok (.aload_n 0, 1) := by decide +kernel
theorem d5_6 : decode method_3_code 6 = .ok (.iload_n 1, 1) := by decide +kernel
theorem d5_7 : decode method_3_code 7 = .ok (.baload, 1) := by decide +kernel
theorem d5_8 : decode method_3_code 8 = .ok (.sipush 255, 3) := by decide +kernel
theorem d5_11 : decode method_3_code 11 = .ok (.iand, 1) := by decide +kernel
theorem d5_12 : decode method_3_code 12 = .ok (.goto 4, 3) := by decide +kernel
theorem d5_15 : decode method_3_code 15 = .ok (.iconst (-1), 1) := by decide +kernel
theorem d5_16 : decode method_3_code 16 = .ok (.ireturn, 1) := by decide +kernel
theorem pd_5 : parseMethodDescriptor "([BII)I" = some ⟨[(.array .byte), .int, .int], some .int⟩ := by decide +kernel
theorem pf_5 : plainFor (⟨"com/example/vedette/vedette/records/Utf8WellFormedPinLaw", "at", "([BII)I"⟩ : MethodName) = true := plainFor_of_name (by first | (simp [plainName, overriddenIn, x]; done) | decide +kernel)
theorem ef_5 (m : MethodId) (ar : Addr) (i : Int32) (to1 : Int32) : entryFrame m #[(.ref ar), (.int i), (.int to1)] 3 = mkF m 0 #[.val (.ref ar), .val (.int i), .val (.int to1)] [] := by first | (simp [entryFrame, mkF, argsToLocals, Value.category]; done) | rfl
def own_at (g : Nat → Int32) (i to1 : Int32) (I : Nat) : Int32 :=
  if i < to1 then ((g I) &&& (255 : Int32))
  else (-1 : Int32)
set_option maxRecDepth 65536 in
set_option maxHeartbeats 40000000 in
theorem con_5 (l : Launch) (Z : State) (a0 : Array Value) (hw : ∀ d ∈ tables_1, d.before a0 Z = true) (ar : Addr) (i : Int32) (to1 : Int32) (I T : Nat) (g : Nat → Int32) (h0 : Heap) (n0 : Nat) (Z0 : n0 ≤ h0.size) (A0 : Af Z h0 ar .byte 5 (fun q => .int (g q))) (hi : i.toInt = (I : Int)) (ht : to1.toInt = (T : Int)) (hT : T ≤ 5) : Con l Z (⟨"com/example/vedette/vedette/records/Utf8WellFormedPinLaw", "at", "([BII)I"⟩ : MethodName) method_3_code 3 (some .int) ({ frames := 0, cells := 0, slots := 0, locals := 0 } : Room) #[(.ref ar), (.int i), (.int to1)] h0 (Pure h0 (some (.int (own_at g i to1 I)))) := by
  refine Con.intro pf_5 ?_
  intro p e s m below meth c s₁ hx hby hml hown hnm hret hlk hZ X0 e0
  refine Ends.cast (ef_5 m ar i to1) ?_
  have N0 := Fr.nil n0
  refine Ends.by (fun _ => XS.iloadN X0.here hx rfl (hb hby d5_0) rfl) ?_
  show Ends p e below _ s₁ (mkF m 1 #[.val (.ref ar), .val (.int i), .val (.int to1)] [(.int i)])
  refine Ends.by (fun _ => XS.iloadN X0.here hx rfl (hb hby d5_1) rfl) ?_
  show Ends p e below _ s₁ (mkF m 2 #[.val (.ref ar), .val (.int i), .val (.int to1)] [(.int to1), (.int i)])
  refine Ends.icmp X0 hx (hb hby d5_2) 15 (by decide) (by decide) (fun q => ?_) (fun q => ?_)
  · have c2 : ¬ (i < to1) := own_ge.1 q
    show Ends p e below _ s₁ (mkF m 15 #[.val (.ref ar), .val (.int i), .val (.int to1)] [])
    refine Ends.by (fun _ => XS.iconst X0.here hx rfl (hb hby d5_15)) ?_
    show Ends p e below _ s₁ (mkF m 16 #[.val (.ref ar), .val (.int i), .val (.int to1)] [(.int (-1 : Int32))])
    exact Ends.retI X0 hx hlk hret (hb hby d5_16) (by decide) (by decide) (by rw [e0]; exact ⟨by rw [own_at, if_neg c2], rfl, rfl⟩)
  · have c2 : i < to1 := own_ge.2 q
    show Ends p e below _ s₁ (mkF m 5 #[.val (.ref ar), .val (.int i), .val (.int to1)] [])
    refine Ends.by (fun _ => XS.aloadN X0.here hx rfl (hb hby d5_5) rfl rfl) ?_
    show Ends p e below _ s₁ (mkF m 6 #[.val (.ref ar), .val (.int i), .val (.int to1)] [(.ref ar)])
    refine Ends.by (fun _ => XS.iloadN X0.here hx rfl (hb hby d5_6) rfl) ?_
    show Ends p e below _ s₁ (mkF m 7 #[.val (.ref ar), .val (.int i), .val (.int to1)] [(.int i), (.ref ar)])
    refine Ends.ldB X0 hx hZ e0 A0 (k := I) hi (by rw [Int32.lt_iff_toInt_lt] at c2; omega) (v := (.int (g I))) rfl (hb hby d5_7) ?_
    show Ends p e below _ s₁ (mkF m 8 #[.val (.ref ar), .val (.int i), .val (.int to1)] [(.int (g I))])
    refine Ends.by (fun _ => XS.sipush X0.here hx rfl (hb hby d5_8)) ?_
    show Ends p e below _ s₁ (mkF m 11 #[.val (.ref ar), .val (.int i), .val (.int to1)] [(.int (255 : Int32)), (.int (g I))])
    refine Ends.by (fun _ => XS.iand X0.here hx rfl (hb hby d5_11) rfl) ?_
    show Ends p e below _ s₁ (mkF m 12 #[.val (.ref ar), .val (.int i), .val (.int to1)] [(.int ((g I) &&& (255 : Int32)))])
    refine Ends.by (fun _ => XS.goto X0.here hx rfl (pc0 := 12) (pc' := 16) rfl (hb hby d5_12) (by decide) (by decide)) ?_
    show Ends p e below _ s₁ (mkF m 16 #[.val (.ref ar), .val (.int i), .val (.int to1)] [(.int ((g I) &&& (255 : Int32)))])
    exact Ends.retI X0 hx hlk hret (hb hby d5_16) (by decide) (by decide) (by rw [e0]; exact ⟨by rw [own_at, if_pos c2], rfl, rfl⟩)
theorem own_offp {u : Int32} {P : Nat} (hp : u.toInt = (P : Int)) (hP : P < 5) (d : Int32) (k : Nat) (hd : d.toInt = (k : Int)) (hk : k < 8) : (u + d).toInt = ((P + k : Nat) : Int) := by
  have e := c_iadd u d
  have r := rng32 (u + d)
  omega
theorem d4_0 : decode method_5_code 0 = .ok (.aload_n 0, 1) := by decide +kernel
theorem d4_1 : decode method_5_code 1 = .ok (.iload_n 1, 1) := by decide +kernel
theorem d4_2 : decode method_5_code 2 = .ok (.iload_n 2, 1) := by decide +kernel
theorem d4_3 : decode method_5_code 3 = .ok (.invokestatic 28, 3) := by decide +kernel
theorem d4_6 : decode method_5_code 6 = .ok (.istore_n 3, 1) := by decide +kernel
theorem d4_7 : decode method_5_code 7 = .ok (.iload_n 3, 1) := by decide +kernel
theorem d4_8 : decode method_5_code 8 = .ok (.sipush 128, 3) := by decide +kernel
theorem d4_11 : decode method_5_code 11 = .ok (.if_icmp .ge 5, 3) := by decide +kernel
theorem d4_14 : decode method_5_code 14 = .ok (.iconst 1, 1) := by decide +kernel
theorem d4_15 : decode method_5_code 15 = .ok (.ireturn, 1) := by decide +kernel
theorem d4_16 : decode method_5_code 16 = .ok (.aload_n 0, 1) := by decide +kernel
theorem d4_17 : decode method_5_code 17 = .ok (.iload_n 1, 1) := by decide +kernel
theorem d4_18 : decode method_5_code 18 = .ok (.iconst 1, 1) := by decide +kernel
theorem d4_19 : decode method_5_code 19 = .ok (.iadd, 1) := by decide +kernel
theorem d4_20 : decode method_5_code 20 = .ok (.iload_n 2, 1) := by decide +kernel
theorem d4_21 : decode method_5_code 21 = .ok (.invokestatic 28, 3) := by decide +kernel
theorem d4_24 : decode method_5_code 24 = .ok (.istore 4, 2) := by decide +kernel
theorem d4_26 : decode method_5_code 26 = .ok (.aload_n 0, 1) := by decide +kernel
theorem d4_27 : decode method_5_code 27 = .ok (.iload_n 1, 1) := by decide +kernel
theorem d4_28 : decode method_5_code 28 = .ok (.iconst 2, 1) := by decide +kernel
theorem d4_29 : decode method_5_code 29 = .ok (.iadd, 1) := by decide +kernel
theorem d4_30 : decode method_5_code 30 = .ok (.iload_n 2, 1) := by decide +kernel
theorem d4_31 : decode method_5_code 31 = .ok (.invokestatic 28, 3) := by decide +kernel
theorem d4_34 : decode method_5_code 34 = .ok (.istore 5, 2) := by decide +kernel
theorem d4_36 : decode method_5_code 36 = .ok (.aload_n 0, 1) := by decide +kernel
theorem d4_37 : decode method_5_code 37 = .ok (.iload_n 1, 1) := by decide +kernel
theorem d4_38 : decode method_5_code 38 = .ok (.iconst 3, 1) := by decide +kernel
theorem d4_39 : decode method_5_code 39 = .ok (.iadd, 1) := by decide +kernel
theorem d4_40 : decode method_5_code 40 = .ok (.iload_n 2, 1) := by decide +kernel
theorem d4_41 : decode method_5_code 41 = .ok (.invokestatic 28, 3) := by decide +kernel
theorem d4_44 : decode method_5_code 44 = .ok (.istore 6, 2) := by decide +kernel
theorem d4_46 : decode method_5_code 46 = .ok (.iload_n 3, 1) := by decide +kernel
theorem d4_47 : decode method_5_code 47 = .ok (.sipush 224, 3) := by decide +kernel
theorem d4_50 : decode method_5_code 50 = .ok (.iand, 1) := by decide +kernel
theorem d4_51 : decode method_5_code 51 = .ok (.sipush 192, 3) := by decide +kernel
theorem d4_54 : decode method_5_code 54 = .ok (.if_icmp .ne 42, 3) := by decide +kernel
theorem d4_57 : decode method_5_code 57 = .ok (.iload 4, 2) := by decide +kernel
theorem d4_59 : decode method_5_code 59 = .ok (.invokestatic 31, 3) := by decide +kernel
theorem d4_62 : decode method_5_code 62 = .ok (.ifCond .ne 5, 3) := by decide +kernel
theorem d4_65 : decode method_5_code 65 = .ok (.iconst 0, 1) := by decide +kernel
theorem d4_66 : decode method_5_code 66 = .ok (.ireturn, 1) := by decide +kernel
theorem d4_67 : decode method_5_code 67 = .ok (.iload_n 3, 1) := by decide +kernel
theorem d4_68 : decode method_5_code 68 = .ok (.bipush 31, 2) := by decide +kernel
theorem d4_70 : decode method_5_code 70 = .ok (.iand, 1) := by decide +kernel
theorem d4_71 : decode method_5_code 71 = .ok (.bipush 6, 2) := by decide +kernel
theorem d4_73 : decode method_5_code 73 = .ok (.ishl, 1) := by decide +kernel
theorem d4_74 : decode method_5_code 74 = .ok (.iload 4, 2) := by decide +kernel
theorem d4_76 : decode method_5_code 76 = .ok (.bipush 63, 2) := by decide +kernel
theorem d4_78 : decode method_5_code 78 = .ok (.iand, 1) := by decide +kernel
theorem d4_79 : decode method_5_code 79 = .ok (.ior, 1) := by decide +kernel
theorem d4_80 : decode method_5_code 80 = .ok (.istore 7, 2) := by decide +kernel
theorem d4_82 : decode method_5_code 82 = .ok (.iload 7, 2) := by decide +kernel
theorem d4_84 : decode method_5_code 84 = .ok (.sipush 128, 3) := by decide +kernel
theorem d4_87 : decode method_5_code 87 = .ok (.if_icmp .lt 7, 3) := by decide +kernel
theorem d4_90 : decode method_5_code 90 = .ok (.iconst 2, 1) := by decide +kernel
theorem d4_91 : decode method_5_code 91 = .ok (.goto 4, 3) := by decide +kernel
theorem d4_94 : decode method_5_code 94 = .ok (.iconst 0, 1) := by decide +kernel
theorem d4_95 : decode method_5_code 95 = .ok (.ireturn, 1) := by decide +kernel
theorem d4_96 : decode method_5_code 96 = .ok (.iload_n 3, 1) := by decide +kernel
theorem d4_97 : decode method_5_code 97 = .ok (.sipush 240, 3) := by decide +kernel
theorem d4_100 : decode method_5_code 100 = .ok (.iand, 1) := by decide +kernel
theorem d4_101 : decode method_5_code 101 = .ok (.sipush 224, 3) := by decide +kernel
theorem d4_104 : decode method_5_code 104 = .ok (.if_icmp .ne 73, 3) := by decide +kernel
theorem d4_107 : decode method_5_code 107 = .ok (.iload 4, 2) := by decide +kernel
theorem d4_109 : decode method_5_code 109 = .ok (.invokestatic 31, 3) := by decide +kernel
theorem d4_112 : decode method_5_code 112 = .ok (.ifCond .eq 11, 3) := by decide +kernel
theorem d4_115 : decode method_5_code 115 = .ok (.iload 5, 2) := by decide +kernel
theorem d4_117 : decode method_5_code 117 = .ok (.invokestatic 31, 3) := by decide +kernel
theorem d4_120 : decode method_5_code 120 = .ok (.ifCond .ne 5, 3) := by decide +kernel
theorem d4_123 : decode method_5_code 123 = .ok (.iconst 0, 1) := by decide +kernel
theorem d4_124 : decode method_5_code 124 = .ok (.ireturn, 1) := by decide +kernel
theorem d4_125 : decode method_5_code 125 = .ok (.iload_n 3, 1) := by decide +kernel
theorem d4_126 : decode method_5_code 126 = .ok (.bipush 15, 2) := by decide +kernel
theorem d4_128 : decode method_5_code 128 = .ok (.iand, 1) := by decide +kernel
theorem d4_129 : decode method_5_code 129 = .ok (.bipush 12, 2) := by decide +kernel
theorem d4_131 : decode method_5_code 131 = .ok (.ishl, 1) := by decide +kernel
theorem d4_132 : decode method_5_code 132 = .ok (.iload 4, 2) := by decide +kernel
theorem d4_134 : decode method_5_code 134 = .ok (.bipush 63, 2) := by decide +kernel
theorem d4_136 : decode method_5_code 136 = .ok (.iand, 1) := by decide +kernel
theorem d4_137 : decode method_5_code 137 = .ok (.bipush 6, 2) := by decide +kernel
theorem d4_139 : decode method_5_code 139 = .ok (.ishl, 1) := by decide +kernel
theorem d4_140 : decode method_5_code 140 = .ok (.ior, 1) := by decide +kernel
theorem d4_141 : decode method_5_code 141 = .ok (.iload 5, 2) := by decide +kernel
theorem d4_143 : decode method_5_code 143 = .ok (.bipush 63, 2) := by decide +kernel
theorem d4_145 : decode method_5_code 145 = .ok (.iand, 1) := by decide +kernel
theorem d4_146 : decode method_5_code 146 = .ok (.ior, 1) := by decide +kernel
theorem d4_147 : decode method_5_code 147 = .ok (.istore 7, 2) := by decide +kernel
theorem d4_149 : decode method_5_code 149 = .ok (.iload 7, 2) := by decide +kernel
theorem d4_151 : decode method_5_code 151 = .ok (.sipush 2048, 3) := by decide +kernel
theorem d4_154 : decode method_5_code 154 = .ok (.if_icmp .lt 21, 3) := by decide +kernel
theorem d4_157 : decode method_5_code 157 = .ok (.iload 7, 2) := by decide +kernel
theorem d4_159 : decode method_5_code 159 = .ok (.ldc 35, 2) := by decide +kernel
theorem d4_161 : decode method_5_code 161 = .ok (.if_icmp .lt 10, 3) := by decide +kernel
theorem d4_164 : decode method_5_code 164 = .ok (.iload 7, 2) := by decide +kernel
theorem d4_166 : decode method_5_code 166 = .ok (.ldc 36, 2) := by decide +kernel
theorem d4_168 : decode method_5_code 168 = .ok (.if_icmp .le 7, 3) := by decide +kernel
theorem d4_171 : decode method_5_code 171 = .ok (.iconst 3, 1) := by decide +kernel
theorem d4_172 : decode method_5_code 172 = .ok (.goto 4, 3) := by decide +kernel
theorem d4_175 : decode method_5_code 175 = .ok (.iconst 0, 1) := by decide +kernel
theorem d4_176 : decode method_5_code 176 = .ok (.ireturn, 1) := by decide +kernel
theorem d4_177 : decode method_5_code 177 = .ok (.iload_n 3, 1) := by decide +kernel
theorem d4_178 : decode method_5_code 178 = .ok (.sipush 248, 3) := by decide +kernel
theorem d4_181 : decode method_5_code 181 = .ok (.iand, 1) := by decide +kernel
theorem d4_182 : decode method_5_code 182 = .ok (.sipush 240, 3) := by decide +kernel
theorem d4_185 : decode method_5_code 185 = .ok (.if_icmp .ne 82, 3) := by decide +kernel
theorem d4_188 : decode method_5_code 188 = .ok (.iload 4, 2) := by decide +kernel
theorem d4_190 : decode method_5_code 190 = .ok (.invokestatic 31, 3) := by decide +kernel
theorem d4_193 : decode method_5_code 193 = .ok (.ifCond .eq 19, 3) := by decide +kernel
theorem d4_196 : decode method_5_code 196 = .ok (.iload 5, 2) := by decide +kernel
theorem d4_198 : decode method_5_code 198 = .ok (.invokestatic 31, 3) := by decide +kernel
theorem d4_201 : decode method_5_code 201 = .ok (.ifCond .eq 11, 3) := by decide +kernel
theorem d4_204 : decode method_5_code 204 = .ok (.iload 6, 2) := by decide +kernel
theorem d4_206 : decode method_5_code 206 = .ok (.invokestatic 31, 3) := by decide +kernel
theorem d4_209 : decode method_5_code 209 = .ok (.ifCond .ne 5, 3) := by decide +kernel
theorem d4_212 : decode method_5_code 212 = .ok (.iconst 0, 1) := by decide +kernel
theorem d4_213 : decode method_5_code 213 = .ok (.ireturn, 1) := by decide +kernel
theorem d4_214 : decode method_5_code 214 = .ok (.iload_n 3, 1) := by decide +kernel
theorem d4_215 : decode method_5_code 215 = .ok (.bipush 7, 2) := by decide +kernel
theorem d4_217 : decode method_5_code 217 = .ok (.iand, 1) := by decide +kernel
theorem d4_218 : decode method_5_code 218 = .ok (.bipush 18, 2) := by decide +kernel
theorem d4_220 : decode method_5_code 220 = .ok (.ishl, 1) := by decide +kernel
theorem d4_221 : decode method_5_code 221 = .ok (.iload 4, 2) := by decide +kernel
theorem d4_223 : decode method_5_code 223 = .ok (.bipush 63, 2) := by decide +kernel
theorem d4_225 : decode method_5_code 225 = .ok (.iand, 1) := by decide +kernel
theorem d4_226 : decode method_5_code 226 = .ok (.bipush 12, 2) := by decide +kernel
theorem d4_228 : decode method_5_code 228 = .ok (.ishl, 1) := by decide +kernel
theorem d4_229 : decode method_5_code 229 = .ok (.ior, 1) := by decide +kernel
theorem d4_230 : decode method_5_code 230 = .ok (.iload 5, 2) := by decide +kernel
theorem d4_232 : decode method_5_code 232 = .ok (.bipush 63, 2) := by decide +kernel
theorem d4_234 : decode method_5_code 234 = .ok (.iand, 1) := by decide +kernel
theorem d4_235 : decode method_5_code 235 = .ok (.bipush 6, 2) := by decide +kernel
theorem d4_237 : decode method_5_code 237 = .ok (.ishl, 1) := by decide +kernel
theorem d4_238 : decode method_5_code 238 = .ok (.ior, 1) := by decide +kernel
theorem d4_239 : decode method_5_code 239 = .ok (.iload 6, 2) := by decide +kernel
theorem d4_241 : decode method_5_code 241 = .ok (.bipush 63, 2) := by decide +kernel
theorem d4_243 : decode method_5_code 243 = .ok (.iand, 1) := by decide +kernel
theorem d4_244 : decode method_5_code 244 = .ok (.ior, 1) := by decide +kernel
theorem d4_245 : decode method_5_code 245 = .ok (.istore 7, 2) := by decide +kernel
theorem d4_247 : decode method_5_code 247 = .ok (.iload 7, 2) := by decide +kernel
theorem d4_249 : decode method_5_code 249 = .ok (.ldc 37, 2) := by decide +kernel
theorem d4_251 : decode method_5_code 251 = .ok (.if_icmp .lt 14, 3) := by decide +kernel
theorem d4_254 : decode method_5_code 254 = .ok (.iload 7, 2) := by decide +kernel
theorem d4_256 : decode method_5_code 256 = .ok (.ldc 38, 2) := by decide +kernel
theorem d4_258 : decode method_5_code 258 = .ok (.if_icmp .gt 7, 3) := by decide +kernel
theorem d4_261 : decode method_5_code 261 = .ok (.iconst 4, 1) := by decide +kernel
theorem d4_262 : decode method_5_code 262 = .ok (.goto 4, 3) := by decide +kernel
theorem d4_265 : decode method_5_code 265 = .ok (.iconst 0, 1) := by decide +kernel
theorem d4_266 : decode method_5_code 266 = .ok (.ireturn, 1) := by decide +kernel
theorem d4_267 : decode method_5_code 267 = .ok (.iconst 0, 1) := by decide +kernel
theorem d4_268 : decode method_5_code 268 = .ok (.ireturn, 1) := by decide +kernel
theorem pd_4 : parseMethodDescriptor "([BII)I" = some ⟨[(.array .byte), .int, .int], some .int⟩ := by decide +kernel
theorem pf_4 : plainFor (⟨"com/example/vedette/vedette/records/Utf8WellFormedPinLaw", "charLength", "([BII)I"⟩ : MethodName) = true := plainFor_of_name (by first | (simp [plainName, overriddenIn, x]; done) | decide +kernel)
theorem ef_4 (m : MethodId) (ar : Addr) (ps : Int32) (to1 : Int32) : entryFrame m #[(.ref ar), (.int ps), (.int to1)] 8 = mkF m 0 #[.val (.ref ar), .val (.int ps), .val (.int to1), .unset, .unset, .unset, .unset, .unset] [] := by first | (simp [entryFrame, mkF, argsToLocals, Value.category]; done) | rfl
def own_cl (g : Nat → Int32) (ps to1 : Int32) (P : Nat) : Int32 :=
  if (own_at g ps to1 (P + 0)) < (128 : Int32) then (1 : Int32)
  else if ((own_at g ps to1 (P + 0)) &&& (224 : Int32)) = (192 : Int32) then if (f_9 (own_at g (ps + (1 : Int32)) to1 (P + 1))) = (0 : Int32) then (0 : Int32)
    else if ((((own_at g ps to1 (P + 0)) &&& (31 : Int32)) <<< ((6 : Int32) &&& 31)) ||| ((own_at g (ps + (1 : Int32)) to1 (P + 1)) &&& (63 : Int32))) < (128 : Int32) then (0 : Int32)
    else (2 : Int32)
  else if ((own_at g ps to1 (P + 0)) &&& (240 : Int32)) = (224 : Int32) then if (f_9 (own_at g (ps + (1 : Int32)) to1 (P + 1))) = (0 : Int32) then (0 : Int32)
    else if (f_9 (own_at g (ps + (2 : Int32)) to1 (P + 2))) = (0 : Int32) then (0 : Int32)
    else if (((((own_at g ps to1 (P + 0)) &&& (15 : Int32)) <<< ((12 : Int32) &&& 31)) ||| (((own_at g (ps + (1 : Int32)) to1 (P + 1)) &&& (63 : Int32)) <<< ((6 : Int32) &&& 31))) ||| ((own_at g (ps + (2 : Int32)) to1 (P + 2)) &&& (63 : Int32))) < (2048 : Int32) then (0 : Int32)
    else if (((((own_at g ps to1 (P + 0)) &&& (15 : Int32)) <<< ((12 : Int32) &&& 31)) ||| (((own_at g (ps + (1 : Int32)) to1 (P + 1)) &&& (63 : Int32)) <<< ((6 : Int32) &&& 31))) ||| ((own_at g (ps + (2 : Int32)) to1 (P + 2)) &&& (63 : Int32))) < (55296 : Int32) then (3 : Int32)
    else if (57343 : Int32) < (((((own_at g ps to1 (P + 0)) &&& (15 : Int32)) <<< ((12 : Int32) &&& 31)) ||| (((own_at g (ps + (1 : Int32)) to1 (P + 1)) &&& (63 : Int32)) <<< ((6 : Int32) &&& 31))) ||| ((own_at g (ps + (2 : Int32)) to1 (P + 2)) &&& (63 : Int32))) then (3 : Int32)
    else (0 : Int32)
  else if ((own_at g ps to1 (P + 0)) &&& (248 : Int32)) = (240 : Int32) then if (f_9 (own_at g (ps + (1 : Int32)) to1 (P + 1))) = (0 : Int32) then (0 : Int32)
    else if (f_9 (own_at g (ps + (2 : Int32)) to1 (P + 2))) = (0 : Int32) then (0 : Int32)
    else if (f_9 (own_at g (ps + (3 : Int32)) to1 (P + 3))) = (0 : Int32) then (0 : Int32)
    else if ((((((own_at g ps to1 (P + 0)) &&& (7 : Int32)) <<< ((18 : Int32) &&& 31)) ||| (((own_at g (ps + (1 : Int32)) to1 (P + 1)) &&& (63 : Int32)) <<< ((12 : Int32) &&& 31))) ||| (((own_at g (ps + (2 : Int32)) to1 (P + 2)) &&& (63 : Int32)) <<< ((6 : Int32) &&& 31))) ||| ((own_at g (ps + (3 : Int32)) to1 (P + 3)) &&& (63 : Int32))) < (65536 : Int32) then (0 : Int32)
    else if (1114111 : Int32) < ((((((own_at g ps to1 (P + 0)) &&& (7 : Int32)) <<< ((18 : Int32) &&& 31)) ||| (((own_at g (ps + (1 : Int32)) to1 (P + 1)) &&& (63 : Int32)) <<< ((12 : Int32) &&& 31))) ||| (((own_at g (ps + (2 : Int32)) to1 (P + 2)) &&& (63 : Int32)) <<< ((6 : Int32) &&& 31))) ||| ((own_at g (ps + (3 : Int32)) to1 (P + 3)) &&& (63 : Int32))) then (0 : Int32)
    else (4 : Int32)
  else (0 : Int32)
set_option maxRecDepth 65536 in
set_option maxHeartbeats 40000000 in
theorem con_4 (l : Launch) (Z : State) (a0 : Array Value) (hw : ∀ d ∈ tables_1, d.before a0 Z = true) (ar : Addr) (ps : Int32) (to1 : Int32) (P T : Nat) (g : Nat → Int32) (h0 : Heap) (n0 : Nat) (Z0 : n0 ≤ h0.size) (A0 : Af Z h0 ar .byte 5 (fun q => .int (g q))) (hp : ps.toInt = (P : Int)) (hP : P < 5) (ht : to1.toInt = (T : Int)) (hT : T ≤ 5) : Con l Z (⟨"com/example/vedette/vedette/records/Utf8WellFormedPinLaw", "charLength", "([BII)I"⟩ : MethodName) method_5_code 8 (some .int) ({ frames := 1, cells := 0, slots := 0, locals := 14 } : Room) #[(.ref ar), (.int ps), (.int to1)] h0 (Pure h0 (some (.int (own_cl g ps to1 P)))) := by
  refine Con.intro pf_4 ?_
  intro p e s m below meth c s₁ hx hby hml hown hnm hret hlk hZ X0 e0
  refine Ends.cast (ef_4 m ar ps to1) ?_
  have N0 := Fr.nil n0
  have e0_ : ps.toInt = ((P + 0 : Nat) : Int) := hp
  have e1_ := own_offp hp hP (1 : Int32) 1 (by decide) (by decide)
  have e2_ := own_offp hp hP (2 : Int32) 2 (by decide) (by decide)
  have e3_ := own_offp hp hP (3 : Int32) 3 (by decide) (by decide)
  refine Ends.by (fun _ => XS.aloadN X0.here hx rfl (hb hby d4_0) rfl rfl) ?_
  show Ends p e below _ s₁ (mkF m 1 #[.val (.ref ar), .val (.int ps), .val (.int to1), .unset, .unset, .unset, .unset, .unset] [(.ref ar)])
  refine Ends.by (fun _ => XS.iloadN X0.here hx rfl (hb hby d4_1) rfl) ?_
  show Ends p e below _ s₁ (mkF m 2 #[.val (.ref ar), .val (.int ps), .val (.int to1), .unset, .unset, .unset, .unset, .unset] [(.int ps), (.ref ar)])
  refine Ends.by (fun _ => XS.iloadN X0.here hx rfl (hb hby d4_2) rfl) ?_
  show Ends p e below _ s₁ (mkF m 3 #[.val (.ref ar), .val (.int ps), .val (.int to1), .unset, .unset, .unset, .unset, .unset] [(.int to1), (.int ps), (.ref ar)])
  refine Ends.callS (argsL := [(.ref ar), (.int ps), (.int to1)]) (rest := []) X0 hx hZ hown (hw _ (List.mem_of_getElem? (i := 15) rfl)) (hw _ (List.mem_of_getElem? (i := 16) rfl)) (hw _ (List.mem_of_getElem? (i := 10) rfl)) (hw _ (List.mem_of_getElem? (i := 17) rfl)) (by decide) (con_5 l Z a0 hw ar ps to1 (P + 0) T g h0 n0 Z0 A0 e0_ ht hT) e0 (by rw [hml]; rfl) (hb hby d4_3) (lenOf pd_5 rfl) 0 (Nat.le_of_eq rfl) (by decide) (by decide) (by decide) (by decide) ?_
  intro v T1 L1 X1 hQ
  obtain ⟨rfl, e1, rfl⟩ := hQ
  rw [List.append_nil] at X1
  show Ends p e below _ T1 (mkF m 6 #[.val (.ref ar), .val (.int ps), .val (.int to1), .unset, .unset, .unset, .unset, .unset] [(.int (own_at g ps to1 (P + 0)))])
  refine Ends.by (fun _ => XS.istoreN X1.here hx rfl (hb hby d4_6) rfl (l' := #[.val (.ref ar), .val (.int ps), .val (.int to1), .val (.int (own_at g ps to1 (P + 0))), .unset, .unset, .unset, .unset]) rfl) ?_
  show Ends p e below _ T1 (mkF m 7 #[.val (.ref ar), .val (.int ps), .val (.int to1), .val (.int (own_at g ps to1 (P + 0))), .unset, .unset, .unset, .unset] [])
  refine Ends.by (fun _ => XS.iloadN X1.here hx rfl (hb hby d4_7) rfl) ?_
  show Ends p e below _ T1 (mkF m 8 #[.val (.ref ar), .val (.int ps), .val (.int to1), .val (.int (own_at g ps to1 (P + 0))), .unset, .unset, .unset, .unset] [(.int (own_at g ps to1 (P + 0)))])
  refine Ends.by (fun _ => XS.sipush X1.here hx rfl (hb hby d4_8)) ?_
  show Ends p e below _ T1 (mkF m 11 #[.val (.ref ar), .val (.int ps), .val (.int to1), .val (.int (own_at g ps to1 (P + 0))), .unset, .unset, .unset, .unset] [(.int (128 : Int32)), (.int (own_at g ps to1 (P + 0)))])
  refine Ends.icmp X1 hx (hb hby d4_11) 16 (by decide) (by decide) (fun q => ?_) (fun q => ?_)
  · have c11 : ¬ ((own_at g ps to1 (P + 0)) < (128 : Int32)) := own_ge.1 q
    show Ends p e below _ T1 (mkF m 16 #[.val (.ref ar), .val (.int ps), .val (.int to1), .val (.int (own_at g ps to1 (P + 0))), .unset, .unset, .unset, .unset] [])
    refine Ends.by (fun _ => XS.aloadN X1.here hx rfl (hb hby d4_16) rfl rfl) ?_
    show Ends p e below _ T1 (mkF m 17 #[.val (.ref ar), .val (.int ps), .val (.int to1), .val (.int (own_at g ps to1 (P + 0))), .unset, .unset, .unset, .unset] [(.ref ar)])
    refine Ends.by (fun _ => XS.iloadN X1.here hx rfl (hb hby d4_17) rfl) ?_
    show Ends p e below _ T1 (mkF m 18 #[.val (.ref ar), .val (.int ps), .val (.int to1), .val (.int (own_at g ps to1 (P + 0))), .unset, .unset, .unset, .unset] [(.int ps), (.ref ar)])
    refine Ends.by (fun _ => XS.iconst X1.here hx rfl (hb hby d4_18)) ?_
    show Ends p e below _ T1 (mkF m 19 #[.val (.ref ar), .val (.int ps), .val (.int to1), .val (.int (own_at g ps to1 (P + 0))), .unset, .unset, .unset, .unset] [(.int (1 : Int32)), (.int ps), (.ref ar)])
    refine Ends.by (fun _ => XS.iadd X1.here hx rfl (hb hby d4_19) rfl) ?_
    show Ends p e below _ T1 (mkF m 20 #[.val (.ref ar), .val (.int ps), .val (.int to1), .val (.int (own_at g ps to1 (P + 0))), .unset, .unset, .unset, .unset] [(.int (ps + (1 : Int32))), (.ref ar)])
    refine Ends.by (fun _ => XS.iloadN X1.here hx rfl (hb hby d4_20) rfl) ?_
    show Ends p e below _ T1 (mkF m 21 #[.val (.ref ar), .val (.int ps), .val (.int to1), .val (.int (own_at g ps to1 (P + 0))), .unset, .unset, .unset, .unset] [(.int to1), (.int (ps + (1 : Int32))), (.ref ar)])
    refine Ends.callS (argsL := [(.ref ar), (.int (ps + (1 : Int32))), (.int to1)]) (rest := []) X1 hx hZ hown (hw _ (List.mem_of_getElem? (i := 15) rfl)) (hw _ (List.mem_of_getElem? (i := 16) rfl)) (hw _ (List.mem_of_getElem? (i := 10) rfl)) (hw _ (List.mem_of_getElem? (i := 17) rfl)) (by decide) (con_5 l Z a0 hw ar (ps + (1 : Int32)) to1 (P + 1) T g h0 n0 Z0 A0 e1_ ht hT) e1 (by rw [hml]; rfl) (hb hby d4_21) (lenOf pd_5 rfl) 0 (Nat.le_of_eq rfl) (by decide) (by decide) (by decide) (by decide) ?_
    intro v T2 L2 X2 hQ
    obtain ⟨rfl, e2, rfl⟩ := hQ
    rw [List.append_nil] at X2
    show Ends p e below _ T2 (mkF m 24 #[.val (.ref ar), .val (.int ps), .val (.int to1), .val (.int (own_at g ps to1 (P + 0))), .unset, .unset, .unset, .unset] [(.int (own_at g (ps + (1 : Int32)) to1 (P + 1)))])
    refine Ends.by (fun _ => XS.istore X2.here hx rfl (hb hby d4_24) rfl (l' := #[.val (.ref ar), .val (.int ps), .val (.int to1), .val (.int (own_at g ps to1 (P + 0))), .val (.int (own_at g (ps + (1 : Int32)) to1 (P + 1))), .unset, .unset, .unset]) rfl) ?_
    show Ends p e below _ T2 (mkF m 26 #[.val (.ref ar), .val (.int ps), .val (.int to1), .val (.int (own_at g ps to1 (P + 0))), .val (.int (own_at g (ps + (1 : Int32)) to1 (P + 1))), .unset, .unset, .unset] [])
    refine Ends.by (fun _ => XS.aloadN X2.here hx rfl (hb hby d4_26) rfl rfl) ?_
    show Ends p e below _ T2 (mkF m 27 #[.val (.ref ar), .val (.int ps), .val (.int to1), .val (.int (own_at g ps to1 (P + 0))), .val (.int (own_at g (ps + (1 : Int32)) to1 (P + 1))), .unset, .unset, .unset] [(.ref ar)])
    refine Ends.by (fun _ => XS.iloadN X2.here hx rfl (hb hby d4_27) rfl) ?_
    show Ends p e below _ T2 (mkF m 28 #[.val (.ref ar), .val (.int ps), .val (.int to1), .val (.int (own_at g ps to1 (P + 0))), .val (.int (own_at g (ps + (1 : Int32)) to1 (P + 1))), .unset, .unset, .unset] [(.int ps), (.ref ar)])
    refine Ends.by (fun _ => XS.iconst X2.here hx rfl (hb hby d4_28)) ?_
    show Ends p e below _ T2 (mkF m 29 #[.val (.ref ar), .val (.int ps), .val (.int to1), .val (.int (own_at g ps to1 (P + 0))), .val (.int (own_at g (ps + (1 : Int32)) to1 (P + 1))), .unset, .unset, .unset] [(.int (2 : Int32)), (.int ps), (.ref ar)])
    refine Ends.by (fun _ => XS.iadd X2.here hx rfl (hb hby d4_29) rfl) ?_
    show Ends p e below _ T2 (mkF m 30 #[.val (.ref ar), .val (.int ps), .val (.int to1), .val (.int (own_at g ps to1 (P + 0))), .val (.int (own_at g (ps + (1 : Int32)) to1 (P + 1))), .unset, .unset, .unset] [(.int (ps + (2 : Int32))), (.ref ar)])
    refine Ends.by (fun _ => XS.iloadN X2.here hx rfl (hb hby d4_30) rfl) ?_
    show Ends p e below _ T2 (mkF m 31 #[.val (.ref ar), .val (.int ps), .val (.int to1), .val (.int (own_at g ps to1 (P + 0))), .val (.int (own_at g (ps + (1 : Int32)) to1 (P + 1))), .unset, .unset, .unset] [(.int to1), (.int (ps + (2 : Int32))), (.ref ar)])
    refine Ends.callS (argsL := [(.ref ar), (.int (ps + (2 : Int32))), (.int to1)]) (rest := []) X2 hx hZ hown (hw _ (List.mem_of_getElem? (i := 15) rfl)) (hw _ (List.mem_of_getElem? (i := 16) rfl)) (hw _ (List.mem_of_getElem? (i := 10) rfl)) (hw _ (List.mem_of_getElem? (i := 17) rfl)) (by decide) (con_5 l Z a0 hw ar (ps + (2 : Int32)) to1 (P + 2) T g h0 n0 Z0 A0 e2_ ht hT) e2 (by rw [hml]; rfl) (hb hby d4_31) (lenOf pd_5 rfl) 0 (Nat.le_of_eq rfl) (by decide) (by decide) (by decide) (by decide) ?_
    intro v T3 L3 X3 hQ
    obtain ⟨rfl, e3, rfl⟩ := hQ
    rw [List.append_nil] at X3
    show Ends p e below _ T3 (mkF m 34 #[.val (.ref ar), .val (.int ps), .val (.int to1), .val (.int (own_at g ps to1 (P + 0))), .val (.int (own_at g (ps + (1 : Int32)) to1 (P + 1))), .unset, .unset, .unset] [(.int (own_at g (ps + (2 : Int32)) to1 (P + 2)))])
    refine Ends.by (fun _ => XS.istore X3.here hx rfl (hb hby d4_34) rfl (l' := #[.val (.ref ar), .val (.int ps), .val (.int to1), .val (.int (own_at g ps to1 (P + 0))), .val (.int (own_at g (ps + (1 : Int32)) to1 (P + 1))), .val (.int (own_at g (ps + (2 : Int32)) to1 (P + 2))), .unset, .unset]) rfl) ?_
    show Ends p e below _ T3 (mkF m 36 #[.val (.ref ar), .val (.int ps), .val (.int to1), .val (.int (own_at g ps to1 (P + 0))), .val (.int (own_at g (ps + (1 : Int32)) to1 (P + 1))), .val (.int (own_at g (ps + (2 : Int32)) to1 (P + 2))), .unset, .unset] [])
    refine Ends.by (fun _ => XS.aloadN X3.here hx rfl (hb hby d4_36) rfl rfl) ?_
    show Ends p e below _ T3 (mkF m 37 #[.val (.ref ar), .val (.int ps), .val (.int to1), .val (.int (own_at g ps to1 (P + 0))), .val (.int (own_at g (ps + (1 : Int32)) to1 (P + 1))), .val (.int (own_at g (ps + (2 : Int32)) to1 (P + 2))), .unset, .unset] [(.ref ar)])
    refine Ends.by (fun _ => XS.iloadN X3.here hx rfl (hb hby d4_37) rfl) ?_
    show Ends p e below _ T3 (mkF m 38 #[.val (.ref ar), .val (.int ps), .val (.int to1), .val (.int (own_at g ps to1 (P + 0))), .val (.int (own_at g (ps + (1 : Int32)) to1 (P + 1))), .val (.int (own_at g (ps + (2 : Int32)) to1 (P + 2))), .unset, .unset] [(.int ps), (.ref ar)])
    refine Ends.by (fun _ => XS.iconst X3.here hx rfl (hb hby d4_38)) ?_
    show Ends p e below _ T3 (mkF m 39 #[.val (.ref ar), .val (.int ps), .val (.int to1), .val (.int (own_at g ps to1 (P + 0))), .val (.int (own_at g (ps + (1 : Int32)) to1 (P + 1))), .val (.int (own_at g (ps + (2 : Int32)) to1 (P + 2))), .unset, .unset] [(.int (3 : Int32)), (.int ps), (.ref ar)])
    refine Ends.by (fun _ => XS.iadd X3.here hx rfl (hb hby d4_39) rfl) ?_
    show Ends p e below _ T3 (mkF m 40 #[.val (.ref ar), .val (.int ps), .val (.int to1), .val (.int (own_at g ps to1 (P + 0))), .val (.int (own_at g (ps + (1 : Int32)) to1 (P + 1))), .val (.int (own_at g (ps + (2 : Int32)) to1 (P + 2))), .unset, .unset] [(.int (ps + (3 : Int32))), (.ref ar)])
    refine Ends.by (fun _ => XS.iloadN X3.here hx rfl (hb hby d4_40) rfl) ?_
    show Ends p e below _ T3 (mkF m 41 #[.val (.ref ar), .val (.int ps), .val (.int to1), .val (.int (own_at g ps to1 (P + 0))), .val (.int (own_at g (ps + (1 : Int32)) to1 (P + 1))), .val (.int (own_at g (ps + (2 : Int32)) to1 (P + 2))), .unset, .unset] [(.int to1), (.int (ps + (3 : Int32))), (.ref ar)])
    refine Ends.callS (argsL := [(.ref ar), (.int (ps + (3 : Int32))), (.int to1)]) (rest := []) X3 hx hZ hown (hw _ (List.mem_of_getElem? (i := 15) rfl)) (hw _ (List.mem_of_getElem? (i := 16) rfl)) (hw _ (List.mem_of_getElem? (i := 10) rfl)) (hw _ (List.mem_of_getElem? (i := 17) rfl)) (by decide) (con_5 l Z a0 hw ar (ps + (3 : Int32)) to1 (P + 3) T g h0 n0 Z0 A0 e3_ ht hT) e3 (by rw [hml]; rfl) (hb hby d4_41) (lenOf pd_5 rfl) 0 (Nat.le_of_eq rfl) (by decide) (by decide) (by decide) (by decide) ?_
    intro v T4 L4 X4 hQ
    obtain ⟨rfl, e4, rfl⟩ := hQ
    rw [List.append_nil] at X4
    show Ends p e below _ T4 (mkF m 44 #[.val (.ref ar), .val (.int ps), .val (.int to1), .val (.int (own_at g ps to1 (P + 0))), .val (.int (own_at g (ps + (1 : Int32)) to1 (P + 1))), .val (.int (own_at g (ps + (2 : Int32)) to1 (P + 2))), .unset, .unset] [(.int (own_at g (ps + (3 : Int32)) to1 (P + 3)))])
    refine Ends.by (fun _ => XS.istore X4.here hx rfl (hb hby d4_44) rfl (l' := #[.val (.ref ar), .val (.int ps), .val (.int to1), .val (.int (own_at g ps to1 (P + 0))), .val (.int (own_at g (ps + (1 : Int32)) to1 (P + 1))), .val (.int (own_at g (ps + (2 : Int32)) to1 (P + 2))), .val (.int (own_at g (ps + (3 : Int32)) to1 (P + 3))), .unset]) rfl) ?_
    show Ends p e below _ T4 (mkF m 46 #[.val (.ref ar), .val (.int ps), .val (.int to1), .val (.int (own_at g ps to1 (P + 0))), .val (.int (own_at g (ps + (1 : Int32)) to1 (P + 1))), .val (.int (own_at g (ps + (2 : Int32)) to1 (P + 2))), .val (.int (own_at g (ps + (3 : Int32)) to1 (P + 3))), .unset] [])
    refine Ends.by (fun _ => XS.iloadN X4.here hx rfl (hb hby d4_46) rfl) ?_
    show Ends p e below _ T4 (mkF m 47 #[.val (.ref ar), .val (.int ps), .val (.int to1), .val (.int (own_at g ps to1 (P + 0))), .val (.int (own_at g (ps + (1 : Int32)) to1 (P + 1))), .val (.int (own_at g (ps + (2 : Int32)) to1 (P + 2))), .val (.int (own_at g (ps + (3 : Int32)) to1 (P + 3))), .unset] [(.int (own_at g ps to1 (P + 0)))])
    refine Ends.by (fun _ => XS.sipush X4.here hx rfl (hb hby d4_47)) ?_
    show Ends p e below _ T4 (mkF m 50 #[.val (.ref ar), .val (.int ps), .val (.int to1), .val (.int (own_at g ps to1 (P + 0))), .val (.int (own_at g (ps + (1 : Int32)) to1 (P + 1))), .val (.int (own_at g (ps + (2 : Int32)) to1 (P + 2))), .val (.int (own_at g (ps + (3 : Int32)) to1 (P + 3))), .unset] [(.int (224 : Int32)), (.int (own_at g ps to1 (P + 0)))])
    refine Ends.by (fun _ => XS.iand X4.here hx rfl (hb hby d4_50) rfl) ?_
    show Ends p e below _ T4 (mkF m 51 #[.val (.ref ar), .val (.int ps), .val (.int to1), .val (.int (own_at g ps to1 (P + 0))), .val (.int (own_at g (ps + (1 : Int32)) to1 (P + 1))), .val (.int (own_at g (ps + (2 : Int32)) to1 (P + 2))), .val (.int (own_at g (ps + (3 : Int32)) to1 (P + 3))), .unset] [(.int ((own_at g ps to1 (P + 0)) &&& (224 : Int32)))])
    refine Ends.by (fun _ => XS.sipush X4.here hx rfl (hb hby d4_51)) ?_
    show Ends p e below _ T4 (mkF m 54 #[.val (.ref ar), .val (.int ps), .val (.int to1), .val (.int (own_at g ps to1 (P + 0))), .val (.int (own_at g (ps + (1 : Int32)) to1 (P + 1))), .val (.int (own_at g (ps + (2 : Int32)) to1 (P + 2))), .val (.int (own_at g (ps + (3 : Int32)) to1 (P + 3))), .unset] [(.int (192 : Int32)), (.int ((own_at g ps to1 (P + 0)) &&& (224 : Int32)))])
    refine Ends.icmp X4 hx (hb hby d4_54) 96 (by decide) (by decide) (fun q => ?_) (fun q => ?_)
    · have c54 : ¬ (((own_at g ps to1 (P + 0)) &&& (224 : Int32)) = (192 : Int32)) := own_ne.1 q
      show Ends p e below _ T4 (mkF m 96 #[.val (.ref ar), .val (.int ps), .val (.int to1), .val (.int (own_at g ps to1 (P + 0))), .val (.int (own_at g (ps + (1 : Int32)) to1 (P + 1))), .val (.int (own_at g (ps + (2 : Int32)) to1 (P + 2))), .val (.int (own_at g (ps + (3 : Int32)) to1 (P + 3))), .unset] [])
      refine Ends.by (fun _ => XS.iloadN X4.here hx rfl (hb hby d4_96) rfl) ?_
      show Ends p e below _ T4 (mkF m 97 #[.val (.ref ar), .val (.int ps), .val (.int to1), .val (.int (own_at g ps to1 (P + 0))), .val (.int (own_at g (ps + (1 : Int32)) to1 (P + 1))), .val (.int (own_at g (ps + (2 : Int32)) to1 (P + 2))), .val (.int (own_at g (ps + (3 : Int32)) to1 (P + 3))), .unset] [(.int (own_at g ps to1 (P + 0)))])
      refine Ends.by (fun _ => XS.sipush X4.here hx rfl (hb hby d4_97)) ?_
      show Ends p e below _ T4 (mkF m 100 #[.val (.ref ar), .val (.int ps), .val (.int to1), .val (.int (own_at g ps to1 (P + 0))), .val (.int (own_at g (ps + (1 : Int32)) to1 (P + 1))), .val (.int (own_at g (ps + (2 : Int32)) to1 (P + 2))), .val (.int (own_at g (ps + (3 : Int32)) to1 (P + 3))), .unset] [(.int (240 : Int32)), (.int (own_at g ps to1 (P + 0)))])
      refine Ends.by (fun _ => XS.iand X4.here hx rfl (hb hby d4_100) rfl) ?_
      show Ends p e below _ T4 (mkF m 101 #[.val (.ref ar), .val (.int ps), .val (.int to1), .val (.int (own_at g ps to1 (P + 0))), .val (.int (own_at g (ps + (1 : Int32)) to1 (P + 1))), .val (.int (own_at g (ps + (2 : Int32)) to1 (P + 2))), .val (.int (own_at g (ps + (3 : Int32)) to1 (P + 3))), .unset] [(.int ((own_at g ps to1 (P + 0)) &&& (240 : Int32)))])
      refine Ends.by (fun _ => XS.sipush X4.here hx rfl (hb hby d4_101)) ?_
      show Ends p e below _ T4 (mkF m 104 #[.val (.ref ar), .val (.int ps), .val (.int to1), .val (.int (own_at g ps to1 (P + 0))), .val (.int (own_at g (ps + (1 : Int32)) to1 (P + 1))), .val (.int (own_at g (ps + (2 : Int32)) to1 (P + 2))), .val (.int (own_at g (ps + (3 : Int32)) to1 (P + 3))), .unset] [(.int (224 : Int32)), (.int ((own_at g ps to1 (P + 0)) &&& (240 : Int32)))])
      refine Ends.icmp X4 hx (hb hby d4_104) 177 (by decide) (by decide) (fun q => ?_) (fun q => ?_)
      · have c104 : ¬ (((own_at g ps to1 (P + 0)) &&& (240 : Int32)) = (224 : Int32)) := own_ne.1 q
        show Ends p e below _ T4 (mkF m 177 #[.val (.ref ar), .val (.int ps), .val (.int to1), .val (.int (own_at g ps to1 (P + 0))), .val (.int (own_at g (ps + (1 : Int32)) to1 (P + 1))), .val (.int (own_at g (ps + (2 : Int32)) to1 (P + 2))), .val (.int (own_at g (ps + (3 : Int32)) to1 (P + 3))), .unset] [])
        refine Ends.by (fun _ => XS.iloadN X4.here hx rfl (hb hby d4_177) rfl) ?_
        show Ends p e below _ T4 (mkF m 178 #[.val (.ref ar), .val (.int ps), .val (.int to1), .val (.int (own_at g ps to1 (P + 0))), .val (.int (own_at g (ps + (1 : Int32)) to1 (P + 1))), .val (.int (own_at g (ps + (2 : Int32)) to1 (P + 2))), .val (.int (own_at g (ps + (3 : Int32)) to1 (P + 3))), .unset] [(.int (own_at g ps to1 (P + 0)))])
        refine Ends.by (fun _ => XS.sipush X4.here hx rfl (hb hby d4_178)) ?_
        show Ends p e below _ T4 (mkF m 181 #[.val (.ref ar), .val (.int ps), .val (.int to1), .val (.int (own_at g ps to1 (P + 0))), .val (.int (own_at g (ps + (1 : Int32)) to1 (P + 1))), .val (.int (own_at g (ps + (2 : Int32)) to1 (P + 2))), .val (.int (own_at g (ps + (3 : Int32)) to1 (P + 3))), .unset] [(.int (248 : Int32)), (.int (own_at g ps to1 (P + 0)))])
        refine Ends.by (fun _ => XS.iand X4.here hx rfl (hb hby d4_181) rfl) ?_
        show Ends p e below _ T4 (mkF m 182 #[.val (.ref ar), .val (.int ps), .val (.int to1), .val (.int (own_at g ps to1 (P + 0))), .val (.int (own_at g (ps + (1 : Int32)) to1 (P + 1))), .val (.int (own_at g (ps + (2 : Int32)) to1 (P + 2))), .val (.int (own_at g (ps + (3 : Int32)) to1 (P + 3))), .unset] [(.int ((own_at g ps to1 (P + 0)) &&& (248 : Int32)))])
        refine Ends.by (fun _ => XS.sipush X4.here hx rfl (hb hby d4_182)) ?_
        show Ends p e below _ T4 (mkF m 185 #[.val (.ref ar), .val (.int ps), .val (.int to1), .val (.int (own_at g ps to1 (P + 0))), .val (.int (own_at g (ps + (1 : Int32)) to1 (P + 1))), .val (.int (own_at g (ps + (2 : Int32)) to1 (P + 2))), .val (.int (own_at g (ps + (3 : Int32)) to1 (P + 3))), .unset] [(.int (240 : Int32)), (.int ((own_at g ps to1 (P + 0)) &&& (248 : Int32)))])
        refine Ends.icmp X4 hx (hb hby d4_185) 267 (by decide) (by decide) (fun q => ?_) (fun q => ?_)
        · have c185 : ¬ (((own_at g ps to1 (P + 0)) &&& (248 : Int32)) = (240 : Int32)) := own_ne.1 q
          show Ends p e below _ T4 (mkF m 267 #[.val (.ref ar), .val (.int ps), .val (.int to1), .val (.int (own_at g ps to1 (P + 0))), .val (.int (own_at g (ps + (1 : Int32)) to1 (P + 1))), .val (.int (own_at g (ps + (2 : Int32)) to1 (P + 2))), .val (.int (own_at g (ps + (3 : Int32)) to1 (P + 3))), .unset] [])
          refine Ends.by (fun _ => XS.iconst X4.here hx rfl (hb hby d4_267)) ?_
          show Ends p e below _ T4 (mkF m 268 #[.val (.ref ar), .val (.int ps), .val (.int to1), .val (.int (own_at g ps to1 (P + 0))), .val (.int (own_at g (ps + (1 : Int32)) to1 (P + 1))), .val (.int (own_at g (ps + (2 : Int32)) to1 (P + 2))), .val (.int (own_at g (ps + (3 : Int32)) to1 (P + 3))), .unset] [(.int (0 : Int32))])
          exact Ends.retI X4 hx hlk hret (hb hby d4_268) (by decide) (by decide) (by rw [e4]; exact ⟨by rw [own_cl, if_neg c11, if_neg c54, if_neg c104, if_neg c185], rfl, rfl⟩)
        · have c185 : ((own_at g ps to1 (P + 0)) &&& (248 : Int32)) = (240 : Int32) := own_ne.2 q
          show Ends p e below _ T4 (mkF m 188 #[.val (.ref ar), .val (.int ps), .val (.int to1), .val (.int (own_at g ps to1 (P + 0))), .val (.int (own_at g (ps + (1 : Int32)) to1 (P + 1))), .val (.int (own_at g (ps + (2 : Int32)) to1 (P + 2))), .val (.int (own_at g (ps + (3 : Int32)) to1 (P + 3))), .unset] [])
          refine Ends.by (fun _ => XS.iload X4.here hx rfl (hb hby d4_188) rfl) ?_
          show Ends p e below _ T4 (mkF m 190 #[.val (.ref ar), .val (.int ps), .val (.int to1), .val (.int (own_at g ps to1 (P + 0))), .val (.int (own_at g (ps + (1 : Int32)) to1 (P + 1))), .val (.int (own_at g (ps + (2 : Int32)) to1 (P + 2))), .val (.int (own_at g (ps + (3 : Int32)) to1 (P + 3))), .unset] [(.int (own_at g (ps + (1 : Int32)) to1 (P + 1)))])
          refine Ends.callS (argsL := [(.int (own_at g (ps + (1 : Int32)) to1 (P + 1)))]) (rest := []) X4 hx hZ hown (hw _ (List.mem_of_getElem? (i := 28) rfl)) (hw _ (List.mem_of_getElem? (i := 29) rfl)) (hw _ (List.mem_of_getElem? (i := 10) rfl)) (hw _ (List.mem_of_getElem? (i := 30) rfl)) (by decide) (con_9 l Z a0 hw (own_at g (ps + (1 : Int32)) to1 (P + 1)) h0) e4 (by rw [hml]; rfl) (hb hby d4_190) (lenOf pd_9 rfl) 0 (Nat.le_of_eq rfl) (by decide) (by decide) (by decide) (by decide) ?_
          intro v T5 L5 X5 hQ
          obtain ⟨rfl, e5, rfl⟩ := hQ
          rw [List.append_nil] at X5
          show Ends p e below _ T5 (mkF m 193 #[.val (.ref ar), .val (.int ps), .val (.int to1), .val (.int (own_at g ps to1 (P + 0))), .val (.int (own_at g (ps + (1 : Int32)) to1 (P + 1))), .val (.int (own_at g (ps + (2 : Int32)) to1 (P + 2))), .val (.int (own_at g (ps + (3 : Int32)) to1 (P + 3))), .unset] [(.int (f_9 (own_at g (ps + (1 : Int32)) to1 (P + 1))))])
          refine Ends.ifc X5 hx (hb hby d4_193) 212 (by decide) (by decide) (fun q => ?_) (fun q => ?_)
          · have c193 : (f_9 (own_at g (ps + (1 : Int32)) to1 (P + 1))) = (0 : Int32) := own_eq.1 q
            show Ends p e below _ T5 (mkF m 212 #[.val (.ref ar), .val (.int ps), .val (.int to1), .val (.int (own_at g ps to1 (P + 0))), .val (.int (own_at g (ps + (1 : Int32)) to1 (P + 1))), .val (.int (own_at g (ps + (2 : Int32)) to1 (P + 2))), .val (.int (own_at g (ps + (3 : Int32)) to1 (P + 3))), .unset] [])
            refine Ends.by (fun _ => XS.iconst X5.here hx rfl (hb hby d4_212)) ?_
            show Ends p e below _ T5 (mkF m 213 #[.val (.ref ar), .val (.int ps), .val (.int to1), .val (.int (own_at g ps to1 (P + 0))), .val (.int (own_at g (ps + (1 : Int32)) to1 (P + 1))), .val (.int (own_at g (ps + (2 : Int32)) to1 (P + 2))), .val (.int (own_at g (ps + (3 : Int32)) to1 (P + 3))), .unset] [(.int (0 : Int32))])
            exact Ends.retI X5 hx hlk hret (hb hby d4_213) (by decide) (by decide) (by rw [e5]; exact ⟨by rw [own_cl, if_neg c11, if_neg c54, if_neg c104, if_pos c185, if_pos c193], rfl, rfl⟩)
          · have c193 : ¬ ((f_9 (own_at g (ps + (1 : Int32)) to1 (P + 1))) = (0 : Int32)) := own_eq.2 q
            show Ends p e below _ T5 (mkF m 196 #[.val (.ref ar), .val (.int ps), .val (.int to1), .val (.int (own_at g ps to1 (P + 0))), .val (.int (own_at g (ps + (1 : Int32)) to1 (P + 1))), .val (.int (own_at g (ps + (2 : Int32)) to1 (P + 2))), .val (.int (own_at g (ps + (3 : Int32)) to1 (P + 3))), .unset] [])
            refine Ends.by (fun _ => XS.iload X5.here hx rfl (hb hby d4_196) rfl) ?_
            show Ends p e below _ T5 (mkF m 198 #[.val (.ref ar), .val (.int ps), .val (.int to1), .val (.int (own_at g ps to1 (P + 0))), .val (.int (own_at g (ps + (1 : Int32)) to1 (P + 1))), .val (.int (own_at g (ps + (2 : Int32)) to1 (P + 2))), .val (.int (own_at g (ps + (3 : Int32)) to1 (P + 3))), .unset] [(.int (own_at g (ps + (2 : Int32)) to1 (P + 2)))])
            refine Ends.callS (argsL := [(.int (own_at g (ps + (2 : Int32)) to1 (P + 2)))]) (rest := []) X5 hx hZ hown (hw _ (List.mem_of_getElem? (i := 28) rfl)) (hw _ (List.mem_of_getElem? (i := 29) rfl)) (hw _ (List.mem_of_getElem? (i := 10) rfl)) (hw _ (List.mem_of_getElem? (i := 30) rfl)) (by decide) (con_9 l Z a0 hw (own_at g (ps + (2 : Int32)) to1 (P + 2)) h0) e5 (by rw [hml]; rfl) (hb hby d4_198) (lenOf pd_9 rfl) 0 (Nat.le_of_eq rfl) (by decide) (by decide) (by decide) (by decide) ?_
            intro v T6 L6 X6 hQ
            obtain ⟨rfl, e6, rfl⟩ := hQ
            rw [List.append_nil] at X6
            show Ends p e below _ T6 (mkF m 201 #[.val (.ref ar), .val (.int ps), .val (.int to1), .val (.int (own_at g ps to1 (P + 0))), .val (.int (own_at g (ps + (1 : Int32)) to1 (P + 1))), .val (.int (own_at g (ps + (2 : Int32)) to1 (P + 2))), .val (.int (own_at g (ps + (3 : Int32)) to1 (P + 3))), .unset] [(.int (f_9 (own_at g (ps + (2 : Int32)) to1 (P + 2))))])
            refine Ends.ifc X6 hx (hb hby d4_201) 212 (by decide) (by decide) (fun q => ?_) (fun q => ?_)
            · have c201 : (f_9 (own_at g (ps + (2 : Int32)) to1 (P + 2))) = (0 : Int32) := own_eq.1 q
              show Ends p e below _ T6 (mkF m 212 #[.val (.ref ar), .val (.int ps), .val (.int to1), .val (.int (own_at g ps to1 (P + 0))), .val (.int (own_at g (ps + (1 : Int32)) to1 (P + 1))), .val (.int (own_at g (ps + (2 : Int32)) to1 (P + 2))), .val (.int (own_at g (ps + (3 : Int32)) to1 (P + 3))), .unset] [])
              refine Ends.by (fun _ => XS.iconst X6.here hx rfl (hb hby d4_212)) ?_
              show Ends p e below _ T6 (mkF m 213 #[.val (.ref ar), .val (.int ps), .val (.int to1), .val (.int (own_at g ps to1 (P + 0))), .val (.int (own_at g (ps + (1 : Int32)) to1 (P + 1))), .val (.int (own_at g (ps + (2 : Int32)) to1 (P + 2))), .val (.int (own_at g (ps + (3 : Int32)) to1 (P + 3))), .unset] [(.int (0 : Int32))])
              exact Ends.retI X6 hx hlk hret (hb hby d4_213) (by decide) (by decide) (by rw [e6]; exact ⟨by rw [own_cl, if_neg c11, if_neg c54, if_neg c104, if_pos c185, if_neg c193, if_pos c201], rfl, rfl⟩)
            · have c201 : ¬ ((f_9 (own_at g (ps + (2 : Int32)) to1 (P + 2))) = (0 : Int32)) := own_eq.2 q
              show Ends p e below _ T6 (mkF m 204 #[.val (.ref ar), .val (.int ps), .val (.int to1), .val (.int (own_at g ps to1 (P + 0))), .val (.int (own_at g (ps + (1 : Int32)) to1 (P + 1))), .val (.int (own_at g (ps + (2 : Int32)) to1 (P + 2))), .val (.int (own_at g (ps + (3 : Int32)) to1 (P + 3))), .unset] [])
              refine Ends.by (fun _ => XS.iload X6.here hx rfl (hb hby d4_204) rfl) ?_
              show Ends p e below _ T6 (mkF m 206 #[.val (.ref ar), .val (.int ps), .val (.int to1), .val (.int (own_at g ps to1 (P + 0))), .val (.int (own_at g (ps + (1 : Int32)) to1 (P + 1))), .val (.int (own_at g (ps + (2 : Int32)) to1 (P + 2))), .val (.int (own_at g (ps + (3 : Int32)) to1 (P + 3))), .unset] [(.int (own_at g (ps + (3 : Int32)) to1 (P + 3)))])
              refine Ends.callS (argsL := [(.int (own_at g (ps + (3 : Int32)) to1 (P + 3)))]) (rest := []) X6 hx hZ hown (hw _ (List.mem_of_getElem? (i := 28) rfl)) (hw _ (List.mem_of_getElem? (i := 29) rfl)) (hw _ (List.mem_of_getElem? (i := 10) rfl)) (hw _ (List.mem_of_getElem? (i := 30) rfl)) (by decide) (con_9 l Z a0 hw (own_at g (ps + (3 : Int32)) to1 (P + 3)) h0) e6 (by rw [hml]; rfl) (hb hby d4_206) (lenOf pd_9 rfl) 0 (Nat.le_of_eq rfl) (by decide) (by decide) (by decide) (by decide) ?_
              intro v T7 L7 X7 hQ
              obtain ⟨rfl, e7, rfl⟩ := hQ
              rw [List.append_nil] at X7
              show Ends p e below _ T7 (mkF m 209 #[.val (.ref ar), .val (.int ps), .val (.int to1), .val (.int (own_at g ps to1 (P + 0))), .val (.int (own_at g (ps + (1 : Int32)) to1 (P + 1))), .val (.int (own_at g (ps + (2 : Int32)) to1 (P + 2))), .val (.int (own_at g (ps + (3 : Int32)) to1 (P + 3))), .unset] [(.int (f_9 (own_at g (ps + (3 : Int32)) to1 (P + 3))))])
              refine Ends.ifc X7 hx (hb hby d4_209) 214 (by decide) (by decide) (fun q => ?_) (fun q => ?_)
              · have c209 : ¬ ((f_9 (own_at g (ps + (3 : Int32)) to1 (P + 3))) = (0 : Int32)) := own_ne.1 q
                show Ends p e below _ T7 (mkF m 214 #[.val (.ref ar), .val (.int ps), .val (.int to1), .val (.int (own_at g ps to1 (P + 0))), .val (.int (own_at g (ps + (1 : Int32)) to1 (P + 1))), .val (.int (own_at g (ps + (2 : Int32)) to1 (P + 2))), .val (.int (own_at g (ps + (3 : Int32)) to1 (P + 3))), .unset] [])
                refine Ends.by (fun _ => XS.iloadN X7.here hx rfl (hb hby d4_214) rfl) ?_
                show Ends p e below _ T7 (mkF m 215 #[.val (.ref ar), .val (.int ps), .val (.int to1), .val (.int (own_at g ps to1 (P + 0))), .val (.int (own_at g (ps + (1 : Int32)) to1 (P + 1))), .val (.int (own_at g (ps + (2 : Int32)) to1 (P + 2))), .val (.int (own_at g (ps + (3 : Int32)) to1 (P + 3))), .unset] [(.int (own_at g ps to1 (P + 0)))])
                refine Ends.by (fun _ => XS.bipush X7.here hx rfl (hb hby d4_215)) ?_
                show Ends p e below _ T7 (mkF m 217 #[.val (.ref ar), .val (.int ps), .val (.int to1), .val (.int (own_at g ps to1 (P + 0))), .val (.int (own_at g (ps + (1 : Int32)) to1 (P + 1))), .val (.int (own_at g (ps + (2 : Int32)) to1 (P + 2))), .val (.int (own_at g (ps + (3 : Int32)) to1 (P + 3))), .unset] [(.int (7 : Int32)), (.int (own_at g ps to1 (P + 0)))])
                refine Ends.by (fun _ => XS.iand X7.here hx rfl (hb hby d4_217) rfl) ?_
                show Ends p e below _ T7 (mkF m 218 #[.val (.ref ar), .val (.int ps), .val (.int to1), .val (.int (own_at g ps to1 (P + 0))), .val (.int (own_at g (ps + (1 : Int32)) to1 (P + 1))), .val (.int (own_at g (ps + (2 : Int32)) to1 (P + 2))), .val (.int (own_at g (ps + (3 : Int32)) to1 (P + 3))), .unset] [(.int ((own_at g ps to1 (P + 0)) &&& (7 : Int32)))])
                refine Ends.by (fun _ => XS.bipush X7.here hx rfl (hb hby d4_218)) ?_
                show Ends p e below _ T7 (mkF m 220 #[.val (.ref ar), .val (.int ps), .val (.int to1), .val (.int (own_at g ps to1 (P + 0))), .val (.int (own_at g (ps + (1 : Int32)) to1 (P + 1))), .val (.int (own_at g (ps + (2 : Int32)) to1 (P + 2))), .val (.int (own_at g (ps + (3 : Int32)) to1 (P + 3))), .unset] [(.int (18 : Int32)), (.int ((own_at g ps to1 (P + 0)) &&& (7 : Int32)))])
                refine Ends.by (fun _ => XS.ishl X7.here hx rfl (hb hby d4_220) rfl) ?_
                show Ends p e below _ T7 (mkF m 221 #[.val (.ref ar), .val (.int ps), .val (.int to1), .val (.int (own_at g ps to1 (P + 0))), .val (.int (own_at g (ps + (1 : Int32)) to1 (P + 1))), .val (.int (own_at g (ps + (2 : Int32)) to1 (P + 2))), .val (.int (own_at g (ps + (3 : Int32)) to1 (P + 3))), .unset] [(.int (((own_at g ps to1 (P + 0)) &&& (7 : Int32)) <<< ((18 : Int32) &&& 31)))])
                refine Ends.by (fun _ => XS.iload X7.here hx rfl (hb hby d4_221) rfl) ?_
                show Ends p e below _ T7 (mkF m 223 #[.val (.ref ar), .val (.int ps), .val (.int to1), .val (.int (own_at g ps to1 (P + 0))), .val (.int (own_at g (ps + (1 : Int32)) to1 (P + 1))), .val (.int (own_at g (ps + (2 : Int32)) to1 (P + 2))), .val (.int (own_at g (ps + (3 : Int32)) to1 (P + 3))), .unset] [(.int (own_at g (ps + (1 : Int32)) to1 (P + 1))), (.int (((own_at g ps to1 (P + 0)) &&& (7 : Int32)) <<< ((18 : Int32) &&& 31)))])
                refine Ends.by (fun _ => XS.bipush X7.here hx rfl (hb hby d4_223)) ?_
                show Ends p e below _ T7 (mkF m 225 #[.val (.ref ar), .val (.int ps), .val (.int to1), .val (.int (own_at g ps to1 (P + 0))), .val (.int (own_at g (ps + (1 : Int32)) to1 (P + 1))), .val (.int (own_at g (ps + (2 : Int32)) to1 (P + 2))), .val (.int (own_at g (ps + (3 : Int32)) to1 (P + 3))), .unset] [(.int (63 : Int32)), (.int (own_at g (ps + (1 : Int32)) to1 (P + 1))), (.int (((own_at g ps to1 (P + 0)) &&& (7 : Int32)) <<< ((18 : Int32) &&& 31)))])
                refine Ends.by (fun _ => XS.iand X7.here hx rfl (hb hby d4_225) rfl) ?_
                show Ends p e below _ T7 (mkF m 226 #[.val (.ref ar), .val (.int ps), .val (.int to1), .val (.int (own_at g ps to1 (P + 0))), .val (.int (own_at g (ps + (1 : Int32)) to1 (P + 1))), .val (.int (own_at g (ps + (2 : Int32)) to1 (P + 2))), .val (.int (own_at g (ps + (3 : Int32)) to1 (P + 3))), .unset] [(.int ((own_at g (ps + (1 : Int32)) to1 (P + 1)) &&& (63 : Int32))), (.int (((own_at g ps to1 (P + 0)) &&& (7 : Int32)) <<< ((18 : Int32) &&& 31)))])
                refine Ends.by (fun _ => XS.bipush X7.here hx rfl (hb hby d4_226)) ?_
                show Ends p e below _ T7 (mkF m 228 #[.val (.ref ar), .val (.int ps), .val (.int to1), .val (.int (own_at g ps to1 (P + 0))), .val (.int (own_at g (ps + (1 : Int32)) to1 (P + 1))), .val (.int (own_at g (ps + (2 : Int32)) to1 (P + 2))), .val (.int (own_at g (ps + (3 : Int32)) to1 (P + 3))), .unset] [(.int (12 : Int32)), (.int ((own_at g (ps + (1 : Int32)) to1 (P + 1)) &&& (63 : Int32))), (.int (((own_at g ps to1 (P + 0)) &&& (7 : Int32)) <<< ((18 : Int32) &&& 31)))])
                refine Ends.by (fun _ => XS.ishl X7.here hx rfl (hb hby d4_228) rfl) ?_
                show Ends p e below _ T7 (mkF m 229 #[.val (.ref ar), .val (.int ps), .val (.int to1), .val (.int (own_at g ps to1 (P + 0))), .val (.int (own_at g (ps + (1 : Int32)) to1 (P + 1))), .val (.int (own_at g (ps + (2 : Int32)) to1 (P + 2))), .val (.int (own_at g (ps + (3 : Int32)) to1 (P + 3))), .unset] [(.int (((own_at g (ps + (1 : Int32)) to1 (P + 1)) &&& (63 : Int32)) <<< ((12 : Int32) &&& 31))), (.int (((own_at g ps to1 (P + 0)) &&& (7 : Int32)) <<< ((18 : Int32) &&& 31)))])
                refine Ends.by (fun _ => XS.ior X7.here hx rfl (hb hby d4_229) rfl) ?_
                show Ends p e below _ T7 (mkF m 230 #[.val (.ref ar), .val (.int ps), .val (.int to1), .val (.int (own_at g ps to1 (P + 0))), .val (.int (own_at g (ps + (1 : Int32)) to1 (P + 1))), .val (.int (own_at g (ps + (2 : Int32)) to1 (P + 2))), .val (.int (own_at g (ps + (3 : Int32)) to1 (P + 3))), .unset] [(.int ((((own_at g ps to1 (P + 0)) &&& (7 : Int32)) <<< ((18 : Int32) &&& 31)) ||| (((own_at g (ps + (1 : Int32)) to1 (P + 1)) &&& (63 : Int32)) <<< ((12 : Int32) &&& 31))))])
                refine Ends.by (fun _ => XS.iload X7.here hx rfl (hb hby d4_230) rfl) ?_
                show Ends p e below _ T7 (mkF m 232 #[.val (.ref ar), .val (.int ps), .val (.int to1), .val (.int (own_at g ps to1 (P + 0))), .val (.int (own_at g (ps + (1 : Int32)) to1 (P + 1))), .val (.int (own_at g (ps + (2 : Int32)) to1 (P + 2))), .val (.int (own_at g (ps + (3 : Int32)) to1 (P + 3))), .unset] [(.int (own_at g (ps + (2 : Int32)) to1 (P + 2))), (.int ((((own_at g ps to1 (P + 0)) &&& (7 : Int32)) <<< ((18 : Int32) &&& 31)) ||| (((own_at g (ps + (1 : Int32)) to1 (P + 1)) &&& (63 : Int32)) <<< ((12 : Int32) &&& 31))))])
                refine Ends.by (fun _ => XS.bipush X7.here hx rfl (hb hby d4_232)) ?_
                show Ends p e below _ T7 (mkF m 234 #[.val (.ref ar), .val (.int ps), .val (.int to1), .val (.int (own_at g ps to1 (P + 0))), .val (.int (own_at g (ps + (1 : Int32)) to1 (P + 1))), .val (.int (own_at g (ps + (2 : Int32)) to1 (P + 2))), .val (.int (own_at g (ps + (3 : Int32)) to1 (P + 3))), .unset] [(.int (63 : Int32)), (.int (own_at g (ps + (2 : Int32)) to1 (P + 2))), (.int ((((own_at g ps to1 (P + 0)) &&& (7 : Int32)) <<< ((18 : Int32) &&& 31)) ||| (((own_at g (ps + (1 : Int32)) to1 (P + 1)) &&& (63 : Int32)) <<< ((12 : Int32) &&& 31))))])
                refine Ends.by (fun _ => XS.iand X7.here hx rfl (hb hby d4_234) rfl) ?_
                show Ends p e below _ T7 (mkF m 235 #[.val (.ref ar), .val (.int ps), .val (.int to1), .val (.int (own_at g ps to1 (P + 0))), .val (.int (own_at g (ps + (1 : Int32)) to1 (P + 1))), .val (.int (own_at g (ps + (2 : Int32)) to1 (P + 2))), .val (.int (own_at g (ps + (3 : Int32)) to1 (P + 3))), .unset] [(.int ((own_at g (ps + (2 : Int32)) to1 (P + 2)) &&& (63 : Int32))), (.int ((((own_at g ps to1 (P + 0)) &&& (7 : Int32)) <<< ((18 : Int32) &&& 31)) ||| (((own_at g (ps + (1 : Int32)) to1 (P + 1)) &&& (63 : Int32)) <<< ((12 : Int32) &&& 31))))])
                refine Ends.by (fun _ => XS.bipush X7.here hx rfl (hb hby d4_235)) ?_
                show Ends p e below _ T7 (mkF m 237 #[.val (.ref ar), .val (.int ps), .val (.int to1), .val (.int (own_at g ps to1 (P + 0))), .val (.int (own_at g (ps + (1 : Int32)) to1 (P + 1))), .val (.int (own_at g (ps + (2 : Int32)) to1 (P + 2))), .val (.int (own_at g (ps + (3 : Int32)) to1 (P + 3))), .unset] [(.int (6 : Int32)), (.int ((own_at g (ps + (2 : Int32)) to1 (P + 2)) &&& (63 : Int32))), (.int ((((own_at g ps to1 (P + 0)) &&& (7 : Int32)) <<< ((18 : Int32) &&& 31)) ||| (((own_at g (ps + (1 : Int32)) to1 (P + 1)) &&& (63 : Int32)) <<< ((12 : Int32) &&& 31))))])
                refine Ends.by (fun _ => XS.ishl X7.here hx rfl (hb hby d4_237) rfl) ?_
                show Ends p e below _ T7 (mkF m 238 #[.val (.ref ar), .val (.int ps), .val (.int to1), .val (.int (own_at g ps to1 (P + 0))), .val (.int (own_at g (ps + (1 : Int32)) to1 (P + 1))), .val (.int (own_at g (ps + (2 : Int32)) to1 (P + 2))), .val (.int (own_at g (ps + (3 : Int32)) to1 (P + 3))), .unset] [(.int (((own_at g (ps + (2 : Int32)) to1 (P + 2)) &&& (63 : Int32)) <<< ((6 : Int32) &&& 31))), (.int ((((own_at g ps to1 (P + 0)) &&& (7 : Int32)) <<< ((18 : Int32) &&& 31)) ||| (((own_at g (ps + (1 : Int32)) to1 (P + 1)) &&& (63 : Int32)) <<< ((12 : Int32) &&& 31))))])
                refine Ends.by (fun _ => XS.ior X7.here hx rfl (hb hby d4_238) rfl) ?_
                show Ends p e below _ T7 (mkF m 239 #[.val (.ref ar), .val (.int ps), .val (.int to1), .val (.int (own_at g ps to1 (P + 0))), .val (.int (own_at g (ps + (1 : Int32)) to1 (P + 1))), .val (.int (own_at g (ps + (2 : Int32)) to1 (P + 2))), .val (.int (own_at g (ps + (3 : Int32)) to1 (P + 3))), .unset] [(.int (((((own_at g ps to1 (P + 0)) &&& (7 : Int32)) <<< ((18 : Int32) &&& 31)) ||| (((own_at g (ps + (1 : Int32)) to1 (P + 1)) &&& (63 : Int32)) <<< ((12 : Int32) &&& 31))) ||| (((own_at g (ps + (2 : Int32)) to1 (P + 2)) &&& (63 : Int32)) <<< ((6 : Int32) &&& 31))))])
                refine Ends.by (fun _ => XS.iload X7.here hx rfl (hb hby d4_239) rfl) ?_
                show Ends p e below _ T7 (mkF m 241 #[.val (.ref ar), .val (.int ps), .val (.int to1), .val (.int (own_at g ps to1 (P + 0))), .val (.int (own_at g (ps + (1 : Int32)) to1 (P + 1))), .val (.int (own_at g (ps + (2 : Int32)) to1 (P + 2))), .val (.int (own_at g (ps + (3 : Int32)) to1 (P + 3))), .unset] [(.int (own_at g (ps + (3 : Int32)) to1 (P + 3))), (.int (((((own_at g ps to1 (P + 0)) &&& (7 : Int32)) <<< ((18 : Int32) &&& 31)) ||| (((own_at g (ps + (1 : Int32)) to1 (P + 1)) &&& (63 : Int32)) <<< ((12 : Int32) &&& 31))) ||| (((own_at g (ps + (2 : Int32)) to1 (P + 2)) &&& (63 : Int32)) <<< ((6 : Int32) &&& 31))))])
                refine Ends.by (fun _ => XS.bipush X7.here hx rfl (hb hby d4_241)) ?_
                show Ends p e below _ T7 (mkF m 243 #[.val (.ref ar), .val (.int ps), .val (.int to1), .val (.int (own_at g ps to1 (P + 0))), .val (.int (own_at g (ps + (1 : Int32)) to1 (P + 1))), .val (.int (own_at g (ps + (2 : Int32)) to1 (P + 2))), .val (.int (own_at g (ps + (3 : Int32)) to1 (P + 3))), .unset] [(.int (63 : Int32)), (.int (own_at g (ps + (3 : Int32)) to1 (P + 3))), (.int (((((own_at g ps to1 (P + 0)) &&& (7 : Int32)) <<< ((18 : Int32) &&& 31)) ||| (((own_at g (ps + (1 : Int32)) to1 (P + 1)) &&& (63 : Int32)) <<< ((12 : Int32) &&& 31))) ||| (((own_at g (ps + (2 : Int32)) to1 (P + 2)) &&& (63 : Int32)) <<< ((6 : Int32) &&& 31))))])
                refine Ends.by (fun _ => XS.iand X7.here hx rfl (hb hby d4_243) rfl) ?_
                show Ends p e below _ T7 (mkF m 244 #[.val (.ref ar), .val (.int ps), .val (.int to1), .val (.int (own_at g ps to1 (P + 0))), .val (.int (own_at g (ps + (1 : Int32)) to1 (P + 1))), .val (.int (own_at g (ps + (2 : Int32)) to1 (P + 2))), .val (.int (own_at g (ps + (3 : Int32)) to1 (P + 3))), .unset] [(.int ((own_at g (ps + (3 : Int32)) to1 (P + 3)) &&& (63 : Int32))), (.int (((((own_at g ps to1 (P + 0)) &&& (7 : Int32)) <<< ((18 : Int32) &&& 31)) ||| (((own_at g (ps + (1 : Int32)) to1 (P + 1)) &&& (63 : Int32)) <<< ((12 : Int32) &&& 31))) ||| (((own_at g (ps + (2 : Int32)) to1 (P + 2)) &&& (63 : Int32)) <<< ((6 : Int32) &&& 31))))])
                refine Ends.by (fun _ => XS.ior X7.here hx rfl (hb hby d4_244) rfl) ?_
                show Ends p e below _ T7 (mkF m 245 #[.val (.ref ar), .val (.int ps), .val (.int to1), .val (.int (own_at g ps to1 (P + 0))), .val (.int (own_at g (ps + (1 : Int32)) to1 (P + 1))), .val (.int (own_at g (ps + (2 : Int32)) to1 (P + 2))), .val (.int (own_at g (ps + (3 : Int32)) to1 (P + 3))), .unset] [(.int ((((((own_at g ps to1 (P + 0)) &&& (7 : Int32)) <<< ((18 : Int32) &&& 31)) ||| (((own_at g (ps + (1 : Int32)) to1 (P + 1)) &&& (63 : Int32)) <<< ((12 : Int32) &&& 31))) ||| (((own_at g (ps + (2 : Int32)) to1 (P + 2)) &&& (63 : Int32)) <<< ((6 : Int32) &&& 31))) ||| ((own_at g (ps + (3 : Int32)) to1 (P + 3)) &&& (63 : Int32))))])
                refine Ends.by (fun _ => XS.istore X7.here hx rfl (hb hby d4_245) rfl (l' := #[.val (.ref ar), .val (.int ps), .val (.int to1), .val (.int (own_at g ps to1 (P + 0))), .val (.int (own_at g (ps + (1 : Int32)) to1 (P + 1))), .val (.int (own_at g (ps + (2 : Int32)) to1 (P + 2))), .val (.int (own_at g (ps + (3 : Int32)) to1 (P + 3))), .val (.int ((((((own_at g ps to1 (P + 0)) &&& (7 : Int32)) <<< ((18 : Int32) &&& 31)) ||| (((own_at g (ps + (1 : Int32)) to1 (P + 1)) &&& (63 : Int32)) <<< ((12 : Int32) &&& 31))) ||| (((own_at g (ps + (2 : Int32)) to1 (P + 2)) &&& (63 : Int32)) <<< ((6 : Int32) &&& 31))) ||| ((own_at g (ps + (3 : Int32)) to1 (P + 3)) &&& (63 : Int32))))]) rfl) ?_
                show Ends p e below _ T7 (mkF m 247 #[.val (.ref ar), .val (.int ps), .val (.int to1), .val (.int (own_at g ps to1 (P + 0))), .val (.int (own_at g (ps + (1 : Int32)) to1 (P + 1))), .val (.int (own_at g (ps + (2 : Int32)) to1 (P + 2))), .val (.int (own_at g (ps + (3 : Int32)) to1 (P + 3))), .val (.int ((((((own_at g ps to1 (P + 0)) &&& (7 : Int32)) <<< ((18 : Int32) &&& 31)) ||| (((own_at g (ps + (1 : Int32)) to1 (P + 1)) &&& (63 : Int32)) <<< ((12 : Int32) &&& 31))) ||| (((own_at g (ps + (2 : Int32)) to1 (P + 2)) &&& (63 : Int32)) <<< ((6 : Int32) &&& 31))) ||| ((own_at g (ps + (3 : Int32)) to1 (P + 3)) &&& (63 : Int32))))] [])
                refine Ends.by (fun _ => XS.iload X7.here hx rfl (hb hby d4_247) rfl) ?_
                show Ends p e below _ T7 (mkF m 249 #[.val (.ref ar), .val (.int ps), .val (.int to1), .val (.int (own_at g ps to1 (P + 0))), .val (.int (own_at g (ps + (1 : Int32)) to1 (P + 1))), .val (.int (own_at g (ps + (2 : Int32)) to1 (P + 2))), .val (.int (own_at g (ps + (3 : Int32)) to1 (P + 3))), .val (.int ((((((own_at g ps to1 (P + 0)) &&& (7 : Int32)) <<< ((18 : Int32) &&& 31)) ||| (((own_at g (ps + (1 : Int32)) to1 (P + 1)) &&& (63 : Int32)) <<< ((12 : Int32) &&& 31))) ||| (((own_at g (ps + (2 : Int32)) to1 (P + 2)) &&& (63 : Int32)) <<< ((6 : Int32) &&& 31))) ||| ((own_at g (ps + (3 : Int32)) to1 (P + 3)) &&& (63 : Int32))))] [(.int ((((((own_at g ps to1 (P + 0)) &&& (7 : Int32)) <<< ((18 : Int32) &&& 31)) ||| (((own_at g (ps + (1 : Int32)) to1 (P + 1)) &&& (63 : Int32)) <<< ((12 : Int32) &&& 31))) ||| (((own_at g (ps + (2 : Int32)) to1 (P + 2)) &&& (63 : Int32)) <<< ((6 : Int32) &&& 31))) ||| ((own_at g (ps + (3 : Int32)) to1 (P + 3)) &&& (63 : Int32))))])
                refine Ends.by (X7.ldcInt hx hown (mvT hZ (hw _ (List.mem_of_getElem? (i := 33) rfl))) (g := (mkF m 249 #[.val (.ref ar), .val (.int ps), .val (.int to1), .val (.int (own_at g ps to1 (P + 0))), .val (.int (own_at g (ps + (1 : Int32)) to1 (P + 1))), .val (.int (own_at g (ps + (2 : Int32)) to1 (P + 2))), .val (.int (own_at g (ps + (3 : Int32)) to1 (P + 3))), .val (.int ((((((own_at g ps to1 (P + 0)) &&& (7 : Int32)) <<< ((18 : Int32) &&& 31)) ||| (((own_at g (ps + (1 : Int32)) to1 (P + 1)) &&& (63 : Int32)) <<< ((12 : Int32) &&& 31))) ||| (((own_at g (ps + (2 : Int32)) to1 (P + 2)) &&& (63 : Int32)) <<< ((6 : Int32) &&& 31))) ||| ((own_at g (ps + (3 : Int32)) to1 (P + 3)) &&& (63 : Int32))))] [(.int ((((((own_at g ps to1 (P + 0)) &&& (7 : Int32)) <<< ((18 : Int32) &&& 31)) ||| (((own_at g (ps + (1 : Int32)) to1 (P + 1)) &&& (63 : Int32)) <<< ((12 : Int32) &&& 31))) ||| (((own_at g (ps + (2 : Int32)) to1 (P + 2)) &&& (63 : Int32)) <<< ((6 : Int32) &&& 31))) ||| ((own_at g (ps + (3 : Int32)) to1 (P + 3)) &&& (63 : Int32))))])) rfl (hb hby d4_249)) ?_
                show Ends p e below _ T7 (mkF m 251 #[.val (.ref ar), .val (.int ps), .val (.int to1), .val (.int (own_at g ps to1 (P + 0))), .val (.int (own_at g (ps + (1 : Int32)) to1 (P + 1))), .val (.int (own_at g (ps + (2 : Int32)) to1 (P + 2))), .val (.int (own_at g (ps + (3 : Int32)) to1 (P + 3))), .val (.int ((((((own_at g ps to1 (P + 0)) &&& (7 : Int32)) <<< ((18 : Int32) &&& 31)) ||| (((own_at g (ps + (1 : Int32)) to1 (P + 1)) &&& (63 : Int32)) <<< ((12 : Int32) &&& 31))) ||| (((own_at g (ps + (2 : Int32)) to1 (P + 2)) &&& (63 : Int32)) <<< ((6 : Int32) &&& 31))) ||| ((own_at g (ps + (3 : Int32)) to1 (P + 3)) &&& (63 : Int32))))] [(.int (65536 : Int32)), (.int ((((((own_at g ps to1 (P + 0)) &&& (7 : Int32)) <<< ((18 : Int32) &&& 31)) ||| (((own_at g (ps + (1 : Int32)) to1 (P + 1)) &&& (63 : Int32)) <<< ((12 : Int32) &&& 31))) ||| (((own_at g (ps + (2 : Int32)) to1 (P + 2)) &&& (63 : Int32)) <<< ((6 : Int32) &&& 31))) ||| ((own_at g (ps + (3 : Int32)) to1 (P + 3)) &&& (63 : Int32))))])
                refine Ends.icmp X7 hx (hb hby d4_251) 265 (by decide) (by decide) (fun q => ?_) (fun q => ?_)
                · have c251 : ((((((own_at g ps to1 (P + 0)) &&& (7 : Int32)) <<< ((18 : Int32) &&& 31)) ||| (((own_at g (ps + (1 : Int32)) to1 (P + 1)) &&& (63 : Int32)) <<< ((12 : Int32) &&& 31))) ||| (((own_at g (ps + (2 : Int32)) to1 (P + 2)) &&& (63 : Int32)) <<< ((6 : Int32) &&& 31))) ||| ((own_at g (ps + (3 : Int32)) to1 (P + 3)) &&& (63 : Int32))) < (65536 : Int32) := own_lt.1 q
                  show Ends p e below _ T7 (mkF m 265 #[.val (.ref ar), .val (.int ps), .val (.int to1), .val (.int (own_at g ps to1 (P + 0))), .val (.int (own_at g (ps + (1 : Int32)) to1 (P + 1))), .val (.int (own_at g (ps + (2 : Int32)) to1 (P + 2))), .val (.int (own_at g (ps + (3 : Int32)) to1 (P + 3))), .val (.int ((((((own_at g ps to1 (P + 0)) &&& (7 : Int32)) <<< ((18 : Int32) &&& 31)) ||| (((own_at g (ps + (1 : Int32)) to1 (P + 1)) &&& (63 : Int32)) <<< ((12 : Int32) &&& 31))) ||| (((own_at g (ps + (2 : Int32)) to1 (P + 2)) &&& (63 : Int32)) <<< ((6 : Int32) &&& 31))) ||| ((own_at g (ps + (3 : Int32)) to1 (P + 3)) &&& (63 : Int32))))] [])
                  refine Ends.by (fun _ => XS.iconst X7.here hx rfl (hb hby d4_265)) ?_
                  show Ends p e below _ T7 (mkF m 266 #[.val (.ref ar), .val (.int ps), .val (.int to1), .val (.int (own_at g ps to1 (P + 0))), .val (.int (own_at g (ps + (1 : Int32)) to1 (P + 1))), .val (.int (own_at g (ps + (2 : Int32)) to1 (P + 2))), .val (.int (own_at g (ps + (3 : Int32)) to1 (P + 3))), .val (.int ((((((own_at g ps to1 (P + 0)) &&& (7 : Int32)) <<< ((18 : Int32) &&& 31)) ||| (((own_at g (ps + (1 : Int32)) to1 (P + 1)) &&& (63 : Int32)) <<< ((12 : Int32) &&& 31))) ||| (((own_at g (ps + (2 : Int32)) to1 (P + 2)) &&& (63 : Int32)) <<< ((6 : Int32) &&& 31))) ||| ((own_at g (ps + (3 : Int32)) to1 (P + 3)) &&& (63 : Int32))))] [(.int (0 : Int32))])
                  exact Ends.retI X7 hx hlk hret (hb hby d4_266) (by decide) (by decide) (by rw [e7]; exact ⟨by rw [own_cl, if_neg c11, if_neg c54, if_neg c104, if_pos c185, if_neg c193, if_neg c201, if_neg c209, if_pos c251], rfl, rfl⟩)
                · have c251 : ¬ (((((((own_at g ps to1 (P + 0)) &&& (7 : Int32)) <<< ((18 : Int32) &&& 31)) ||| (((own_at g (ps + (1 : Int32)) to1 (P + 1)) &&& (63 : Int32)) <<< ((12 : Int32) &&& 31))) ||| (((own_at g (ps + (2 : Int32)) to1 (P + 2)) &&& (63 : Int32)) <<< ((6 : Int32) &&& 31))) ||| ((own_at g (ps + (3 : Int32)) to1 (P + 3)) &&& (63 : Int32))) < (65536 : Int32)) := own_lt.2 q
                  show Ends p e below _ T7 (mkF m 254 #[.val (.ref ar), .val (.int ps), .val (.int to1), .val (.int (own_at g ps to1 (P + 0))), .val (.int (own_at g (ps + (1 : Int32)) to1 (P + 1))), .val (.int (own_at g (ps + (2 : Int32)) to1 (P + 2))), .val (.int (own_at g (ps + (3 : Int32)) to1 (P + 3))), .val (.int ((((((own_at g ps to1 (P + 0)) &&& (7 : Int32)) <<< ((18 : Int32) &&& 31)) ||| (((own_at g (ps + (1 : Int32)) to1 (P + 1)) &&& (63 : Int32)) <<< ((12 : Int32) &&& 31))) ||| (((own_at g (ps + (2 : Int32)) to1 (P + 2)) &&& (63 : Int32)) <<< ((6 : Int32) &&& 31))) ||| ((own_at g (ps + (3 : Int32)) to1 (P + 3)) &&& (63 : Int32))))] [])
                  refine Ends.by (fun _ => XS.iload X7.here hx rfl (hb hby d4_254) rfl) ?_
                  show Ends p e below _ T7 (mkF m 256 #[.val (.ref ar), .val (.int ps), .val (.int to1), .val (.int (own_at g ps to1 (P + 0))), .val (.int (own_at g (ps + (1 : Int32)) to1 (P + 1))), .val (.int (own_at g (ps + (2 : Int32)) to1 (P + 2))), .val (.int (own_at g (ps + (3 : Int32)) to1 (P + 3))), .val (.int ((((((own_at g ps to1 (P + 0)) &&& (7 : Int32)) <<< ((18 : Int32) &&& 31)) ||| (((own_at g (ps + (1 : Int32)) to1 (P + 1)) &&& (63 : Int32)) <<< ((12 : Int32) &&& 31))) ||| (((own_at g (ps + (2 : Int32)) to1 (P + 2)) &&& (63 : Int32)) <<< ((6 : Int32) &&& 31))) ||| ((own_at g (ps + (3 : Int32)) to1 (P + 3)) &&& (63 : Int32))))] [(.int ((((((own_at g ps to1 (P + 0)) &&& (7 : Int32)) <<< ((18 : Int32) &&& 31)) ||| (((own_at g (ps + (1 : Int32)) to1 (P + 1)) &&& (63 : Int32)) <<< ((12 : Int32) &&& 31))) ||| (((own_at g (ps + (2 : Int32)) to1 (P + 2)) &&& (63 : Int32)) <<< ((6 : Int32) &&& 31))) ||| ((own_at g (ps + (3 : Int32)) to1 (P + 3)) &&& (63 : Int32))))])
                  refine Ends.by (X7.ldcInt hx hown (mvT hZ (hw _ (List.mem_of_getElem? (i := 34) rfl))) (g := (mkF m 256 #[.val (.ref ar), .val (.int ps), .val (.int to1), .val (.int (own_at g ps to1 (P + 0))), .val (.int (own_at g (ps + (1 : Int32)) to1 (P + 1))), .val (.int (own_at g (ps + (2 : Int32)) to1 (P + 2))), .val (.int (own_at g (ps + (3 : Int32)) to1 (P + 3))), .val (.int ((((((own_at g ps to1 (P + 0)) &&& (7 : Int32)) <<< ((18 : Int32) &&& 31)) ||| (((own_at g (ps + (1 : Int32)) to1 (P + 1)) &&& (63 : Int32)) <<< ((12 : Int32) &&& 31))) ||| (((own_at g (ps + (2 : Int32)) to1 (P + 2)) &&& (63 : Int32)) <<< ((6 : Int32) &&& 31))) ||| ((own_at g (ps + (3 : Int32)) to1 (P + 3)) &&& (63 : Int32))))] [(.int ((((((own_at g ps to1 (P + 0)) &&& (7 : Int32)) <<< ((18 : Int32) &&& 31)) ||| (((own_at g (ps + (1 : Int32)) to1 (P + 1)) &&& (63 : Int32)) <<< ((12 : Int32) &&& 31))) ||| (((own_at g (ps + (2 : Int32)) to1 (P + 2)) &&& (63 : Int32)) <<< ((6 : Int32) &&& 31))) ||| ((own_at g (ps + (3 : Int32)) to1 (P + 3)) &&& (63 : Int32))))])) rfl (hb hby d4_256)) ?_
                  show Ends p e below _ T7 (mkF m 258 #[.val (.ref ar), .val (.int ps), .val (.int to1), .val (.int (own_at g ps to1 (P + 0))), .val (.int (own_at g (ps + (1 : Int32)) to1 (P + 1))), .val (.int (own_at g (ps + (2 : Int32)) to1 (P + 2))), .val (.int (own_at g (ps + (3 : Int32)) to1 (P + 3))), .val (.int ((((((own_at g ps to1 (P + 0)) &&& (7 : Int32)) <<< ((18 : Int32) &&& 31)) ||| (((own_at g (ps + (1 : Int32)) to1 (P + 1)) &&& (63 : Int32)) <<< ((12 : Int32) &&& 31))) ||| (((own_at g (ps + (2 : Int32)) to1 (P + 2)) &&& (63 : Int32)) <<< ((6 : Int32) &&& 31))) ||| ((own_at g (ps + (3 : Int32)) to1 (P + 3)) &&& (63 : Int32))))] [(.int (1114111 : Int32)), (.int ((((((own_at g ps to1 (P + 0)) &&& (7 : Int32)) <<< ((18 : Int32) &&& 31)) ||| (((own_at g (ps + (1 : Int32)) to1 (P + 1)) &&& (63 : Int32)) <<< ((12 : Int32) &&& 31))) ||| (((own_at g (ps + (2 : Int32)) to1 (P + 2)) &&& (63 : Int32)) <<< ((6 : Int32) &&& 31))) ||| ((own_at g (ps + (3 : Int32)) to1 (P + 3)) &&& (63 : Int32))))])
                  refine Ends.icmp X7 hx (hb hby d4_258) 265 (by decide) (by decide) (fun q => ?_) (fun q => ?_)
                  · have c258 : (1114111 : Int32) < ((((((own_at g ps to1 (P + 0)) &&& (7 : Int32)) <<< ((18 : Int32) &&& 31)) ||| (((own_at g (ps + (1 : Int32)) to1 (P + 1)) &&& (63 : Int32)) <<< ((12 : Int32) &&& 31))) ||| (((own_at g (ps + (2 : Int32)) to1 (P + 2)) &&& (63 : Int32)) <<< ((6 : Int32) &&& 31))) ||| ((own_at g (ps + (3 : Int32)) to1 (P + 3)) &&& (63 : Int32))) := own_gt.1 q
                    show Ends p e below _ T7 (mkF m 265 #[.val (.ref ar), .val (.int ps), .val (.int to1), .val (.int (own_at g ps to1 (P + 0))), .val (.int (own_at g (ps + (1 : Int32)) to1 (P + 1))), .val (.int (own_at g (ps + (2 : Int32)) to1 (P + 2))), .val (.int (own_at g (ps + (3 : Int32)) to1 (P + 3))), .val (.int ((((((own_at g ps to1 (P + 0)) &&& (7 : Int32)) <<< ((18 : Int32) &&& 31)) ||| (((own_at g (ps + (1 : Int32)) to1 (P + 1)) &&& (63 : Int32)) <<< ((12 : Int32) &&& 31))) ||| (((own_at g (ps + (2 : Int32)) to1 (P + 2)) &&& (63 : Int32)) <<< ((6 : Int32) &&& 31))) ||| ((own_at g (ps + (3 : Int32)) to1 (P + 3)) &&& (63 : Int32))))] [])
                    refine Ends.by (fun _ => XS.iconst X7.here hx rfl (hb hby d4_265)) ?_
                    show Ends p e below _ T7 (mkF m 266 #[.val (.ref ar), .val (.int ps), .val (.int to1), .val (.int (own_at g ps to1 (P + 0))), .val (.int (own_at g (ps + (1 : Int32)) to1 (P + 1))), .val (.int (own_at g (ps + (2 : Int32)) to1 (P + 2))), .val (.int (own_at g (ps + (3 : Int32)) to1 (P + 3))), .val (.int ((((((own_at g ps to1 (P + 0)) &&& (7 : Int32)) <<< ((18 : Int32) &&& 31)) ||| (((own_at g (ps + (1 : Int32)) to1 (P + 1)) &&& (63 : Int32)) <<< ((12 : Int32) &&& 31))) ||| (((own_at g (ps + (2 : Int32)) to1 (P + 2)) &&& (63 : Int32)) <<< ((6 : Int32) &&& 31))) ||| ((own_at g (ps + (3 : Int32)) to1 (P + 3)) &&& (63 : Int32))))] [(.int (0 : Int32))])
                    exact Ends.retI X7 hx hlk hret (hb hby d4_266) (by decide) (by decide) (by rw [e7]; exact ⟨by rw [own_cl, if_neg c11, if_neg c54, if_neg c104, if_pos c185, if_neg c193, if_neg c201, if_neg c209, if_neg c251, if_pos c258], rfl, rfl⟩)
                  · have c258 : ¬ ((1114111 : Int32) < ((((((own_at g ps to1 (P + 0)) &&& (7 : Int32)) <<< ((18 : Int32) &&& 31)) ||| (((own_at g (ps + (1 : Int32)) to1 (P + 1)) &&& (63 : Int32)) <<< ((12 : Int32) &&& 31))) ||| (((own_at g (ps + (2 : Int32)) to1 (P + 2)) &&& (63 : Int32)) <<< ((6 : Int32) &&& 31))) ||| ((own_at g (ps + (3 : Int32)) to1 (P + 3)) &&& (63 : Int32)))) := own_gt.2 q
                    show Ends p e below _ T7 (mkF m 261 #[.val (.ref ar), .val (.int ps), .val (.int to1), .val (.int (own_at g ps to1 (P + 0))), .val (.int (own_at g (ps + (1 : Int32)) to1 (P + 1))), .val (.int (own_at g (ps + (2 : Int32)) to1 (P + 2))), .val (.int (own_at g (ps + (3 : Int32)) to1 (P + 3))), .val (.int ((((((own_at g ps to1 (P + 0)) &&& (7 : Int32)) <<< ((18 : Int32) &&& 31)) ||| (((own_at g (ps + (1 : Int32)) to1 (P + 1)) &&& (63 : Int32)) <<< ((12 : Int32) &&& 31))) ||| (((own_at g (ps + (2 : Int32)) to1 (P + 2)) &&& (63 : Int32)) <<< ((6 : Int32) &&& 31))) ||| ((own_at g (ps + (3 : Int32)) to1 (P + 3)) &&& (63 : Int32))))] [])
                    refine Ends.by (fun _ => XS.iconst X7.here hx rfl (hb hby d4_261)) ?_
                    show Ends p e below _ T7 (mkF m 262 #[.val (.ref ar), .val (.int ps), .val (.int to1), .val (.int (own_at g ps to1 (P + 0))), .val (.int (own_at g (ps + (1 : Int32)) to1 (P + 1))), .val (.int (own_at g (ps + (2 : Int32)) to1 (P + 2))), .val (.int (own_at g (ps + (3 : Int32)) to1 (P + 3))), .val (.int ((((((own_at g ps to1 (P + 0)) &&& (7 : Int32)) <<< ((18 : Int32) &&& 31)) ||| (((own_at g (ps + (1 : Int32)) to1 (P + 1)) &&& (63 : Int32)) <<< ((12 : Int32) &&& 31))) ||| (((own_at g (ps + (2 : Int32)) to1 (P + 2)) &&& (63 : Int32)) <<< ((6 : Int32) &&& 31))) ||| ((own_at g (ps + (3 : Int32)) to1 (P + 3)) &&& (63 : Int32))))] [(.int (4 : Int32))])
                    refine Ends.by (fun _ => XS.goto X7.here hx rfl (pc0 := 262) (pc' := 266) rfl (hb hby d4_262) (by decide) (by decide)) ?_
                    show Ends p e below _ T7 (mkF m 266 #[.val (.ref ar), .val (.int ps), .val (.int to1), .val (.int (own_at g ps to1 (P + 0))), .val (.int (own_at g (ps + (1 : Int32)) to1 (P + 1))), .val (.int (own_at g (ps + (2 : Int32)) to1 (P + 2))), .val (.int (own_at g (ps + (3 : Int32)) to1 (P + 3))), .val (.int ((((((own_at g ps to1 (P + 0)) &&& (7 : Int32)) <<< ((18 : Int32) &&& 31)) ||| (((own_at g (ps + (1 : Int32)) to1 (P + 1)) &&& (63 : Int32)) <<< ((12 : Int32) &&& 31))) ||| (((own_at g (ps + (2 : Int32)) to1 (P + 2)) &&& (63 : Int32)) <<< ((6 : Int32) &&& 31))) ||| ((own_at g (ps + (3 : Int32)) to1 (P + 3)) &&& (63 : Int32))))] [(.int (4 : Int32))])
                    exact Ends.retI X7 hx hlk hret (hb hby d4_266) (by decide) (by decide) (by rw [e7]; exact ⟨by rw [own_cl, if_neg c11, if_neg c54, if_neg c104, if_pos c185, if_neg c193, if_neg c201, if_neg c209, if_neg c251, if_neg c258], rfl, rfl⟩)
              · have c209 : (f_9 (own_at g (ps + (3 : Int32)) to1 (P + 3))) = (0 : Int32) := own_ne.2 q
                show Ends p e below _ T7 (mkF m 212 #[.val (.ref ar), .val (.int ps), .val (.int to1), .val (.int (own_at g ps to1 (P + 0))), .val (.int (own_at g (ps + (1 : Int32)) to1 (P + 1))), .val (.int (own_at g (ps + (2 : Int32)) to1 (P + 2))), .val (.int (own_at g (ps + (3 : Int32)) to1 (P + 3))), .unset] [])
                refine Ends.by (fun _ => XS.iconst X7.here hx rfl (hb hby d4_212)) ?_
                show Ends p e below _ T7 (mkF m 213 #[.val (.ref ar), .val (.int ps), .val (.int to1), .val (.int (own_at g ps to1 (P + 0))), .val (.int (own_at g (ps + (1 : Int32)) to1 (P + 1))), .val (.int (own_at g (ps + (2 : Int32)) to1 (P + 2))), .val (.int (own_at g (ps + (3 : Int32)) to1 (P + 3))), .unset] [(.int (0 : Int32))])
                exact Ends.retI X7 hx hlk hret (hb hby d4_213) (by decide) (by decide) (by rw [e7]; exact ⟨by rw [own_cl, if_neg c11, if_neg c54, if_neg c104, if_pos c185, if_neg c193, if_neg c201, if_pos c209], rfl, rfl⟩)
      · have c104 : ((own_at g ps to1 (P + 0)) &&& (240 : Int32)) = (224 : Int32) := own_ne.2 q
        show Ends p e below _ T4 (mkF m 107 #[.val (.ref ar), .val (.int ps), .val (.int to1), .val (.int (own_at g ps to1 (P + 0))), .val (.int (own_at g (ps + (1 : Int32)) to1 (P + 1))), .val (.int (own_at g (ps + (2 : Int32)) to1 (P + 2))), .val (.int (own_at g (ps + (3 : Int32)) to1 (P + 3))), .unset] [])
        refine Ends.by (fun _ => XS.iload X4.here hx rfl (hb hby d4_107) rfl) ?_
        show Ends p e below _ T4 (mkF m 109 #[.val (.ref ar), .val (.int ps), .val (.int to1), .val (.int (own_at g ps to1 (P + 0))), .val (.int (own_at g (ps + (1 : Int32)) to1 (P + 1))), .val (.int (own_at g (ps + (2 : Int32)) to1 (P + 2))), .val (.int (own_at g (ps + (3 : Int32)) to1 (P + 3))), .unset] [(.int (own_at g (ps + (1 : Int32)) to1 (P + 1)))])
        refine Ends.callS (argsL := [(.int (own_at g (ps + (1 : Int32)) to1 (P + 1)))]) (rest := []) X4 hx hZ hown (hw _ (List.mem_of_getElem? (i := 28) rfl)) (hw _ (List.mem_of_getElem? (i := 29) rfl)) (hw _ (List.mem_of_getElem? (i := 10) rfl)) (hw _ (List.mem_of_getElem? (i := 30) rfl)) (by decide) (con_9 l Z a0 hw (own_at g (ps + (1 : Int32)) to1 (P + 1)) h0) e4 (by rw [hml]; rfl) (hb hby d4_109) (lenOf pd_9 rfl) 0 (Nat.le_of_eq rfl) (by decide) (by decide) (by decide) (by decide) ?_
        intro v T8 L8 X8 hQ
        obtain ⟨rfl, e8, rfl⟩ := hQ
        rw [List.append_nil] at X8
        show Ends p e below _ T8 (mkF m 112 #[.val (.ref ar), .val (.int ps), .val (.int to1), .val (.int (own_at g ps to1 (P + 0))), .val (.int (own_at g (ps + (1 : Int32)) to1 (P + 1))), .val (.int (own_at g (ps + (2 : Int32)) to1 (P + 2))), .val (.int (own_at g (ps + (3 : Int32)) to1 (P + 3))), .unset] [(.int (f_9 (own_at g (ps + (1 : Int32)) to1 (P + 1))))])
        refine Ends.ifc X8 hx (hb hby d4_112) 123 (by decide) (by decide) (fun q => ?_) (fun q => ?_)
        · have c112 : (f_9 (own_at g (ps + (1 : Int32)) to1 (P + 1))) = (0 : Int32) := own_eq.1 q
          show Ends p e below _ T8 (mkF m 123 #[.val (.ref ar), .val (.int ps), .val (.int to1), .val (.int (own_at g ps to1 (P + 0))), .val (.int (own_at g (ps + (1 : Int32)) to1 (P + 1))), .val (.int (own_at g (ps + (2 : Int32)) to1 (P + 2))), .val (.int (own_at g (ps + (3 : Int32)) to1 (P + 3))), .unset] [])
          refine Ends.by (fun _ => XS.iconst X8.here hx rfl (hb hby d4_123)) ?_
          show Ends p e below _ T8 (mkF m 124 #[.val (.ref ar), .val (.int ps), .val (.int to1), .val (.int (own_at g ps to1 (P + 0))), .val (.int (own_at g (ps + (1 : Int32)) to1 (P + 1))), .val (.int (own_at g (ps + (2 : Int32)) to1 (P + 2))), .val (.int (own_at g (ps + (3 : Int32)) to1 (P + 3))), .unset] [(.int (0 : Int32))])
          exact Ends.retI X8 hx hlk hret (hb hby d4_124) (by decide) (by decide) (by rw [e8]; exact ⟨by rw [own_cl, if_neg c11, if_neg c54, if_pos c104, if_pos c112], rfl, rfl⟩)
        · have c112 : ¬ ((f_9 (own_at g (ps + (1 : Int32)) to1 (P + 1))) = (0 : Int32)) := own_eq.2 q
          show Ends p e below _ T8 (mkF m 115 #[.val (.ref ar), .val (.int ps), .val (.int to1), .val (.int (own_at g ps to1 (P + 0))), .val (.int (own_at g (ps + (1 : Int32)) to1 (P + 1))), .val (.int (own_at g (ps + (2 : Int32)) to1 (P + 2))), .val (.int (own_at g (ps + (3 : Int32)) to1 (P + 3))), .unset] [])
          refine Ends.by (fun _ => XS.iload X8.here hx rfl (hb hby d4_115) rfl) ?_
          show Ends p e below _ T8 (mkF m 117 #[.val (.ref ar), .val (.int ps), .val (.int to1), .val (.int (own_at g ps to1 (P + 0))), .val (.int (own_at g (ps + (1 : Int32)) to1 (P + 1))), .val (.int (own_at g (ps + (2 : Int32)) to1 (P + 2))), .val (.int (own_at g (ps + (3 : Int32)) to1 (P + 3))), .unset] [(.int (own_at g (ps + (2 : Int32)) to1 (P + 2)))])
          refine Ends.callS (argsL := [(.int (own_at g (ps + (2 : Int32)) to1 (P + 2)))]) (rest := []) X8 hx hZ hown (hw _ (List.mem_of_getElem? (i := 28) rfl)) (hw _ (List.mem_of_getElem? (i := 29) rfl)) (hw _ (List.mem_of_getElem? (i := 10) rfl)) (hw _ (List.mem_of_getElem? (i := 30) rfl)) (by decide) (con_9 l Z a0 hw (own_at g (ps + (2 : Int32)) to1 (P + 2)) h0) e8 (by rw [hml]; rfl) (hb hby d4_117) (lenOf pd_9 rfl) 0 (Nat.le_of_eq rfl) (by decide) (by decide) (by decide) (by decide) ?_
          intro v T9 L9 X9 hQ
          obtain ⟨rfl, e9, rfl⟩ := hQ
          rw [List.append_nil] at X9
          show Ends p e below _ T9 (mkF m 120 #[.val (.ref ar), .val (.int ps), .val (.int to1), .val (.int (own_at g ps to1 (P + 0))), .val (.int (own_at g (ps + (1 : Int32)) to1 (P + 1))), .val (.int (own_at g (ps + (2 : Int32)) to1 (P + 2))), .val (.int (own_at g (ps + (3 : Int32)) to1 (P + 3))), .unset] [(.int (f_9 (own_at g (ps + (2 : Int32)) to1 (P + 2))))])
          refine Ends.ifc X9 hx (hb hby d4_120) 125 (by decide) (by decide) (fun q => ?_) (fun q => ?_)
          · have c120 : ¬ ((f_9 (own_at g (ps + (2 : Int32)) to1 (P + 2))) = (0 : Int32)) := own_ne.1 q
            show Ends p e below _ T9 (mkF m 125 #[.val (.ref ar), .val (.int ps), .val (.int to1), .val (.int (own_at g ps to1 (P + 0))), .val (.int (own_at g (ps + (1 : Int32)) to1 (P + 1))), .val (.int (own_at g (ps + (2 : Int32)) to1 (P + 2))), .val (.int (own_at g (ps + (3 : Int32)) to1 (P + 3))), .unset] [])
            refine Ends.by (fun _ => XS.iloadN X9.here hx rfl (hb hby d4_125) rfl) ?_
            show Ends p e below _ T9 (mkF m 126 #[.val (.ref ar), .val (.int ps), .val (.int to1), .val (.int (own_at g ps to1 (P + 0))), .val (.int (own_at g (ps + (1 : Int32)) to1 (P + 1))), .val (.int (own_at g (ps + (2 : Int32)) to1 (P + 2))), .val (.int (own_at g (ps + (3 : Int32)) to1 (P + 3))), .unset] [(.int (own_at g ps to1 (P + 0)))])
            refine Ends.by (fun _ => XS.bipush X9.here hx rfl (hb hby d4_126)) ?_
            show Ends p e below _ T9 (mkF m 128 #[.val (.ref ar), .val (.int ps), .val (.int to1), .val (.int (own_at g ps to1 (P + 0))), .val (.int (own_at g (ps + (1 : Int32)) to1 (P + 1))), .val (.int (own_at g (ps + (2 : Int32)) to1 (P + 2))), .val (.int (own_at g (ps + (3 : Int32)) to1 (P + 3))), .unset] [(.int (15 : Int32)), (.int (own_at g ps to1 (P + 0)))])
            refine Ends.by (fun _ => XS.iand X9.here hx rfl (hb hby d4_128) rfl) ?_
            show Ends p e below _ T9 (mkF m 129 #[.val (.ref ar), .val (.int ps), .val (.int to1), .val (.int (own_at g ps to1 (P + 0))), .val (.int (own_at g (ps + (1 : Int32)) to1 (P + 1))), .val (.int (own_at g (ps + (2 : Int32)) to1 (P + 2))), .val (.int (own_at g (ps + (3 : Int32)) to1 (P + 3))), .unset] [(.int ((own_at g ps to1 (P + 0)) &&& (15 : Int32)))])
            refine Ends.by (fun _ => XS.bipush X9.here hx rfl (hb hby d4_129)) ?_
            show Ends p e below _ T9 (mkF m 131 #[.val (.ref ar), .val (.int ps), .val (.int to1), .val (.int (own_at g ps to1 (P + 0))), .val (.int (own_at g (ps + (1 : Int32)) to1 (P + 1))), .val (.int (own_at g (ps + (2 : Int32)) to1 (P + 2))), .val (.int (own_at g (ps + (3 : Int32)) to1 (P + 3))), .unset] [(.int (12 : Int32)), (.int ((own_at g ps to1 (P + 0)) &&& (15 : Int32)))])
            refine Ends.by (fun _ => XS.ishl X9.here hx rfl (hb hby d4_131) rfl) ?_
            show Ends p e below _ T9 (mkF m 132 #[.val (.ref ar), .val (.int ps), .val (.int to1), .val (.int (own_at g ps to1 (P + 0))), .val (.int (own_at g (ps + (1 : Int32)) to1 (P + 1))), .val (.int (own_at g (ps + (2 : Int32)) to1 (P + 2))), .val (.int (own_at g (ps + (3 : Int32)) to1 (P + 3))), .unset] [(.int (((own_at g ps to1 (P + 0)) &&& (15 : Int32)) <<< ((12 : Int32) &&& 31)))])
            refine Ends.by (fun _ => XS.iload X9.here hx rfl (hb hby d4_132) rfl) ?_
            show Ends p e below _ T9 (mkF m 134 #[.val (.ref ar), .val (.int ps), .val (.int to1), .val (.int (own_at g ps to1 (P + 0))), .val (.int (own_at g (ps + (1 : Int32)) to1 (P + 1))), .val (.int (own_at g (ps + (2 : Int32)) to1 (P + 2))), .val (.int (own_at g (ps + (3 : Int32)) to1 (P + 3))), .unset] [(.int (own_at g (ps + (1 : Int32)) to1 (P + 1))), (.int (((own_at g ps to1 (P + 0)) &&& (15 : Int32)) <<< ((12 : Int32) &&& 31)))])
            refine Ends.by (fun _ => XS.bipush X9.here hx rfl (hb hby d4_134)) ?_
            show Ends p e below _ T9 (mkF m 136 #[.val (.ref ar), .val (.int ps), .val (.int to1), .val (.int (own_at g ps to1 (P + 0))), .val (.int (own_at g (ps + (1 : Int32)) to1 (P + 1))), .val (.int (own_at g (ps + (2 : Int32)) to1 (P + 2))), .val (.int (own_at g (ps + (3 : Int32)) to1 (P + 3))), .unset] [(.int (63 : Int32)), (.int (own_at g (ps + (1 : Int32)) to1 (P + 1))), (.int (((own_at g ps to1 (P + 0)) &&& (15 : Int32)) <<< ((12 : Int32) &&& 31)))])
            refine Ends.by (fun _ => XS.iand X9.here hx rfl (hb hby d4_136) rfl) ?_
            show Ends p e below _ T9 (mkF m 137 #[.val (.ref ar), .val (.int ps), .val (.int to1), .val (.int (own_at g ps to1 (P + 0))), .val (.int (own_at g (ps + (1 : Int32)) to1 (P + 1))), .val (.int (own_at g (ps + (2 : Int32)) to1 (P + 2))), .val (.int (own_at g (ps + (3 : Int32)) to1 (P + 3))), .unset] [(.int ((own_at g (ps + (1 : Int32)) to1 (P + 1)) &&& (63 : Int32))), (.int (((own_at g ps to1 (P + 0)) &&& (15 : Int32)) <<< ((12 : Int32) &&& 31)))])
            refine Ends.by (fun _ => XS.bipush X9.here hx rfl (hb hby d4_137)) ?_
            show Ends p e below _ T9 (mkF m 139 #[.val (.ref ar), .val (.int ps), .val (.int to1), .val (.int (own_at g ps to1 (P + 0))), .val (.int (own_at g (ps + (1 : Int32)) to1 (P + 1))), .val (.int (own_at g (ps + (2 : Int32)) to1 (P + 2))), .val (.int (own_at g (ps + (3 : Int32)) to1 (P + 3))), .unset] [(.int (6 : Int32)), (.int ((own_at g (ps + (1 : Int32)) to1 (P + 1)) &&& (63 : Int32))), (.int (((own_at g ps to1 (P + 0)) &&& (15 : Int32)) <<< ((12 : Int32) &&& 31)))])
            refine Ends.by (fun _ => XS.ishl X9.here hx rfl (hb hby d4_139) rfl) ?_
            show Ends p e below _ T9 (mkF m 140 #[.val (.ref ar), .val (.int ps), .val (.int to1), .val (.int (own_at g ps to1 (P + 0))), .val (.int (own_at g (ps + (1 : Int32)) to1 (P + 1))), .val (.int (own_at g (ps + (2 : Int32)) to1 (P + 2))), .val (.int (own_at g (ps + (3 : Int32)) to1 (P + 3))), .unset] [(.int (((own_at g (ps + (1 : Int32)) to1 (P + 1)) &&& (63 : Int32)) <<< ((6 : Int32) &&& 31))), (.int (((own_at g ps to1 (P + 0)) &&& (15 : Int32)) <<< ((12 : Int32) &&& 31)))])
            refine Ends.by (fun _ => XS.ior X9.here hx rfl (hb hby d4_140) rfl) ?_
            show Ends p e below _ T9 (mkF m 141 #[.val (.ref ar), .val (.int ps), .val (.int to1), .val (.int (own_at g ps to1 (P + 0))), .val (.int (own_at g (ps + (1 : Int32)) to1 (P + 1))), .val (.int (own_at g (ps + (2 : Int32)) to1 (P + 2))), .val (.int (own_at g (ps + (3 : Int32)) to1 (P + 3))), .unset] [(.int ((((own_at g ps to1 (P + 0)) &&& (15 : Int32)) <<< ((12 : Int32) &&& 31)) ||| (((own_at g (ps + (1 : Int32)) to1 (P + 1)) &&& (63 : Int32)) <<< ((6 : Int32) &&& 31))))])
            refine Ends.by (fun _ => XS.iload X9.here hx rfl (hb hby d4_141) rfl) ?_
            show Ends p e below _ T9 (mkF m 143 #[.val (.ref ar), .val (.int ps), .val (.int to1), .val (.int (own_at g ps to1 (P + 0))), .val (.int (own_at g (ps + (1 : Int32)) to1 (P + 1))), .val (.int (own_at g (ps + (2 : Int32)) to1 (P + 2))), .val (.int (own_at g (ps + (3 : Int32)) to1 (P + 3))), .unset] [(.int (own_at g (ps + (2 : Int32)) to1 (P + 2))), (.int ((((own_at g ps to1 (P + 0)) &&& (15 : Int32)) <<< ((12 : Int32) &&& 31)) ||| (((own_at g (ps + (1 : Int32)) to1 (P + 1)) &&& (63 : Int32)) <<< ((6 : Int32) &&& 31))))])
            refine Ends.by (fun _ => XS.bipush X9.here hx rfl (hb hby d4_143)) ?_
            show Ends p e below _ T9 (mkF m 145 #[.val (.ref ar), .val (.int ps), .val (.int to1), .val (.int (own_at g ps to1 (P + 0))), .val (.int (own_at g (ps + (1 : Int32)) to1 (P + 1))), .val (.int (own_at g (ps + (2 : Int32)) to1 (P + 2))), .val (.int (own_at g (ps + (3 : Int32)) to1 (P + 3))), .unset] [(.int (63 : Int32)), (.int (own_at g (ps + (2 : Int32)) to1 (P + 2))), (.int ((((own_at g ps to1 (P + 0)) &&& (15 : Int32)) <<< ((12 : Int32) &&& 31)) ||| (((own_at g (ps + (1 : Int32)) to1 (P + 1)) &&& (63 : Int32)) <<< ((6 : Int32) &&& 31))))])
            refine Ends.by (fun _ => XS.iand X9.here hx rfl (hb hby d4_145) rfl) ?_
            show Ends p e below _ T9 (mkF m 146 #[.val (.ref ar), .val (.int ps), .val (.int to1), .val (.int (own_at g ps to1 (P + 0))), .val (.int (own_at g (ps + (1 : Int32)) to1 (P + 1))), .val (.int (own_at g (ps + (2 : Int32)) to1 (P + 2))), .val (.int (own_at g (ps + (3 : Int32)) to1 (P + 3))), .unset] [(.int ((own_at g (ps + (2 : Int32)) to1 (P + 2)) &&& (63 : Int32))), (.int ((((own_at g ps to1 (P + 0)) &&& (15 : Int32)) <<< ((12 : Int32) &&& 31)) ||| (((own_at g (ps + (1 : Int32)) to1 (P + 1)) &&& (63 : Int32)) <<< ((6 : Int32) &&& 31))))])
            refine Ends.by (fun _ => XS.ior X9.here hx rfl (hb hby d4_146) rfl) ?_
            show Ends p e below _ T9 (mkF m 147 #[.val (.ref ar), .val (.int ps), .val (.int to1), .val (.int (own_at g ps to1 (P + 0))), .val (.int (own_at g (ps + (1 : Int32)) to1 (P + 1))), .val (.int (own_at g (ps + (2 : Int32)) to1 (P + 2))), .val (.int (own_at g (ps + (3 : Int32)) to1 (P + 3))), .unset] [(.int (((((own_at g ps to1 (P + 0)) &&& (15 : Int32)) <<< ((12 : Int32) &&& 31)) ||| (((own_at g (ps + (1 : Int32)) to1 (P + 1)) &&& (63 : Int32)) <<< ((6 : Int32) &&& 31))) ||| ((own_at g (ps + (2 : Int32)) to1 (P + 2)) &&& (63 : Int32))))])
            refine Ends.by (fun _ => XS.istore X9.here hx rfl (hb hby d4_147) rfl (l' := #[.val (.ref ar), .val (.int ps), .val (.int to1), .val (.int (own_at g ps to1 (P + 0))), .val (.int (own_at g (ps + (1 : Int32)) to1 (P + 1))), .val (.int (own_at g (ps + (2 : Int32)) to1 (P + 2))), .val (.int (own_at g (ps + (3 : Int32)) to1 (P + 3))), .val (.int (((((own_at g ps to1 (P + 0)) &&& (15 : Int32)) <<< ((12 : Int32) &&& 31)) ||| (((own_at g (ps + (1 : Int32)) to1 (P + 1)) &&& (63 : Int32)) <<< ((6 : Int32) &&& 31))) ||| ((own_at g (ps + (2 : Int32)) to1 (P + 2)) &&& (63 : Int32))))]) rfl) ?_
            show Ends p e below _ T9 (mkF m 149 #[.val (.ref ar), .val (.int ps), .val (.int to1), .val (.int (own_at g ps to1 (P + 0))), .val (.int (own_at g (ps + (1 : Int32)) to1 (P + 1))), .val (.int (own_at g (ps + (2 : Int32)) to1 (P + 2))), .val (.int (own_at g (ps + (3 : Int32)) to1 (P + 3))), .val (.int (((((own_at g ps to1 (P + 0)) &&& (15 : Int32)) <<< ((12 : Int32) &&& 31)) ||| (((own_at g (ps + (1 : Int32)) to1 (P + 1)) &&& (63 : Int32)) <<< ((6 : Int32) &&& 31))) ||| ((own_at g (ps + (2 : Int32)) to1 (P + 2)) &&& (63 : Int32))))] [])
            refine Ends.by (fun _ => XS.iload X9.here hx rfl (hb hby d4_149) rfl) ?_
            show Ends p e below _ T9 (mkF m 151 #[.val (.ref ar), .val (.int ps), .val (.int to1), .val (.int (own_at g ps to1 (P + 0))), .val (.int (own_at g (ps + (1 : Int32)) to1 (P + 1))), .val (.int (own_at g (ps + (2 : Int32)) to1 (P + 2))), .val (.int (own_at g (ps + (3 : Int32)) to1 (P + 3))), .val (.int (((((own_at g ps to1 (P + 0)) &&& (15 : Int32)) <<< ((12 : Int32) &&& 31)) ||| (((own_at g (ps + (1 : Int32)) to1 (P + 1)) &&& (63 : Int32)) <<< ((6 : Int32) &&& 31))) ||| ((own_at g (ps + (2 : Int32)) to1 (P + 2)) &&& (63 : Int32))))] [(.int (((((own_at g ps to1 (P + 0)) &&& (15 : Int32)) <<< ((12 : Int32) &&& 31)) ||| (((own_at g (ps + (1 : Int32)) to1 (P + 1)) &&& (63 : Int32)) <<< ((6 : Int32) &&& 31))) ||| ((own_at g (ps + (2 : Int32)) to1 (P + 2)) &&& (63 : Int32))))])
            refine Ends.by (fun _ => XS.sipush X9.here hx rfl (hb hby d4_151)) ?_
            show Ends p e below _ T9 (mkF m 154 #[.val (.ref ar), .val (.int ps), .val (.int to1), .val (.int (own_at g ps to1 (P + 0))), .val (.int (own_at g (ps + (1 : Int32)) to1 (P + 1))), .val (.int (own_at g (ps + (2 : Int32)) to1 (P + 2))), .val (.int (own_at g (ps + (3 : Int32)) to1 (P + 3))), .val (.int (((((own_at g ps to1 (P + 0)) &&& (15 : Int32)) <<< ((12 : Int32) &&& 31)) ||| (((own_at g (ps + (1 : Int32)) to1 (P + 1)) &&& (63 : Int32)) <<< ((6 : Int32) &&& 31))) ||| ((own_at g (ps + (2 : Int32)) to1 (P + 2)) &&& (63 : Int32))))] [(.int (2048 : Int32)), (.int (((((own_at g ps to1 (P + 0)) &&& (15 : Int32)) <<< ((12 : Int32) &&& 31)) ||| (((own_at g (ps + (1 : Int32)) to1 (P + 1)) &&& (63 : Int32)) <<< ((6 : Int32) &&& 31))) ||| ((own_at g (ps + (2 : Int32)) to1 (P + 2)) &&& (63 : Int32))))])
            refine Ends.icmp X9 hx (hb hby d4_154) 175 (by decide) (by decide) (fun q => ?_) (fun q => ?_)
            · have c154 : (((((own_at g ps to1 (P + 0)) &&& (15 : Int32)) <<< ((12 : Int32) &&& 31)) ||| (((own_at g (ps + (1 : Int32)) to1 (P + 1)) &&& (63 : Int32)) <<< ((6 : Int32) &&& 31))) ||| ((own_at g (ps + (2 : Int32)) to1 (P + 2)) &&& (63 : Int32))) < (2048 : Int32) := own_lt.1 q
              show Ends p e below _ T9 (mkF m 175 #[.val (.ref ar), .val (.int ps), .val (.int to1), .val (.int (own_at g ps to1 (P + 0))), .val (.int (own_at g (ps + (1 : Int32)) to1 (P + 1))), .val (.int (own_at g (ps + (2 : Int32)) to1 (P + 2))), .val (.int (own_at g (ps + (3 : Int32)) to1 (P + 3))), .val (.int (((((own_at g ps to1 (P + 0)) &&& (15 : Int32)) <<< ((12 : Int32) &&& 31)) ||| (((own_at g (ps + (1 : Int32)) to1 (P + 1)) &&& (63 : Int32)) <<< ((6 : Int32) &&& 31))) ||| ((own_at g (ps + (2 : Int32)) to1 (P + 2)) &&& (63 : Int32))))] [])
              refine Ends.by (fun _ => XS.iconst X9.here hx rfl (hb hby d4_175)) ?_
              show Ends p e below _ T9 (mkF m 176 #[.val (.ref ar), .val (.int ps), .val (.int to1), .val (.int (own_at g ps to1 (P + 0))), .val (.int (own_at g (ps + (1 : Int32)) to1 (P + 1))), .val (.int (own_at g (ps + (2 : Int32)) to1 (P + 2))), .val (.int (own_at g (ps + (3 : Int32)) to1 (P + 3))), .val (.int (((((own_at g ps to1 (P + 0)) &&& (15 : Int32)) <<< ((12 : Int32) &&& 31)) ||| (((own_at g (ps + (1 : Int32)) to1 (P + 1)) &&& (63 : Int32)) <<< ((6 : Int32) &&& 31))) ||| ((own_at g (ps + (2 : Int32)) to1 (P + 2)) &&& (63 : Int32))))] [(.int (0 : Int32))])
              exact Ends.retI X9 hx hlk hret (hb hby d4_176) (by decide) (by decide) (by rw [e9]; exact ⟨by rw [own_cl, if_neg c11, if_neg c54, if_pos c104, if_neg c112, if_neg c120, if_pos c154], rfl, rfl⟩)
            · have c154 : ¬ ((((((own_at g ps to1 (P + 0)) &&& (15 : Int32)) <<< ((12 : Int32) &&& 31)) ||| (((own_at g (ps + (1 : Int32)) to1 (P + 1)) &&& (63 : Int32)) <<< ((6 : Int32) &&& 31))) ||| ((own_at g (ps + (2 : Int32)) to1 (P + 2)) &&& (63 : Int32))) < (2048 : Int32)) := own_lt.2 q
              show Ends p e below _ T9 (mkF m 157 #[.val (.ref ar), .val (.int ps), .val (.int to1), .val (.int (own_at g ps to1 (P + 0))), .val (.int (own_at g (ps + (1 : Int32)) to1 (P + 1))), .val (.int (own_at g (ps + (2 : Int32)) to1 (P + 2))), .val (.int (own_at g (ps + (3 : Int32)) to1 (P + 3))), .val (.int (((((own_at g ps to1 (P + 0)) &&& (15 : Int32)) <<< ((12 : Int32) &&& 31)) ||| (((own_at g (ps + (1 : Int32)) to1 (P + 1)) &&& (63 : Int32)) <<< ((6 : Int32) &&& 31))) ||| ((own_at g (ps + (2 : Int32)) to1 (P + 2)) &&& (63 : Int32))))] [])
              refine Ends.by (fun _ => XS.iload X9.here hx rfl (hb hby d4_157) rfl) ?_
              show Ends p e below _ T9 (mkF m 159 #[.val (.ref ar), .val (.int ps), .val (.int to1), .val (.int (own_at g ps to1 (P + 0))), .val (.int (own_at g (ps + (1 : Int32)) to1 (P + 1))), .val (.int (own_at g (ps + (2 : Int32)) to1 (P + 2))), .val (.int (own_at g (ps + (3 : Int32)) to1 (P + 3))), .val (.int (((((own_at g ps to1 (P + 0)) &&& (15 : Int32)) <<< ((12 : Int32) &&& 31)) ||| (((own_at g (ps + (1 : Int32)) to1 (P + 1)) &&& (63 : Int32)) <<< ((6 : Int32) &&& 31))) ||| ((own_at g (ps + (2 : Int32)) to1 (P + 2)) &&& (63 : Int32))))] [(.int (((((own_at g ps to1 (P + 0)) &&& (15 : Int32)) <<< ((12 : Int32) &&& 31)) ||| (((own_at g (ps + (1 : Int32)) to1 (P + 1)) &&& (63 : Int32)) <<< ((6 : Int32) &&& 31))) ||| ((own_at g (ps + (2 : Int32)) to1 (P + 2)) &&& (63 : Int32))))])
              refine Ends.by (X9.ldcInt hx hown (mvT hZ (hw _ (List.mem_of_getElem? (i := 31) rfl))) (g := (mkF m 159 #[.val (.ref ar), .val (.int ps), .val (.int to1), .val (.int (own_at g ps to1 (P + 0))), .val (.int (own_at g (ps + (1 : Int32)) to1 (P + 1))), .val (.int (own_at g (ps + (2 : Int32)) to1 (P + 2))), .val (.int (own_at g (ps + (3 : Int32)) to1 (P + 3))), .val (.int (((((own_at g ps to1 (P + 0)) &&& (15 : Int32)) <<< ((12 : Int32) &&& 31)) ||| (((own_at g (ps + (1 : Int32)) to1 (P + 1)) &&& (63 : Int32)) <<< ((6 : Int32) &&& 31))) ||| ((own_at g (ps + (2 : Int32)) to1 (P + 2)) &&& (63 : Int32))))] [(.int (((((own_at g ps to1 (P + 0)) &&& (15 : Int32)) <<< ((12 : Int32) &&& 31)) ||| (((own_at g (ps + (1 : Int32)) to1 (P + 1)) &&& (63 : Int32)) <<< ((6 : Int32) &&& 31))) ||| ((own_at g (ps + (2 : Int32)) to1 (P + 2)) &&& (63 : Int32))))])) rfl (hb hby d4_159)) ?_
              show Ends p e below _ T9 (mkF m 161 #[.val (.ref ar), .val (.int ps), .val (.int to1), .val (.int (own_at g ps to1 (P + 0))), .val (.int (own_at g (ps + (1 : Int32)) to1 (P + 1))), .val (.int (own_at g (ps + (2 : Int32)) to1 (P + 2))), .val (.int (own_at g (ps + (3 : Int32)) to1 (P + 3))), .val (.int (((((own_at g ps to1 (P + 0)) &&& (15 : Int32)) <<< ((12 : Int32) &&& 31)) ||| (((own_at g (ps + (1 : Int32)) to1 (P + 1)) &&& (63 : Int32)) <<< ((6 : Int32) &&& 31))) ||| ((own_at g (ps + (2 : Int32)) to1 (P + 2)) &&& (63 : Int32))))] [(.int (55296 : Int32)), (.int (((((own_at g ps to1 (P + 0)) &&& (15 : Int32)) <<< ((12 : Int32) &&& 31)) ||| (((own_at g (ps + (1 : Int32)) to1 (P + 1)) &&& (63 : Int32)) <<< ((6 : Int32) &&& 31))) ||| ((own_at g (ps + (2 : Int32)) to1 (P + 2)) &&& (63 : Int32))))])
              refine Ends.icmp X9 hx (hb hby d4_161) 171 (by decide) (by decide) (fun q => ?_) (fun q => ?_)
              · have c161 : (((((own_at g ps to1 (P + 0)) &&& (15 : Int32)) <<< ((12 : Int32) &&& 31)) ||| (((own_at g (ps + (1 : Int32)) to1 (P + 1)) &&& (63 : Int32)) <<< ((6 : Int32) &&& 31))) ||| ((own_at g (ps + (2 : Int32)) to1 (P + 2)) &&& (63 : Int32))) < (55296 : Int32) := own_lt.1 q
                show Ends p e below _ T9 (mkF m 171 #[.val (.ref ar), .val (.int ps), .val (.int to1), .val (.int (own_at g ps to1 (P + 0))), .val (.int (own_at g (ps + (1 : Int32)) to1 (P + 1))), .val (.int (own_at g (ps + (2 : Int32)) to1 (P + 2))), .val (.int (own_at g (ps + (3 : Int32)) to1 (P + 3))), .val (.int (((((own_at g ps to1 (P + 0)) &&& (15 : Int32)) <<< ((12 : Int32) &&& 31)) ||| (((own_at g (ps + (1 : Int32)) to1 (P + 1)) &&& (63 : Int32)) <<< ((6 : Int32) &&& 31))) ||| ((own_at g (ps + (2 : Int32)) to1 (P + 2)) &&& (63 : Int32))))] [])
                refine Ends.by (fun _ => XS.iconst X9.here hx rfl (hb hby d4_171)) ?_
                show Ends p e below _ T9 (mkF m 172 #[.val (.ref ar), .val (.int ps), .val (.int to1), .val (.int (own_at g ps to1 (P + 0))), .val (.int (own_at g (ps + (1 : Int32)) to1 (P + 1))), .val (.int (own_at g (ps + (2 : Int32)) to1 (P + 2))), .val (.int (own_at g (ps + (3 : Int32)) to1 (P + 3))), .val (.int (((((own_at g ps to1 (P + 0)) &&& (15 : Int32)) <<< ((12 : Int32) &&& 31)) ||| (((own_at g (ps + (1 : Int32)) to1 (P + 1)) &&& (63 : Int32)) <<< ((6 : Int32) &&& 31))) ||| ((own_at g (ps + (2 : Int32)) to1 (P + 2)) &&& (63 : Int32))))] [(.int (3 : Int32))])
                refine Ends.by (fun _ => XS.goto X9.here hx rfl (pc0 := 172) (pc' := 176) rfl (hb hby d4_172) (by decide) (by decide)) ?_
                show Ends p e below _ T9 (mkF m 176 #[.val (.ref ar), .val (.int ps), .val (.int to1), .val (.int (own_at g ps to1 (P + 0))), .val (.int (own_at g (ps + (1 : Int32)) to1 (P + 1))), .val (.int (own_at g (ps + (2 : Int32)) to1 (P + 2))), .val (.int (own_at g (ps + (3 : Int32)) to1 (P + 3))), .val (.int (((((own_at g ps to1 (P + 0)) &&& (15 : Int32)) <<< ((12 : Int32) &&& 31)) ||| (((own_at g (ps + (1 : Int32)) to1 (P + 1)) &&& (63 : Int32)) <<< ((6 : Int32) &&& 31))) ||| ((own_at g (ps + (2 : Int32)) to1 (P + 2)) &&& (63 : Int32))))] [(.int (3 : Int32))])
                exact Ends.retI X9 hx hlk hret (hb hby d4_176) (by decide) (by decide) (by rw [e9]; exact ⟨by rw [own_cl, if_neg c11, if_neg c54, if_pos c104, if_neg c112, if_neg c120, if_neg c154, if_pos c161], rfl, rfl⟩)
              · have c161 : ¬ ((((((own_at g ps to1 (P + 0)) &&& (15 : Int32)) <<< ((12 : Int32) &&& 31)) ||| (((own_at g (ps + (1 : Int32)) to1 (P + 1)) &&& (63 : Int32)) <<< ((6 : Int32) &&& 31))) ||| ((own_at g (ps + (2 : Int32)) to1 (P + 2)) &&& (63 : Int32))) < (55296 : Int32)) := own_lt.2 q
                show Ends p e below _ T9 (mkF m 164 #[.val (.ref ar), .val (.int ps), .val (.int to1), .val (.int (own_at g ps to1 (P + 0))), .val (.int (own_at g (ps + (1 : Int32)) to1 (P + 1))), .val (.int (own_at g (ps + (2 : Int32)) to1 (P + 2))), .val (.int (own_at g (ps + (3 : Int32)) to1 (P + 3))), .val (.int (((((own_at g ps to1 (P + 0)) &&& (15 : Int32)) <<< ((12 : Int32) &&& 31)) ||| (((own_at g (ps + (1 : Int32)) to1 (P + 1)) &&& (63 : Int32)) <<< ((6 : Int32) &&& 31))) ||| ((own_at g (ps + (2 : Int32)) to1 (P + 2)) &&& (63 : Int32))))] [])
                refine Ends.by (fun _ => XS.iload X9.here hx rfl (hb hby d4_164) rfl) ?_
                show Ends p e below _ T9 (mkF m 166 #[.val (.ref ar), .val (.int ps), .val (.int to1), .val (.int (own_at g ps to1 (P + 0))), .val (.int (own_at g (ps + (1 : Int32)) to1 (P + 1))), .val (.int (own_at g (ps + (2 : Int32)) to1 (P + 2))), .val (.int (own_at g (ps + (3 : Int32)) to1 (P + 3))), .val (.int (((((own_at g ps to1 (P + 0)) &&& (15 : Int32)) <<< ((12 : Int32) &&& 31)) ||| (((own_at g (ps + (1 : Int32)) to1 (P + 1)) &&& (63 : Int32)) <<< ((6 : Int32) &&& 31))) ||| ((own_at g (ps + (2 : Int32)) to1 (P + 2)) &&& (63 : Int32))))] [(.int (((((own_at g ps to1 (P + 0)) &&& (15 : Int32)) <<< ((12 : Int32) &&& 31)) ||| (((own_at g (ps + (1 : Int32)) to1 (P + 1)) &&& (63 : Int32)) <<< ((6 : Int32) &&& 31))) ||| ((own_at g (ps + (2 : Int32)) to1 (P + 2)) &&& (63 : Int32))))])
                refine Ends.by (X9.ldcInt hx hown (mvT hZ (hw _ (List.mem_of_getElem? (i := 32) rfl))) (g := (mkF m 166 #[.val (.ref ar), .val (.int ps), .val (.int to1), .val (.int (own_at g ps to1 (P + 0))), .val (.int (own_at g (ps + (1 : Int32)) to1 (P + 1))), .val (.int (own_at g (ps + (2 : Int32)) to1 (P + 2))), .val (.int (own_at g (ps + (3 : Int32)) to1 (P + 3))), .val (.int (((((own_at g ps to1 (P + 0)) &&& (15 : Int32)) <<< ((12 : Int32) &&& 31)) ||| (((own_at g (ps + (1 : Int32)) to1 (P + 1)) &&& (63 : Int32)) <<< ((6 : Int32) &&& 31))) ||| ((own_at g (ps + (2 : Int32)) to1 (P + 2)) &&& (63 : Int32))))] [(.int (((((own_at g ps to1 (P + 0)) &&& (15 : Int32)) <<< ((12 : Int32) &&& 31)) ||| (((own_at g (ps + (1 : Int32)) to1 (P + 1)) &&& (63 : Int32)) <<< ((6 : Int32) &&& 31))) ||| ((own_at g (ps + (2 : Int32)) to1 (P + 2)) &&& (63 : Int32))))])) rfl (hb hby d4_166)) ?_
                show Ends p e below _ T9 (mkF m 168 #[.val (.ref ar), .val (.int ps), .val (.int to1), .val (.int (own_at g ps to1 (P + 0))), .val (.int (own_at g (ps + (1 : Int32)) to1 (P + 1))), .val (.int (own_at g (ps + (2 : Int32)) to1 (P + 2))), .val (.int (own_at g (ps + (3 : Int32)) to1 (P + 3))), .val (.int (((((own_at g ps to1 (P + 0)) &&& (15 : Int32)) <<< ((12 : Int32) &&& 31)) ||| (((own_at g (ps + (1 : Int32)) to1 (P + 1)) &&& (63 : Int32)) <<< ((6 : Int32) &&& 31))) ||| ((own_at g (ps + (2 : Int32)) to1 (P + 2)) &&& (63 : Int32))))] [(.int (57343 : Int32)), (.int (((((own_at g ps to1 (P + 0)) &&& (15 : Int32)) <<< ((12 : Int32) &&& 31)) ||| (((own_at g (ps + (1 : Int32)) to1 (P + 1)) &&& (63 : Int32)) <<< ((6 : Int32) &&& 31))) ||| ((own_at g (ps + (2 : Int32)) to1 (P + 2)) &&& (63 : Int32))))])
                refine Ends.icmp X9 hx (hb hby d4_168) 175 (by decide) (by decide) (fun q => ?_) (fun q => ?_)
                · have c168 : ¬ ((57343 : Int32) < (((((own_at g ps to1 (P + 0)) &&& (15 : Int32)) <<< ((12 : Int32) &&& 31)) ||| (((own_at g (ps + (1 : Int32)) to1 (P + 1)) &&& (63 : Int32)) <<< ((6 : Int32) &&& 31))) ||| ((own_at g (ps + (2 : Int32)) to1 (P + 2)) &&& (63 : Int32)))) := own_le.1 q
                  show Ends p e below _ T9 (mkF m 175 #[.val (.ref ar), .val (.int ps), .val (.int to1), .val (.int (own_at g ps to1 (P + 0))), .val (.int (own_at g (ps + (1 : Int32)) to1 (P + 1))), .val (.int (own_at g (ps + (2 : Int32)) to1 (P + 2))), .val (.int (own_at g (ps + (3 : Int32)) to1 (P + 3))), .val (.int (((((own_at g ps to1 (P + 0)) &&& (15 : Int32)) <<< ((12 : Int32) &&& 31)) ||| (((own_at g (ps + (1 : Int32)) to1 (P + 1)) &&& (63 : Int32)) <<< ((6 : Int32) &&& 31))) ||| ((own_at g (ps + (2 : Int32)) to1 (P + 2)) &&& (63 : Int32))))] [])
                  refine Ends.by (fun _ => XS.iconst X9.here hx rfl (hb hby d4_175)) ?_
                  show Ends p e below _ T9 (mkF m 176 #[.val (.ref ar), .val (.int ps), .val (.int to1), .val (.int (own_at g ps to1 (P + 0))), .val (.int (own_at g (ps + (1 : Int32)) to1 (P + 1))), .val (.int (own_at g (ps + (2 : Int32)) to1 (P + 2))), .val (.int (own_at g (ps + (3 : Int32)) to1 (P + 3))), .val (.int (((((own_at g ps to1 (P + 0)) &&& (15 : Int32)) <<< ((12 : Int32) &&& 31)) ||| (((own_at g (ps + (1 : Int32)) to1 (P + 1)) &&& (63 : Int32)) <<< ((6 : Int32) &&& 31))) ||| ((own_at g (ps + (2 : Int32)) to1 (P + 2)) &&& (63 : Int32))))] [(.int (0 : Int32))])
                  exact Ends.retI X9 hx hlk hret (hb hby d4_176) (by decide) (by decide) (by rw [e9]; exact ⟨by rw [own_cl, if_neg c11, if_neg c54, if_pos c104, if_neg c112, if_neg c120, if_neg c154, if_neg c161, if_neg c168], rfl, rfl⟩)
                · have c168 : (57343 : Int32) < (((((own_at g ps to1 (P + 0)) &&& (15 : Int32)) <<< ((12 : Int32) &&& 31)) ||| (((own_at g (ps + (1 : Int32)) to1 (P + 1)) &&& (63 : Int32)) <<< ((6 : Int32) &&& 31))) ||| ((own_at g (ps + (2 : Int32)) to1 (P + 2)) &&& (63 : Int32))) := own_le.2 q
                  show Ends p e below _ T9 (mkF m 171 #[.val (.ref ar), .val (.int ps), .val (.int to1), .val (.int (own_at g ps to1 (P + 0))), .val (.int (own_at g (ps + (1 : Int32)) to1 (P + 1))), .val (.int (own_at g (ps + (2 : Int32)) to1 (P + 2))), .val (.int (own_at g (ps + (3 : Int32)) to1 (P + 3))), .val (.int (((((own_at g ps to1 (P + 0)) &&& (15 : Int32)) <<< ((12 : Int32) &&& 31)) ||| (((own_at g (ps + (1 : Int32)) to1 (P + 1)) &&& (63 : Int32)) <<< ((6 : Int32) &&& 31))) ||| ((own_at g (ps + (2 : Int32)) to1 (P + 2)) &&& (63 : Int32))))] [])
                  refine Ends.by (fun _ => XS.iconst X9.here hx rfl (hb hby d4_171)) ?_
                  show Ends p e below _ T9 (mkF m 172 #[.val (.ref ar), .val (.int ps), .val (.int to1), .val (.int (own_at g ps to1 (P + 0))), .val (.int (own_at g (ps + (1 : Int32)) to1 (P + 1))), .val (.int (own_at g (ps + (2 : Int32)) to1 (P + 2))), .val (.int (own_at g (ps + (3 : Int32)) to1 (P + 3))), .val (.int (((((own_at g ps to1 (P + 0)) &&& (15 : Int32)) <<< ((12 : Int32) &&& 31)) ||| (((own_at g (ps + (1 : Int32)) to1 (P + 1)) &&& (63 : Int32)) <<< ((6 : Int32) &&& 31))) ||| ((own_at g (ps + (2 : Int32)) to1 (P + 2)) &&& (63 : Int32))))] [(.int (3 : Int32))])
                  refine Ends.by (fun _ => XS.goto X9.here hx rfl (pc0 := 172) (pc' := 176) rfl (hb hby d4_172) (by decide) (by decide)) ?_
                  show Ends p e below _ T9 (mkF m 176 #[.val (.ref ar), .val (.int ps), .val (.int to1), .val (.int (own_at g ps to1 (P + 0))), .val (.int (own_at g (ps + (1 : Int32)) to1 (P + 1))), .val (.int (own_at g (ps + (2 : Int32)) to1 (P + 2))), .val (.int (own_at g (ps + (3 : Int32)) to1 (P + 3))), .val (.int (((((own_at g ps to1 (P + 0)) &&& (15 : Int32)) <<< ((12 : Int32) &&& 31)) ||| (((own_at g (ps + (1 : Int32)) to1 (P + 1)) &&& (63 : Int32)) <<< ((6 : Int32) &&& 31))) ||| ((own_at g (ps + (2 : Int32)) to1 (P + 2)) &&& (63 : Int32))))] [(.int (3 : Int32))])
                  exact Ends.retI X9 hx hlk hret (hb hby d4_176) (by decide) (by decide) (by rw [e9]; exact ⟨by rw [own_cl, if_neg c11, if_neg c54, if_pos c104, if_neg c112, if_neg c120, if_neg c154, if_neg c161, if_pos c168], rfl, rfl⟩)
          · have c120 : (f_9 (own_at g (ps + (2 : Int32)) to1 (P + 2))) = (0 : Int32) := own_ne.2 q
            show Ends p e below _ T9 (mkF m 123 #[.val (.ref ar), .val (.int ps), .val (.int to1), .val (.int (own_at g ps to1 (P + 0))), .val (.int (own_at g (ps + (1 : Int32)) to1 (P + 1))), .val (.int (own_at g (ps + (2 : Int32)) to1 (P + 2))), .val (.int (own_at g (ps + (3 : Int32)) to1 (P + 3))), .unset] [])
            refine Ends.by (fun _ => XS.iconst X9.here hx rfl (hb hby d4_123)) ?_
            show Ends p e below _ T9 (mkF m 124 #[.val (.ref ar), .val (.int ps), .val (.int to1), .val (.int (own_at g ps to1 (P + 0))), .val (.int (own_at g (ps + (1 : Int32)) to1 (P + 1))), .val (.int (own_at g (ps + (2 : Int32)) to1 (P + 2))), .val (.int (own_at g (ps + (3 : Int32)) to1 (P + 3))), .unset] [(.int (0 : Int32))])
            exact Ends.retI X9 hx hlk hret (hb hby d4_124) (by decide) (by decide) (by rw [e9]; exact ⟨by rw [own_cl, if_neg c11, if_neg c54, if_pos c104, if_neg c112, if_pos c120], rfl, rfl⟩)
    · have c54 : ((own_at g ps to1 (P + 0)) &&& (224 : Int32)) = (192 : Int32) := own_ne.2 q
      show Ends p e below _ T4 (mkF m 57 #[.val (.ref ar), .val (.int ps), .val (.int to1), .val (.int (own_at g ps to1 (P + 0))), .val (.int (own_at g (ps + (1 : Int32)) to1 (P + 1))), .val (.int (own_at g (ps + (2 : Int32)) to1 (P + 2))), .val (.int (own_at g (ps + (3 : Int32)) to1 (P + 3))), .unset] [])
      refine Ends.by (fun _ => XS.iload X4.here hx rfl (hb hby d4_57) rfl) ?_
      show Ends p e below _ T4 (mkF m 59 #[.val (.ref ar), .val (.int ps), .val (.int to1), .val (.int (own_at g ps to1 (P + 0))), .val (.int (own_at g (ps + (1 : Int32)) to1 (P + 1))), .val (.int (own_at g (ps + (2 : Int32)) to1 (P + 2))), .val (.int (own_at g (ps + (3 : Int32)) to1 (P + 3))), .unset] [(.int (own_at g (ps + (1 : Int32)) to1 (P + 1)))])
      refine Ends.callS (argsL := [(.int (own_at g (ps + (1 : Int32)) to1 (P + 1)))]) (rest := []) X4 hx hZ hown (hw _ (List.mem_of_getElem? (i := 28) rfl)) (hw _ (List.mem_of_getElem? (i := 29) rfl)) (hw _ (List.mem_of_getElem? (i := 10) rfl)) (hw _ (List.mem_of_getElem? (i := 30) rfl)) (by decide) (con_9 l Z a0 hw (own_at g (ps + (1 : Int32)) to1 (P + 1)) h0) e4 (by rw [hml]; rfl) (hb hby d4_59) (lenOf pd_9 rfl) 0 (Nat.le_of_eq rfl) (by decide) (by decide) (by decide) (by decide) ?_
      intro v T10 L10 X10 hQ
      obtain ⟨rfl, e10, rfl⟩ := hQ
      rw [List.append_nil] at X10
      show Ends p e below _ T10 (mkF m 62 #[.val (.ref ar), .val (.int ps), .val (.int to1), .val (.int (own_at g ps to1 (P + 0))), .val (.int (own_at g (ps + (1 : Int32)) to1 (P + 1))), .val (.int (own_at g (ps + (2 : Int32)) to1 (P + 2))), .val (.int (own_at g (ps + (3 : Int32)) to1 (P + 3))), .unset] [(.int (f_9 (own_at g (ps + (1 : Int32)) to1 (P + 1))))])
      refine Ends.ifc X10 hx (hb hby d4_62) 67 (by decide) (by decide) (fun q => ?_) (fun q => ?_)
      · have c62 : ¬ ((f_9 (own_at g (ps + (1 : Int32)) to1 (P + 1))) = (0 : Int32)) := own_ne.1 q
        show Ends p e below _ T10 (mkF m 67 #[.val (.ref ar), .val (.int ps), .val (.int to1), .val (.int (own_at g ps to1 (P + 0))), .val (.int (own_at g (ps + (1 : Int32)) to1 (P + 1))), .val (.int (own_at g (ps + (2 : Int32)) to1 (P + 2))), .val (.int (own_at g (ps + (3 : Int32)) to1 (P + 3))), .unset] [])
        refine Ends.by (fun _ => XS.iloadN X10.here hx rfl (hb hby d4_67) rfl) ?_
        show Ends p e below _ T10 (mkF m 68 #[.val (.ref ar), .val (.int ps), .val (.int to1), .val (.int (own_at g ps to1 (P + 0))), .val (.int (own_at g (ps + (1 : Int32)) to1 (P + 1))), .val (.int (own_at g (ps + (2 : Int32)) to1 (P + 2))), .val (.int (own_at g (ps + (3 : Int32)) to1 (P + 3))), .unset] [(.int (own_at g ps to1 (P + 0)))])
        refine Ends.by (fun _ => XS.bipush X10.here hx rfl (hb hby d4_68)) ?_
        show Ends p e below _ T10 (mkF m 70 #[.val (.ref ar), .val (.int ps), .val (.int to1), .val (.int (own_at g ps to1 (P + 0))), .val (.int (own_at g (ps + (1 : Int32)) to1 (P + 1))), .val (.int (own_at g (ps + (2 : Int32)) to1 (P + 2))), .val (.int (own_at g (ps + (3 : Int32)) to1 (P + 3))), .unset] [(.int (31 : Int32)), (.int (own_at g ps to1 (P + 0)))])
        refine Ends.by (fun _ => XS.iand X10.here hx rfl (hb hby d4_70) rfl) ?_
        show Ends p e below _ T10 (mkF m 71 #[.val (.ref ar), .val (.int ps), .val (.int to1), .val (.int (own_at g ps to1 (P + 0))), .val (.int (own_at g (ps + (1 : Int32)) to1 (P + 1))), .val (.int (own_at g (ps + (2 : Int32)) to1 (P + 2))), .val (.int (own_at g (ps + (3 : Int32)) to1 (P + 3))), .unset] [(.int ((own_at g ps to1 (P + 0)) &&& (31 : Int32)))])
        refine Ends.by (fun _ => XS.bipush X10.here hx rfl (hb hby d4_71)) ?_
        show Ends p e below _ T10 (mkF m 73 #[.val (.ref ar), .val (.int ps), .val (.int to1), .val (.int (own_at g ps to1 (P + 0))), .val (.int (own_at g (ps + (1 : Int32)) to1 (P + 1))), .val (.int (own_at g (ps + (2 : Int32)) to1 (P + 2))), .val (.int (own_at g (ps + (3 : Int32)) to1 (P + 3))), .unset] [(.int (6 : Int32)), (.int ((own_at g ps to1 (P + 0)) &&& (31 : Int32)))])
        refine Ends.by (fun _ => XS.ishl X10.here hx rfl (hb hby d4_73) rfl) ?_
        show Ends p e below _ T10 (mkF m 74 #[.val (.ref ar), .val (.int ps), .val (.int to1), .val (.int (own_at g ps to1 (P + 0))), .val (.int (own_at g (ps + (1 : Int32)) to1 (P + 1))), .val (.int (own_at g (ps + (2 : Int32)) to1 (P + 2))), .val (.int (own_at g (ps + (3 : Int32)) to1 (P + 3))), .unset] [(.int (((own_at g ps to1 (P + 0)) &&& (31 : Int32)) <<< ((6 : Int32) &&& 31)))])
        refine Ends.by (fun _ => XS.iload X10.here hx rfl (hb hby d4_74) rfl) ?_
        show Ends p e below _ T10 (mkF m 76 #[.val (.ref ar), .val (.int ps), .val (.int to1), .val (.int (own_at g ps to1 (P + 0))), .val (.int (own_at g (ps + (1 : Int32)) to1 (P + 1))), .val (.int (own_at g (ps + (2 : Int32)) to1 (P + 2))), .val (.int (own_at g (ps + (3 : Int32)) to1 (P + 3))), .unset] [(.int (own_at g (ps + (1 : Int32)) to1 (P + 1))), (.int (((own_at g ps to1 (P + 0)) &&& (31 : Int32)) <<< ((6 : Int32) &&& 31)))])
        refine Ends.by (fun _ => XS.bipush X10.here hx rfl (hb hby d4_76)) ?_
        show Ends p e below _ T10 (mkF m 78 #[.val (.ref ar), .val (.int ps), .val (.int to1), .val (.int (own_at g ps to1 (P + 0))), .val (.int (own_at g (ps + (1 : Int32)) to1 (P + 1))), .val (.int (own_at g (ps + (2 : Int32)) to1 (P + 2))), .val (.int (own_at g (ps + (3 : Int32)) to1 (P + 3))), .unset] [(.int (63 : Int32)), (.int (own_at g (ps + (1 : Int32)) to1 (P + 1))), (.int (((own_at g ps to1 (P + 0)) &&& (31 : Int32)) <<< ((6 : Int32) &&& 31)))])
        refine Ends.by (fun _ => XS.iand X10.here hx rfl (hb hby d4_78) rfl) ?_
        show Ends p e below _ T10 (mkF m 79 #[.val (.ref ar), .val (.int ps), .val (.int to1), .val (.int (own_at g ps to1 (P + 0))), .val (.int (own_at g (ps + (1 : Int32)) to1 (P + 1))), .val (.int (own_at g (ps + (2 : Int32)) to1 (P + 2))), .val (.int (own_at g (ps + (3 : Int32)) to1 (P + 3))), .unset] [(.int ((own_at g (ps + (1 : Int32)) to1 (P + 1)) &&& (63 : Int32))), (.int (((own_at g ps to1 (P + 0)) &&& (31 : Int32)) <<< ((6 : Int32) &&& 31)))])
        refine Ends.by (fun _ => XS.ior X10.here hx rfl (hb hby d4_79) rfl) ?_
        show Ends p e below _ T10 (mkF m 80 #[.val (.ref ar), .val (.int ps), .val (.int to1), .val (.int (own_at g ps to1 (P + 0))), .val (.int (own_at g (ps + (1 : Int32)) to1 (P + 1))), .val (.int (own_at g (ps + (2 : Int32)) to1 (P + 2))), .val (.int (own_at g (ps + (3 : Int32)) to1 (P + 3))), .unset] [(.int ((((own_at g ps to1 (P + 0)) &&& (31 : Int32)) <<< ((6 : Int32) &&& 31)) ||| ((own_at g (ps + (1 : Int32)) to1 (P + 1)) &&& (63 : Int32))))])
        refine Ends.by (fun _ => XS.istore X10.here hx rfl (hb hby d4_80) rfl (l' := #[.val (.ref ar), .val (.int ps), .val (.int to1), .val (.int (own_at g ps to1 (P + 0))), .val (.int (own_at g (ps + (1 : Int32)) to1 (P + 1))), .val (.int (own_at g (ps + (2 : Int32)) to1 (P + 2))), .val (.int (own_at g (ps + (3 : Int32)) to1 (P + 3))), .val (.int ((((own_at g ps to1 (P + 0)) &&& (31 : Int32)) <<< ((6 : Int32) &&& 31)) ||| ((own_at g (ps + (1 : Int32)) to1 (P + 1)) &&& (63 : Int32))))]) rfl) ?_
        show Ends p e below _ T10 (mkF m 82 #[.val (.ref ar), .val (.int ps), .val (.int to1), .val (.int (own_at g ps to1 (P + 0))), .val (.int (own_at g (ps + (1 : Int32)) to1 (P + 1))), .val (.int (own_at g (ps + (2 : Int32)) to1 (P + 2))), .val (.int (own_at g (ps + (3 : Int32)) to1 (P + 3))), .val (.int ((((own_at g ps to1 (P + 0)) &&& (31 : Int32)) <<< ((6 : Int32) &&& 31)) ||| ((own_at g (ps + (1 : Int32)) to1 (P + 1)) &&& (63 : Int32))))] [])
        refine Ends.by (fun _ => XS.iload X10.here hx rfl (hb hby d4_82) rfl) ?_
        show Ends p e below _ T10 (mkF m 84 #[.val (.ref ar), .val (.int ps), .val (.int to1), .val (.int (own_at g ps to1 (P + 0))), .val (.int (own_at g (ps + (1 : Int32)) to1 (P + 1))), .val (.int (own_at g (ps + (2 : Int32)) to1 (P + 2))), .val (.int (own_at g (ps + (3 : Int32)) to1 (P + 3))), .val (.int ((((own_at g ps to1 (P + 0)) &&& (31 : Int32)) <<< ((6 : Int32) &&& 31)) ||| ((own_at g (ps + (1 : Int32)) to1 (P + 1)) &&& (63 : Int32))))] [(.int ((((own_at g ps to1 (P + 0)) &&& (31 : Int32)) <<< ((6 : Int32) &&& 31)) ||| ((own_at g (ps + (1 : Int32)) to1 (P + 1)) &&& (63 : Int32))))])
        refine Ends.by (fun _ => XS.sipush X10.here hx rfl (hb hby d4_84)) ?_
        show Ends p e below _ T10 (mkF m 87 #[.val (.ref ar), .val (.int ps), .val (.int to1), .val (.int (own_at g ps to1 (P + 0))), .val (.int (own_at g (ps + (1 : Int32)) to1 (P + 1))), .val (.int (own_at g (ps + (2 : Int32)) to1 (P + 2))), .val (.int (own_at g (ps + (3 : Int32)) to1 (P + 3))), .val (.int ((((own_at g ps to1 (P + 0)) &&& (31 : Int32)) <<< ((6 : Int32) &&& 31)) ||| ((own_at g (ps + (1 : Int32)) to1 (P + 1)) &&& (63 : Int32))))] [(.int (128 : Int32)), (.int ((((own_at g ps to1 (P + 0)) &&& (31 : Int32)) <<< ((6 : Int32) &&& 31)) ||| ((own_at g (ps + (1 : Int32)) to1 (P + 1)) &&& (63 : Int32))))])
        refine Ends.icmp X10 hx (hb hby d4_87) 94 (by decide) (by decide) (fun q => ?_) (fun q => ?_)
        · have c87 : ((((own_at g ps to1 (P + 0)) &&& (31 : Int32)) <<< ((6 : Int32) &&& 31)) ||| ((own_at g (ps + (1 : Int32)) to1 (P + 1)) &&& (63 : Int32))) < (128 : Int32) := own_lt.1 q
          show Ends p e below _ T10 (mkF m 94 #[.val (.ref ar), .val (.int ps), .val (.int to1), .val (.int (own_at g ps to1 (P + 0))), .val (.int (own_at g (ps + (1 : Int32)) to1 (P + 1))), .val (.int (own_at g (ps + (2 : Int32)) to1 (P + 2))), .val (.int (own_at g (ps + (3 : Int32)) to1 (P + 3))), .val (.int ((((own_at g ps to1 (P + 0)) &&& (31 : Int32)) <<< ((6 : Int32) &&& 31)) ||| ((own_at g (ps + (1 : Int32)) to1 (P + 1)) &&& (63 : Int32))))] [])
          refine Ends.by (fun _ => XS.iconst X10.here hx rfl (hb hby d4_94)) ?_
          show Ends p e below _ T10 (mkF m 95 #[.val (.ref ar), .val (.int ps), .val (.int to1), .val (.int (own_at g ps to1 (P + 0))), .val (.int (own_at g (ps + (1 : Int32)) to1 (P + 1))), .val (.int (own_at g (ps + (2 : Int32)) to1 (P + 2))), .val (.int (own_at g (ps + (3 : Int32)) to1 (P + 3))), .val (.int ((((own_at g ps to1 (P + 0)) &&& (31 : Int32)) <<< ((6 : Int32) &&& 31)) ||| ((own_at g (ps + (1 : Int32)) to1 (P + 1)) &&& (63 : Int32))))] [(.int (0 : Int32))])
          exact Ends.retI X10 hx hlk hret (hb hby d4_95) (by decide) (by decide) (by rw [e10]; exact ⟨by rw [own_cl, if_neg c11, if_pos c54, if_neg c62, if_pos c87], rfl, rfl⟩)
        · have c87 : ¬ (((((own_at g ps to1 (P + 0)) &&& (31 : Int32)) <<< ((6 : Int32) &&& 31)) ||| ((own_at g (ps + (1 : Int32)) to1 (P + 1)) &&& (63 : Int32))) < (128 : Int32)) := own_lt.2 q
          show Ends p e below _ T10 (mkF m 90 #[.val (.ref ar), .val (.int ps), .val (.int to1), .val (.int (own_at g ps to1 (P + 0))), .val (.int (own_at g (ps + (1 : Int32)) to1 (P + 1))), .val (.int (own_at g (ps + (2 : Int32)) to1 (P + 2))), .val (.int (own_at g (ps + (3 : Int32)) to1 (P + 3))), .val (.int ((((own_at g ps to1 (P + 0)) &&& (31 : Int32)) <<< ((6 : Int32) &&& 31)) ||| ((own_at g (ps + (1 : Int32)) to1 (P + 1)) &&& (63 : Int32))))] [])
          refine Ends.by (fun _ => XS.iconst X10.here hx rfl (hb hby d4_90)) ?_
          show Ends p e below _ T10 (mkF m 91 #[.val (.ref ar), .val (.int ps), .val (.int to1), .val (.int (own_at g ps to1 (P + 0))), .val (.int (own_at g (ps + (1 : Int32)) to1 (P + 1))), .val (.int (own_at g (ps + (2 : Int32)) to1 (P + 2))), .val (.int (own_at g (ps + (3 : Int32)) to1 (P + 3))), .val (.int ((((own_at g ps to1 (P + 0)) &&& (31 : Int32)) <<< ((6 : Int32) &&& 31)) ||| ((own_at g (ps + (1 : Int32)) to1 (P + 1)) &&& (63 : Int32))))] [(.int (2 : Int32))])
          refine Ends.by (fun _ => XS.goto X10.here hx rfl (pc0 := 91) (pc' := 95) rfl (hb hby d4_91) (by decide) (by decide)) ?_
          show Ends p e below _ T10 (mkF m 95 #[.val (.ref ar), .val (.int ps), .val (.int to1), .val (.int (own_at g ps to1 (P + 0))), .val (.int (own_at g (ps + (1 : Int32)) to1 (P + 1))), .val (.int (own_at g (ps + (2 : Int32)) to1 (P + 2))), .val (.int (own_at g (ps + (3 : Int32)) to1 (P + 3))), .val (.int ((((own_at g ps to1 (P + 0)) &&& (31 : Int32)) <<< ((6 : Int32) &&& 31)) ||| ((own_at g (ps + (1 : Int32)) to1 (P + 1)) &&& (63 : Int32))))] [(.int (2 : Int32))])
          exact Ends.retI X10 hx hlk hret (hb hby d4_95) (by decide) (by decide) (by rw [e10]; exact ⟨by rw [own_cl, if_neg c11, if_pos c54, if_neg c62, if_neg c87], rfl, rfl⟩)
      · have c62 : (f_9 (own_at g (ps + (1 : Int32)) to1 (P + 1))) = (0 : Int32) := own_ne.2 q
        show Ends p e below _ T10 (mkF m 65 #[.val (.ref ar), .val (.int ps), .val (.int to1), .val (.int (own_at g ps to1 (P + 0))), .val (.int (own_at g (ps + (1 : Int32)) to1 (P + 1))), .val (.int (own_at g (ps + (2 : Int32)) to1 (P + 2))), .val (.int (own_at g (ps + (3 : Int32)) to1 (P + 3))), .unset] [])
        refine Ends.by (fun _ => XS.iconst X10.here hx rfl (hb hby d4_65)) ?_
        show Ends p e below _ T10 (mkF m 66 #[.val (.ref ar), .val (.int ps), .val (.int to1), .val (.int (own_at g ps to1 (P + 0))), .val (.int (own_at g (ps + (1 : Int32)) to1 (P + 1))), .val (.int (own_at g (ps + (2 : Int32)) to1 (P + 2))), .val (.int (own_at g (ps + (3 : Int32)) to1 (P + 3))), .unset] [(.int (0 : Int32))])
        exact Ends.retI X10 hx hlk hret (hb hby d4_66) (by decide) (by decide) (by rw [e10]; exact ⟨by rw [own_cl, if_neg c11, if_pos c54, if_pos c62], rfl, rfl⟩)
  · have c11 : (own_at g ps to1 (P + 0)) < (128 : Int32) := own_ge.2 q
    show Ends p e below _ T1 (mkF m 14 #[.val (.ref ar), .val (.int ps), .val (.int to1), .val (.int (own_at g ps to1 (P + 0))), .unset, .unset, .unset, .unset] [])
    refine Ends.by (fun _ => XS.iconst X1.here hx rfl (hb hby d4_14)) ?_
    show Ends p e below _ T1 (mkF m 15 #[.val (.ref ar), .val (.int ps), .val (.int to1), .val (.int (own_at g ps to1 (P + 0))), .unset, .unset, .unset, .unset] [(.int (1 : Int32))])
    exact Ends.retI X1 hx hlk hret (hb hby d4_15) (by decide) (by decide) (by rw [e1]; exact ⟨by rw [own_cl, if_pos c11], rfl, rfl⟩)
theorem own_pp {u : Int32} (h : ¬ u < (0 : Int32)) : u.toInt = ((u.toInt.toNat : Nat) : Int) := by
  rw [Int32.lt_iff_toInt_lt] at h; have : (0 : Int32).toInt = 0 := by decide
  omega
theorem own_ppT {u to1 : Int32} {T : Nat} (ht : to1.toInt = (T : Int)) (hT : T ≤ 5) (h : ¬ u < (0 : Int32)) (h2 : u < to1) : u.toInt.toNat < 5 := by
  have e := own_pp h
  rw [Int32.lt_iff_toInt_lt] at h2
  omega
theorem d3_0 : decode method_6_code 0 = .ok (.iload_n 1, 1) := by decide +kernel
theorem d3_1 : decode method_6_code 1 = .ok (.ifCond .lt 8, 3) := by decide +kernel
theorem d3_4 : decode method_6_code 4 = .ok (.iload_n 1, 1) := by decide +kernel
theorem d3_5 : decode method_6_code 5 = .ok (.iload_n 2, 1) := by decide +kernel
theorem d3_6 : decode method_6_code 6 = .ok (.if_icmp .lt 5, 3) := by decide +kernel
theorem d3_9 : decode method_6_code 9 = .ok (.iload_n 1, 1) := by decide +kernel
theorem d3_10 : decode method_6_code 10 = .ok (.ireturn, 1) := by decide +kernel
theorem d3_11 : decode method_6_code 11 = .ok (.aload_n 0, 1) := by decide +kernel
theorem d3_12 : decode method_6_code 12 = .ok (.iload_n 1, 1) := by decide +kernel
theorem d3_13 : decode method_6_code 13 = .ok (.iload_n 2, 1) := by decide +kernel
theorem d3_14 : decode method_6_code 14 = .ok (.invokestatic 39, 3) := by decide +kernel
theorem d3_17 : decode method_6_code 17 = .ok (.istore_n 3, 1) := by decide +kernel
theorem d3_18 : decode method_6_code 18 = .ok (.iload_n 3, 1) := by decide +kernel
theorem d3_19 : decode method_6_code 19 = .ok (.ifCond .ne 7, 3) := by decide +kernel
theorem d3_22 : decode method_6_code 22 = .ok (.iconst (-1), 1) := by decide +kernel
theorem d3_23 : decode method_6_code 23 = .ok (.goto 6, 3) := by decide +kernel
theorem d3_26 : decode method_6_code 26 = .ok (.iload_n 1, 1) := by decide +kernel
theorem d3_27 : decode method_6_code 27 = .ok (.iload_n 3, 1) := by decide +kernel
theorem d3_28 : decode method_6_code 28 = .ok (.iadd, 1) := by decide +kernel
theorem d3_29 : decode method_6_code 29 = .ok (.ireturn, 1) := by decide +kernel
theorem pd_3 : parseMethodDescriptor "([BII)I" = some ⟨[(.array .byte), .int, .int], some .int⟩ := by decide +kernel
theorem pf_3 : plainFor (⟨"com/example/vedette/vedette/records/Utf8WellFormedPinLaw", "next", "([BII)I"⟩ : MethodName) = true := plainFor_of_name (by first | (simp [plainName, overriddenIn, x]; done) | decide +kernel)
theorem ef_3 (m : MethodId) (ar : Addr) (ps : Int32) (to1 : Int32) : entryFrame m #[(.ref ar), (.int ps), (.int to1)] 4 = mkF m 0 #[.val (.ref ar), .val (.int ps), .val (.int to1), .unset] [] := by first | (simp [entryFrame, mkF, argsToLocals, Value.category]; done) | rfl
def own_next (g : Nat → Int32) (to1 ps : Int32) : Int32 :=
  if ps < (0 : Int32) then ps
  else if ps < to1 then if (own_cl g ps to1 ps.toInt.toNat) = (0 : Int32) then (-1 : Int32)
    else (ps + (own_cl g ps to1 ps.toInt.toNat))
  else ps
set_option maxRecDepth 65536 in
set_option maxHeartbeats 40000000 in
theorem con_3 (l : Launch) (Z : State) (a0 : Array Value) (hw : ∀ d ∈ tables_1, d.before a0 Z = true) (ar : Addr) (ps : Int32) (to1 : Int32) (T : Nat) (g : Nat → Int32) (h0 : Heap) (n0 : Nat) (Z0 : n0 ≤ h0.size) (A0 : Af Z h0 ar .byte 5 (fun q => .int (g q))) (ht : to1.toInt = (T : Int)) (hT : T ≤ 5) : Con l Z (⟨"com/example/vedette/vedette/records/Utf8WellFormedPinLaw", "next", "([BII)I"⟩ : MethodName) method_6_code 4 (some .int) ({ frames := 2, cells := 0, slots := 0, locals := 33 } : Room) #[(.ref ar), (.int ps), (.int to1)] h0 (Pure h0 (some (.int (own_next g to1 ps)))) := by
  refine Con.intro pf_3 ?_
  intro p e s m below meth c s₁ hx hby hml hown hnm hret hlk hZ X0 e0
  refine Ends.cast (ef_3 m ar ps to1) ?_
  have N0 := Fr.nil n0
  refine Ends.by (fun _ => XS.iloadN X0.here hx rfl (hb hby d3_0) rfl) ?_
  show Ends p e below _ s₁ (mkF m 1 #[.val (.ref ar), .val (.int ps), .val (.int to1), .unset] [(.int ps)])
  refine Ends.ifc X0 hx (hb hby d3_1) 9 (by decide) (by decide) (fun q => ?_) (fun q => ?_)
  · have c1 : ps < (0 : Int32) := own_lt.1 q
    show Ends p e below _ s₁ (mkF m 9 #[.val (.ref ar), .val (.int ps), .val (.int to1), .unset] [])
    refine Ends.by (fun _ => XS.iloadN X0.here hx rfl (hb hby d3_9) rfl) ?_
    show Ends p e below _ s₁ (mkF m 10 #[.val (.ref ar), .val (.int ps), .val (.int to1), .unset] [(.int ps)])
    exact Ends.retI X0 hx hlk hret (hb hby d3_10) (by decide) (by decide) (by rw [e0]; exact ⟨by rw [own_next, if_pos c1], rfl, rfl⟩)
  · have c1 : ¬ (ps < (0 : Int32)) := own_lt.2 q
    show Ends p e below _ s₁ (mkF m 4 #[.val (.ref ar), .val (.int ps), .val (.int to1), .unset] [])
    refine Ends.by (fun _ => XS.iloadN X0.here hx rfl (hb hby d3_4) rfl) ?_
    show Ends p e below _ s₁ (mkF m 5 #[.val (.ref ar), .val (.int ps), .val (.int to1), .unset] [(.int ps)])
    refine Ends.by (fun _ => XS.iloadN X0.here hx rfl (hb hby d3_5) rfl) ?_
    show Ends p e below _ s₁ (mkF m 6 #[.val (.ref ar), .val (.int ps), .val (.int to1), .unset] [(.int to1), (.int ps)])
    refine Ends.icmp X0 hx (hb hby d3_6) 11 (by decide) (by decide) (fun q => ?_) (fun q => ?_)
    · have c6 : ps < to1 := own_lt.1 q
      show Ends p e below _ s₁ (mkF m 11 #[.val (.ref ar), .val (.int ps), .val (.int to1), .unset] [])
      refine Ends.by (fun _ => XS.aloadN X0.here hx rfl (hb hby d3_11) rfl rfl) ?_
      show Ends p e below _ s₁ (mkF m 12 #[.val (.ref ar), .val (.int ps), .val (.int to1), .unset] [(.ref ar)])
      refine Ends.by (fun _ => XS.iloadN X0.here hx rfl (hb hby d3_12) rfl) ?_
      show Ends p e below _ s₁ (mkF m 13 #[.val (.ref ar), .val (.int ps), .val (.int to1), .unset] [(.int ps), (.ref ar)])
      refine Ends.by (fun _ => XS.iloadN X0.here hx rfl (hb hby d3_13) rfl) ?_
      show Ends p e below _ s₁ (mkF m 14 #[.val (.ref ar), .val (.int ps), .val (.int to1), .unset] [(.int to1), (.int ps), (.ref ar)])
      refine Ends.callS (argsL := [(.ref ar), (.int ps), (.int to1)]) (rest := []) X0 hx hZ hown (hw _ (List.mem_of_getElem? (i := 12) rfl)) (hw _ (List.mem_of_getElem? (i := 13) rfl)) (hw _ (List.mem_of_getElem? (i := 10) rfl)) (hw _ (List.mem_of_getElem? (i := 14) rfl)) (by decide) (con_4 l Z a0 hw ar ps to1 ps.toInt.toNat T g h0 n0 Z0 A0 (own_pp c1) (own_ppT ht hT c1 c6) ht hT) e0 (by rw [hml]; rfl) (hb hby d3_14) (lenOf pd_4 rfl) 0 (Nat.le_of_eq rfl) (by decide) (by decide) (by decide) (by decide) ?_
      intro v T1 L1 X1 hQ
      obtain ⟨rfl, e1, rfl⟩ := hQ
      rw [List.append_nil] at X1
      show Ends p e below _ T1 (mkF m 17 #[.val (.ref ar), .val (.int ps), .val (.int to1), .unset] [(.int (own_cl g ps to1 ps.toInt.toNat))])
      refine Ends.by (fun _ => XS.istoreN X1.here hx rfl (hb hby d3_17) rfl (l' := #[.val (.ref ar), .val (.int ps), .val (.int to1), .val (.int (own_cl g ps to1 ps.toInt.toNat))]) rfl) ?_
      show Ends p e below _ T1 (mkF m 18 #[.val (.ref ar), .val (.int ps), .val (.int to1), .val (.int (own_cl g ps to1 ps.toInt.toNat))] [])
      refine Ends.by (fun _ => XS.iloadN X1.here hx rfl (hb hby d3_18) rfl) ?_
      show Ends p e below _ T1 (mkF m 19 #[.val (.ref ar), .val (.int ps), .val (.int to1), .val (.int (own_cl g ps to1 ps.toInt.toNat))] [(.int (own_cl g ps to1 ps.toInt.toNat))])
      refine Ends.ifc X1 hx (hb hby d3_19) 26 (by decide) (by decide) (fun q => ?_) (fun q => ?_)
      · have c19 : ¬ ((own_cl g ps to1 ps.toInt.toNat) = (0 : Int32)) := own_ne.1 q
        show Ends p e below _ T1 (mkF m 26 #[.val (.ref ar), .val (.int ps), .val (.int to1), .val (.int (own_cl g ps to1 ps.toInt.toNat))] [])
        refine Ends.by (fun _ => XS.iloadN X1.here hx rfl (hb hby d3_26) rfl) ?_
        show Ends p e below _ T1 (mkF m 27 #[.val (.ref ar), .val (.int ps), .val (.int to1), .val (.int (own_cl g ps to1 ps.toInt.toNat))] [(.int ps)])
        refine Ends.by (fun _ => XS.iloadN X1.here hx rfl (hb hby d3_27) rfl) ?_
        show Ends p e below _ T1 (mkF m 28 #[.val (.ref ar), .val (.int ps), .val (.int to1), .val (.int (own_cl g ps to1 ps.toInt.toNat))] [(.int (own_cl g ps to1 ps.toInt.toNat)), (.int ps)])
        refine Ends.by (fun _ => XS.iadd X1.here hx rfl (hb hby d3_28) rfl) ?_
        show Ends p e below _ T1 (mkF m 29 #[.val (.ref ar), .val (.int ps), .val (.int to1), .val (.int (own_cl g ps to1 ps.toInt.toNat))] [(.int (ps + (own_cl g ps to1 ps.toInt.toNat)))])
        exact Ends.retI X1 hx hlk hret (hb hby d3_29) (by decide) (by decide) (by rw [e1]; exact ⟨by rw [own_next, if_neg c1, if_pos c6, if_neg c19], rfl, rfl⟩)
      · have c19 : (own_cl g ps to1 ps.toInt.toNat) = (0 : Int32) := own_ne.2 q
        show Ends p e below _ T1 (mkF m 22 #[.val (.ref ar), .val (.int ps), .val (.int to1), .val (.int (own_cl g ps to1 ps.toInt.toNat))] [])
        refine Ends.by (fun _ => XS.iconst X1.here hx rfl (hb hby d3_22)) ?_
        show Ends p e below _ T1 (mkF m 23 #[.val (.ref ar), .val (.int ps), .val (.int to1), .val (.int (own_cl g ps to1 ps.toInt.toNat))] [(.int (-1 : Int32))])
        refine Ends.by (fun _ => XS.goto X1.here hx rfl (pc0 := 23) (pc' := 29) rfl (hb hby d3_23) (by decide) (by decide)) ?_
        show Ends p e below _ T1 (mkF m 29 #[.val (.ref ar), .val (.int ps), .val (.int to1), .val (.int (own_cl g ps to1 ps.toInt.toNat))] [(.int (-1 : Int32))])
        exact Ends.retI X1 hx hlk hret (hb hby d3_29) (by decide) (by decide) (by rw [e1]; exact ⟨by rw [own_next, if_neg c1, if_pos c6, if_pos c19], rfl, rfl⟩)
    · have c6 : ¬ (ps < to1) := own_lt.2 q
      show Ends p e below _ s₁ (mkF m 9 #[.val (.ref ar), .val (.int ps), .val (.int to1), .unset] [])
      refine Ends.by (fun _ => XS.iloadN X0.here hx rfl (hb hby d3_9) rfl) ?_
      show Ends p e below _ s₁ (mkF m 10 #[.val (.ref ar), .val (.int ps), .val (.int to1), .unset] [(.int ps)])
      exact Ends.retI X0 hx hlk hret (hb hby d3_10) (by decide) (by decide) (by rw [e0]; exact ⟨by rw [own_next, if_neg c1, if_neg c6], rfl, rfl⟩)
theorem own_inc {u : Int32} {P : Nat} (hp : u.toInt = (P : Int)) (hP : P < 5) : (u + (1 : Int32)).toInt = ((P + 1 : Nat) : Int) := by
  have e := c_iadd u 1
  have r := rng32 (u + 1)
  have e1 : (1 : Int32).toInt = 1 := by decide
  omega
theorem d7_0 : decode prog_75_method_5_code 0 = .ok (.iload_n 1, 1) := by decide +kernel
theorem d7_1 : decode prog_75_method_5_code 1 = .ok (.istore_n 3, 1) := by decide +kernel
theorem d7_2 : decode prog_75_method_5_code 2 = .ok (.iload_n 3, 1) := by decide +kernel
theorem d7_3 : decode prog_75_method_5_code 3 = .ok (.iload_n 2, 1) := by decide +kernel
theorem d7_4 : decode prog_75_method_5_code 4 = .ok (.if_icmp .ge 15, 3) := by decide +kernel
theorem d7_7 : decode prog_75_method_5_code 7 = .ok (.aload_n 0, 1) := by decide +kernel
theorem d7_8 : decode prog_75_method_5_code 8 = .ok (.iload_n 3, 1) := by decide +kernel
theorem d7_9 : decode prog_75_method_5_code 9 = .ok (.baload, 1) := by decide +kernel
theorem d7_10 : decode prog_75_method_5_code 10 = .ok (.ifCond .lt 9, 3) := by decide +kernel
theorem d7_13 : decode prog_75_method_5_code 13 = .ok (.iinc 3 1, 3) := by decide +kernel
theorem d7_16 : decode prog_75_method_5_code 16 = .ok (.goto (-14), 3) := by decide +kernel
theorem d7_19 : decode prog_75_method_5_code 19 = .ok (.iload_n 3, 1) := by decide +kernel
theorem d7_20 : decode prog_75_method_5_code 20 = .ok (.ireturn, 1) := by decide +kernel
theorem pd_7 : parseMethodDescriptor "([BII)I" = some ⟨[(.array .byte), .int, .int], some .int⟩ := by decide +kernel
theorem pf_7 : plainFor (⟨"com/example/vedette/vedette/records/Utf8", "pastAscii", "([BII)I"⟩ : MethodName) = true := plainFor_of_name (by first | (simp [plainName, overriddenIn, x]; done) | decide +kernel)
theorem ef_7 (m : MethodId) (ar : Addr) (i : Int32) (to1 : Int32) : entryFrame m #[(.ref ar), (.int i), (.int to1)] 4 = mkF m 0 #[.val (.ref ar), .val (.int i), .val (.int to1), .unset] [] := by first | (simp [entryFrame, mkF, argsToLocals, Value.category]; done) | rfl
set_option maxRecDepth 65536 in
set_option maxHeartbeats 40000000 in
theorem con_7 (l : Launch) (Z : State) (a0 : Array Value) (hw : ∀ d ∈ tables_1, d.before a0 Z = true) (ar : Addr) (i : Int32) (to1 : Int32) (I T : Nat) (g : Nat → Int32) (h0 : Heap) (n0 : Nat) (Z0 : n0 ≤ h0.size) (A0 : Af Z h0 ar .byte 5 (fun q => .int (g q))) (hi : i.toInt = (I : Int)) (hIT : I ≤ T) (ht : to1.toInt = (T : Int)) (hT : T ≤ 5) : Con l Z (⟨"com/example/vedette/vedette/records/Utf8", "pastAscii", "([BII)I"⟩ : MethodName) prog_75_method_5_code 4 (some .int) ({ frames := 0, cells := 0, slots := 0, locals := 0 } : Room) #[(.ref ar), (.int i), (.int to1)] h0 (fun v h L => ∃ (z : Int32) (J : Nat), v = some (.int z) ∧ z.toInt = (J : Int) ∧ I ≤ J ∧ J ≤ T ∧ (∀ q, I ≤ q → q < J → ¬ g q < 0) ∧ (J < T → g J < 0) ∧ h = h0 ∧ L = []) := by
  refine Con.intro pf_7 ?_
  intro p e s m below meth c s₁ hx hby hml hown hnm hret hlk hZ X0 e0
  refine Ends.cast (ef_7 m ar i to1) ?_
  have N0 := Fr.nil n0
  refine Ends.by (fun _ => XS.iloadN X0.here hx rfl (hb hby d7_0) rfl) ?_
  show Ends p e below _ s₁ (mkF m 1 #[.val (.ref ar), .val (.int i), .val (.int to1), .unset] [(.int i)])
  refine Ends.by (fun _ => XS.istoreN X0.here hx rfl (hb hby d7_1) rfl (l' := #[.val (.ref ar), .val (.int i), .val (.int to1), .val (.int i)]) rfl) ?_
  show Ends p e below _ s₁ (mkF m 2 #[.val (.ref ar), .val (.int i), .val (.int to1), .val (.int i)] [])
  have loop : ∀ (k : Nat) (i3 : Int32) (I3 : Nat), T - I3 = k → i3.toInt = (I3 : Int) → I ≤ I3 → I3 ≤ T → (∀ q, I ≤ q → q < I3 → ¬ g q < 0) → Ends p e below (Fini s (fun v h L => ∃ (z : Int32) (J : Nat), v = some (.int z) ∧ z.toInt = (J : Int) ∧ I ≤ J ∧ J ≤ T ∧ (∀ q, I ≤ q → q < J → ¬ g q < 0) ∧ (J < T → g J < 0) ∧ h = h0 ∧ L = []) 0 0) s₁ (mkF m 2 #[.val (.ref ar), .val (.int i), .val (.int to1), .val (.int i3)] []) := by
    intro k
    induction k using Nat.strongRecOn with
    | _ k ih =>
      intro i3 I3 hk h3 hI hJ ha
      show Ends p e below _ s₁ (mkF m 2 #[.val (.ref ar), .val (.int i), .val (.int to1), .val (.int i3)] [])
      refine Ends.by (fun _ => XS.iloadN X0.here hx rfl (hb hby d7_2) rfl) ?_
      show Ends p e below _ s₁ (mkF m 3 #[.val (.ref ar), .val (.int i), .val (.int to1), .val (.int i3)] [(.int i3)])
      refine Ends.by (fun _ => XS.iloadN X0.here hx rfl (hb hby d7_3) rfl) ?_
      show Ends p e below _ s₁ (mkF m 4 #[.val (.ref ar), .val (.int i), .val (.int to1), .val (.int i3)] [(.int to1), (.int i3)])
      refine Ends.icmp X0 hx (hb hby d7_4) 19 (by decide) (by decide) (fun q => ?_) (fun q => ?_)
      · have c4 : ¬ (i3 < to1) := own_ge.1 q
        show Ends p e below _ s₁ (mkF m 19 #[.val (.ref ar), .val (.int i), .val (.int to1), .val (.int i3)] [])
        refine Ends.by (fun _ => XS.iloadN X0.here hx rfl (hb hby d7_19) rfl) ?_
        show Ends p e below _ s₁ (mkF m 20 #[.val (.ref ar), .val (.int i), .val (.int to1), .val (.int i3)] [(.int i3)])
        exact Ends.retI X0 hx hlk hret (hb hby d7_20) (by decide) (by decide) (by rw [e0]; exact ⟨i3, I3, rfl, h3, hI, hJ, ha, (fun z => absurd (by rw [Int32.lt_iff_toInt_lt]; omega) c4), rfl, rfl⟩)
      · have c4 : i3 < to1 := own_ge.2 q
        show Ends p e below _ s₁ (mkF m 7 #[.val (.ref ar), .val (.int i), .val (.int to1), .val (.int i3)] [])
        refine Ends.by (fun _ => XS.aloadN X0.here hx rfl (hb hby d7_7) rfl rfl) ?_
        show Ends p e below _ s₁ (mkF m 8 #[.val (.ref ar), .val (.int i), .val (.int to1), .val (.int i3)] [(.ref ar)])
        refine Ends.by (fun _ => XS.iloadN X0.here hx rfl (hb hby d7_8) rfl) ?_
        show Ends p e below _ s₁ (mkF m 9 #[.val (.ref ar), .val (.int i), .val (.int to1), .val (.int i3)] [(.int i3), (.ref ar)])
        refine Ends.ldB X0 hx hZ e0 A0 (k := I3) h3 (by rw [Int32.lt_iff_toInt_lt] at c4; omega) (v := (.int (g I3))) rfl (hb hby d7_9) ?_
        show Ends p e below _ s₁ (mkF m 10 #[.val (.ref ar), .val (.int i), .val (.int to1), .val (.int i3)] [(.int (g I3))])
        refine Ends.ifc X0 hx (hb hby d7_10) 19 (by decide) (by decide) (fun q => ?_) (fun q => ?_)
        · have c10 : (g I3) < (0 : Int32) := own_lt.1 q
          show Ends p e below _ s₁ (mkF m 19 #[.val (.ref ar), .val (.int i), .val (.int to1), .val (.int i3)] [])
          refine Ends.by (fun _ => XS.iloadN X0.here hx rfl (hb hby d7_19) rfl) ?_
          show Ends p e below _ s₁ (mkF m 20 #[.val (.ref ar), .val (.int i), .val (.int to1), .val (.int i3)] [(.int i3)])
          exact Ends.retI X0 hx hlk hret (hb hby d7_20) (by decide) (by decide) (by rw [e0]; exact ⟨i3, I3, rfl, h3, hI, hJ, ha, (fun z => c10), rfl, rfl⟩)
        · have c10 : ¬ ((g I3) < (0 : Int32)) := own_lt.2 q
          show Ends p e below _ s₁ (mkF m 13 #[.val (.ref ar), .val (.int i), .val (.int to1), .val (.int i3)] [])
          refine Ends.by (fun _ => XS.iinc X0.here hx rfl (hb hby d7_13) rfl (l' := #[.val (.ref ar), .val (.int i), .val (.int to1), .val (.int (i3 + (1 : Int32)))]) rfl) ?_
          show Ends p e below _ s₁ (mkF m 16 #[.val (.ref ar), .val (.int i), .val (.int to1), .val (.int (i3 + (1 : Int32)))] [])
          refine Ends.by (fun _ => XS.goto X0.here hx rfl (pc0 := 16) (pc' := 2) rfl (hb hby d7_16) (by decide) (by decide)) ?_
          show Ends p e below _ s₁ (mkF m 2 #[.val (.ref ar), .val (.int i), .val (.int to1), .val (.int (i3 + (1 : Int32)))] [])
          exact ih (T - (I3 + 1)) (by rw [Int32.lt_iff_toInt_lt] at c4; omega) _ (I3 + 1) rfl (own_inc h3 (by rw [Int32.lt_iff_toInt_lt] at c4; omega)) (by omega) (by rw [Int32.lt_iff_toInt_lt] at c4; omega) (fun q h1 h2 => by by_cases z : q = I3; (rw [z]; exact c10); exact ha q h1 (by omega))
  exact loop _ i I rfl hi (Nat.le_refl _) hIT (fun q h1 h2 => by omega)
theorem own_inc3 {u : Int32} {P : Nat} (h : u.toInt = ((P + 2 : Nat) : Int)) (hP : P < 5) : (u + (1 : Int32)).toInt = ((P + 3 : Nat) : Int) := by
  have e := c_iadd u 1
  have r := rng32 (u + 1)
  have e1 : (1 : Int32).toInt = 1 := by decide
  omega
theorem own_inc4 {u : Int32} {P : Nat} (h : u.toInt = ((P + 2 : Nat) : Int)) (hP : P < 5) : (u + (1 : Int32) + (1 : Int32)).toInt = ((P + 4 : Nat) : Int) := by
  have h3 := own_inc3 h hP
  have e := c_iadd (u + 1) 1
  have r := rng32 (u + 1 + 1)
  have e1 : (1 : Int32).toInt = 1 := by decide
  omega
theorem d8_0 : decode prog_75_method_6_code 0 = .ok (.aload_n 0, 1) := by decide +kernel
theorem d8_1 : decode prog_75_method_6_code 1 = .ok (.iload_n 1, 1) := by decide +kernel
theorem d8_2 : decode prog_75_method_6_code 2 = .ok (.baload, 1) := by decide +kernel
theorem d8_3 : decode prog_75_method_6_code 3 = .ok (.sipush 255, 3) := by decide +kernel
theorem d8_6 : decode prog_75_method_6_code 6 = .ok (.iand, 1) := by decide +kernel
theorem d8_7 : decode prog_75_method_6_code 7 = .ok (.istore_n 3, 1) := by decide +kernel
theorem d8_8 : decode prog_75_method_6_code 8 = .ok (.iconst 0, 1) := by decide +kernel
theorem d8_9 : decode prog_75_method_6_code 9 = .ok (.istore 4, 2) := by decide +kernel
theorem d8_11 : decode prog_75_method_6_code 11 = .ok (.sipush 128, 3) := by decide +kernel
theorem d8_14 : decode prog_75_method_6_code 14 = .ok (.istore 5, 2) := by decide +kernel
theorem d8_16 : decode prog_75_method_6_code 16 = .ok (.sipush 191, 3) := by decide +kernel
theorem d8_19 : decode prog_75_method_6_code 19 = .ok (.istore 6, 2) := by decide +kernel
theorem d8_21 : decode prog_75_method_6_code 21 = .ok (.iload_n 3, 1) := by decide +kernel
theorem d8_22 : decode prog_75_method_6_code 22 = .ok (.sipush 194, 3) := by decide +kernel
theorem d8_25 : decode prog_75_method_6_code 25 = .ok (.if_icmp .lt 16, 3) := by decide +kernel
theorem d8_28 : decode prog_75_method_6_code 28 = .ok (.iload_n 3, 1) := by decide +kernel
theorem d8_29 : decode prog_75_method_6_code 29 = .ok (.sipush 223, 3) := by decide +kernel
theorem d8_32 : decode prog_75_method_6_code 32 = .ok (.if_icmp .gt 9, 3) := by decide +kernel
theorem d8_35 : decode prog_75_method_6_code 35 = .ok (.iconst 2, 1) := by decide +kernel
theorem d8_36 : decode prog_75_method_6_code 36 = .ok (.istore 4, 2) := by decide +kernel
theorem d8_38 : decode prog_75_method_6_code 38 = .ok (.goto 108, 3) := by decide +kernel
theorem d8_41 : decode prog_75_method_6_code 41 = .ok (.iload_n 3, 1) := by decide +kernel
theorem d8_42 : decode prog_75_method_6_code 42 = .ok (.sipush 224, 3) := by decide +kernel
theorem d8_45 : decode prog_75_method_6_code 45 = .ok (.if_icmp .lt 50, 3) := by decide +kernel
theorem d8_48 : decode prog_75_method_6_code 48 = .ok (.iload_n 3, 1) := by decide +kernel
theorem d8_49 : decode prog_75_method_6_code 49 = .ok (.sipush 239, 3) := by decide +kernel
theorem d8_52 : decode prog_75_method_6_code 52 = .ok (.if_icmp .gt 43, 3) := by decide +kernel
theorem d8_55 : decode prog_75_method_6_code 55 = .ok (.iconst 3, 1) := by decide +kernel
theorem d8_56 : decode prog_75_method_6_code 56 = .ok (.istore 4, 2) := by decide +kernel
theorem d8_58 : decode prog_75_method_6_code 58 = .ok (.iload_n 3, 1) := by decide +kernel
theorem d8_59 : decode prog_75_method_6_code 59 = .ok (.sipush 224, 3) := by decide +kernel
theorem d8_62 : decode prog_75_method_6_code 62 = .ok (.if_icmp .ne 9, 3) := by decide +kernel
theorem d8_65 : decode prog_75_method_6_code 65 = .ok (.sipush 160, 3) := by decide +kernel
theorem d8_68 : decode prog_75_method_6_code 68 = .ok (.goto 5, 3) := by decide +kernel
theorem d8_71 : decode prog_75_method_6_code 71 = .ok (.iload 5, 2) := by decide +kernel
theorem d8_73 : decode prog_75_method_6_code 73 = .ok (.istore 5, 2) := by decide +kernel
theorem d8_75 : decode prog_75_method_6_code 75 = .ok (.iload_n 3, 1) := by decide +kernel
theorem d8_76 : decode prog_75_method_6_code 76 = .ok (.sipush 237, 3) := by decide +kernel
theorem d8_79 : decode prog_75_method_6_code 79 = .ok (.if_icmp .ne 9, 3) := by decide +kernel
theorem d8_82 : decode prog_75_method_6_code 82 = .ok (.sipush 159, 3) := by decide +kernel
theorem d8_85 : decode prog_75_method_6_code 85 = .ok (.goto 5, 3) := by decide +kernel
theorem d8_88 : decode prog_75_method_6_code 88 = .ok (.iload 6, 2) := by decide +kernel
theorem d8_90 : decode prog_75_method_6_code 90 = .ok (.istore 6, 2) := by decide +kernel
theorem d8_92 : decode prog_75_method_6_code 92 = .ok (.goto 54, 3) := by decide +kernel
theorem d8_95 : decode prog_75_method_6_code 95 = .ok (.iload_n 3, 1) := by decide +kernel
theorem d8_96 : decode prog_75_method_6_code 96 = .ok (.sipush 240, 3) := by decide +kernel
theorem d8_99 : decode prog_75_method_6_code 99 = .ok (.if_icmp .lt 47, 3) := by decide +kernel
theorem d8_102 : decode prog_75_method_6_code 102 = .ok (.iload_n 3, 1) := by decide +kernel
theorem d8_103 : decode prog_75_method_6_code 103 = .ok (.sipush 244, 3) := by decide +kernel
theorem d8_106 : decode prog_75_method_6_code 106 = .ok (.if_icmp .gt 40, 3) := by decide +kernel
theorem d8_109 : decode prog_75_method_6_code 109 = .ok (.iconst 4, 1) := by decide +kernel
theorem d8_110 : decode prog_75_method_6_code 110 = .ok (.istore 4, 2) := by decide +kernel
theorem d8_112 : decode prog_75_method_6_code 112 = .ok (.iload_n 3, 1) := by decide +kernel
theorem d8_113 : decode prog_75_method_6_code 113 = .ok (.sipush 240, 3) := by decide +kernel
theorem d8_116 : decode prog_75_method_6_code 116 = .ok (.if_icmp .ne 9, 3) := by decide +kernel
theorem d8_119 : decode prog_75_method_6_code 119 = .ok (.sipush 144, 3) := by decide +kernel
theorem d8_122 : decode prog_75_method_6_code 122 = .ok (.goto 5, 3) := by decide +kernel
theorem d8_125 : decode prog_75_method_6_code 125 = .ok (.iload 5, 2) := by decide +kernel
theorem d8_127 : decode prog_75_method_6_code 127 = .ok (.istore 5, 2) := by decide +kernel
theorem d8_129 : decode prog_75_method_6_code 129 = .ok (.iload_n 3, 1) := by decide +kernel
theorem d8_130 : decode prog_75_method_6_code 130 = .ok (.sipush 244, 3) := by decide +kernel
theorem d8_133 : decode prog_75_method_6_code 133 = .ok (.if_icmp .ne 9, 3) := by decide +kernel
theorem d8_136 : decode prog_75_method_6_code 136 = .ok (.sipush 143, 3) := by decide +kernel
theorem d8_139 : decode prog_75_method_6_code 139 = .ok (.goto 5, 3) := by decide +kernel
theorem d8_142 : decode prog_75_method_6_code 142 = .ok (.iload 6, 2) := by decide +kernel
theorem d8_144 : decode prog_75_method_6_code 144 = .ok (.istore 6, 2) := by decide +kernel
theorem d8_146 : decode prog_75_method_6_code 146 = .ok (.iload 4, 2) := by decide +kernel
theorem d8_148 : decode prog_75_method_6_code 148 = .ok (.ifCond .eq 39, 3) := by decide +kernel
theorem d8_151 : decode prog_75_method_6_code 151 = .ok (.iload_n 1, 1) := by decide +kernel
theorem d8_152 : decode prog_75_method_6_code 152 = .ok (.iload 4, 2) := by decide +kernel
theorem d8_154 : decode prog_75_method_6_code 154 = .ok (.iadd, 1) := by decide +kernel
theorem d8_155 : decode prog_75_method_6_code 155 = .ok (.iload_n 2, 1) := by decide +kernel
theorem d8_156 : decode prog_75_method_6_code 156 = .ok (.if_icmp .gt 31, 3) := by decide +kernel
theorem d8_159 : decode prog_75_method_6_code 159 = .ok (.aload_n 0, 1) := by decide +kernel
theorem d8_160 : decode prog_75_method_6_code 160 = .ok (.iload_n 1, 1) := by decide +kernel
theorem d8_161 : decode prog_75_method_6_code 161 = .ok (.iconst 1, 1) := by decide +kernel
theorem d8_162 : decode prog_75_method_6_code 162 = .ok (.iadd, 1) := by decide +kernel
theorem d8_163 : decode prog_75_method_6_code 163 = .ok (.baload, 1) := by decide +kernel
theorem d8_164 : decode prog_75_method_6_code 164 = .ok (.sipush 255, 3) := by decide +kernel
theorem d8_167 : decode prog_75_method_6_code 167 = .ok (.iand, 1) := by decide +kernel
theorem d8_168 : decode prog_75_method_6_code 168 = .ok (.iload 5, 2) := by decide +kernel
theorem d8_170 : decode prog_75_method_6_code 170 = .ok (.if_icmp .lt 17, 3) := by decide +kernel
theorem d8_173 : decode prog_75_method_6_code 173 = .ok (.aload_n 0, 1) := by decide +kernel
theorem d8_174 : decode prog_75_method_6_code 174 = .ok (.iload_n 1, 1) := by decide +kernel
theorem d8_175 : decode prog_75_method_6_code 175 = .ok (.iconst 1, 1) := by decide +kernel
theorem d8_176 : decode prog_75_method_6_code 176 = .ok (.iadd, 1) := by decide +kernel
theorem d8_177 : decode prog_75_method_6_code 177 = .ok (.baload, 1) := by decide +kernel
theorem d8_178 : decode prog_75_method_6_code 178 = .ok (.sipush 255, 3) := by decide +kernel
theorem d8_181 : decode prog_75_method_6_code 181 = .ok (.iand, 1) := by decide +kernel
theorem d8_182 : decode prog_75_method_6_code 182 = .ok (.iload 6, 2) := by decide +kernel
theorem d8_184 : decode prog_75_method_6_code 184 = .ok (.if_icmp .le 5, 3) := by decide +kernel
theorem d8_187 : decode prog_75_method_6_code 187 = .ok (.iconst 0, 1) := by decide +kernel
theorem d8_188 : decode prog_75_method_6_code 188 = .ok (.ireturn, 1) := by decide +kernel
theorem d8_189 : decode prog_75_method_6_code 189 = .ok (.iload_n 1, 1) := by decide +kernel
theorem d8_190 : decode prog_75_method_6_code 190 = .ok (.iconst 2, 1) := by decide +kernel
theorem d8_191 : decode prog_75_method_6_code 191 = .ok (.iadd, 1) := by decide +kernel
theorem d8_192 : decode prog_75_method_6_code 192 = .ok (.istore 7, 2) := by decide +kernel
theorem d8_194 : decode prog_75_method_6_code 194 = .ok (.iload 7, 2) := by decide +kernel
theorem d8_196 : decode prog_75_method_6_code 196 = .ok (.iload_n 1, 1) := by decide +kernel
theorem d8_197 : decode prog_75_method_6_code 197 = .ok (.iload 4, 2) := by decide +kernel
theorem d8_199 : decode prog_75_method_6_code 199 = .ok (.iadd, 1) := by decide +kernel
theorem d8_200 : decode prog_75_method_6_code 200 = .ok (.if_icmp .ge 25, 3) := by decide +kernel
theorem d8_203 : decode prog_75_method_6_code 203 = .ok (.aload_n 0, 1) := by decide +kernel
theorem d8_204 : decode prog_75_method_6_code 204 = .ok (.iload 7, 2) := by decide +kernel
theorem d8_206 : decode prog_75_method_6_code 206 = .ok (.baload, 1) := by decide +kernel
theorem d8_207 : decode prog_75_method_6_code 207 = .ok (.sipush 192, 3) := by decide +kernel
theorem d8_210 : decode prog_75_method_6_code 210 = .ok (.iand, 1) := by decide +kernel
theorem d8_211 : decode prog_75_method_6_code 211 = .ok (.sipush 128, 3) := by decide +kernel
theorem d8_214 : decode prog_75_method_6_code 214 = .ok (.if_icmp .eq 5, 3) := by decide +kernel
theorem d8_217 : decode prog_75_method_6_code 217 = .ok (.iconst 0, 1) := by decide +kernel
theorem d8_218 : decode prog_75_method_6_code 218 = .ok (.ireturn, 1) := by decide +kernel
theorem d8_219 : decode prog_75_method_6_code 219 = .ok (.iinc 7 1, 3) := by decide +kernel
theorem d8_222 : decode prog_75_method_6_code 222 = .ok (.goto (-28), 3) := by decide +kernel
theorem d8_225 : decode prog_75_method_6_code 225 = .ok (.iload 4, 2) := by decide +kernel
theorem d8_227 : decode prog_75_method_6_code 227 = .ok (.ireturn, 1) := by decide +kernel
theorem pd_8 : parseMethodDescriptor "([BII)I" = some ⟨[(.array .byte), .int, .int], some .int⟩ := by decide +kernel
theorem pf_8 : plainFor (⟨"com/example/vedette/vedette/records/Utf8", "sequence", "([BII)I"⟩ : MethodName) = true := plainFor_of_name (by first | (simp [plainName, overriddenIn, x]; done) | decide +kernel)
theorem ef_8 (m : MethodId) (ar : Addr) (ps : Int32) (to1 : Int32) : entryFrame m #[(.ref ar), (.int ps), (.int to1)] 8 = mkF m 0 #[.val (.ref ar), .val (.int ps), .val (.int to1), .unset, .unset, .unset, .unset, .unset] [] := by first | (simp [entryFrame, mkF, argsToLocals, Value.category]; done) | rfl
def own_t2 (g : Nat → Int32) (ps to1 : Int32) (P : Nat) (lo hi : Int32) : Int32 :=
  if to1 < (ps + (2 : Int32)) then (0 : Int32)
  else if ((g (P + 1)) &&& (255 : Int32)) < lo then (0 : Int32)
  else if hi < ((g (P + 1)) &&& (255 : Int32)) then (0 : Int32)
  else (2 : Int32)
def own_t3 (g : Nat → Int32) (ps to1 : Int32) (P : Nat) (lo hi : Int32) : Int32 :=
  if to1 < (ps + (3 : Int32)) then (0 : Int32)
  else if ((g (P + 1)) &&& (255 : Int32)) < lo then (0 : Int32)
  else if hi < ((g (P + 1)) &&& (255 : Int32)) then (0 : Int32)
  else if ((g (P + 2)) &&& (192 : Int32)) = (128 : Int32) then (3 : Int32)
  else (0 : Int32)
def own_t4 (g : Nat → Int32) (ps to1 : Int32) (P : Nat) (lo hi : Int32) : Int32 :=
  if to1 < (ps + (4 : Int32)) then (0 : Int32)
  else if ((g (P + 1)) &&& (255 : Int32)) < lo then (0 : Int32)
  else if hi < ((g (P + 1)) &&& (255 : Int32)) then (0 : Int32)
  else if ((g (P + 2)) &&& (192 : Int32)) = (128 : Int32) then if ((g (P + 3)) &&& (192 : Int32)) = (128 : Int32) then (4 : Int32)
    else (0 : Int32)
  else (0 : Int32)
def own_sq (g : Nat → Int32) (ps to1 : Int32) (P : Nat) : Int32 :=
  if ((g P) &&& (255 : Int32)) < (194 : Int32) then if ((g P) &&& (255 : Int32)) < (224 : Int32) then if ((g P) &&& (255 : Int32)) < (240 : Int32) then (0 : Int32)
      else if (244 : Int32) < ((g P) &&& (255 : Int32)) then (0 : Int32)
      else if ((g P) &&& (255 : Int32)) = (240 : Int32) then if ((g P) &&& (255 : Int32)) = (244 : Int32) then (own_t4 g ps to1 P (144 : Int32) (143 : Int32))
        else (own_t4 g ps to1 P (144 : Int32) (191 : Int32))
      else if ((g P) &&& (255 : Int32)) = (244 : Int32) then (own_t4 g ps to1 P (128 : Int32) (143 : Int32))
      else (own_t4 g ps to1 P (128 : Int32) (191 : Int32))
    else if (239 : Int32) < ((g P) &&& (255 : Int32)) then if ((g P) &&& (255 : Int32)) < (240 : Int32) then (0 : Int32)
      else if (244 : Int32) < ((g P) &&& (255 : Int32)) then (0 : Int32)
      else if ((g P) &&& (255 : Int32)) = (240 : Int32) then if ((g P) &&& (255 : Int32)) = (244 : Int32) then (own_t4 g ps to1 P (144 : Int32) (143 : Int32))
        else (own_t4 g ps to1 P (144 : Int32) (191 : Int32))
      else if ((g P) &&& (255 : Int32)) = (244 : Int32) then (own_t4 g ps to1 P (128 : Int32) (143 : Int32))
      else (own_t4 g ps to1 P (128 : Int32) (191 : Int32))
    else if ((g P) &&& (255 : Int32)) = (224 : Int32) then if ((g P) &&& (255 : Int32)) = (237 : Int32) then (own_t3 g ps to1 P (160 : Int32) (159 : Int32))
      else (own_t3 g ps to1 P (160 : Int32) (191 : Int32))
    else if ((g P) &&& (255 : Int32)) = (237 : Int32) then (own_t3 g ps to1 P (128 : Int32) (159 : Int32))
    else (own_t3 g ps to1 P (128 : Int32) (191 : Int32))
  else if (223 : Int32) < ((g P) &&& (255 : Int32)) then if ((g P) &&& (255 : Int32)) < (224 : Int32) then if ((g P) &&& (255 : Int32)) < (240 : Int32) then (0 : Int32)
      else if (244 : Int32) < ((g P) &&& (255 : Int32)) then (0 : Int32)
      else if ((g P) &&& (255 : Int32)) = (240 : Int32) then if ((g P) &&& (255 : Int32)) = (244 : Int32) then (own_t4 g ps to1 P (144 : Int32) (143 : Int32))
        else (own_t4 g ps to1 P (144 : Int32) (191 : Int32))
      else if ((g P) &&& (255 : Int32)) = (244 : Int32) then (own_t4 g ps to1 P (128 : Int32) (143 : Int32))
      else (own_t4 g ps to1 P (128 : Int32) (191 : Int32))
    else if (239 : Int32) < ((g P) &&& (255 : Int32)) then if ((g P) &&& (255 : Int32)) < (240 : Int32) then (0 : Int32)
      else if (244 : Int32) < ((g P) &&& (255 : Int32)) then (0 : Int32)
      else if ((g P) &&& (255 : Int32)) = (240 : Int32) then if ((g P) &&& (255 : Int32)) = (244 : Int32) then (own_t4 g ps to1 P (144 : Int32) (143 : Int32))
        else (own_t4 g ps to1 P (144 : Int32) (191 : Int32))
      else if ((g P) &&& (255 : Int32)) = (244 : Int32) then (own_t4 g ps to1 P (128 : Int32) (143 : Int32))
      else (own_t4 g ps to1 P (128 : Int32) (191 : Int32))
    else if ((g P) &&& (255 : Int32)) = (224 : Int32) then if ((g P) &&& (255 : Int32)) = (237 : Int32) then (own_t3 g ps to1 P (160 : Int32) (159 : Int32))
      else (own_t3 g ps to1 P (160 : Int32) (191 : Int32))
    else if ((g P) &&& (255 : Int32)) = (237 : Int32) then (own_t3 g ps to1 P (128 : Int32) (159 : Int32))
    else (own_t3 g ps to1 P (128 : Int32) (191 : Int32))
  else (own_t2 g ps to1 P (128 : Int32) (191 : Int32))
set_option maxRecDepth 65536 in
set_option maxHeartbeats 40000000 in
theorem con_8 (l : Launch) (Z : State) (a0 : Array Value) (hw : ∀ d ∈ tables_1, d.before a0 Z = true) (ar : Addr) (ps : Int32) (to1 : Int32) (P T : Nat) (g : Nat → Int32) (h0 : Heap) (n0 : Nat) (Z0 : n0 ≤ h0.size) (A0 : Af Z h0 ar .byte 5 (fun q => .int (g q))) (hp : ps.toInt = (P : Int)) (hP : P < 5) (ht : to1.toInt = (T : Int)) (hT : T ≤ 5) : Con l Z (⟨"com/example/vedette/vedette/records/Utf8", "sequence", "([BII)I"⟩ : MethodName) prog_75_method_6_code 8 (some .int) ({ frames := 0, cells := 0, slots := 0, locals := 0 } : Room) #[(.ref ar), (.int ps), (.int to1)] h0 (Pure h0 (some (.int (own_sq g ps to1 P)))) := by
  refine Con.intro pf_8 ?_
  intro p e s m below meth c s₁ hx hby hml hown hnm hret hlk hZ X0 e0
  refine Ends.cast (ef_8 m ar ps to1) ?_
  have N0 := Fr.nil n0
  have f1_ := own_offp hp hP (1 : Int32) 1 (by decide) (by decide)
  have f2_ := own_offp hp hP (2 : Int32) 2 (by decide) (by decide)
  have f3_ := own_offp hp hP (3 : Int32) 3 (by decide) (by decide)
  have f4_ := own_offp hp hP (4 : Int32) 4 (by decide) (by decide)
  have f21_ := own_inc3 f2_ hP
  have f211_ := own_inc4 f2_ hP
  refine Ends.by (fun _ => XS.aloadN X0.here hx rfl (hb hby d8_0) rfl rfl) ?_
  show Ends p e below _ s₁ (mkF m 1 #[.val (.ref ar), .val (.int ps), .val (.int to1), .unset, .unset, .unset, .unset, .unset] [(.ref ar)])
  refine Ends.by (fun _ => XS.iloadN X0.here hx rfl (hb hby d8_1) rfl) ?_
  show Ends p e below _ s₁ (mkF m 2 #[.val (.ref ar), .val (.int ps), .val (.int to1), .unset, .unset, .unset, .unset, .unset] [(.int ps), (.ref ar)])
  refine Ends.ldB X0 hx hZ e0 A0 (k := P) hp hP (v := (.int (g P))) rfl (hb hby d8_2) ?_
  show Ends p e below _ s₁ (mkF m 3 #[.val (.ref ar), .val (.int ps), .val (.int to1), .unset, .unset, .unset, .unset, .unset] [(.int (g P))])
  refine Ends.by (fun _ => XS.sipush X0.here hx rfl (hb hby d8_3)) ?_
  show Ends p e below _ s₁ (mkF m 6 #[.val (.ref ar), .val (.int ps), .val (.int to1), .unset, .unset, .unset, .unset, .unset] [(.int (255 : Int32)), (.int (g P))])
  refine Ends.by (fun _ => XS.iand X0.here hx rfl (hb hby d8_6) rfl) ?_
  show Ends p e below _ s₁ (mkF m 7 #[.val (.ref ar), .val (.int ps), .val (.int to1), .unset, .unset, .unset, .unset, .unset] [(.int ((g P) &&& (255 : Int32)))])
  refine Ends.by (fun _ => XS.istoreN X0.here hx rfl (hb hby d8_7) rfl (l' := #[.val (.ref ar), .val (.int ps), .val (.int to1), .val (.int ((g P) &&& (255 : Int32))), .unset, .unset, .unset, .unset]) rfl) ?_
  show Ends p e below _ s₁ (mkF m 8 #[.val (.ref ar), .val (.int ps), .val (.int to1), .val (.int ((g P) &&& (255 : Int32))), .unset, .unset, .unset, .unset] [])
  refine Ends.by (fun _ => XS.iconst X0.here hx rfl (hb hby d8_8)) ?_
  show Ends p e below _ s₁ (mkF m 9 #[.val (.ref ar), .val (.int ps), .val (.int to1), .val (.int ((g P) &&& (255 : Int32))), .unset, .unset, .unset, .unset] [(.int (0 : Int32))])
  refine Ends.by (fun _ => XS.istore X0.here hx rfl (hb hby d8_9) rfl (l' := #[.val (.ref ar), .val (.int ps), .val (.int to1), .val (.int ((g P) &&& (255 : Int32))), .val (.int (0 : Int32)), .unset, .unset, .unset]) rfl) ?_
  show Ends p e below _ s₁ (mkF m 11 #[.val (.ref ar), .val (.int ps), .val (.int to1), .val (.int ((g P) &&& (255 : Int32))), .val (.int (0 : Int32)), .unset, .unset, .unset] [])
  refine Ends.by (fun _ => XS.sipush X0.here hx rfl (hb hby d8_11)) ?_
  show Ends p e below _ s₁ (mkF m 14 #[.val (.ref ar), .val (.int ps), .val (.int to1), .val (.int ((g P) &&& (255 : Int32))), .val (.int (0 : Int32)), .unset, .unset, .unset] [(.int (128 : Int32))])
  refine Ends.by (fun _ => XS.istore X0.here hx rfl (hb hby d8_14) rfl (l' := #[.val (.ref ar), .val (.int ps), .val (.int to1), .val (.int ((g P) &&& (255 : Int32))), .val (.int (0 : Int32)), .val (.int (128 : Int32)), .unset, .unset]) rfl) ?_
  show Ends p e below _ s₁ (mkF m 16 #[.val (.ref ar), .val (.int ps), .val (.int to1), .val (.int ((g P) &&& (255 : Int32))), .val (.int (0 : Int32)), .val (.int (128 : Int32)), .unset, .unset] [])
  refine Ends.by (fun _ => XS.sipush X0.here hx rfl (hb hby d8_16)) ?_
  show Ends p e below _ s₁ (mkF m 19 #[.val (.ref ar), .val (.int ps), .val (.int to1), .val (.int ((g P) &&& (255 : Int32))), .val (.int (0 : Int32)), .val (.int (128 : Int32)), .unset, .unset] [(.int (191 : Int32))])
  refine Ends.by (fun _ => XS.istore X0.here hx rfl (hb hby d8_19) rfl (l' := #[.val (.ref ar), .val (.int ps), .val (.int to1), .val (.int ((g P) &&& (255 : Int32))), .val (.int (0 : Int32)), .val (.int (128 : Int32)), .val (.int (191 : Int32)), .unset]) rfl) ?_
  show Ends p e below _ s₁ (mkF m 21 #[.val (.ref ar), .val (.int ps), .val (.int to1), .val (.int ((g P) &&& (255 : Int32))), .val (.int (0 : Int32)), .val (.int (128 : Int32)), .val (.int (191 : Int32)), .unset] [])
  have J2 : ∀ lo hi : Int32, Ends p e below (Fini s (Pure h0 (some (.int (own_t2 g ps to1 P lo hi)))) 0 0) s₁ (mkF m 146 #[.val (.ref ar), .val (.int ps), .val (.int to1), .val (.int ((g P) &&& (255 : Int32))), .val (.int (2 : Int32)), .val (.int lo), .val (.int hi), .unset] []) := by
    intro lo hi
    refine Ends.by (fun _ => XS.iload X0.here hx rfl (hb hby d8_146) rfl) ?_
    show Ends p e below _ s₁ (mkF m 148 #[.val (.ref ar), .val (.int ps), .val (.int to1), .val (.int ((g P) &&& (255 : Int32))), .val (.int (2 : Int32)), .val (.int lo), .val (.int hi), .unset] [(.int (2 : Int32))])
    refine Ends.ifc X0 hx (hb hby d8_148) 187 (by decide) (by decide) (fun q => ?_) (fun q => ?_)
    · have c148 : (2 : Int32) = (0 : Int32) := own_eq.1 q
      exact absurd c148 (by decide)
    · have c148 : ¬ ((2 : Int32) = (0 : Int32)) := own_eq.2 q
      show Ends p e below _ s₁ (mkF m 151 #[.val (.ref ar), .val (.int ps), .val (.int to1), .val (.int ((g P) &&& (255 : Int32))), .val (.int (2 : Int32)), .val (.int lo), .val (.int hi), .unset] [])
      refine Ends.by (fun _ => XS.iloadN X0.here hx rfl (hb hby d8_151) rfl) ?_
      show Ends p e below _ s₁ (mkF m 152 #[.val (.ref ar), .val (.int ps), .val (.int to1), .val (.int ((g P) &&& (255 : Int32))), .val (.int (2 : Int32)), .val (.int lo), .val (.int hi), .unset] [(.int ps)])
      refine Ends.by (fun _ => XS.iload X0.here hx rfl (hb hby d8_152) rfl) ?_
      show Ends p e below _ s₁ (mkF m 154 #[.val (.ref ar), .val (.int ps), .val (.int to1), .val (.int ((g P) &&& (255 : Int32))), .val (.int (2 : Int32)), .val (.int lo), .val (.int hi), .unset] [(.int (2 : Int32)), (.int ps)])
      refine Ends.by (fun _ => XS.iadd X0.here hx rfl (hb hby d8_154) rfl) ?_
      show Ends p e below _ s₁ (mkF m 155 #[.val (.ref ar), .val (.int ps), .val (.int to1), .val (.int ((g P) &&& (255 : Int32))), .val (.int (2 : Int32)), .val (.int lo), .val (.int hi), .unset] [(.int (ps + (2 : Int32)))])
      refine Ends.by (fun _ => XS.iloadN X0.here hx rfl (hb hby d8_155) rfl) ?_
      show Ends p e below _ s₁ (mkF m 156 #[.val (.ref ar), .val (.int ps), .val (.int to1), .val (.int ((g P) &&& (255 : Int32))), .val (.int (2 : Int32)), .val (.int lo), .val (.int hi), .unset] [(.int to1), (.int (ps + (2 : Int32)))])
      refine Ends.icmp X0 hx (hb hby d8_156) 187 (by decide) (by decide) (fun q => ?_) (fun q => ?_)
      · have c156 : to1 < (ps + (2 : Int32)) := own_gt.1 q
        show Ends p e below _ s₁ (mkF m 187 #[.val (.ref ar), .val (.int ps), .val (.int to1), .val (.int ((g P) &&& (255 : Int32))), .val (.int (2 : Int32)), .val (.int lo), .val (.int hi), .unset] [])
        refine Ends.by (fun _ => XS.iconst X0.here hx rfl (hb hby d8_187)) ?_
        show Ends p e below _ s₁ (mkF m 188 #[.val (.ref ar), .val (.int ps), .val (.int to1), .val (.int ((g P) &&& (255 : Int32))), .val (.int (2 : Int32)), .val (.int lo), .val (.int hi), .unset] [(.int (0 : Int32))])
        exact Ends.retI X0 hx hlk hret (hb hby d8_188) (by decide) (by decide) (by rw [e0]; exact ⟨by rw [own_t2, if_pos c156], rfl, rfl⟩)
      · have c156 : ¬ (to1 < (ps + (2 : Int32))) := own_gt.2 q
        show Ends p e below _ s₁ (mkF m 159 #[.val (.ref ar), .val (.int ps), .val (.int to1), .val (.int ((g P) &&& (255 : Int32))), .val (.int (2 : Int32)), .val (.int lo), .val (.int hi), .unset] [])
        refine Ends.by (fun _ => XS.aloadN X0.here hx rfl (hb hby d8_159) rfl rfl) ?_
        show Ends p e below _ s₁ (mkF m 160 #[.val (.ref ar), .val (.int ps), .val (.int to1), .val (.int ((g P) &&& (255 : Int32))), .val (.int (2 : Int32)), .val (.int lo), .val (.int hi), .unset] [(.ref ar)])
        refine Ends.by (fun _ => XS.iloadN X0.here hx rfl (hb hby d8_160) rfl) ?_
        show Ends p e below _ s₁ (mkF m 161 #[.val (.ref ar), .val (.int ps), .val (.int to1), .val (.int ((g P) &&& (255 : Int32))), .val (.int (2 : Int32)), .val (.int lo), .val (.int hi), .unset] [(.int ps), (.ref ar)])
        refine Ends.by (fun _ => XS.iconst X0.here hx rfl (hb hby d8_161)) ?_
        show Ends p e below _ s₁ (mkF m 162 #[.val (.ref ar), .val (.int ps), .val (.int to1), .val (.int ((g P) &&& (255 : Int32))), .val (.int (2 : Int32)), .val (.int lo), .val (.int hi), .unset] [(.int (1 : Int32)), (.int ps), (.ref ar)])
        refine Ends.by (fun _ => XS.iadd X0.here hx rfl (hb hby d8_162) rfl) ?_
        show Ends p e below _ s₁ (mkF m 163 #[.val (.ref ar), .val (.int ps), .val (.int to1), .val (.int ((g P) &&& (255 : Int32))), .val (.int (2 : Int32)), .val (.int lo), .val (.int hi), .unset] [(.int (ps + (1 : Int32))), (.ref ar)])
        refine Ends.ldB X0 hx hZ e0 A0 (k := (P + 1)) f1_ (by rw [Int32.lt_iff_toInt_lt] at c156; omega) (v := (.int (g (P + 1)))) rfl (hb hby d8_163) ?_
        show Ends p e below _ s₁ (mkF m 164 #[.val (.ref ar), .val (.int ps), .val (.int to1), .val (.int ((g P) &&& (255 : Int32))), .val (.int (2 : Int32)), .val (.int lo), .val (.int hi), .unset] [(.int (g (P + 1)))])
        refine Ends.by (fun _ => XS.sipush X0.here hx rfl (hb hby d8_164)) ?_
        show Ends p e below _ s₁ (mkF m 167 #[.val (.ref ar), .val (.int ps), .val (.int to1), .val (.int ((g P) &&& (255 : Int32))), .val (.int (2 : Int32)), .val (.int lo), .val (.int hi), .unset] [(.int (255 : Int32)), (.int (g (P + 1)))])
        refine Ends.by (fun _ => XS.iand X0.here hx rfl (hb hby d8_167) rfl) ?_
        show Ends p e below _ s₁ (mkF m 168 #[.val (.ref ar), .val (.int ps), .val (.int to1), .val (.int ((g P) &&& (255 : Int32))), .val (.int (2 : Int32)), .val (.int lo), .val (.int hi), .unset] [(.int ((g (P + 1)) &&& (255 : Int32)))])
        refine Ends.by (fun _ => XS.iload X0.here hx rfl (hb hby d8_168) rfl) ?_
        show Ends p e below _ s₁ (mkF m 170 #[.val (.ref ar), .val (.int ps), .val (.int to1), .val (.int ((g P) &&& (255 : Int32))), .val (.int (2 : Int32)), .val (.int lo), .val (.int hi), .unset] [(.int lo), (.int ((g (P + 1)) &&& (255 : Int32)))])
        refine Ends.icmp X0 hx (hb hby d8_170) 187 (by decide) (by decide) (fun q => ?_) (fun q => ?_)
        · have c170 : ((g (P + 1)) &&& (255 : Int32)) < lo := own_lt.1 q
          show Ends p e below _ s₁ (mkF m 187 #[.val (.ref ar), .val (.int ps), .val (.int to1), .val (.int ((g P) &&& (255 : Int32))), .val (.int (2 : Int32)), .val (.int lo), .val (.int hi), .unset] [])
          refine Ends.by (fun _ => XS.iconst X0.here hx rfl (hb hby d8_187)) ?_
          show Ends p e below _ s₁ (mkF m 188 #[.val (.ref ar), .val (.int ps), .val (.int to1), .val (.int ((g P) &&& (255 : Int32))), .val (.int (2 : Int32)), .val (.int lo), .val (.int hi), .unset] [(.int (0 : Int32))])
          exact Ends.retI X0 hx hlk hret (hb hby d8_188) (by decide) (by decide) (by rw [e0]; exact ⟨by rw [own_t2, if_neg c156, if_pos c170], rfl, rfl⟩)
        · have c170 : ¬ (((g (P + 1)) &&& (255 : Int32)) < lo) := own_lt.2 q
          show Ends p e below _ s₁ (mkF m 173 #[.val (.ref ar), .val (.int ps), .val (.int to1), .val (.int ((g P) &&& (255 : Int32))), .val (.int (2 : Int32)), .val (.int lo), .val (.int hi), .unset] [])
          refine Ends.by (fun _ => XS.aloadN X0.here hx rfl (hb hby d8_173) rfl rfl) ?_
          show Ends p e below _ s₁ (mkF m 174 #[.val (.ref ar), .val (.int ps), .val (.int to1), .val (.int ((g P) &&& (255 : Int32))), .val (.int (2 : Int32)), .val (.int lo), .val (.int hi), .unset] [(.ref ar)])
          refine Ends.by (fun _ => XS.iloadN X0.here hx rfl (hb hby d8_174) rfl) ?_
          show Ends p e below _ s₁ (mkF m 175 #[.val (.ref ar), .val (.int ps), .val (.int to1), .val (.int ((g P) &&& (255 : Int32))), .val (.int (2 : Int32)), .val (.int lo), .val (.int hi), .unset] [(.int ps), (.ref ar)])
          refine Ends.by (fun _ => XS.iconst X0.here hx rfl (hb hby d8_175)) ?_
          show Ends p e below _ s₁ (mkF m 176 #[.val (.ref ar), .val (.int ps), .val (.int to1), .val (.int ((g P) &&& (255 : Int32))), .val (.int (2 : Int32)), .val (.int lo), .val (.int hi), .unset] [(.int (1 : Int32)), (.int ps), (.ref ar)])
          refine Ends.by (fun _ => XS.iadd X0.here hx rfl (hb hby d8_176) rfl) ?_
          show Ends p e below _ s₁ (mkF m 177 #[.val (.ref ar), .val (.int ps), .val (.int to1), .val (.int ((g P) &&& (255 : Int32))), .val (.int (2 : Int32)), .val (.int lo), .val (.int hi), .unset] [(.int (ps + (1 : Int32))), (.ref ar)])
          refine Ends.ldB X0 hx hZ e0 A0 (k := (P + 1)) f1_ (by rw [Int32.lt_iff_toInt_lt] at c156; omega) (v := (.int (g (P + 1)))) rfl (hb hby d8_177) ?_
          show Ends p e below _ s₁ (mkF m 178 #[.val (.ref ar), .val (.int ps), .val (.int to1), .val (.int ((g P) &&& (255 : Int32))), .val (.int (2 : Int32)), .val (.int lo), .val (.int hi), .unset] [(.int (g (P + 1)))])
          refine Ends.by (fun _ => XS.sipush X0.here hx rfl (hb hby d8_178)) ?_
          show Ends p e below _ s₁ (mkF m 181 #[.val (.ref ar), .val (.int ps), .val (.int to1), .val (.int ((g P) &&& (255 : Int32))), .val (.int (2 : Int32)), .val (.int lo), .val (.int hi), .unset] [(.int (255 : Int32)), (.int (g (P + 1)))])
          refine Ends.by (fun _ => XS.iand X0.here hx rfl (hb hby d8_181) rfl) ?_
          show Ends p e below _ s₁ (mkF m 182 #[.val (.ref ar), .val (.int ps), .val (.int to1), .val (.int ((g P) &&& (255 : Int32))), .val (.int (2 : Int32)), .val (.int lo), .val (.int hi), .unset] [(.int ((g (P + 1)) &&& (255 : Int32)))])
          refine Ends.by (fun _ => XS.iload X0.here hx rfl (hb hby d8_182) rfl) ?_
          show Ends p e below _ s₁ (mkF m 184 #[.val (.ref ar), .val (.int ps), .val (.int to1), .val (.int ((g P) &&& (255 : Int32))), .val (.int (2 : Int32)), .val (.int lo), .val (.int hi), .unset] [(.int hi), (.int ((g (P + 1)) &&& (255 : Int32)))])
          refine Ends.icmp X0 hx (hb hby d8_184) 189 (by decide) (by decide) (fun q => ?_) (fun q => ?_)
          · have c184 : ¬ (hi < ((g (P + 1)) &&& (255 : Int32))) := own_le.1 q
            show Ends p e below _ s₁ (mkF m 189 #[.val (.ref ar), .val (.int ps), .val (.int to1), .val (.int ((g P) &&& (255 : Int32))), .val (.int (2 : Int32)), .val (.int lo), .val (.int hi), .unset] [])
            refine Ends.by (fun _ => XS.iloadN X0.here hx rfl (hb hby d8_189) rfl) ?_
            show Ends p e below _ s₁ (mkF m 190 #[.val (.ref ar), .val (.int ps), .val (.int to1), .val (.int ((g P) &&& (255 : Int32))), .val (.int (2 : Int32)), .val (.int lo), .val (.int hi), .unset] [(.int ps)])
            refine Ends.by (fun _ => XS.iconst X0.here hx rfl (hb hby d8_190)) ?_
            show Ends p e below _ s₁ (mkF m 191 #[.val (.ref ar), .val (.int ps), .val (.int to1), .val (.int ((g P) &&& (255 : Int32))), .val (.int (2 : Int32)), .val (.int lo), .val (.int hi), .unset] [(.int (2 : Int32)), (.int ps)])
            refine Ends.by (fun _ => XS.iadd X0.here hx rfl (hb hby d8_191) rfl) ?_
            show Ends p e below _ s₁ (mkF m 192 #[.val (.ref ar), .val (.int ps), .val (.int to1), .val (.int ((g P) &&& (255 : Int32))), .val (.int (2 : Int32)), .val (.int lo), .val (.int hi), .unset] [(.int (ps + (2 : Int32)))])
            refine Ends.by (fun _ => XS.istore X0.here hx rfl (hb hby d8_192) rfl (l' := #[.val (.ref ar), .val (.int ps), .val (.int to1), .val (.int ((g P) &&& (255 : Int32))), .val (.int (2 : Int32)), .val (.int lo), .val (.int hi), .val (.int (ps + (2 : Int32)))]) rfl) ?_
            show Ends p e below _ s₁ (mkF m 194 #[.val (.ref ar), .val (.int ps), .val (.int to1), .val (.int ((g P) &&& (255 : Int32))), .val (.int (2 : Int32)), .val (.int lo), .val (.int hi), .val (.int (ps + (2 : Int32)))] [])
            refine Ends.by (fun _ => XS.iload X0.here hx rfl (hb hby d8_194) rfl) ?_
            show Ends p e below _ s₁ (mkF m 196 #[.val (.ref ar), .val (.int ps), .val (.int to1), .val (.int ((g P) &&& (255 : Int32))), .val (.int (2 : Int32)), .val (.int lo), .val (.int hi), .val (.int (ps + (2 : Int32)))] [(.int (ps + (2 : Int32)))])
            refine Ends.by (fun _ => XS.iloadN X0.here hx rfl (hb hby d8_196) rfl) ?_
            show Ends p e below _ s₁ (mkF m 197 #[.val (.ref ar), .val (.int ps), .val (.int to1), .val (.int ((g P) &&& (255 : Int32))), .val (.int (2 : Int32)), .val (.int lo), .val (.int hi), .val (.int (ps + (2 : Int32)))] [(.int ps), (.int (ps + (2 : Int32)))])
            refine Ends.by (fun _ => XS.iload X0.here hx rfl (hb hby d8_197) rfl) ?_
            show Ends p e below _ s₁ (mkF m 199 #[.val (.ref ar), .val (.int ps), .val (.int to1), .val (.int ((g P) &&& (255 : Int32))), .val (.int (2 : Int32)), .val (.int lo), .val (.int hi), .val (.int (ps + (2 : Int32)))] [(.int (2 : Int32)), (.int ps), (.int (ps + (2 : Int32)))])
            refine Ends.by (fun _ => XS.iadd X0.here hx rfl (hb hby d8_199) rfl) ?_
            show Ends p e below _ s₁ (mkF m 200 #[.val (.ref ar), .val (.int ps), .val (.int to1), .val (.int ((g P) &&& (255 : Int32))), .val (.int (2 : Int32)), .val (.int lo), .val (.int hi), .val (.int (ps + (2 : Int32)))] [(.int (ps + (2 : Int32))), (.int (ps + (2 : Int32)))])
            refine Ends.icmp X0 hx (hb hby d8_200) 225 (by decide) (by decide) (fun q => ?_) (fun q => ?_)
            · have c200 : ¬ ((ps + (2 : Int32)) < (ps + (2 : Int32))) := own_ge.1 q
              show Ends p e below _ s₁ (mkF m 225 #[.val (.ref ar), .val (.int ps), .val (.int to1), .val (.int ((g P) &&& (255 : Int32))), .val (.int (2 : Int32)), .val (.int lo), .val (.int hi), .val (.int (ps + (2 : Int32)))] [])
              refine Ends.by (fun _ => XS.iload X0.here hx rfl (hb hby d8_225) rfl) ?_
              show Ends p e below _ s₁ (mkF m 227 #[.val (.ref ar), .val (.int ps), .val (.int to1), .val (.int ((g P) &&& (255 : Int32))), .val (.int (2 : Int32)), .val (.int lo), .val (.int hi), .val (.int (ps + (2 : Int32)))] [(.int (2 : Int32))])
              exact Ends.retI X0 hx hlk hret (hb hby d8_227) (by decide) (by decide) (by rw [e0]; exact ⟨by rw [own_t2, if_neg c156, if_neg c170, if_neg c184], rfl, rfl⟩)
            · have c200 : (ps + (2 : Int32)) < (ps + (2 : Int32)) := own_ge.2 q
              exact absurd c200 (by rw [Int32.lt_iff_toInt_lt]; omega)
          · have c184 : hi < ((g (P + 1)) &&& (255 : Int32)) := own_le.2 q
            show Ends p e below _ s₁ (mkF m 187 #[.val (.ref ar), .val (.int ps), .val (.int to1), .val (.int ((g P) &&& (255 : Int32))), .val (.int (2 : Int32)), .val (.int lo), .val (.int hi), .unset] [])
            refine Ends.by (fun _ => XS.iconst X0.here hx rfl (hb hby d8_187)) ?_
            show Ends p e below _ s₁ (mkF m 188 #[.val (.ref ar), .val (.int ps), .val (.int to1), .val (.int ((g P) &&& (255 : Int32))), .val (.int (2 : Int32)), .val (.int lo), .val (.int hi), .unset] [(.int (0 : Int32))])
            exact Ends.retI X0 hx hlk hret (hb hby d8_188) (by decide) (by decide) (by rw [e0]; exact ⟨by rw [own_t2, if_neg c156, if_neg c170, if_pos c184], rfl, rfl⟩)
  have J3 : ∀ lo hi : Int32, Ends p e below (Fini s (Pure h0 (some (.int (own_t3 g ps to1 P lo hi)))) 0 0) s₁ (mkF m 146 #[.val (.ref ar), .val (.int ps), .val (.int to1), .val (.int ((g P) &&& (255 : Int32))), .val (.int (3 : Int32)), .val (.int lo), .val (.int hi), .unset] []) := by
    intro lo hi
    refine Ends.by (fun _ => XS.iload X0.here hx rfl (hb hby d8_146) rfl) ?_
    show Ends p e below _ s₁ (mkF m 148 #[.val (.ref ar), .val (.int ps), .val (.int to1), .val (.int ((g P) &&& (255 : Int32))), .val (.int (3 : Int32)), .val (.int lo), .val (.int hi), .unset] [(.int (3 : Int32))])
    refine Ends.ifc X0 hx (hb hby d8_148) 187 (by decide) (by decide) (fun q => ?_) (fun q => ?_)
    · have c148 : (3 : Int32) = (0 : Int32) := own_eq.1 q
      exact absurd c148 (by decide)
    · have c148 : ¬ ((3 : Int32) = (0 : Int32)) := own_eq.2 q
      show Ends p e below _ s₁ (mkF m 151 #[.val (.ref ar), .val (.int ps), .val (.int to1), .val (.int ((g P) &&& (255 : Int32))), .val (.int (3 : Int32)), .val (.int lo), .val (.int hi), .unset] [])
      refine Ends.by (fun _ => XS.iloadN X0.here hx rfl (hb hby d8_151) rfl) ?_
      show Ends p e below _ s₁ (mkF m 152 #[.val (.ref ar), .val (.int ps), .val (.int to1), .val (.int ((g P) &&& (255 : Int32))), .val (.int (3 : Int32)), .val (.int lo), .val (.int hi), .unset] [(.int ps)])
      refine Ends.by (fun _ => XS.iload X0.here hx rfl (hb hby d8_152) rfl) ?_
      show Ends p e below _ s₁ (mkF m 154 #[.val (.ref ar), .val (.int ps), .val (.int to1), .val (.int ((g P) &&& (255 : Int32))), .val (.int (3 : Int32)), .val (.int lo), .val (.int hi), .unset] [(.int (3 : Int32)), (.int ps)])
      refine Ends.by (fun _ => XS.iadd X0.here hx rfl (hb hby d8_154) rfl) ?_
      show Ends p e below _ s₁ (mkF m 155 #[.val (.ref ar), .val (.int ps), .val (.int to1), .val (.int ((g P) &&& (255 : Int32))), .val (.int (3 : Int32)), .val (.int lo), .val (.int hi), .unset] [(.int (ps + (3 : Int32)))])
      refine Ends.by (fun _ => XS.iloadN X0.here hx rfl (hb hby d8_155) rfl) ?_
      show Ends p e below _ s₁ (mkF m 156 #[.val (.ref ar), .val (.int ps), .val (.int to1), .val (.int ((g P) &&& (255 : Int32))), .val (.int (3 : Int32)), .val (.int lo), .val (.int hi), .unset] [(.int to1), (.int (ps + (3 : Int32)))])
      refine Ends.icmp X0 hx (hb hby d8_156) 187 (by decide) (by decide) (fun q => ?_) (fun q => ?_)
      · have c156 : to1 < (ps + (3 : Int32)) := own_gt.1 q
        show Ends p e below _ s₁ (mkF m 187 #[.val (.ref ar), .val (.int ps), .val (.int to1), .val (.int ((g P) &&& (255 : Int32))), .val (.int (3 : Int32)), .val (.int lo), .val (.int hi), .unset] [])
        refine Ends.by (fun _ => XS.iconst X0.here hx rfl (hb hby d8_187)) ?_
        show Ends p e below _ s₁ (mkF m 188 #[.val (.ref ar), .val (.int ps), .val (.int to1), .val (.int ((g P) &&& (255 : Int32))), .val (.int (3 : Int32)), .val (.int lo), .val (.int hi), .unset] [(.int (0 : Int32))])
        exact Ends.retI X0 hx hlk hret (hb hby d8_188) (by decide) (by decide) (by rw [e0]; exact ⟨by rw [own_t3, if_pos c156], rfl, rfl⟩)
      · have c156 : ¬ (to1 < (ps + (3 : Int32))) := own_gt.2 q
        show Ends p e below _ s₁ (mkF m 159 #[.val (.ref ar), .val (.int ps), .val (.int to1), .val (.int ((g P) &&& (255 : Int32))), .val (.int (3 : Int32)), .val (.int lo), .val (.int hi), .unset] [])
        refine Ends.by (fun _ => XS.aloadN X0.here hx rfl (hb hby d8_159) rfl rfl) ?_
        show Ends p e below _ s₁ (mkF m 160 #[.val (.ref ar), .val (.int ps), .val (.int to1), .val (.int ((g P) &&& (255 : Int32))), .val (.int (3 : Int32)), .val (.int lo), .val (.int hi), .unset] [(.ref ar)])
        refine Ends.by (fun _ => XS.iloadN X0.here hx rfl (hb hby d8_160) rfl) ?_
        show Ends p e below _ s₁ (mkF m 161 #[.val (.ref ar), .val (.int ps), .val (.int to1), .val (.int ((g P) &&& (255 : Int32))), .val (.int (3 : Int32)), .val (.int lo), .val (.int hi), .unset] [(.int ps), (.ref ar)])
        refine Ends.by (fun _ => XS.iconst X0.here hx rfl (hb hby d8_161)) ?_
        show Ends p e below _ s₁ (mkF m 162 #[.val (.ref ar), .val (.int ps), .val (.int to1), .val (.int ((g P) &&& (255 : Int32))), .val (.int (3 : Int32)), .val (.int lo), .val (.int hi), .unset] [(.int (1 : Int32)), (.int ps), (.ref ar)])
        refine Ends.by (fun _ => XS.iadd X0.here hx rfl (hb hby d8_162) rfl) ?_
        show Ends p e below _ s₁ (mkF m 163 #[.val (.ref ar), .val (.int ps), .val (.int to1), .val (.int ((g P) &&& (255 : Int32))), .val (.int (3 : Int32)), .val (.int lo), .val (.int hi), .unset] [(.int (ps + (1 : Int32))), (.ref ar)])
        refine Ends.ldB X0 hx hZ e0 A0 (k := (P + 1)) f1_ (by rw [Int32.lt_iff_toInt_lt] at c156; omega) (v := (.int (g (P + 1)))) rfl (hb hby d8_163) ?_
        show Ends p e below _ s₁ (mkF m 164 #[.val (.ref ar), .val (.int ps), .val (.int to1), .val (.int ((g P) &&& (255 : Int32))), .val (.int (3 : Int32)), .val (.int lo), .val (.int hi), .unset] [(.int (g (P + 1)))])
        refine Ends.by (fun _ => XS.sipush X0.here hx rfl (hb hby d8_164)) ?_
        show Ends p e below _ s₁ (mkF m 167 #[.val (.ref ar), .val (.int ps), .val (.int to1), .val (.int ((g P) &&& (255 : Int32))), .val (.int (3 : Int32)), .val (.int lo), .val (.int hi), .unset] [(.int (255 : Int32)), (.int (g (P + 1)))])
        refine Ends.by (fun _ => XS.iand X0.here hx rfl (hb hby d8_167) rfl) ?_
        show Ends p e below _ s₁ (mkF m 168 #[.val (.ref ar), .val (.int ps), .val (.int to1), .val (.int ((g P) &&& (255 : Int32))), .val (.int (3 : Int32)), .val (.int lo), .val (.int hi), .unset] [(.int ((g (P + 1)) &&& (255 : Int32)))])
        refine Ends.by (fun _ => XS.iload X0.here hx rfl (hb hby d8_168) rfl) ?_
        show Ends p e below _ s₁ (mkF m 170 #[.val (.ref ar), .val (.int ps), .val (.int to1), .val (.int ((g P) &&& (255 : Int32))), .val (.int (3 : Int32)), .val (.int lo), .val (.int hi), .unset] [(.int lo), (.int ((g (P + 1)) &&& (255 : Int32)))])
        refine Ends.icmp X0 hx (hb hby d8_170) 187 (by decide) (by decide) (fun q => ?_) (fun q => ?_)
        · have c170 : ((g (P + 1)) &&& (255 : Int32)) < lo := own_lt.1 q
          show Ends p e below _ s₁ (mkF m 187 #[.val (.ref ar), .val (.int ps), .val (.int to1), .val (.int ((g P) &&& (255 : Int32))), .val (.int (3 : Int32)), .val (.int lo), .val (.int hi), .unset] [])
          refine Ends.by (fun _ => XS.iconst X0.here hx rfl (hb hby d8_187)) ?_
          show Ends p e below _ s₁ (mkF m 188 #[.val (.ref ar), .val (.int ps), .val (.int to1), .val (.int ((g P) &&& (255 : Int32))), .val (.int (3 : Int32)), .val (.int lo), .val (.int hi), .unset] [(.int (0 : Int32))])
          exact Ends.retI X0 hx hlk hret (hb hby d8_188) (by decide) (by decide) (by rw [e0]; exact ⟨by rw [own_t3, if_neg c156, if_pos c170], rfl, rfl⟩)
        · have c170 : ¬ (((g (P + 1)) &&& (255 : Int32)) < lo) := own_lt.2 q
          show Ends p e below _ s₁ (mkF m 173 #[.val (.ref ar), .val (.int ps), .val (.int to1), .val (.int ((g P) &&& (255 : Int32))), .val (.int (3 : Int32)), .val (.int lo), .val (.int hi), .unset] [])
          refine Ends.by (fun _ => XS.aloadN X0.here hx rfl (hb hby d8_173) rfl rfl) ?_
          show Ends p e below _ s₁ (mkF m 174 #[.val (.ref ar), .val (.int ps), .val (.int to1), .val (.int ((g P) &&& (255 : Int32))), .val (.int (3 : Int32)), .val (.int lo), .val (.int hi), .unset] [(.ref ar)])
          refine Ends.by (fun _ => XS.iloadN X0.here hx rfl (hb hby d8_174) rfl) ?_
          show Ends p e below _ s₁ (mkF m 175 #[.val (.ref ar), .val (.int ps), .val (.int to1), .val (.int ((g P) &&& (255 : Int32))), .val (.int (3 : Int32)), .val (.int lo), .val (.int hi), .unset] [(.int ps), (.ref ar)])
          refine Ends.by (fun _ => XS.iconst X0.here hx rfl (hb hby d8_175)) ?_
          show Ends p e below _ s₁ (mkF m 176 #[.val (.ref ar), .val (.int ps), .val (.int to1), .val (.int ((g P) &&& (255 : Int32))), .val (.int (3 : Int32)), .val (.int lo), .val (.int hi), .unset] [(.int (1 : Int32)), (.int ps), (.ref ar)])
          refine Ends.by (fun _ => XS.iadd X0.here hx rfl (hb hby d8_176) rfl) ?_
          show Ends p e below _ s₁ (mkF m 177 #[.val (.ref ar), .val (.int ps), .val (.int to1), .val (.int ((g P) &&& (255 : Int32))), .val (.int (3 : Int32)), .val (.int lo), .val (.int hi), .unset] [(.int (ps + (1 : Int32))), (.ref ar)])
          refine Ends.ldB X0 hx hZ e0 A0 (k := (P + 1)) f1_ (by rw [Int32.lt_iff_toInt_lt] at c156; omega) (v := (.int (g (P + 1)))) rfl (hb hby d8_177) ?_
          show Ends p e below _ s₁ (mkF m 178 #[.val (.ref ar), .val (.int ps), .val (.int to1), .val (.int ((g P) &&& (255 : Int32))), .val (.int (3 : Int32)), .val (.int lo), .val (.int hi), .unset] [(.int (g (P + 1)))])
          refine Ends.by (fun _ => XS.sipush X0.here hx rfl (hb hby d8_178)) ?_
          show Ends p e below _ s₁ (mkF m 181 #[.val (.ref ar), .val (.int ps), .val (.int to1), .val (.int ((g P) &&& (255 : Int32))), .val (.int (3 : Int32)), .val (.int lo), .val (.int hi), .unset] [(.int (255 : Int32)), (.int (g (P + 1)))])
          refine Ends.by (fun _ => XS.iand X0.here hx rfl (hb hby d8_181) rfl) ?_
          show Ends p e below _ s₁ (mkF m 182 #[.val (.ref ar), .val (.int ps), .val (.int to1), .val (.int ((g P) &&& (255 : Int32))), .val (.int (3 : Int32)), .val (.int lo), .val (.int hi), .unset] [(.int ((g (P + 1)) &&& (255 : Int32)))])
          refine Ends.by (fun _ => XS.iload X0.here hx rfl (hb hby d8_182) rfl) ?_
          show Ends p e below _ s₁ (mkF m 184 #[.val (.ref ar), .val (.int ps), .val (.int to1), .val (.int ((g P) &&& (255 : Int32))), .val (.int (3 : Int32)), .val (.int lo), .val (.int hi), .unset] [(.int hi), (.int ((g (P + 1)) &&& (255 : Int32)))])
          refine Ends.icmp X0 hx (hb hby d8_184) 189 (by decide) (by decide) (fun q => ?_) (fun q => ?_)
          · have c184 : ¬ (hi < ((g (P + 1)) &&& (255 : Int32))) := own_le.1 q
            show Ends p e below _ s₁ (mkF m 189 #[.val (.ref ar), .val (.int ps), .val (.int to1), .val (.int ((g P) &&& (255 : Int32))), .val (.int (3 : Int32)), .val (.int lo), .val (.int hi), .unset] [])
            refine Ends.by (fun _ => XS.iloadN X0.here hx rfl (hb hby d8_189) rfl) ?_
            show Ends p e below _ s₁ (mkF m 190 #[.val (.ref ar), .val (.int ps), .val (.int to1), .val (.int ((g P) &&& (255 : Int32))), .val (.int (3 : Int32)), .val (.int lo), .val (.int hi), .unset] [(.int ps)])
            refine Ends.by (fun _ => XS.iconst X0.here hx rfl (hb hby d8_190)) ?_
            show Ends p e below _ s₁ (mkF m 191 #[.val (.ref ar), .val (.int ps), .val (.int to1), .val (.int ((g P) &&& (255 : Int32))), .val (.int (3 : Int32)), .val (.int lo), .val (.int hi), .unset] [(.int (2 : Int32)), (.int ps)])
            refine Ends.by (fun _ => XS.iadd X0.here hx rfl (hb hby d8_191) rfl) ?_
            show Ends p e below _ s₁ (mkF m 192 #[.val (.ref ar), .val (.int ps), .val (.int to1), .val (.int ((g P) &&& (255 : Int32))), .val (.int (3 : Int32)), .val (.int lo), .val (.int hi), .unset] [(.int (ps + (2 : Int32)))])
            refine Ends.by (fun _ => XS.istore X0.here hx rfl (hb hby d8_192) rfl (l' := #[.val (.ref ar), .val (.int ps), .val (.int to1), .val (.int ((g P) &&& (255 : Int32))), .val (.int (3 : Int32)), .val (.int lo), .val (.int hi), .val (.int (ps + (2 : Int32)))]) rfl) ?_
            show Ends p e below _ s₁ (mkF m 194 #[.val (.ref ar), .val (.int ps), .val (.int to1), .val (.int ((g P) &&& (255 : Int32))), .val (.int (3 : Int32)), .val (.int lo), .val (.int hi), .val (.int (ps + (2 : Int32)))] [])
            refine Ends.by (fun _ => XS.iload X0.here hx rfl (hb hby d8_194) rfl) ?_
            show Ends p e below _ s₁ (mkF m 196 #[.val (.ref ar), .val (.int ps), .val (.int to1), .val (.int ((g P) &&& (255 : Int32))), .val (.int (3 : Int32)), .val (.int lo), .val (.int hi), .val (.int (ps + (2 : Int32)))] [(.int (ps + (2 : Int32)))])
            refine Ends.by (fun _ => XS.iloadN X0.here hx rfl (hb hby d8_196) rfl) ?_
            show Ends p e below _ s₁ (mkF m 197 #[.val (.ref ar), .val (.int ps), .val (.int to1), .val (.int ((g P) &&& (255 : Int32))), .val (.int (3 : Int32)), .val (.int lo), .val (.int hi), .val (.int (ps + (2 : Int32)))] [(.int ps), (.int (ps + (2 : Int32)))])
            refine Ends.by (fun _ => XS.iload X0.here hx rfl (hb hby d8_197) rfl) ?_
            show Ends p e below _ s₁ (mkF m 199 #[.val (.ref ar), .val (.int ps), .val (.int to1), .val (.int ((g P) &&& (255 : Int32))), .val (.int (3 : Int32)), .val (.int lo), .val (.int hi), .val (.int (ps + (2 : Int32)))] [(.int (3 : Int32)), (.int ps), (.int (ps + (2 : Int32)))])
            refine Ends.by (fun _ => XS.iadd X0.here hx rfl (hb hby d8_199) rfl) ?_
            show Ends p e below _ s₁ (mkF m 200 #[.val (.ref ar), .val (.int ps), .val (.int to1), .val (.int ((g P) &&& (255 : Int32))), .val (.int (3 : Int32)), .val (.int lo), .val (.int hi), .val (.int (ps + (2 : Int32)))] [(.int (ps + (3 : Int32))), (.int (ps + (2 : Int32)))])
            refine Ends.icmp X0 hx (hb hby d8_200) 225 (by decide) (by decide) (fun q => ?_) (fun q => ?_)
            · have c200 : ¬ ((ps + (2 : Int32)) < (ps + (3 : Int32))) := own_ge.1 q
              exact absurd (by rw [Int32.lt_iff_toInt_lt]; omega) c200
            · have c200 : (ps + (2 : Int32)) < (ps + (3 : Int32)) := own_ge.2 q
              show Ends p e below _ s₁ (mkF m 203 #[.val (.ref ar), .val (.int ps), .val (.int to1), .val (.int ((g P) &&& (255 : Int32))), .val (.int (3 : Int32)), .val (.int lo), .val (.int hi), .val (.int (ps + (2 : Int32)))] [])
              refine Ends.by (fun _ => XS.aloadN X0.here hx rfl (hb hby d8_203) rfl rfl) ?_
              show Ends p e below _ s₁ (mkF m 204 #[.val (.ref ar), .val (.int ps), .val (.int to1), .val (.int ((g P) &&& (255 : Int32))), .val (.int (3 : Int32)), .val (.int lo), .val (.int hi), .val (.int (ps + (2 : Int32)))] [(.ref ar)])
              refine Ends.by (fun _ => XS.iload X0.here hx rfl (hb hby d8_204) rfl) ?_
              show Ends p e below _ s₁ (mkF m 206 #[.val (.ref ar), .val (.int ps), .val (.int to1), .val (.int ((g P) &&& (255 : Int32))), .val (.int (3 : Int32)), .val (.int lo), .val (.int hi), .val (.int (ps + (2 : Int32)))] [(.int (ps + (2 : Int32))), (.ref ar)])
              refine Ends.ldB X0 hx hZ e0 A0 (k := (P + 2)) f2_ (by rw [Int32.lt_iff_toInt_lt] at c156; omega) (v := (.int (g (P + 2)))) rfl (hb hby d8_206) ?_
              show Ends p e below _ s₁ (mkF m 207 #[.val (.ref ar), .val (.int ps), .val (.int to1), .val (.int ((g P) &&& (255 : Int32))), .val (.int (3 : Int32)), .val (.int lo), .val (.int hi), .val (.int (ps + (2 : Int32)))] [(.int (g (P + 2)))])
              refine Ends.by (fun _ => XS.sipush X0.here hx rfl (hb hby d8_207)) ?_
              show Ends p e below _ s₁ (mkF m 210 #[.val (.ref ar), .val (.int ps), .val (.int to1), .val (.int ((g P) &&& (255 : Int32))), .val (.int (3 : Int32)), .val (.int lo), .val (.int hi), .val (.int (ps + (2 : Int32)))] [(.int (192 : Int32)), (.int (g (P + 2)))])
              refine Ends.by (fun _ => XS.iand X0.here hx rfl (hb hby d8_210) rfl) ?_
              show Ends p e below _ s₁ (mkF m 211 #[.val (.ref ar), .val (.int ps), .val (.int to1), .val (.int ((g P) &&& (255 : Int32))), .val (.int (3 : Int32)), .val (.int lo), .val (.int hi), .val (.int (ps + (2 : Int32)))] [(.int ((g (P + 2)) &&& (192 : Int32)))])
              refine Ends.by (fun _ => XS.sipush X0.here hx rfl (hb hby d8_211)) ?_
              show Ends p e below _ s₁ (mkF m 214 #[.val (.ref ar), .val (.int ps), .val (.int to1), .val (.int ((g P) &&& (255 : Int32))), .val (.int (3 : Int32)), .val (.int lo), .val (.int hi), .val (.int (ps + (2 : Int32)))] [(.int (128 : Int32)), (.int ((g (P + 2)) &&& (192 : Int32)))])
              refine Ends.icmp X0 hx (hb hby d8_214) 219 (by decide) (by decide) (fun q => ?_) (fun q => ?_)
              · have c214 : ((g (P + 2)) &&& (192 : Int32)) = (128 : Int32) := own_eq.1 q
                show Ends p e below _ s₁ (mkF m 219 #[.val (.ref ar), .val (.int ps), .val (.int to1), .val (.int ((g P) &&& (255 : Int32))), .val (.int (3 : Int32)), .val (.int lo), .val (.int hi), .val (.int (ps + (2 : Int32)))] [])
                refine Ends.by (fun _ => XS.iinc X0.here hx rfl (hb hby d8_219) rfl (l' := #[.val (.ref ar), .val (.int ps), .val (.int to1), .val (.int ((g P) &&& (255 : Int32))), .val (.int (3 : Int32)), .val (.int lo), .val (.int hi), .val (.int ((ps + (2 : Int32)) + (1 : Int32)))]) rfl) ?_
                show Ends p e below _ s₁ (mkF m 222 #[.val (.ref ar), .val (.int ps), .val (.int to1), .val (.int ((g P) &&& (255 : Int32))), .val (.int (3 : Int32)), .val (.int lo), .val (.int hi), .val (.int ((ps + (2 : Int32)) + (1 : Int32)))] [])
                refine Ends.by (fun _ => XS.goto X0.here hx rfl (pc0 := 222) (pc' := 194) rfl (hb hby d8_222) (by decide) (by decide)) ?_
                show Ends p e below _ s₁ (mkF m 194 #[.val (.ref ar), .val (.int ps), .val (.int to1), .val (.int ((g P) &&& (255 : Int32))), .val (.int (3 : Int32)), .val (.int lo), .val (.int hi), .val (.int ((ps + (2 : Int32)) + (1 : Int32)))] [])
                refine Ends.by (fun _ => XS.iload X0.here hx rfl (hb hby d8_194) rfl) ?_
                show Ends p e below _ s₁ (mkF m 196 #[.val (.ref ar), .val (.int ps), .val (.int to1), .val (.int ((g P) &&& (255 : Int32))), .val (.int (3 : Int32)), .val (.int lo), .val (.int hi), .val (.int ((ps + (2 : Int32)) + (1 : Int32)))] [(.int ((ps + (2 : Int32)) + (1 : Int32)))])
                refine Ends.by (fun _ => XS.iloadN X0.here hx rfl (hb hby d8_196) rfl) ?_
                show Ends p e below _ s₁ (mkF m 197 #[.val (.ref ar), .val (.int ps), .val (.int to1), .val (.int ((g P) &&& (255 : Int32))), .val (.int (3 : Int32)), .val (.int lo), .val (.int hi), .val (.int ((ps + (2 : Int32)) + (1 : Int32)))] [(.int ps), (.int ((ps + (2 : Int32)) + (1 : Int32)))])
                refine Ends.by (fun _ => XS.iload X0.here hx rfl (hb hby d8_197) rfl) ?_
                show Ends p e below _ s₁ (mkF m 199 #[.val (.ref ar), .val (.int ps), .val (.int to1), .val (.int ((g P) &&& (255 : Int32))), .val (.int (3 : Int32)), .val (.int lo), .val (.int hi), .val (.int ((ps + (2 : Int32)) + (1 : Int32)))] [(.int (3 : Int32)), (.int ps), (.int ((ps + (2 : Int32)) + (1 : Int32)))])
                refine Ends.by (fun _ => XS.iadd X0.here hx rfl (hb hby d8_199) rfl) ?_
                show Ends p e below _ s₁ (mkF m 200 #[.val (.ref ar), .val (.int ps), .val (.int to1), .val (.int ((g P) &&& (255 : Int32))), .val (.int (3 : Int32)), .val (.int lo), .val (.int hi), .val (.int ((ps + (2 : Int32)) + (1 : Int32)))] [(.int (ps + (3 : Int32))), (.int ((ps + (2 : Int32)) + (1 : Int32)))])
                refine Ends.icmp X0 hx (hb hby d8_200) 225 (by decide) (by decide) (fun q => ?_) (fun q => ?_)
                · have c200_1 : ¬ (((ps + (2 : Int32)) + (1 : Int32)) < (ps + (3 : Int32))) := own_ge.1 q
                  show Ends p e below _ s₁ (mkF m 225 #[.val (.ref ar), .val (.int ps), .val (.int to1), .val (.int ((g P) &&& (255 : Int32))), .val (.int (3 : Int32)), .val (.int lo), .val (.int hi), .val (.int ((ps + (2 : Int32)) + (1 : Int32)))] [])
                  refine Ends.by (fun _ => XS.iload X0.here hx rfl (hb hby d8_225) rfl) ?_
                  show Ends p e below _ s₁ (mkF m 227 #[.val (.ref ar), .val (.int ps), .val (.int to1), .val (.int ((g P) &&& (255 : Int32))), .val (.int (3 : Int32)), .val (.int lo), .val (.int hi), .val (.int ((ps + (2 : Int32)) + (1 : Int32)))] [(.int (3 : Int32))])
                  exact Ends.retI X0 hx hlk hret (hb hby d8_227) (by decide) (by decide) (by rw [e0]; exact ⟨by rw [own_t3, if_neg c156, if_neg c170, if_neg c184, if_pos c214], rfl, rfl⟩)
                · have c200_2 : ((ps + (2 : Int32)) + (1 : Int32)) < (ps + (3 : Int32)) := own_ge.2 q
                  exact absurd c200_2 (by rw [Int32.lt_iff_toInt_lt]; omega)
              · have c214 : ¬ (((g (P + 2)) &&& (192 : Int32)) = (128 : Int32)) := own_eq.2 q
                show Ends p e below _ s₁ (mkF m 217 #[.val (.ref ar), .val (.int ps), .val (.int to1), .val (.int ((g P) &&& (255 : Int32))), .val (.int (3 : Int32)), .val (.int lo), .val (.int hi), .val (.int (ps + (2 : Int32)))] [])
                refine Ends.by (fun _ => XS.iconst X0.here hx rfl (hb hby d8_217)) ?_
                show Ends p e below _ s₁ (mkF m 218 #[.val (.ref ar), .val (.int ps), .val (.int to1), .val (.int ((g P) &&& (255 : Int32))), .val (.int (3 : Int32)), .val (.int lo), .val (.int hi), .val (.int (ps + (2 : Int32)))] [(.int (0 : Int32))])
                exact Ends.retI X0 hx hlk hret (hb hby d8_218) (by decide) (by decide) (by rw [e0]; exact ⟨by rw [own_t3, if_neg c156, if_neg c170, if_neg c184, if_neg c214], rfl, rfl⟩)
          · have c184 : hi < ((g (P + 1)) &&& (255 : Int32)) := own_le.2 q
            show Ends p e below _ s₁ (mkF m 187 #[.val (.ref ar), .val (.int ps), .val (.int to1), .val (.int ((g P) &&& (255 : Int32))), .val (.int (3 : Int32)), .val (.int lo), .val (.int hi), .unset] [])
            refine Ends.by (fun _ => XS.iconst X0.here hx rfl (hb hby d8_187)) ?_
            show Ends p e below _ s₁ (mkF m 188 #[.val (.ref ar), .val (.int ps), .val (.int to1), .val (.int ((g P) &&& (255 : Int32))), .val (.int (3 : Int32)), .val (.int lo), .val (.int hi), .unset] [(.int (0 : Int32))])
            exact Ends.retI X0 hx hlk hret (hb hby d8_188) (by decide) (by decide) (by rw [e0]; exact ⟨by rw [own_t3, if_neg c156, if_neg c170, if_pos c184], rfl, rfl⟩)
  have J4 : ∀ lo hi : Int32, Ends p e below (Fini s (Pure h0 (some (.int (own_t4 g ps to1 P lo hi)))) 0 0) s₁ (mkF m 146 #[.val (.ref ar), .val (.int ps), .val (.int to1), .val (.int ((g P) &&& (255 : Int32))), .val (.int (4 : Int32)), .val (.int lo), .val (.int hi), .unset] []) := by
    intro lo hi
    refine Ends.by (fun _ => XS.iload X0.here hx rfl (hb hby d8_146) rfl) ?_
    show Ends p e below _ s₁ (mkF m 148 #[.val (.ref ar), .val (.int ps), .val (.int to1), .val (.int ((g P) &&& (255 : Int32))), .val (.int (4 : Int32)), .val (.int lo), .val (.int hi), .unset] [(.int (4 : Int32))])
    refine Ends.ifc X0 hx (hb hby d8_148) 187 (by decide) (by decide) (fun q => ?_) (fun q => ?_)
    · have c148 : (4 : Int32) = (0 : Int32) := own_eq.1 q
      exact absurd c148 (by decide)
    · have c148 : ¬ ((4 : Int32) = (0 : Int32)) := own_eq.2 q
      show Ends p e below _ s₁ (mkF m 151 #[.val (.ref ar), .val (.int ps), .val (.int to1), .val (.int ((g P) &&& (255 : Int32))), .val (.int (4 : Int32)), .val (.int lo), .val (.int hi), .unset] [])
      refine Ends.by (fun _ => XS.iloadN X0.here hx rfl (hb hby d8_151) rfl) ?_
      show Ends p e below _ s₁ (mkF m 152 #[.val (.ref ar), .val (.int ps), .val (.int to1), .val (.int ((g P) &&& (255 : Int32))), .val (.int (4 : Int32)), .val (.int lo), .val (.int hi), .unset] [(.int ps)])
      refine Ends.by (fun _ => XS.iload X0.here hx rfl (hb hby d8_152) rfl) ?_
      show Ends p e below _ s₁ (mkF m 154 #[.val (.ref ar), .val (.int ps), .val (.int to1), .val (.int ((g P) &&& (255 : Int32))), .val (.int (4 : Int32)), .val (.int lo), .val (.int hi), .unset] [(.int (4 : Int32)), (.int ps)])
      refine Ends.by (fun _ => XS.iadd X0.here hx rfl (hb hby d8_154) rfl) ?_
      show Ends p e below _ s₁ (mkF m 155 #[.val (.ref ar), .val (.int ps), .val (.int to1), .val (.int ((g P) &&& (255 : Int32))), .val (.int (4 : Int32)), .val (.int lo), .val (.int hi), .unset] [(.int (ps + (4 : Int32)))])
      refine Ends.by (fun _ => XS.iloadN X0.here hx rfl (hb hby d8_155) rfl) ?_
      show Ends p e below _ s₁ (mkF m 156 #[.val (.ref ar), .val (.int ps), .val (.int to1), .val (.int ((g P) &&& (255 : Int32))), .val (.int (4 : Int32)), .val (.int lo), .val (.int hi), .unset] [(.int to1), (.int (ps + (4 : Int32)))])
      refine Ends.icmp X0 hx (hb hby d8_156) 187 (by decide) (by decide) (fun q => ?_) (fun q => ?_)
      · have c156 : to1 < (ps + (4 : Int32)) := own_gt.1 q
        show Ends p e below _ s₁ (mkF m 187 #[.val (.ref ar), .val (.int ps), .val (.int to1), .val (.int ((g P) &&& (255 : Int32))), .val (.int (4 : Int32)), .val (.int lo), .val (.int hi), .unset] [])
        refine Ends.by (fun _ => XS.iconst X0.here hx rfl (hb hby d8_187)) ?_
        show Ends p e below _ s₁ (mkF m 188 #[.val (.ref ar), .val (.int ps), .val (.int to1), .val (.int ((g P) &&& (255 : Int32))), .val (.int (4 : Int32)), .val (.int lo), .val (.int hi), .unset] [(.int (0 : Int32))])
        exact Ends.retI X0 hx hlk hret (hb hby d8_188) (by decide) (by decide) (by rw [e0]; exact ⟨by rw [own_t4, if_pos c156], rfl, rfl⟩)
      · have c156 : ¬ (to1 < (ps + (4 : Int32))) := own_gt.2 q
        show Ends p e below _ s₁ (mkF m 159 #[.val (.ref ar), .val (.int ps), .val (.int to1), .val (.int ((g P) &&& (255 : Int32))), .val (.int (4 : Int32)), .val (.int lo), .val (.int hi), .unset] [])
        refine Ends.by (fun _ => XS.aloadN X0.here hx rfl (hb hby d8_159) rfl rfl) ?_
        show Ends p e below _ s₁ (mkF m 160 #[.val (.ref ar), .val (.int ps), .val (.int to1), .val (.int ((g P) &&& (255 : Int32))), .val (.int (4 : Int32)), .val (.int lo), .val (.int hi), .unset] [(.ref ar)])
        refine Ends.by (fun _ => XS.iloadN X0.here hx rfl (hb hby d8_160) rfl) ?_
        show Ends p e below _ s₁ (mkF m 161 #[.val (.ref ar), .val (.int ps), .val (.int to1), .val (.int ((g P) &&& (255 : Int32))), .val (.int (4 : Int32)), .val (.int lo), .val (.int hi), .unset] [(.int ps), (.ref ar)])
        refine Ends.by (fun _ => XS.iconst X0.here hx rfl (hb hby d8_161)) ?_
        show Ends p e below _ s₁ (mkF m 162 #[.val (.ref ar), .val (.int ps), .val (.int to1), .val (.int ((g P) &&& (255 : Int32))), .val (.int (4 : Int32)), .val (.int lo), .val (.int hi), .unset] [(.int (1 : Int32)), (.int ps), (.ref ar)])
        refine Ends.by (fun _ => XS.iadd X0.here hx rfl (hb hby d8_162) rfl) ?_
        show Ends p e below _ s₁ (mkF m 163 #[.val (.ref ar), .val (.int ps), .val (.int to1), .val (.int ((g P) &&& (255 : Int32))), .val (.int (4 : Int32)), .val (.int lo), .val (.int hi), .unset] [(.int (ps + (1 : Int32))), (.ref ar)])
        refine Ends.ldB X0 hx hZ e0 A0 (k := (P + 1)) f1_ (by rw [Int32.lt_iff_toInt_lt] at c156; omega) (v := (.int (g (P + 1)))) rfl (hb hby d8_163) ?_
        show Ends p e below _ s₁ (mkF m 164 #[.val (.ref ar), .val (.int ps), .val (.int to1), .val (.int ((g P) &&& (255 : Int32))), .val (.int (4 : Int32)), .val (.int lo), .val (.int hi), .unset] [(.int (g (P + 1)))])
        refine Ends.by (fun _ => XS.sipush X0.here hx rfl (hb hby d8_164)) ?_
        show Ends p e below _ s₁ (mkF m 167 #[.val (.ref ar), .val (.int ps), .val (.int to1), .val (.int ((g P) &&& (255 : Int32))), .val (.int (4 : Int32)), .val (.int lo), .val (.int hi), .unset] [(.int (255 : Int32)), (.int (g (P + 1)))])
        refine Ends.by (fun _ => XS.iand X0.here hx rfl (hb hby d8_167) rfl) ?_
        show Ends p e below _ s₁ (mkF m 168 #[.val (.ref ar), .val (.int ps), .val (.int to1), .val (.int ((g P) &&& (255 : Int32))), .val (.int (4 : Int32)), .val (.int lo), .val (.int hi), .unset] [(.int ((g (P + 1)) &&& (255 : Int32)))])
        refine Ends.by (fun _ => XS.iload X0.here hx rfl (hb hby d8_168) rfl) ?_
        show Ends p e below _ s₁ (mkF m 170 #[.val (.ref ar), .val (.int ps), .val (.int to1), .val (.int ((g P) &&& (255 : Int32))), .val (.int (4 : Int32)), .val (.int lo), .val (.int hi), .unset] [(.int lo), (.int ((g (P + 1)) &&& (255 : Int32)))])
        refine Ends.icmp X0 hx (hb hby d8_170) 187 (by decide) (by decide) (fun q => ?_) (fun q => ?_)
        · have c170 : ((g (P + 1)) &&& (255 : Int32)) < lo := own_lt.1 q
          show Ends p e below _ s₁ (mkF m 187 #[.val (.ref ar), .val (.int ps), .val (.int to1), .val (.int ((g P) &&& (255 : Int32))), .val (.int (4 : Int32)), .val (.int lo), .val (.int hi), .unset] [])
          refine Ends.by (fun _ => XS.iconst X0.here hx rfl (hb hby d8_187)) ?_
          show Ends p e below _ s₁ (mkF m 188 #[.val (.ref ar), .val (.int ps), .val (.int to1), .val (.int ((g P) &&& (255 : Int32))), .val (.int (4 : Int32)), .val (.int lo), .val (.int hi), .unset] [(.int (0 : Int32))])
          exact Ends.retI X0 hx hlk hret (hb hby d8_188) (by decide) (by decide) (by rw [e0]; exact ⟨by rw [own_t4, if_neg c156, if_pos c170], rfl, rfl⟩)
        · have c170 : ¬ (((g (P + 1)) &&& (255 : Int32)) < lo) := own_lt.2 q
          show Ends p e below _ s₁ (mkF m 173 #[.val (.ref ar), .val (.int ps), .val (.int to1), .val (.int ((g P) &&& (255 : Int32))), .val (.int (4 : Int32)), .val (.int lo), .val (.int hi), .unset] [])
          refine Ends.by (fun _ => XS.aloadN X0.here hx rfl (hb hby d8_173) rfl rfl) ?_
          show Ends p e below _ s₁ (mkF m 174 #[.val (.ref ar), .val (.int ps), .val (.int to1), .val (.int ((g P) &&& (255 : Int32))), .val (.int (4 : Int32)), .val (.int lo), .val (.int hi), .unset] [(.ref ar)])
          refine Ends.by (fun _ => XS.iloadN X0.here hx rfl (hb hby d8_174) rfl) ?_
          show Ends p e below _ s₁ (mkF m 175 #[.val (.ref ar), .val (.int ps), .val (.int to1), .val (.int ((g P) &&& (255 : Int32))), .val (.int (4 : Int32)), .val (.int lo), .val (.int hi), .unset] [(.int ps), (.ref ar)])
          refine Ends.by (fun _ => XS.iconst X0.here hx rfl (hb hby d8_175)) ?_
          show Ends p e below _ s₁ (mkF m 176 #[.val (.ref ar), .val (.int ps), .val (.int to1), .val (.int ((g P) &&& (255 : Int32))), .val (.int (4 : Int32)), .val (.int lo), .val (.int hi), .unset] [(.int (1 : Int32)), (.int ps), (.ref ar)])
          refine Ends.by (fun _ => XS.iadd X0.here hx rfl (hb hby d8_176) rfl) ?_
          show Ends p e below _ s₁ (mkF m 177 #[.val (.ref ar), .val (.int ps), .val (.int to1), .val (.int ((g P) &&& (255 : Int32))), .val (.int (4 : Int32)), .val (.int lo), .val (.int hi), .unset] [(.int (ps + (1 : Int32))), (.ref ar)])
          refine Ends.ldB X0 hx hZ e0 A0 (k := (P + 1)) f1_ (by rw [Int32.lt_iff_toInt_lt] at c156; omega) (v := (.int (g (P + 1)))) rfl (hb hby d8_177) ?_
          show Ends p e below _ s₁ (mkF m 178 #[.val (.ref ar), .val (.int ps), .val (.int to1), .val (.int ((g P) &&& (255 : Int32))), .val (.int (4 : Int32)), .val (.int lo), .val (.int hi), .unset] [(.int (g (P + 1)))])
          refine Ends.by (fun _ => XS.sipush X0.here hx rfl (hb hby d8_178)) ?_
          show Ends p e below _ s₁ (mkF m 181 #[.val (.ref ar), .val (.int ps), .val (.int to1), .val (.int ((g P) &&& (255 : Int32))), .val (.int (4 : Int32)), .val (.int lo), .val (.int hi), .unset] [(.int (255 : Int32)), (.int (g (P + 1)))])
          refine Ends.by (fun _ => XS.iand X0.here hx rfl (hb hby d8_181) rfl) ?_
          show Ends p e below _ s₁ (mkF m 182 #[.val (.ref ar), .val (.int ps), .val (.int to1), .val (.int ((g P) &&& (255 : Int32))), .val (.int (4 : Int32)), .val (.int lo), .val (.int hi), .unset] [(.int ((g (P + 1)) &&& (255 : Int32)))])
          refine Ends.by (fun _ => XS.iload X0.here hx rfl (hb hby d8_182) rfl) ?_
          show Ends p e below _ s₁ (mkF m 184 #[.val (.ref ar), .val (.int ps), .val (.int to1), .val (.int ((g P) &&& (255 : Int32))), .val (.int (4 : Int32)), .val (.int lo), .val (.int hi), .unset] [(.int hi), (.int ((g (P + 1)) &&& (255 : Int32)))])
          refine Ends.icmp X0 hx (hb hby d8_184) 189 (by decide) (by decide) (fun q => ?_) (fun q => ?_)
          · have c184 : ¬ (hi < ((g (P + 1)) &&& (255 : Int32))) := own_le.1 q
            show Ends p e below _ s₁ (mkF m 189 #[.val (.ref ar), .val (.int ps), .val (.int to1), .val (.int ((g P) &&& (255 : Int32))), .val (.int (4 : Int32)), .val (.int lo), .val (.int hi), .unset] [])
            refine Ends.by (fun _ => XS.iloadN X0.here hx rfl (hb hby d8_189) rfl) ?_
            show Ends p e below _ s₁ (mkF m 190 #[.val (.ref ar), .val (.int ps), .val (.int to1), .val (.int ((g P) &&& (255 : Int32))), .val (.int (4 : Int32)), .val (.int lo), .val (.int hi), .unset] [(.int ps)])
            refine Ends.by (fun _ => XS.iconst X0.here hx rfl (hb hby d8_190)) ?_
            show Ends p e below _ s₁ (mkF m 191 #[.val (.ref ar), .val (.int ps), .val (.int to1), .val (.int ((g P) &&& (255 : Int32))), .val (.int (4 : Int32)), .val (.int lo), .val (.int hi), .unset] [(.int (2 : Int32)), (.int ps)])
            refine Ends.by (fun _ => XS.iadd X0.here hx rfl (hb hby d8_191) rfl) ?_
            show Ends p e below _ s₁ (mkF m 192 #[.val (.ref ar), .val (.int ps), .val (.int to1), .val (.int ((g P) &&& (255 : Int32))), .val (.int (4 : Int32)), .val (.int lo), .val (.int hi), .unset] [(.int (ps + (2 : Int32)))])
            refine Ends.by (fun _ => XS.istore X0.here hx rfl (hb hby d8_192) rfl (l' := #[.val (.ref ar), .val (.int ps), .val (.int to1), .val (.int ((g P) &&& (255 : Int32))), .val (.int (4 : Int32)), .val (.int lo), .val (.int hi), .val (.int (ps + (2 : Int32)))]) rfl) ?_
            show Ends p e below _ s₁ (mkF m 194 #[.val (.ref ar), .val (.int ps), .val (.int to1), .val (.int ((g P) &&& (255 : Int32))), .val (.int (4 : Int32)), .val (.int lo), .val (.int hi), .val (.int (ps + (2 : Int32)))] [])
            refine Ends.by (fun _ => XS.iload X0.here hx rfl (hb hby d8_194) rfl) ?_
            show Ends p e below _ s₁ (mkF m 196 #[.val (.ref ar), .val (.int ps), .val (.int to1), .val (.int ((g P) &&& (255 : Int32))), .val (.int (4 : Int32)), .val (.int lo), .val (.int hi), .val (.int (ps + (2 : Int32)))] [(.int (ps + (2 : Int32)))])
            refine Ends.by (fun _ => XS.iloadN X0.here hx rfl (hb hby d8_196) rfl) ?_
            show Ends p e below _ s₁ (mkF m 197 #[.val (.ref ar), .val (.int ps), .val (.int to1), .val (.int ((g P) &&& (255 : Int32))), .val (.int (4 : Int32)), .val (.int lo), .val (.int hi), .val (.int (ps + (2 : Int32)))] [(.int ps), (.int (ps + (2 : Int32)))])
            refine Ends.by (fun _ => XS.iload X0.here hx rfl (hb hby d8_197) rfl) ?_
            show Ends p e below _ s₁ (mkF m 199 #[.val (.ref ar), .val (.int ps), .val (.int to1), .val (.int ((g P) &&& (255 : Int32))), .val (.int (4 : Int32)), .val (.int lo), .val (.int hi), .val (.int (ps + (2 : Int32)))] [(.int (4 : Int32)), (.int ps), (.int (ps + (2 : Int32)))])
            refine Ends.by (fun _ => XS.iadd X0.here hx rfl (hb hby d8_199) rfl) ?_
            show Ends p e below _ s₁ (mkF m 200 #[.val (.ref ar), .val (.int ps), .val (.int to1), .val (.int ((g P) &&& (255 : Int32))), .val (.int (4 : Int32)), .val (.int lo), .val (.int hi), .val (.int (ps + (2 : Int32)))] [(.int (ps + (4 : Int32))), (.int (ps + (2 : Int32)))])
            refine Ends.icmp X0 hx (hb hby d8_200) 225 (by decide) (by decide) (fun q => ?_) (fun q => ?_)
            · have c200 : ¬ ((ps + (2 : Int32)) < (ps + (4 : Int32))) := own_ge.1 q
              exact absurd (by rw [Int32.lt_iff_toInt_lt]; omega) c200
            · have c200 : (ps + (2 : Int32)) < (ps + (4 : Int32)) := own_ge.2 q
              show Ends p e below _ s₁ (mkF m 203 #[.val (.ref ar), .val (.int ps), .val (.int to1), .val (.int ((g P) &&& (255 : Int32))), .val (.int (4 : Int32)), .val (.int lo), .val (.int hi), .val (.int (ps + (2 : Int32)))] [])
              refine Ends.by (fun _ => XS.aloadN X0.here hx rfl (hb hby d8_203) rfl rfl) ?_
              show Ends p e below _ s₁ (mkF m 204 #[.val (.ref ar), .val (.int ps), .val (.int to1), .val (.int ((g P) &&& (255 : Int32))), .val (.int (4 : Int32)), .val (.int lo), .val (.int hi), .val (.int (ps + (2 : Int32)))] [(.ref ar)])
              refine Ends.by (fun _ => XS.iload X0.here hx rfl (hb hby d8_204) rfl) ?_
              show Ends p e below _ s₁ (mkF m 206 #[.val (.ref ar), .val (.int ps), .val (.int to1), .val (.int ((g P) &&& (255 : Int32))), .val (.int (4 : Int32)), .val (.int lo), .val (.int hi), .val (.int (ps + (2 : Int32)))] [(.int (ps + (2 : Int32))), (.ref ar)])
              refine Ends.ldB X0 hx hZ e0 A0 (k := (P + 2)) f2_ (by rw [Int32.lt_iff_toInt_lt] at c156; omega) (v := (.int (g (P + 2)))) rfl (hb hby d8_206) ?_
              show Ends p e below _ s₁ (mkF m 207 #[.val (.ref ar), .val (.int ps), .val (.int to1), .val (.int ((g P) &&& (255 : Int32))), .val (.int (4 : Int32)), .val (.int lo), .val (.int hi), .val (.int (ps + (2 : Int32)))] [(.int (g (P + 2)))])
              refine Ends.by (fun _ => XS.sipush X0.here hx rfl (hb hby d8_207)) ?_
              show Ends p e below _ s₁ (mkF m 210 #[.val (.ref ar), .val (.int ps), .val (.int to1), .val (.int ((g P) &&& (255 : Int32))), .val (.int (4 : Int32)), .val (.int lo), .val (.int hi), .val (.int (ps + (2 : Int32)))] [(.int (192 : Int32)), (.int (g (P + 2)))])
              refine Ends.by (fun _ => XS.iand X0.here hx rfl (hb hby d8_210) rfl) ?_
              show Ends p e below _ s₁ (mkF m 211 #[.val (.ref ar), .val (.int ps), .val (.int to1), .val (.int ((g P) &&& (255 : Int32))), .val (.int (4 : Int32)), .val (.int lo), .val (.int hi), .val (.int (ps + (2 : Int32)))] [(.int ((g (P + 2)) &&& (192 : Int32)))])
              refine Ends.by (fun _ => XS.sipush X0.here hx rfl (hb hby d8_211)) ?_
              show Ends p e below _ s₁ (mkF m 214 #[.val (.ref ar), .val (.int ps), .val (.int to1), .val (.int ((g P) &&& (255 : Int32))), .val (.int (4 : Int32)), .val (.int lo), .val (.int hi), .val (.int (ps + (2 : Int32)))] [(.int (128 : Int32)), (.int ((g (P + 2)) &&& (192 : Int32)))])
              refine Ends.icmp X0 hx (hb hby d8_214) 219 (by decide) (by decide) (fun q => ?_) (fun q => ?_)
              · have c214 : ((g (P + 2)) &&& (192 : Int32)) = (128 : Int32) := own_eq.1 q
                show Ends p e below _ s₁ (mkF m 219 #[.val (.ref ar), .val (.int ps), .val (.int to1), .val (.int ((g P) &&& (255 : Int32))), .val (.int (4 : Int32)), .val (.int lo), .val (.int hi), .val (.int (ps + (2 : Int32)))] [])
                refine Ends.by (fun _ => XS.iinc X0.here hx rfl (hb hby d8_219) rfl (l' := #[.val (.ref ar), .val (.int ps), .val (.int to1), .val (.int ((g P) &&& (255 : Int32))), .val (.int (4 : Int32)), .val (.int lo), .val (.int hi), .val (.int ((ps + (2 : Int32)) + (1 : Int32)))]) rfl) ?_
                show Ends p e below _ s₁ (mkF m 222 #[.val (.ref ar), .val (.int ps), .val (.int to1), .val (.int ((g P) &&& (255 : Int32))), .val (.int (4 : Int32)), .val (.int lo), .val (.int hi), .val (.int ((ps + (2 : Int32)) + (1 : Int32)))] [])
                refine Ends.by (fun _ => XS.goto X0.here hx rfl (pc0 := 222) (pc' := 194) rfl (hb hby d8_222) (by decide) (by decide)) ?_
                show Ends p e below _ s₁ (mkF m 194 #[.val (.ref ar), .val (.int ps), .val (.int to1), .val (.int ((g P) &&& (255 : Int32))), .val (.int (4 : Int32)), .val (.int lo), .val (.int hi), .val (.int ((ps + (2 : Int32)) + (1 : Int32)))] [])
                refine Ends.by (fun _ => XS.iload X0.here hx rfl (hb hby d8_194) rfl) ?_
                show Ends p e below _ s₁ (mkF m 196 #[.val (.ref ar), .val (.int ps), .val (.int to1), .val (.int ((g P) &&& (255 : Int32))), .val (.int (4 : Int32)), .val (.int lo), .val (.int hi), .val (.int ((ps + (2 : Int32)) + (1 : Int32)))] [(.int ((ps + (2 : Int32)) + (1 : Int32)))])
                refine Ends.by (fun _ => XS.iloadN X0.here hx rfl (hb hby d8_196) rfl) ?_
                show Ends p e below _ s₁ (mkF m 197 #[.val (.ref ar), .val (.int ps), .val (.int to1), .val (.int ((g P) &&& (255 : Int32))), .val (.int (4 : Int32)), .val (.int lo), .val (.int hi), .val (.int ((ps + (2 : Int32)) + (1 : Int32)))] [(.int ps), (.int ((ps + (2 : Int32)) + (1 : Int32)))])
                refine Ends.by (fun _ => XS.iload X0.here hx rfl (hb hby d8_197) rfl) ?_
                show Ends p e below _ s₁ (mkF m 199 #[.val (.ref ar), .val (.int ps), .val (.int to1), .val (.int ((g P) &&& (255 : Int32))), .val (.int (4 : Int32)), .val (.int lo), .val (.int hi), .val (.int ((ps + (2 : Int32)) + (1 : Int32)))] [(.int (4 : Int32)), (.int ps), (.int ((ps + (2 : Int32)) + (1 : Int32)))])
                refine Ends.by (fun _ => XS.iadd X0.here hx rfl (hb hby d8_199) rfl) ?_
                show Ends p e below _ s₁ (mkF m 200 #[.val (.ref ar), .val (.int ps), .val (.int to1), .val (.int ((g P) &&& (255 : Int32))), .val (.int (4 : Int32)), .val (.int lo), .val (.int hi), .val (.int ((ps + (2 : Int32)) + (1 : Int32)))] [(.int (ps + (4 : Int32))), (.int ((ps + (2 : Int32)) + (1 : Int32)))])
                refine Ends.icmp X0 hx (hb hby d8_200) 225 (by decide) (by decide) (fun q => ?_) (fun q => ?_)
                · have c200_3 : ¬ (((ps + (2 : Int32)) + (1 : Int32)) < (ps + (4 : Int32))) := own_ge.1 q
                  exact absurd (by rw [Int32.lt_iff_toInt_lt]; omega) c200_3
                · have c200_4 : ((ps + (2 : Int32)) + (1 : Int32)) < (ps + (4 : Int32)) := own_ge.2 q
                  show Ends p e below _ s₁ (mkF m 203 #[.val (.ref ar), .val (.int ps), .val (.int to1), .val (.int ((g P) &&& (255 : Int32))), .val (.int (4 : Int32)), .val (.int lo), .val (.int hi), .val (.int ((ps + (2 : Int32)) + (1 : Int32)))] [])
                  refine Ends.by (fun _ => XS.aloadN X0.here hx rfl (hb hby d8_203) rfl rfl) ?_
                  show Ends p e below _ s₁ (mkF m 204 #[.val (.ref ar), .val (.int ps), .val (.int to1), .val (.int ((g P) &&& (255 : Int32))), .val (.int (4 : Int32)), .val (.int lo), .val (.int hi), .val (.int ((ps + (2 : Int32)) + (1 : Int32)))] [(.ref ar)])
                  refine Ends.by (fun _ => XS.iload X0.here hx rfl (hb hby d8_204) rfl) ?_
                  show Ends p e below _ s₁ (mkF m 206 #[.val (.ref ar), .val (.int ps), .val (.int to1), .val (.int ((g P) &&& (255 : Int32))), .val (.int (4 : Int32)), .val (.int lo), .val (.int hi), .val (.int ((ps + (2 : Int32)) + (1 : Int32)))] [(.int ((ps + (2 : Int32)) + (1 : Int32))), (.ref ar)])
                  refine Ends.ldB X0 hx hZ e0 A0 (k := (P + 3)) f21_ (by rw [Int32.lt_iff_toInt_lt] at c156; omega) (v := (.int (g (P + 3)))) rfl (hb hby d8_206) ?_
                  show Ends p e below _ s₁ (mkF m 207 #[.val (.ref ar), .val (.int ps), .val (.int to1), .val (.int ((g P) &&& (255 : Int32))), .val (.int (4 : Int32)), .val (.int lo), .val (.int hi), .val (.int ((ps + (2 : Int32)) + (1 : Int32)))] [(.int (g (P + 3)))])
                  refine Ends.by (fun _ => XS.sipush X0.here hx rfl (hb hby d8_207)) ?_
                  show Ends p e below _ s₁ (mkF m 210 #[.val (.ref ar), .val (.int ps), .val (.int to1), .val (.int ((g P) &&& (255 : Int32))), .val (.int (4 : Int32)), .val (.int lo), .val (.int hi), .val (.int ((ps + (2 : Int32)) + (1 : Int32)))] [(.int (192 : Int32)), (.int (g (P + 3)))])
                  refine Ends.by (fun _ => XS.iand X0.here hx rfl (hb hby d8_210) rfl) ?_
                  show Ends p e below _ s₁ (mkF m 211 #[.val (.ref ar), .val (.int ps), .val (.int to1), .val (.int ((g P) &&& (255 : Int32))), .val (.int (4 : Int32)), .val (.int lo), .val (.int hi), .val (.int ((ps + (2 : Int32)) + (1 : Int32)))] [(.int ((g (P + 3)) &&& (192 : Int32)))])
                  refine Ends.by (fun _ => XS.sipush X0.here hx rfl (hb hby d8_211)) ?_
                  show Ends p e below _ s₁ (mkF m 214 #[.val (.ref ar), .val (.int ps), .val (.int to1), .val (.int ((g P) &&& (255 : Int32))), .val (.int (4 : Int32)), .val (.int lo), .val (.int hi), .val (.int ((ps + (2 : Int32)) + (1 : Int32)))] [(.int (128 : Int32)), (.int ((g (P + 3)) &&& (192 : Int32)))])
                  refine Ends.icmp X0 hx (hb hby d8_214) 219 (by decide) (by decide) (fun q => ?_) (fun q => ?_)
                  · have c214_5 : ((g (P + 3)) &&& (192 : Int32)) = (128 : Int32) := own_eq.1 q
                    show Ends p e below _ s₁ (mkF m 219 #[.val (.ref ar), .val (.int ps), .val (.int to1), .val (.int ((g P) &&& (255 : Int32))), .val (.int (4 : Int32)), .val (.int lo), .val (.int hi), .val (.int ((ps + (2 : Int32)) + (1 : Int32)))] [])
                    refine Ends.by (fun _ => XS.iinc X0.here hx rfl (hb hby d8_219) rfl (l' := #[.val (.ref ar), .val (.int ps), .val (.int to1), .val (.int ((g P) &&& (255 : Int32))), .val (.int (4 : Int32)), .val (.int lo), .val (.int hi), .val (.int (((ps + (2 : Int32)) + (1 : Int32)) + (1 : Int32)))]) rfl) ?_
                    show Ends p e below _ s₁ (mkF m 222 #[.val (.ref ar), .val (.int ps), .val (.int to1), .val (.int ((g P) &&& (255 : Int32))), .val (.int (4 : Int32)), .val (.int lo), .val (.int hi), .val (.int (((ps + (2 : Int32)) + (1 : Int32)) + (1 : Int32)))] [])
                    refine Ends.by (fun _ => XS.goto X0.here hx rfl (pc0 := 222) (pc' := 194) rfl (hb hby d8_222) (by decide) (by decide)) ?_
                    show Ends p e below _ s₁ (mkF m 194 #[.val (.ref ar), .val (.int ps), .val (.int to1), .val (.int ((g P) &&& (255 : Int32))), .val (.int (4 : Int32)), .val (.int lo), .val (.int hi), .val (.int (((ps + (2 : Int32)) + (1 : Int32)) + (1 : Int32)))] [])
                    refine Ends.by (fun _ => XS.iload X0.here hx rfl (hb hby d8_194) rfl) ?_
                    show Ends p e below _ s₁ (mkF m 196 #[.val (.ref ar), .val (.int ps), .val (.int to1), .val (.int ((g P) &&& (255 : Int32))), .val (.int (4 : Int32)), .val (.int lo), .val (.int hi), .val (.int (((ps + (2 : Int32)) + (1 : Int32)) + (1 : Int32)))] [(.int (((ps + (2 : Int32)) + (1 : Int32)) + (1 : Int32)))])
                    refine Ends.by (fun _ => XS.iloadN X0.here hx rfl (hb hby d8_196) rfl) ?_
                    show Ends p e below _ s₁ (mkF m 197 #[.val (.ref ar), .val (.int ps), .val (.int to1), .val (.int ((g P) &&& (255 : Int32))), .val (.int (4 : Int32)), .val (.int lo), .val (.int hi), .val (.int (((ps + (2 : Int32)) + (1 : Int32)) + (1 : Int32)))] [(.int ps), (.int (((ps + (2 : Int32)) + (1 : Int32)) + (1 : Int32)))])
                    refine Ends.by (fun _ => XS.iload X0.here hx rfl (hb hby d8_197) rfl) ?_
                    show Ends p e below _ s₁ (mkF m 199 #[.val (.ref ar), .val (.int ps), .val (.int to1), .val (.int ((g P) &&& (255 : Int32))), .val (.int (4 : Int32)), .val (.int lo), .val (.int hi), .val (.int (((ps + (2 : Int32)) + (1 : Int32)) + (1 : Int32)))] [(.int (4 : Int32)), (.int ps), (.int (((ps + (2 : Int32)) + (1 : Int32)) + (1 : Int32)))])
                    refine Ends.by (fun _ => XS.iadd X0.here hx rfl (hb hby d8_199) rfl) ?_
                    show Ends p e below _ s₁ (mkF m 200 #[.val (.ref ar), .val (.int ps), .val (.int to1), .val (.int ((g P) &&& (255 : Int32))), .val (.int (4 : Int32)), .val (.int lo), .val (.int hi), .val (.int (((ps + (2 : Int32)) + (1 : Int32)) + (1 : Int32)))] [(.int (ps + (4 : Int32))), (.int (((ps + (2 : Int32)) + (1 : Int32)) + (1 : Int32)))])
                    refine Ends.icmp X0 hx (hb hby d8_200) 225 (by decide) (by decide) (fun q => ?_) (fun q => ?_)
                    · have c200_6 : ¬ ((((ps + (2 : Int32)) + (1 : Int32)) + (1 : Int32)) < (ps + (4 : Int32))) := own_ge.1 q
                      show Ends p e below _ s₁ (mkF m 225 #[.val (.ref ar), .val (.int ps), .val (.int to1), .val (.int ((g P) &&& (255 : Int32))), .val (.int (4 : Int32)), .val (.int lo), .val (.int hi), .val (.int (((ps + (2 : Int32)) + (1 : Int32)) + (1 : Int32)))] [])
                      refine Ends.by (fun _ => XS.iload X0.here hx rfl (hb hby d8_225) rfl) ?_
                      show Ends p e below _ s₁ (mkF m 227 #[.val (.ref ar), .val (.int ps), .val (.int to1), .val (.int ((g P) &&& (255 : Int32))), .val (.int (4 : Int32)), .val (.int lo), .val (.int hi), .val (.int (((ps + (2 : Int32)) + (1 : Int32)) + (1 : Int32)))] [(.int (4 : Int32))])
                      exact Ends.retI X0 hx hlk hret (hb hby d8_227) (by decide) (by decide) (by rw [e0]; exact ⟨by rw [own_t4, if_neg c156, if_neg c170, if_neg c184, if_pos c214, if_pos c214_5], rfl, rfl⟩)
                    · have c200_7 : (((ps + (2 : Int32)) + (1 : Int32)) + (1 : Int32)) < (ps + (4 : Int32)) := own_ge.2 q
                      exact absurd c200_7 (by rw [Int32.lt_iff_toInt_lt]; omega)
                  · have c214_8 : ¬ (((g (P + 3)) &&& (192 : Int32)) = (128 : Int32)) := own_eq.2 q
                    show Ends p e below _ s₁ (mkF m 217 #[.val (.ref ar), .val (.int ps), .val (.int to1), .val (.int ((g P) &&& (255 : Int32))), .val (.int (4 : Int32)), .val (.int lo), .val (.int hi), .val (.int ((ps + (2 : Int32)) + (1 : Int32)))] [])
                    refine Ends.by (fun _ => XS.iconst X0.here hx rfl (hb hby d8_217)) ?_
                    show Ends p e below _ s₁ (mkF m 218 #[.val (.ref ar), .val (.int ps), .val (.int to1), .val (.int ((g P) &&& (255 : Int32))), .val (.int (4 : Int32)), .val (.int lo), .val (.int hi), .val (.int ((ps + (2 : Int32)) + (1 : Int32)))] [(.int (0 : Int32))])
                    exact Ends.retI X0 hx hlk hret (hb hby d8_218) (by decide) (by decide) (by rw [e0]; exact ⟨by rw [own_t4, if_neg c156, if_neg c170, if_neg c184, if_pos c214, if_neg c214_8], rfl, rfl⟩)
              · have c214 : ¬ (((g (P + 2)) &&& (192 : Int32)) = (128 : Int32)) := own_eq.2 q
                show Ends p e below _ s₁ (mkF m 217 #[.val (.ref ar), .val (.int ps), .val (.int to1), .val (.int ((g P) &&& (255 : Int32))), .val (.int (4 : Int32)), .val (.int lo), .val (.int hi), .val (.int (ps + (2 : Int32)))] [])
                refine Ends.by (fun _ => XS.iconst X0.here hx rfl (hb hby d8_217)) ?_
                show Ends p e below _ s₁ (mkF m 218 #[.val (.ref ar), .val (.int ps), .val (.int to1), .val (.int ((g P) &&& (255 : Int32))), .val (.int (4 : Int32)), .val (.int lo), .val (.int hi), .val (.int (ps + (2 : Int32)))] [(.int (0 : Int32))])
                exact Ends.retI X0 hx hlk hret (hb hby d8_218) (by decide) (by decide) (by rw [e0]; exact ⟨by rw [own_t4, if_neg c156, if_neg c170, if_neg c184, if_neg c214], rfl, rfl⟩)
          · have c184 : hi < ((g (P + 1)) &&& (255 : Int32)) := own_le.2 q
            show Ends p e below _ s₁ (mkF m 187 #[.val (.ref ar), .val (.int ps), .val (.int to1), .val (.int ((g P) &&& (255 : Int32))), .val (.int (4 : Int32)), .val (.int lo), .val (.int hi), .unset] [])
            refine Ends.by (fun _ => XS.iconst X0.here hx rfl (hb hby d8_187)) ?_
            show Ends p e below _ s₁ (mkF m 188 #[.val (.ref ar), .val (.int ps), .val (.int to1), .val (.int ((g P) &&& (255 : Int32))), .val (.int (4 : Int32)), .val (.int lo), .val (.int hi), .unset] [(.int (0 : Int32))])
            exact Ends.retI X0 hx hlk hret (hb hby d8_188) (by decide) (by decide) (by rw [e0]; exact ⟨by rw [own_t4, if_neg c156, if_neg c170, if_pos c184], rfl, rfl⟩)
  refine Ends.by (fun _ => XS.iloadN X0.here hx rfl (hb hby d8_21) rfl) ?_
  show Ends p e below _ s₁ (mkF m 22 #[.val (.ref ar), .val (.int ps), .val (.int to1), .val (.int ((g P) &&& (255 : Int32))), .val (.int (0 : Int32)), .val (.int (128 : Int32)), .val (.int (191 : Int32)), .unset] [(.int ((g P) &&& (255 : Int32)))])
  refine Ends.by (fun _ => XS.sipush X0.here hx rfl (hb hby d8_22)) ?_
  show Ends p e below _ s₁ (mkF m 25 #[.val (.ref ar), .val (.int ps), .val (.int to1), .val (.int ((g P) &&& (255 : Int32))), .val (.int (0 : Int32)), .val (.int (128 : Int32)), .val (.int (191 : Int32)), .unset] [(.int (194 : Int32)), (.int ((g P) &&& (255 : Int32)))])
  refine Ends.icmp X0 hx (hb hby d8_25) 41 (by decide) (by decide) (fun q => ?_) (fun q => ?_)
  · have c25 : ((g P) &&& (255 : Int32)) < (194 : Int32) := own_lt.1 q
    show Ends p e below _ s₁ (mkF m 41 #[.val (.ref ar), .val (.int ps), .val (.int to1), .val (.int ((g P) &&& (255 : Int32))), .val (.int (0 : Int32)), .val (.int (128 : Int32)), .val (.int (191 : Int32)), .unset] [])
    refine Ends.by (fun _ => XS.iloadN X0.here hx rfl (hb hby d8_41) rfl) ?_
    show Ends p e below _ s₁ (mkF m 42 #[.val (.ref ar), .val (.int ps), .val (.int to1), .val (.int ((g P) &&& (255 : Int32))), .val (.int (0 : Int32)), .val (.int (128 : Int32)), .val (.int (191 : Int32)), .unset] [(.int ((g P) &&& (255 : Int32)))])
    refine Ends.by (fun _ => XS.sipush X0.here hx rfl (hb hby d8_42)) ?_
    show Ends p e below _ s₁ (mkF m 45 #[.val (.ref ar), .val (.int ps), .val (.int to1), .val (.int ((g P) &&& (255 : Int32))), .val (.int (0 : Int32)), .val (.int (128 : Int32)), .val (.int (191 : Int32)), .unset] [(.int (224 : Int32)), (.int ((g P) &&& (255 : Int32)))])
    refine Ends.icmp X0 hx (hb hby d8_45) 95 (by decide) (by decide) (fun q => ?_) (fun q => ?_)
    · have c45 : ((g P) &&& (255 : Int32)) < (224 : Int32) := own_lt.1 q
      show Ends p e below _ s₁ (mkF m 95 #[.val (.ref ar), .val (.int ps), .val (.int to1), .val (.int ((g P) &&& (255 : Int32))), .val (.int (0 : Int32)), .val (.int (128 : Int32)), .val (.int (191 : Int32)), .unset] [])
      refine Ends.by (fun _ => XS.iloadN X0.here hx rfl (hb hby d8_95) rfl) ?_
      show Ends p e below _ s₁ (mkF m 96 #[.val (.ref ar), .val (.int ps), .val (.int to1), .val (.int ((g P) &&& (255 : Int32))), .val (.int (0 : Int32)), .val (.int (128 : Int32)), .val (.int (191 : Int32)), .unset] [(.int ((g P) &&& (255 : Int32)))])
      refine Ends.by (fun _ => XS.sipush X0.here hx rfl (hb hby d8_96)) ?_
      show Ends p e below _ s₁ (mkF m 99 #[.val (.ref ar), .val (.int ps), .val (.int to1), .val (.int ((g P) &&& (255 : Int32))), .val (.int (0 : Int32)), .val (.int (128 : Int32)), .val (.int (191 : Int32)), .unset] [(.int (240 : Int32)), (.int ((g P) &&& (255 : Int32)))])
      refine Ends.icmp X0 hx (hb hby d8_99) 146 (by decide) (by decide) (fun q => ?_) (fun q => ?_)
      · have c99 : ((g P) &&& (255 : Int32)) < (240 : Int32) := own_lt.1 q
        show Ends p e below _ s₁ (mkF m 146 #[.val (.ref ar), .val (.int ps), .val (.int to1), .val (.int ((g P) &&& (255 : Int32))), .val (.int (0 : Int32)), .val (.int (128 : Int32)), .val (.int (191 : Int32)), .unset] [])
        refine Ends.by (fun _ => XS.iload X0.here hx rfl (hb hby d8_146) rfl) ?_
        show Ends p e below _ s₁ (mkF m 148 #[.val (.ref ar), .val (.int ps), .val (.int to1), .val (.int ((g P) &&& (255 : Int32))), .val (.int (0 : Int32)), .val (.int (128 : Int32)), .val (.int (191 : Int32)), .unset] [(.int (0 : Int32))])
        refine Ends.ifc X0 hx (hb hby d8_148) 187 (by decide) (by decide) (fun q => ?_) (fun q => ?_)
        · have c148 : (0 : Int32) = (0 : Int32) := own_eq.1 q
          show Ends p e below _ s₁ (mkF m 187 #[.val (.ref ar), .val (.int ps), .val (.int to1), .val (.int ((g P) &&& (255 : Int32))), .val (.int (0 : Int32)), .val (.int (128 : Int32)), .val (.int (191 : Int32)), .unset] [])
          refine Ends.by (fun _ => XS.iconst X0.here hx rfl (hb hby d8_187)) ?_
          show Ends p e below _ s₁ (mkF m 188 #[.val (.ref ar), .val (.int ps), .val (.int to1), .val (.int ((g P) &&& (255 : Int32))), .val (.int (0 : Int32)), .val (.int (128 : Int32)), .val (.int (191 : Int32)), .unset] [(.int (0 : Int32))])
          exact Ends.retI X0 hx hlk hret (hb hby d8_188) (by decide) (by decide) (by rw [e0]; exact ⟨by rw [own_sq, if_pos c25, if_pos c45, if_pos c99], rfl, rfl⟩)
        · have c148 : ¬ ((0 : Int32) = (0 : Int32)) := own_eq.2 q
          exact absurd c148 (by decide)
      · have c99 : ¬ (((g P) &&& (255 : Int32)) < (240 : Int32)) := own_lt.2 q
        show Ends p e below _ s₁ (mkF m 102 #[.val (.ref ar), .val (.int ps), .val (.int to1), .val (.int ((g P) &&& (255 : Int32))), .val (.int (0 : Int32)), .val (.int (128 : Int32)), .val (.int (191 : Int32)), .unset] [])
        refine Ends.by (fun _ => XS.iloadN X0.here hx rfl (hb hby d8_102) rfl) ?_
        show Ends p e below _ s₁ (mkF m 103 #[.val (.ref ar), .val (.int ps), .val (.int to1), .val (.int ((g P) &&& (255 : Int32))), .val (.int (0 : Int32)), .val (.int (128 : Int32)), .val (.int (191 : Int32)), .unset] [(.int ((g P) &&& (255 : Int32)))])
        refine Ends.by (fun _ => XS.sipush X0.here hx rfl (hb hby d8_103)) ?_
        show Ends p e below _ s₁ (mkF m 106 #[.val (.ref ar), .val (.int ps), .val (.int to1), .val (.int ((g P) &&& (255 : Int32))), .val (.int (0 : Int32)), .val (.int (128 : Int32)), .val (.int (191 : Int32)), .unset] [(.int (244 : Int32)), (.int ((g P) &&& (255 : Int32)))])
        refine Ends.icmp X0 hx (hb hby d8_106) 146 (by decide) (by decide) (fun q => ?_) (fun q => ?_)
        · have c106 : (244 : Int32) < ((g P) &&& (255 : Int32)) := own_gt.1 q
          show Ends p e below _ s₁ (mkF m 146 #[.val (.ref ar), .val (.int ps), .val (.int to1), .val (.int ((g P) &&& (255 : Int32))), .val (.int (0 : Int32)), .val (.int (128 : Int32)), .val (.int (191 : Int32)), .unset] [])
          refine Ends.by (fun _ => XS.iload X0.here hx rfl (hb hby d8_146) rfl) ?_
          show Ends p e below _ s₁ (mkF m 148 #[.val (.ref ar), .val (.int ps), .val (.int to1), .val (.int ((g P) &&& (255 : Int32))), .val (.int (0 : Int32)), .val (.int (128 : Int32)), .val (.int (191 : Int32)), .unset] [(.int (0 : Int32))])
          refine Ends.ifc X0 hx (hb hby d8_148) 187 (by decide) (by decide) (fun q => ?_) (fun q => ?_)
          · have c148 : (0 : Int32) = (0 : Int32) := own_eq.1 q
            show Ends p e below _ s₁ (mkF m 187 #[.val (.ref ar), .val (.int ps), .val (.int to1), .val (.int ((g P) &&& (255 : Int32))), .val (.int (0 : Int32)), .val (.int (128 : Int32)), .val (.int (191 : Int32)), .unset] [])
            refine Ends.by (fun _ => XS.iconst X0.here hx rfl (hb hby d8_187)) ?_
            show Ends p e below _ s₁ (mkF m 188 #[.val (.ref ar), .val (.int ps), .val (.int to1), .val (.int ((g P) &&& (255 : Int32))), .val (.int (0 : Int32)), .val (.int (128 : Int32)), .val (.int (191 : Int32)), .unset] [(.int (0 : Int32))])
            exact Ends.retI X0 hx hlk hret (hb hby d8_188) (by decide) (by decide) (by rw [e0]; exact ⟨by rw [own_sq, if_pos c25, if_pos c45, if_neg c99, if_pos c106], rfl, rfl⟩)
          · have c148 : ¬ ((0 : Int32) = (0 : Int32)) := own_eq.2 q
            exact absurd c148 (by decide)
        · have c106 : ¬ ((244 : Int32) < ((g P) &&& (255 : Int32))) := own_gt.2 q
          show Ends p e below _ s₁ (mkF m 109 #[.val (.ref ar), .val (.int ps), .val (.int to1), .val (.int ((g P) &&& (255 : Int32))), .val (.int (0 : Int32)), .val (.int (128 : Int32)), .val (.int (191 : Int32)), .unset] [])
          refine Ends.by (fun _ => XS.iconst X0.here hx rfl (hb hby d8_109)) ?_
          show Ends p e below _ s₁ (mkF m 110 #[.val (.ref ar), .val (.int ps), .val (.int to1), .val (.int ((g P) &&& (255 : Int32))), .val (.int (0 : Int32)), .val (.int (128 : Int32)), .val (.int (191 : Int32)), .unset] [(.int (4 : Int32))])
          refine Ends.by (fun _ => XS.istore X0.here hx rfl (hb hby d8_110) rfl (l' := #[.val (.ref ar), .val (.int ps), .val (.int to1), .val (.int ((g P) &&& (255 : Int32))), .val (.int (4 : Int32)), .val (.int (128 : Int32)), .val (.int (191 : Int32)), .unset]) rfl) ?_
          show Ends p e below _ s₁ (mkF m 112 #[.val (.ref ar), .val (.int ps), .val (.int to1), .val (.int ((g P) &&& (255 : Int32))), .val (.int (4 : Int32)), .val (.int (128 : Int32)), .val (.int (191 : Int32)), .unset] [])
          refine Ends.by (fun _ => XS.iloadN X0.here hx rfl (hb hby d8_112) rfl) ?_
          show Ends p e below _ s₁ (mkF m 113 #[.val (.ref ar), .val (.int ps), .val (.int to1), .val (.int ((g P) &&& (255 : Int32))), .val (.int (4 : Int32)), .val (.int (128 : Int32)), .val (.int (191 : Int32)), .unset] [(.int ((g P) &&& (255 : Int32)))])
          refine Ends.by (fun _ => XS.sipush X0.here hx rfl (hb hby d8_113)) ?_
          show Ends p e below _ s₁ (mkF m 116 #[.val (.ref ar), .val (.int ps), .val (.int to1), .val (.int ((g P) &&& (255 : Int32))), .val (.int (4 : Int32)), .val (.int (128 : Int32)), .val (.int (191 : Int32)), .unset] [(.int (240 : Int32)), (.int ((g P) &&& (255 : Int32)))])
          refine Ends.icmp X0 hx (hb hby d8_116) 125 (by decide) (by decide) (fun q => ?_) (fun q => ?_)
          · have c116 : ¬ (((g P) &&& (255 : Int32)) = (240 : Int32)) := own_ne.1 q
            show Ends p e below _ s₁ (mkF m 125 #[.val (.ref ar), .val (.int ps), .val (.int to1), .val (.int ((g P) &&& (255 : Int32))), .val (.int (4 : Int32)), .val (.int (128 : Int32)), .val (.int (191 : Int32)), .unset] [])
            refine Ends.by (fun _ => XS.iload X0.here hx rfl (hb hby d8_125) rfl) ?_
            show Ends p e below _ s₁ (mkF m 127 #[.val (.ref ar), .val (.int ps), .val (.int to1), .val (.int ((g P) &&& (255 : Int32))), .val (.int (4 : Int32)), .val (.int (128 : Int32)), .val (.int (191 : Int32)), .unset] [(.int (128 : Int32))])
            refine Ends.by (fun _ => XS.istore X0.here hx rfl (hb hby d8_127) rfl (l' := #[.val (.ref ar), .val (.int ps), .val (.int to1), .val (.int ((g P) &&& (255 : Int32))), .val (.int (4 : Int32)), .val (.int (128 : Int32)), .val (.int (191 : Int32)), .unset]) rfl) ?_
            show Ends p e below _ s₁ (mkF m 129 #[.val (.ref ar), .val (.int ps), .val (.int to1), .val (.int ((g P) &&& (255 : Int32))), .val (.int (4 : Int32)), .val (.int (128 : Int32)), .val (.int (191 : Int32)), .unset] [])
            refine Ends.by (fun _ => XS.iloadN X0.here hx rfl (hb hby d8_129) rfl) ?_
            show Ends p e below _ s₁ (mkF m 130 #[.val (.ref ar), .val (.int ps), .val (.int to1), .val (.int ((g P) &&& (255 : Int32))), .val (.int (4 : Int32)), .val (.int (128 : Int32)), .val (.int (191 : Int32)), .unset] [(.int ((g P) &&& (255 : Int32)))])
            refine Ends.by (fun _ => XS.sipush X0.here hx rfl (hb hby d8_130)) ?_
            show Ends p e below _ s₁ (mkF m 133 #[.val (.ref ar), .val (.int ps), .val (.int to1), .val (.int ((g P) &&& (255 : Int32))), .val (.int (4 : Int32)), .val (.int (128 : Int32)), .val (.int (191 : Int32)), .unset] [(.int (244 : Int32)), (.int ((g P) &&& (255 : Int32)))])
            refine Ends.icmp X0 hx (hb hby d8_133) 142 (by decide) (by decide) (fun q => ?_) (fun q => ?_)
            · have c133 : ¬ (((g P) &&& (255 : Int32)) = (244 : Int32)) := own_ne.1 q
              show Ends p e below _ s₁ (mkF m 142 #[.val (.ref ar), .val (.int ps), .val (.int to1), .val (.int ((g P) &&& (255 : Int32))), .val (.int (4 : Int32)), .val (.int (128 : Int32)), .val (.int (191 : Int32)), .unset] [])
              refine Ends.by (fun _ => XS.iload X0.here hx rfl (hb hby d8_142) rfl) ?_
              show Ends p e below _ s₁ (mkF m 144 #[.val (.ref ar), .val (.int ps), .val (.int to1), .val (.int ((g P) &&& (255 : Int32))), .val (.int (4 : Int32)), .val (.int (128 : Int32)), .val (.int (191 : Int32)), .unset] [(.int (191 : Int32))])
              refine Ends.by (fun _ => XS.istore X0.here hx rfl (hb hby d8_144) rfl (l' := #[.val (.ref ar), .val (.int ps), .val (.int to1), .val (.int ((g P) &&& (255 : Int32))), .val (.int (4 : Int32)), .val (.int (128 : Int32)), .val (.int (191 : Int32)), .unset]) rfl) ?_
              show Ends p e below _ s₁ (mkF m 146 #[.val (.ref ar), .val (.int ps), .val (.int to1), .val (.int ((g P) &&& (255 : Int32))), .val (.int (4 : Int32)), .val (.int (128 : Int32)), .val (.int (191 : Int32)), .unset] [])
              rw [own_sq, if_pos c25, if_pos c45, if_neg c99, if_neg c106, if_neg c116, if_neg c133]
              exact J4 (128 : Int32) (191 : Int32)
            · have c133 : ((g P) &&& (255 : Int32)) = (244 : Int32) := own_ne.2 q
              show Ends p e below _ s₁ (mkF m 136 #[.val (.ref ar), .val (.int ps), .val (.int to1), .val (.int ((g P) &&& (255 : Int32))), .val (.int (4 : Int32)), .val (.int (128 : Int32)), .val (.int (191 : Int32)), .unset] [])
              refine Ends.by (fun _ => XS.sipush X0.here hx rfl (hb hby d8_136)) ?_
              show Ends p e below _ s₁ (mkF m 139 #[.val (.ref ar), .val (.int ps), .val (.int to1), .val (.int ((g P) &&& (255 : Int32))), .val (.int (4 : Int32)), .val (.int (128 : Int32)), .val (.int (191 : Int32)), .unset] [(.int (143 : Int32))])
              refine Ends.by (fun _ => XS.goto X0.here hx rfl (pc0 := 139) (pc' := 144) rfl (hb hby d8_139) (by decide) (by decide)) ?_
              show Ends p e below _ s₁ (mkF m 144 #[.val (.ref ar), .val (.int ps), .val (.int to1), .val (.int ((g P) &&& (255 : Int32))), .val (.int (4 : Int32)), .val (.int (128 : Int32)), .val (.int (191 : Int32)), .unset] [(.int (143 : Int32))])
              refine Ends.by (fun _ => XS.istore X0.here hx rfl (hb hby d8_144) rfl (l' := #[.val (.ref ar), .val (.int ps), .val (.int to1), .val (.int ((g P) &&& (255 : Int32))), .val (.int (4 : Int32)), .val (.int (128 : Int32)), .val (.int (143 : Int32)), .unset]) rfl) ?_
              show Ends p e below _ s₁ (mkF m 146 #[.val (.ref ar), .val (.int ps), .val (.int to1), .val (.int ((g P) &&& (255 : Int32))), .val (.int (4 : Int32)), .val (.int (128 : Int32)), .val (.int (143 : Int32)), .unset] [])
              rw [own_sq, if_pos c25, if_pos c45, if_neg c99, if_neg c106, if_neg c116, if_pos c133]
              exact J4 (128 : Int32) (143 : Int32)
          · have c116 : ((g P) &&& (255 : Int32)) = (240 : Int32) := own_ne.2 q
            show Ends p e below _ s₁ (mkF m 119 #[.val (.ref ar), .val (.int ps), .val (.int to1), .val (.int ((g P) &&& (255 : Int32))), .val (.int (4 : Int32)), .val (.int (128 : Int32)), .val (.int (191 : Int32)), .unset] [])
            refine Ends.by (fun _ => XS.sipush X0.here hx rfl (hb hby d8_119)) ?_
            show Ends p e below _ s₁ (mkF m 122 #[.val (.ref ar), .val (.int ps), .val (.int to1), .val (.int ((g P) &&& (255 : Int32))), .val (.int (4 : Int32)), .val (.int (128 : Int32)), .val (.int (191 : Int32)), .unset] [(.int (144 : Int32))])
            refine Ends.by (fun _ => XS.goto X0.here hx rfl (pc0 := 122) (pc' := 127) rfl (hb hby d8_122) (by decide) (by decide)) ?_
            show Ends p e below _ s₁ (mkF m 127 #[.val (.ref ar), .val (.int ps), .val (.int to1), .val (.int ((g P) &&& (255 : Int32))), .val (.int (4 : Int32)), .val (.int (128 : Int32)), .val (.int (191 : Int32)), .unset] [(.int (144 : Int32))])
            refine Ends.by (fun _ => XS.istore X0.here hx rfl (hb hby d8_127) rfl (l' := #[.val (.ref ar), .val (.int ps), .val (.int to1), .val (.int ((g P) &&& (255 : Int32))), .val (.int (4 : Int32)), .val (.int (144 : Int32)), .val (.int (191 : Int32)), .unset]) rfl) ?_
            show Ends p e below _ s₁ (mkF m 129 #[.val (.ref ar), .val (.int ps), .val (.int to1), .val (.int ((g P) &&& (255 : Int32))), .val (.int (4 : Int32)), .val (.int (144 : Int32)), .val (.int (191 : Int32)), .unset] [])
            refine Ends.by (fun _ => XS.iloadN X0.here hx rfl (hb hby d8_129) rfl) ?_
            show Ends p e below _ s₁ (mkF m 130 #[.val (.ref ar), .val (.int ps), .val (.int to1), .val (.int ((g P) &&& (255 : Int32))), .val (.int (4 : Int32)), .val (.int (144 : Int32)), .val (.int (191 : Int32)), .unset] [(.int ((g P) &&& (255 : Int32)))])
            refine Ends.by (fun _ => XS.sipush X0.here hx rfl (hb hby d8_130)) ?_
            show Ends p e below _ s₁ (mkF m 133 #[.val (.ref ar), .val (.int ps), .val (.int to1), .val (.int ((g P) &&& (255 : Int32))), .val (.int (4 : Int32)), .val (.int (144 : Int32)), .val (.int (191 : Int32)), .unset] [(.int (244 : Int32)), (.int ((g P) &&& (255 : Int32)))])
            refine Ends.icmp X0 hx (hb hby d8_133) 142 (by decide) (by decide) (fun q => ?_) (fun q => ?_)
            · have c133 : ¬ (((g P) &&& (255 : Int32)) = (244 : Int32)) := own_ne.1 q
              show Ends p e below _ s₁ (mkF m 142 #[.val (.ref ar), .val (.int ps), .val (.int to1), .val (.int ((g P) &&& (255 : Int32))), .val (.int (4 : Int32)), .val (.int (144 : Int32)), .val (.int (191 : Int32)), .unset] [])
              refine Ends.by (fun _ => XS.iload X0.here hx rfl (hb hby d8_142) rfl) ?_
              show Ends p e below _ s₁ (mkF m 144 #[.val (.ref ar), .val (.int ps), .val (.int to1), .val (.int ((g P) &&& (255 : Int32))), .val (.int (4 : Int32)), .val (.int (144 : Int32)), .val (.int (191 : Int32)), .unset] [(.int (191 : Int32))])
              refine Ends.by (fun _ => XS.istore X0.here hx rfl (hb hby d8_144) rfl (l' := #[.val (.ref ar), .val (.int ps), .val (.int to1), .val (.int ((g P) &&& (255 : Int32))), .val (.int (4 : Int32)), .val (.int (144 : Int32)), .val (.int (191 : Int32)), .unset]) rfl) ?_
              show Ends p e below _ s₁ (mkF m 146 #[.val (.ref ar), .val (.int ps), .val (.int to1), .val (.int ((g P) &&& (255 : Int32))), .val (.int (4 : Int32)), .val (.int (144 : Int32)), .val (.int (191 : Int32)), .unset] [])
              rw [own_sq, if_pos c25, if_pos c45, if_neg c99, if_neg c106, if_pos c116, if_neg c133]
              exact J4 (144 : Int32) (191 : Int32)
            · have c133 : ((g P) &&& (255 : Int32)) = (244 : Int32) := own_ne.2 q
              show Ends p e below _ s₁ (mkF m 136 #[.val (.ref ar), .val (.int ps), .val (.int to1), .val (.int ((g P) &&& (255 : Int32))), .val (.int (4 : Int32)), .val (.int (144 : Int32)), .val (.int (191 : Int32)), .unset] [])
              refine Ends.by (fun _ => XS.sipush X0.here hx rfl (hb hby d8_136)) ?_
              show Ends p e below _ s₁ (mkF m 139 #[.val (.ref ar), .val (.int ps), .val (.int to1), .val (.int ((g P) &&& (255 : Int32))), .val (.int (4 : Int32)), .val (.int (144 : Int32)), .val (.int (191 : Int32)), .unset] [(.int (143 : Int32))])
              refine Ends.by (fun _ => XS.goto X0.here hx rfl (pc0 := 139) (pc' := 144) rfl (hb hby d8_139) (by decide) (by decide)) ?_
              show Ends p e below _ s₁ (mkF m 144 #[.val (.ref ar), .val (.int ps), .val (.int to1), .val (.int ((g P) &&& (255 : Int32))), .val (.int (4 : Int32)), .val (.int (144 : Int32)), .val (.int (191 : Int32)), .unset] [(.int (143 : Int32))])
              refine Ends.by (fun _ => XS.istore X0.here hx rfl (hb hby d8_144) rfl (l' := #[.val (.ref ar), .val (.int ps), .val (.int to1), .val (.int ((g P) &&& (255 : Int32))), .val (.int (4 : Int32)), .val (.int (144 : Int32)), .val (.int (143 : Int32)), .unset]) rfl) ?_
              show Ends p e below _ s₁ (mkF m 146 #[.val (.ref ar), .val (.int ps), .val (.int to1), .val (.int ((g P) &&& (255 : Int32))), .val (.int (4 : Int32)), .val (.int (144 : Int32)), .val (.int (143 : Int32)), .unset] [])
              rw [own_sq, if_pos c25, if_pos c45, if_neg c99, if_neg c106, if_pos c116, if_pos c133]
              exact J4 (144 : Int32) (143 : Int32)
    · have c45 : ¬ (((g P) &&& (255 : Int32)) < (224 : Int32)) := own_lt.2 q
      show Ends p e below _ s₁ (mkF m 48 #[.val (.ref ar), .val (.int ps), .val (.int to1), .val (.int ((g P) &&& (255 : Int32))), .val (.int (0 : Int32)), .val (.int (128 : Int32)), .val (.int (191 : Int32)), .unset] [])
      refine Ends.by (fun _ => XS.iloadN X0.here hx rfl (hb hby d8_48) rfl) ?_
      show Ends p e below _ s₁ (mkF m 49 #[.val (.ref ar), .val (.int ps), .val (.int to1), .val (.int ((g P) &&& (255 : Int32))), .val (.int (0 : Int32)), .val (.int (128 : Int32)), .val (.int (191 : Int32)), .unset] [(.int ((g P) &&& (255 : Int32)))])
      refine Ends.by (fun _ => XS.sipush X0.here hx rfl (hb hby d8_49)) ?_
      show Ends p e below _ s₁ (mkF m 52 #[.val (.ref ar), .val (.int ps), .val (.int to1), .val (.int ((g P) &&& (255 : Int32))), .val (.int (0 : Int32)), .val (.int (128 : Int32)), .val (.int (191 : Int32)), .unset] [(.int (239 : Int32)), (.int ((g P) &&& (255 : Int32)))])
      refine Ends.icmp X0 hx (hb hby d8_52) 95 (by decide) (by decide) (fun q => ?_) (fun q => ?_)
      · have c52 : (239 : Int32) < ((g P) &&& (255 : Int32)) := own_gt.1 q
        show Ends p e below _ s₁ (mkF m 95 #[.val (.ref ar), .val (.int ps), .val (.int to1), .val (.int ((g P) &&& (255 : Int32))), .val (.int (0 : Int32)), .val (.int (128 : Int32)), .val (.int (191 : Int32)), .unset] [])
        refine Ends.by (fun _ => XS.iloadN X0.here hx rfl (hb hby d8_95) rfl) ?_
        show Ends p e below _ s₁ (mkF m 96 #[.val (.ref ar), .val (.int ps), .val (.int to1), .val (.int ((g P) &&& (255 : Int32))), .val (.int (0 : Int32)), .val (.int (128 : Int32)), .val (.int (191 : Int32)), .unset] [(.int ((g P) &&& (255 : Int32)))])
        refine Ends.by (fun _ => XS.sipush X0.here hx rfl (hb hby d8_96)) ?_
        show Ends p e below _ s₁ (mkF m 99 #[.val (.ref ar), .val (.int ps), .val (.int to1), .val (.int ((g P) &&& (255 : Int32))), .val (.int (0 : Int32)), .val (.int (128 : Int32)), .val (.int (191 : Int32)), .unset] [(.int (240 : Int32)), (.int ((g P) &&& (255 : Int32)))])
        refine Ends.icmp X0 hx (hb hby d8_99) 146 (by decide) (by decide) (fun q => ?_) (fun q => ?_)
        · have c99 : ((g P) &&& (255 : Int32)) < (240 : Int32) := own_lt.1 q
          show Ends p e below _ s₁ (mkF m 146 #[.val (.ref ar), .val (.int ps), .val (.int to1), .val (.int ((g P) &&& (255 : Int32))), .val (.int (0 : Int32)), .val (.int (128 : Int32)), .val (.int (191 : Int32)), .unset] [])
          refine Ends.by (fun _ => XS.iload X0.here hx rfl (hb hby d8_146) rfl) ?_
          show Ends p e below _ s₁ (mkF m 148 #[.val (.ref ar), .val (.int ps), .val (.int to1), .val (.int ((g P) &&& (255 : Int32))), .val (.int (0 : Int32)), .val (.int (128 : Int32)), .val (.int (191 : Int32)), .unset] [(.int (0 : Int32))])
          refine Ends.ifc X0 hx (hb hby d8_148) 187 (by decide) (by decide) (fun q => ?_) (fun q => ?_)
          · have c148 : (0 : Int32) = (0 : Int32) := own_eq.1 q
            show Ends p e below _ s₁ (mkF m 187 #[.val (.ref ar), .val (.int ps), .val (.int to1), .val (.int ((g P) &&& (255 : Int32))), .val (.int (0 : Int32)), .val (.int (128 : Int32)), .val (.int (191 : Int32)), .unset] [])
            refine Ends.by (fun _ => XS.iconst X0.here hx rfl (hb hby d8_187)) ?_
            show Ends p e below _ s₁ (mkF m 188 #[.val (.ref ar), .val (.int ps), .val (.int to1), .val (.int ((g P) &&& (255 : Int32))), .val (.int (0 : Int32)), .val (.int (128 : Int32)), .val (.int (191 : Int32)), .unset] [(.int (0 : Int32))])
            exact Ends.retI X0 hx hlk hret (hb hby d8_188) (by decide) (by decide) (by rw [e0]; exact ⟨by rw [own_sq, if_pos c25, if_neg c45, if_pos c52, if_pos c99], rfl, rfl⟩)
          · have c148 : ¬ ((0 : Int32) = (0 : Int32)) := own_eq.2 q
            exact absurd c148 (by decide)
        · have c99 : ¬ (((g P) &&& (255 : Int32)) < (240 : Int32)) := own_lt.2 q
          show Ends p e below _ s₁ (mkF m 102 #[.val (.ref ar), .val (.int ps), .val (.int to1), .val (.int ((g P) &&& (255 : Int32))), .val (.int (0 : Int32)), .val (.int (128 : Int32)), .val (.int (191 : Int32)), .unset] [])
          refine Ends.by (fun _ => XS.iloadN X0.here hx rfl (hb hby d8_102) rfl) ?_
          show Ends p e below _ s₁ (mkF m 103 #[.val (.ref ar), .val (.int ps), .val (.int to1), .val (.int ((g P) &&& (255 : Int32))), .val (.int (0 : Int32)), .val (.int (128 : Int32)), .val (.int (191 : Int32)), .unset] [(.int ((g P) &&& (255 : Int32)))])
          refine Ends.by (fun _ => XS.sipush X0.here hx rfl (hb hby d8_103)) ?_
          show Ends p e below _ s₁ (mkF m 106 #[.val (.ref ar), .val (.int ps), .val (.int to1), .val (.int ((g P) &&& (255 : Int32))), .val (.int (0 : Int32)), .val (.int (128 : Int32)), .val (.int (191 : Int32)), .unset] [(.int (244 : Int32)), (.int ((g P) &&& (255 : Int32)))])
          refine Ends.icmp X0 hx (hb hby d8_106) 146 (by decide) (by decide) (fun q => ?_) (fun q => ?_)
          · have c106 : (244 : Int32) < ((g P) &&& (255 : Int32)) := own_gt.1 q
            show Ends p e below _ s₁ (mkF m 146 #[.val (.ref ar), .val (.int ps), .val (.int to1), .val (.int ((g P) &&& (255 : Int32))), .val (.int (0 : Int32)), .val (.int (128 : Int32)), .val (.int (191 : Int32)), .unset] [])
            refine Ends.by (fun _ => XS.iload X0.here hx rfl (hb hby d8_146) rfl) ?_
            show Ends p e below _ s₁ (mkF m 148 #[.val (.ref ar), .val (.int ps), .val (.int to1), .val (.int ((g P) &&& (255 : Int32))), .val (.int (0 : Int32)), .val (.int (128 : Int32)), .val (.int (191 : Int32)), .unset] [(.int (0 : Int32))])
            refine Ends.ifc X0 hx (hb hby d8_148) 187 (by decide) (by decide) (fun q => ?_) (fun q => ?_)
            · have c148 : (0 : Int32) = (0 : Int32) := own_eq.1 q
              show Ends p e below _ s₁ (mkF m 187 #[.val (.ref ar), .val (.int ps), .val (.int to1), .val (.int ((g P) &&& (255 : Int32))), .val (.int (0 : Int32)), .val (.int (128 : Int32)), .val (.int (191 : Int32)), .unset] [])
              refine Ends.by (fun _ => XS.iconst X0.here hx rfl (hb hby d8_187)) ?_
              show Ends p e below _ s₁ (mkF m 188 #[.val (.ref ar), .val (.int ps), .val (.int to1), .val (.int ((g P) &&& (255 : Int32))), .val (.int (0 : Int32)), .val (.int (128 : Int32)), .val (.int (191 : Int32)), .unset] [(.int (0 : Int32))])
              exact Ends.retI X0 hx hlk hret (hb hby d8_188) (by decide) (by decide) (by rw [e0]; exact ⟨by rw [own_sq, if_pos c25, if_neg c45, if_pos c52, if_neg c99, if_pos c106], rfl, rfl⟩)
            · have c148 : ¬ ((0 : Int32) = (0 : Int32)) := own_eq.2 q
              exact absurd c148 (by decide)
          · have c106 : ¬ ((244 : Int32) < ((g P) &&& (255 : Int32))) := own_gt.2 q
            show Ends p e below _ s₁ (mkF m 109 #[.val (.ref ar), .val (.int ps), .val (.int to1), .val (.int ((g P) &&& (255 : Int32))), .val (.int (0 : Int32)), .val (.int (128 : Int32)), .val (.int (191 : Int32)), .unset] [])
            refine Ends.by (fun _ => XS.iconst X0.here hx rfl (hb hby d8_109)) ?_
            show Ends p e below _ s₁ (mkF m 110 #[.val (.ref ar), .val (.int ps), .val (.int to1), .val (.int ((g P) &&& (255 : Int32))), .val (.int (0 : Int32)), .val (.int (128 : Int32)), .val (.int (191 : Int32)), .unset] [(.int (4 : Int32))])
            refine Ends.by (fun _ => XS.istore X0.here hx rfl (hb hby d8_110) rfl (l' := #[.val (.ref ar), .val (.int ps), .val (.int to1), .val (.int ((g P) &&& (255 : Int32))), .val (.int (4 : Int32)), .val (.int (128 : Int32)), .val (.int (191 : Int32)), .unset]) rfl) ?_
            show Ends p e below _ s₁ (mkF m 112 #[.val (.ref ar), .val (.int ps), .val (.int to1), .val (.int ((g P) &&& (255 : Int32))), .val (.int (4 : Int32)), .val (.int (128 : Int32)), .val (.int (191 : Int32)), .unset] [])
            refine Ends.by (fun _ => XS.iloadN X0.here hx rfl (hb hby d8_112) rfl) ?_
            show Ends p e below _ s₁ (mkF m 113 #[.val (.ref ar), .val (.int ps), .val (.int to1), .val (.int ((g P) &&& (255 : Int32))), .val (.int (4 : Int32)), .val (.int (128 : Int32)), .val (.int (191 : Int32)), .unset] [(.int ((g P) &&& (255 : Int32)))])
            refine Ends.by (fun _ => XS.sipush X0.here hx rfl (hb hby d8_113)) ?_
            show Ends p e below _ s₁ (mkF m 116 #[.val (.ref ar), .val (.int ps), .val (.int to1), .val (.int ((g P) &&& (255 : Int32))), .val (.int (4 : Int32)), .val (.int (128 : Int32)), .val (.int (191 : Int32)), .unset] [(.int (240 : Int32)), (.int ((g P) &&& (255 : Int32)))])
            refine Ends.icmp X0 hx (hb hby d8_116) 125 (by decide) (by decide) (fun q => ?_) (fun q => ?_)
            · have c116 : ¬ (((g P) &&& (255 : Int32)) = (240 : Int32)) := own_ne.1 q
              show Ends p e below _ s₁ (mkF m 125 #[.val (.ref ar), .val (.int ps), .val (.int to1), .val (.int ((g P) &&& (255 : Int32))), .val (.int (4 : Int32)), .val (.int (128 : Int32)), .val (.int (191 : Int32)), .unset] [])
              refine Ends.by (fun _ => XS.iload X0.here hx rfl (hb hby d8_125) rfl) ?_
              show Ends p e below _ s₁ (mkF m 127 #[.val (.ref ar), .val (.int ps), .val (.int to1), .val (.int ((g P) &&& (255 : Int32))), .val (.int (4 : Int32)), .val (.int (128 : Int32)), .val (.int (191 : Int32)), .unset] [(.int (128 : Int32))])
              refine Ends.by (fun _ => XS.istore X0.here hx rfl (hb hby d8_127) rfl (l' := #[.val (.ref ar), .val (.int ps), .val (.int to1), .val (.int ((g P) &&& (255 : Int32))), .val (.int (4 : Int32)), .val (.int (128 : Int32)), .val (.int (191 : Int32)), .unset]) rfl) ?_
              show Ends p e below _ s₁ (mkF m 129 #[.val (.ref ar), .val (.int ps), .val (.int to1), .val (.int ((g P) &&& (255 : Int32))), .val (.int (4 : Int32)), .val (.int (128 : Int32)), .val (.int (191 : Int32)), .unset] [])
              refine Ends.by (fun _ => XS.iloadN X0.here hx rfl (hb hby d8_129) rfl) ?_
              show Ends p e below _ s₁ (mkF m 130 #[.val (.ref ar), .val (.int ps), .val (.int to1), .val (.int ((g P) &&& (255 : Int32))), .val (.int (4 : Int32)), .val (.int (128 : Int32)), .val (.int (191 : Int32)), .unset] [(.int ((g P) &&& (255 : Int32)))])
              refine Ends.by (fun _ => XS.sipush X0.here hx rfl (hb hby d8_130)) ?_
              show Ends p e below _ s₁ (mkF m 133 #[.val (.ref ar), .val (.int ps), .val (.int to1), .val (.int ((g P) &&& (255 : Int32))), .val (.int (4 : Int32)), .val (.int (128 : Int32)), .val (.int (191 : Int32)), .unset] [(.int (244 : Int32)), (.int ((g P) &&& (255 : Int32)))])
              refine Ends.icmp X0 hx (hb hby d8_133) 142 (by decide) (by decide) (fun q => ?_) (fun q => ?_)
              · have c133 : ¬ (((g P) &&& (255 : Int32)) = (244 : Int32)) := own_ne.1 q
                show Ends p e below _ s₁ (mkF m 142 #[.val (.ref ar), .val (.int ps), .val (.int to1), .val (.int ((g P) &&& (255 : Int32))), .val (.int (4 : Int32)), .val (.int (128 : Int32)), .val (.int (191 : Int32)), .unset] [])
                refine Ends.by (fun _ => XS.iload X0.here hx rfl (hb hby d8_142) rfl) ?_
                show Ends p e below _ s₁ (mkF m 144 #[.val (.ref ar), .val (.int ps), .val (.int to1), .val (.int ((g P) &&& (255 : Int32))), .val (.int (4 : Int32)), .val (.int (128 : Int32)), .val (.int (191 : Int32)), .unset] [(.int (191 : Int32))])
                refine Ends.by (fun _ => XS.istore X0.here hx rfl (hb hby d8_144) rfl (l' := #[.val (.ref ar), .val (.int ps), .val (.int to1), .val (.int ((g P) &&& (255 : Int32))), .val (.int (4 : Int32)), .val (.int (128 : Int32)), .val (.int (191 : Int32)), .unset]) rfl) ?_
                show Ends p e below _ s₁ (mkF m 146 #[.val (.ref ar), .val (.int ps), .val (.int to1), .val (.int ((g P) &&& (255 : Int32))), .val (.int (4 : Int32)), .val (.int (128 : Int32)), .val (.int (191 : Int32)), .unset] [])
                rw [own_sq, if_pos c25, if_neg c45, if_pos c52, if_neg c99, if_neg c106, if_neg c116, if_neg c133]
                exact J4 (128 : Int32) (191 : Int32)
              · have c133 : ((g P) &&& (255 : Int32)) = (244 : Int32) := own_ne.2 q
                show Ends p e below _ s₁ (mkF m 136 #[.val (.ref ar), .val (.int ps), .val (.int to1), .val (.int ((g P) &&& (255 : Int32))), .val (.int (4 : Int32)), .val (.int (128 : Int32)), .val (.int (191 : Int32)), .unset] [])
                refine Ends.by (fun _ => XS.sipush X0.here hx rfl (hb hby d8_136)) ?_
                show Ends p e below _ s₁ (mkF m 139 #[.val (.ref ar), .val (.int ps), .val (.int to1), .val (.int ((g P) &&& (255 : Int32))), .val (.int (4 : Int32)), .val (.int (128 : Int32)), .val (.int (191 : Int32)), .unset] [(.int (143 : Int32))])
                refine Ends.by (fun _ => XS.goto X0.here hx rfl (pc0 := 139) (pc' := 144) rfl (hb hby d8_139) (by decide) (by decide)) ?_
                show Ends p e below _ s₁ (mkF m 144 #[.val (.ref ar), .val (.int ps), .val (.int to1), .val (.int ((g P) &&& (255 : Int32))), .val (.int (4 : Int32)), .val (.int (128 : Int32)), .val (.int (191 : Int32)), .unset] [(.int (143 : Int32))])
                refine Ends.by (fun _ => XS.istore X0.here hx rfl (hb hby d8_144) rfl (l' := #[.val (.ref ar), .val (.int ps), .val (.int to1), .val (.int ((g P) &&& (255 : Int32))), .val (.int (4 : Int32)), .val (.int (128 : Int32)), .val (.int (143 : Int32)), .unset]) rfl) ?_
                show Ends p e below _ s₁ (mkF m 146 #[.val (.ref ar), .val (.int ps), .val (.int to1), .val (.int ((g P) &&& (255 : Int32))), .val (.int (4 : Int32)), .val (.int (128 : Int32)), .val (.int (143 : Int32)), .unset] [])
                rw [own_sq, if_pos c25, if_neg c45, if_pos c52, if_neg c99, if_neg c106, if_neg c116, if_pos c133]
                exact J4 (128 : Int32) (143 : Int32)
            · have c116 : ((g P) &&& (255 : Int32)) = (240 : Int32) := own_ne.2 q
              show Ends p e below _ s₁ (mkF m 119 #[.val (.ref ar), .val (.int ps), .val (.int to1), .val (.int ((g P) &&& (255 : Int32))), .val (.int (4 : Int32)), .val (.int (128 : Int32)), .val (.int (191 : Int32)), .unset] [])
              refine Ends.by (fun _ => XS.sipush X0.here hx rfl (hb hby d8_119)) ?_
              show Ends p e below _ s₁ (mkF m 122 #[.val (.ref ar), .val (.int ps), .val (.int to1), .val (.int ((g P) &&& (255 : Int32))), .val (.int (4 : Int32)), .val (.int (128 : Int32)), .val (.int (191 : Int32)), .unset] [(.int (144 : Int32))])
              refine Ends.by (fun _ => XS.goto X0.here hx rfl (pc0 := 122) (pc' := 127) rfl (hb hby d8_122) (by decide) (by decide)) ?_
              show Ends p e below _ s₁ (mkF m 127 #[.val (.ref ar), .val (.int ps), .val (.int to1), .val (.int ((g P) &&& (255 : Int32))), .val (.int (4 : Int32)), .val (.int (128 : Int32)), .val (.int (191 : Int32)), .unset] [(.int (144 : Int32))])
              refine Ends.by (fun _ => XS.istore X0.here hx rfl (hb hby d8_127) rfl (l' := #[.val (.ref ar), .val (.int ps), .val (.int to1), .val (.int ((g P) &&& (255 : Int32))), .val (.int (4 : Int32)), .val (.int (144 : Int32)), .val (.int (191 : Int32)), .unset]) rfl) ?_
              show Ends p e below _ s₁ (mkF m 129 #[.val (.ref ar), .val (.int ps), .val (.int to1), .val (.int ((g P) &&& (255 : Int32))), .val (.int (4 : Int32)), .val (.int (144 : Int32)), .val (.int (191 : Int32)), .unset] [])
              refine Ends.by (fun _ => XS.iloadN X0.here hx rfl (hb hby d8_129) rfl) ?_
              show Ends p e below _ s₁ (mkF m 130 #[.val (.ref ar), .val (.int ps), .val (.int to1), .val (.int ((g P) &&& (255 : Int32))), .val (.int (4 : Int32)), .val (.int (144 : Int32)), .val (.int (191 : Int32)), .unset] [(.int ((g P) &&& (255 : Int32)))])
              refine Ends.by (fun _ => XS.sipush X0.here hx rfl (hb hby d8_130)) ?_
              show Ends p e below _ s₁ (mkF m 133 #[.val (.ref ar), .val (.int ps), .val (.int to1), .val (.int ((g P) &&& (255 : Int32))), .val (.int (4 : Int32)), .val (.int (144 : Int32)), .val (.int (191 : Int32)), .unset] [(.int (244 : Int32)), (.int ((g P) &&& (255 : Int32)))])
              refine Ends.icmp X0 hx (hb hby d8_133) 142 (by decide) (by decide) (fun q => ?_) (fun q => ?_)
              · have c133 : ¬ (((g P) &&& (255 : Int32)) = (244 : Int32)) := own_ne.1 q
                show Ends p e below _ s₁ (mkF m 142 #[.val (.ref ar), .val (.int ps), .val (.int to1), .val (.int ((g P) &&& (255 : Int32))), .val (.int (4 : Int32)), .val (.int (144 : Int32)), .val (.int (191 : Int32)), .unset] [])
                refine Ends.by (fun _ => XS.iload X0.here hx rfl (hb hby d8_142) rfl) ?_
                show Ends p e below _ s₁ (mkF m 144 #[.val (.ref ar), .val (.int ps), .val (.int to1), .val (.int ((g P) &&& (255 : Int32))), .val (.int (4 : Int32)), .val (.int (144 : Int32)), .val (.int (191 : Int32)), .unset] [(.int (191 : Int32))])
                refine Ends.by (fun _ => XS.istore X0.here hx rfl (hb hby d8_144) rfl (l' := #[.val (.ref ar), .val (.int ps), .val (.int to1), .val (.int ((g P) &&& (255 : Int32))), .val (.int (4 : Int32)), .val (.int (144 : Int32)), .val (.int (191 : Int32)), .unset]) rfl) ?_
                show Ends p e below _ s₁ (mkF m 146 #[.val (.ref ar), .val (.int ps), .val (.int to1), .val (.int ((g P) &&& (255 : Int32))), .val (.int (4 : Int32)), .val (.int (144 : Int32)), .val (.int (191 : Int32)), .unset] [])
                rw [own_sq, if_pos c25, if_neg c45, if_pos c52, if_neg c99, if_neg c106, if_pos c116, if_neg c133]
                exact J4 (144 : Int32) (191 : Int32)
              · have c133 : ((g P) &&& (255 : Int32)) = (244 : Int32) := own_ne.2 q
                show Ends p e below _ s₁ (mkF m 136 #[.val (.ref ar), .val (.int ps), .val (.int to1), .val (.int ((g P) &&& (255 : Int32))), .val (.int (4 : Int32)), .val (.int (144 : Int32)), .val (.int (191 : Int32)), .unset] [])
                refine Ends.by (fun _ => XS.sipush X0.here hx rfl (hb hby d8_136)) ?_
                show Ends p e below _ s₁ (mkF m 139 #[.val (.ref ar), .val (.int ps), .val (.int to1), .val (.int ((g P) &&& (255 : Int32))), .val (.int (4 : Int32)), .val (.int (144 : Int32)), .val (.int (191 : Int32)), .unset] [(.int (143 : Int32))])
                refine Ends.by (fun _ => XS.goto X0.here hx rfl (pc0 := 139) (pc' := 144) rfl (hb hby d8_139) (by decide) (by decide)) ?_
                show Ends p e below _ s₁ (mkF m 144 #[.val (.ref ar), .val (.int ps), .val (.int to1), .val (.int ((g P) &&& (255 : Int32))), .val (.int (4 : Int32)), .val (.int (144 : Int32)), .val (.int (191 : Int32)), .unset] [(.int (143 : Int32))])
                refine Ends.by (fun _ => XS.istore X0.here hx rfl (hb hby d8_144) rfl (l' := #[.val (.ref ar), .val (.int ps), .val (.int to1), .val (.int ((g P) &&& (255 : Int32))), .val (.int (4 : Int32)), .val (.int (144 : Int32)), .val (.int (143 : Int32)), .unset]) rfl) ?_
                show Ends p e below _ s₁ (mkF m 146 #[.val (.ref ar), .val (.int ps), .val (.int to1), .val (.int ((g P) &&& (255 : Int32))), .val (.int (4 : Int32)), .val (.int (144 : Int32)), .val (.int (143 : Int32)), .unset] [])
                rw [own_sq, if_pos c25, if_neg c45, if_pos c52, if_neg c99, if_neg c106, if_pos c116, if_pos c133]
                exact J4 (144 : Int32) (143 : Int32)
      · have c52 : ¬ ((239 : Int32) < ((g P) &&& (255 : Int32))) := own_gt.2 q
        show Ends p e below _ s₁ (mkF m 55 #[.val (.ref ar), .val (.int ps), .val (.int to1), .val (.int ((g P) &&& (255 : Int32))), .val (.int (0 : Int32)), .val (.int (128 : Int32)), .val (.int (191 : Int32)), .unset] [])
        refine Ends.by (fun _ => XS.iconst X0.here hx rfl (hb hby d8_55)) ?_
        show Ends p e below _ s₁ (mkF m 56 #[.val (.ref ar), .val (.int ps), .val (.int to1), .val (.int ((g P) &&& (255 : Int32))), .val (.int (0 : Int32)), .val (.int (128 : Int32)), .val (.int (191 : Int32)), .unset] [(.int (3 : Int32))])
        refine Ends.by (fun _ => XS.istore X0.here hx rfl (hb hby d8_56) rfl (l' := #[.val (.ref ar), .val (.int ps), .val (.int to1), .val (.int ((g P) &&& (255 : Int32))), .val (.int (3 : Int32)), .val (.int (128 : Int32)), .val (.int (191 : Int32)), .unset]) rfl) ?_
        show Ends p e below _ s₁ (mkF m 58 #[.val (.ref ar), .val (.int ps), .val (.int to1), .val (.int ((g P) &&& (255 : Int32))), .val (.int (3 : Int32)), .val (.int (128 : Int32)), .val (.int (191 : Int32)), .unset] [])
        refine Ends.by (fun _ => XS.iloadN X0.here hx rfl (hb hby d8_58) rfl) ?_
        show Ends p e below _ s₁ (mkF m 59 #[.val (.ref ar), .val (.int ps), .val (.int to1), .val (.int ((g P) &&& (255 : Int32))), .val (.int (3 : Int32)), .val (.int (128 : Int32)), .val (.int (191 : Int32)), .unset] [(.int ((g P) &&& (255 : Int32)))])
        refine Ends.by (fun _ => XS.sipush X0.here hx rfl (hb hby d8_59)) ?_
        show Ends p e below _ s₁ (mkF m 62 #[.val (.ref ar), .val (.int ps), .val (.int to1), .val (.int ((g P) &&& (255 : Int32))), .val (.int (3 : Int32)), .val (.int (128 : Int32)), .val (.int (191 : Int32)), .unset] [(.int (224 : Int32)), (.int ((g P) &&& (255 : Int32)))])
        refine Ends.icmp X0 hx (hb hby d8_62) 71 (by decide) (by decide) (fun q => ?_) (fun q => ?_)
        · have c62 : ¬ (((g P) &&& (255 : Int32)) = (224 : Int32)) := own_ne.1 q
          show Ends p e below _ s₁ (mkF m 71 #[.val (.ref ar), .val (.int ps), .val (.int to1), .val (.int ((g P) &&& (255 : Int32))), .val (.int (3 : Int32)), .val (.int (128 : Int32)), .val (.int (191 : Int32)), .unset] [])
          refine Ends.by (fun _ => XS.iload X0.here hx rfl (hb hby d8_71) rfl) ?_
          show Ends p e below _ s₁ (mkF m 73 #[.val (.ref ar), .val (.int ps), .val (.int to1), .val (.int ((g P) &&& (255 : Int32))), .val (.int (3 : Int32)), .val (.int (128 : Int32)), .val (.int (191 : Int32)), .unset] [(.int (128 : Int32))])
          refine Ends.by (fun _ => XS.istore X0.here hx rfl (hb hby d8_73) rfl (l' := #[.val (.ref ar), .val (.int ps), .val (.int to1), .val (.int ((g P) &&& (255 : Int32))), .val (.int (3 : Int32)), .val (.int (128 : Int32)), .val (.int (191 : Int32)), .unset]) rfl) ?_
          show Ends p e below _ s₁ (mkF m 75 #[.val (.ref ar), .val (.int ps), .val (.int to1), .val (.int ((g P) &&& (255 : Int32))), .val (.int (3 : Int32)), .val (.int (128 : Int32)), .val (.int (191 : Int32)), .unset] [])
          refine Ends.by (fun _ => XS.iloadN X0.here hx rfl (hb hby d8_75) rfl) ?_
          show Ends p e below _ s₁ (mkF m 76 #[.val (.ref ar), .val (.int ps), .val (.int to1), .val (.int ((g P) &&& (255 : Int32))), .val (.int (3 : Int32)), .val (.int (128 : Int32)), .val (.int (191 : Int32)), .unset] [(.int ((g P) &&& (255 : Int32)))])
          refine Ends.by (fun _ => XS.sipush X0.here hx rfl (hb hby d8_76)) ?_
          show Ends p e below _ s₁ (mkF m 79 #[.val (.ref ar), .val (.int ps), .val (.int to1), .val (.int ((g P) &&& (255 : Int32))), .val (.int (3 : Int32)), .val (.int (128 : Int32)), .val (.int (191 : Int32)), .unset] [(.int (237 : Int32)), (.int ((g P) &&& (255 : Int32)))])
          refine Ends.icmp X0 hx (hb hby d8_79) 88 (by decide) (by decide) (fun q => ?_) (fun q => ?_)
          · have c79 : ¬ (((g P) &&& (255 : Int32)) = (237 : Int32)) := own_ne.1 q
            show Ends p e below _ s₁ (mkF m 88 #[.val (.ref ar), .val (.int ps), .val (.int to1), .val (.int ((g P) &&& (255 : Int32))), .val (.int (3 : Int32)), .val (.int (128 : Int32)), .val (.int (191 : Int32)), .unset] [])
            refine Ends.by (fun _ => XS.iload X0.here hx rfl (hb hby d8_88) rfl) ?_
            show Ends p e below _ s₁ (mkF m 90 #[.val (.ref ar), .val (.int ps), .val (.int to1), .val (.int ((g P) &&& (255 : Int32))), .val (.int (3 : Int32)), .val (.int (128 : Int32)), .val (.int (191 : Int32)), .unset] [(.int (191 : Int32))])
            refine Ends.by (fun _ => XS.istore X0.here hx rfl (hb hby d8_90) rfl (l' := #[.val (.ref ar), .val (.int ps), .val (.int to1), .val (.int ((g P) &&& (255 : Int32))), .val (.int (3 : Int32)), .val (.int (128 : Int32)), .val (.int (191 : Int32)), .unset]) rfl) ?_
            show Ends p e below _ s₁ (mkF m 92 #[.val (.ref ar), .val (.int ps), .val (.int to1), .val (.int ((g P) &&& (255 : Int32))), .val (.int (3 : Int32)), .val (.int (128 : Int32)), .val (.int (191 : Int32)), .unset] [])
            refine Ends.by (fun _ => XS.goto X0.here hx rfl (pc0 := 92) (pc' := 146) rfl (hb hby d8_92) (by decide) (by decide)) ?_
            show Ends p e below _ s₁ (mkF m 146 #[.val (.ref ar), .val (.int ps), .val (.int to1), .val (.int ((g P) &&& (255 : Int32))), .val (.int (3 : Int32)), .val (.int (128 : Int32)), .val (.int (191 : Int32)), .unset] [])
            rw [own_sq, if_pos c25, if_neg c45, if_neg c52, if_neg c62, if_neg c79]
            exact J3 (128 : Int32) (191 : Int32)
          · have c79 : ((g P) &&& (255 : Int32)) = (237 : Int32) := own_ne.2 q
            show Ends p e below _ s₁ (mkF m 82 #[.val (.ref ar), .val (.int ps), .val (.int to1), .val (.int ((g P) &&& (255 : Int32))), .val (.int (3 : Int32)), .val (.int (128 : Int32)), .val (.int (191 : Int32)), .unset] [])
            refine Ends.by (fun _ => XS.sipush X0.here hx rfl (hb hby d8_82)) ?_
            show Ends p e below _ s₁ (mkF m 85 #[.val (.ref ar), .val (.int ps), .val (.int to1), .val (.int ((g P) &&& (255 : Int32))), .val (.int (3 : Int32)), .val (.int (128 : Int32)), .val (.int (191 : Int32)), .unset] [(.int (159 : Int32))])
            refine Ends.by (fun _ => XS.goto X0.here hx rfl (pc0 := 85) (pc' := 90) rfl (hb hby d8_85) (by decide) (by decide)) ?_
            show Ends p e below _ s₁ (mkF m 90 #[.val (.ref ar), .val (.int ps), .val (.int to1), .val (.int ((g P) &&& (255 : Int32))), .val (.int (3 : Int32)), .val (.int (128 : Int32)), .val (.int (191 : Int32)), .unset] [(.int (159 : Int32))])
            refine Ends.by (fun _ => XS.istore X0.here hx rfl (hb hby d8_90) rfl (l' := #[.val (.ref ar), .val (.int ps), .val (.int to1), .val (.int ((g P) &&& (255 : Int32))), .val (.int (3 : Int32)), .val (.int (128 : Int32)), .val (.int (159 : Int32)), .unset]) rfl) ?_
            show Ends p e below _ s₁ (mkF m 92 #[.val (.ref ar), .val (.int ps), .val (.int to1), .val (.int ((g P) &&& (255 : Int32))), .val (.int (3 : Int32)), .val (.int (128 : Int32)), .val (.int (159 : Int32)), .unset] [])
            refine Ends.by (fun _ => XS.goto X0.here hx rfl (pc0 := 92) (pc' := 146) rfl (hb hby d8_92) (by decide) (by decide)) ?_
            show Ends p e below _ s₁ (mkF m 146 #[.val (.ref ar), .val (.int ps), .val (.int to1), .val (.int ((g P) &&& (255 : Int32))), .val (.int (3 : Int32)), .val (.int (128 : Int32)), .val (.int (159 : Int32)), .unset] [])
            rw [own_sq, if_pos c25, if_neg c45, if_neg c52, if_neg c62, if_pos c79]
            exact J3 (128 : Int32) (159 : Int32)
        · have c62 : ((g P) &&& (255 : Int32)) = (224 : Int32) := own_ne.2 q
          show Ends p e below _ s₁ (mkF m 65 #[.val (.ref ar), .val (.int ps), .val (.int to1), .val (.int ((g P) &&& (255 : Int32))), .val (.int (3 : Int32)), .val (.int (128 : Int32)), .val (.int (191 : Int32)), .unset] [])
          refine Ends.by (fun _ => XS.sipush X0.here hx rfl (hb hby d8_65)) ?_
          show Ends p e below _ s₁ (mkF m 68 #[.val (.ref ar), .val (.int ps), .val (.int to1), .val (.int ((g P) &&& (255 : Int32))), .val (.int (3 : Int32)), .val (.int (128 : Int32)), .val (.int (191 : Int32)), .unset] [(.int (160 : Int32))])
          refine Ends.by (fun _ => XS.goto X0.here hx rfl (pc0 := 68) (pc' := 73) rfl (hb hby d8_68) (by decide) (by decide)) ?_
          show Ends p e below _ s₁ (mkF m 73 #[.val (.ref ar), .val (.int ps), .val (.int to1), .val (.int ((g P) &&& (255 : Int32))), .val (.int (3 : Int32)), .val (.int (128 : Int32)), .val (.int (191 : Int32)), .unset] [(.int (160 : Int32))])
          refine Ends.by (fun _ => XS.istore X0.here hx rfl (hb hby d8_73) rfl (l' := #[.val (.ref ar), .val (.int ps), .val (.int to1), .val (.int ((g P) &&& (255 : Int32))), .val (.int (3 : Int32)), .val (.int (160 : Int32)), .val (.int (191 : Int32)), .unset]) rfl) ?_
          show Ends p e below _ s₁ (mkF m 75 #[.val (.ref ar), .val (.int ps), .val (.int to1), .val (.int ((g P) &&& (255 : Int32))), .val (.int (3 : Int32)), .val (.int (160 : Int32)), .val (.int (191 : Int32)), .unset] [])
          refine Ends.by (fun _ => XS.iloadN X0.here hx rfl (hb hby d8_75) rfl) ?_
          show Ends p e below _ s₁ (mkF m 76 #[.val (.ref ar), .val (.int ps), .val (.int to1), .val (.int ((g P) &&& (255 : Int32))), .val (.int (3 : Int32)), .val (.int (160 : Int32)), .val (.int (191 : Int32)), .unset] [(.int ((g P) &&& (255 : Int32)))])
          refine Ends.by (fun _ => XS.sipush X0.here hx rfl (hb hby d8_76)) ?_
          show Ends p e below _ s₁ (mkF m 79 #[.val (.ref ar), .val (.int ps), .val (.int to1), .val (.int ((g P) &&& (255 : Int32))), .val (.int (3 : Int32)), .val (.int (160 : Int32)), .val (.int (191 : Int32)), .unset] [(.int (237 : Int32)), (.int ((g P) &&& (255 : Int32)))])
          refine Ends.icmp X0 hx (hb hby d8_79) 88 (by decide) (by decide) (fun q => ?_) (fun q => ?_)
          · have c79 : ¬ (((g P) &&& (255 : Int32)) = (237 : Int32)) := own_ne.1 q
            show Ends p e below _ s₁ (mkF m 88 #[.val (.ref ar), .val (.int ps), .val (.int to1), .val (.int ((g P) &&& (255 : Int32))), .val (.int (3 : Int32)), .val (.int (160 : Int32)), .val (.int (191 : Int32)), .unset] [])
            refine Ends.by (fun _ => XS.iload X0.here hx rfl (hb hby d8_88) rfl) ?_
            show Ends p e below _ s₁ (mkF m 90 #[.val (.ref ar), .val (.int ps), .val (.int to1), .val (.int ((g P) &&& (255 : Int32))), .val (.int (3 : Int32)), .val (.int (160 : Int32)), .val (.int (191 : Int32)), .unset] [(.int (191 : Int32))])
            refine Ends.by (fun _ => XS.istore X0.here hx rfl (hb hby d8_90) rfl (l' := #[.val (.ref ar), .val (.int ps), .val (.int to1), .val (.int ((g P) &&& (255 : Int32))), .val (.int (3 : Int32)), .val (.int (160 : Int32)), .val (.int (191 : Int32)), .unset]) rfl) ?_
            show Ends p e below _ s₁ (mkF m 92 #[.val (.ref ar), .val (.int ps), .val (.int to1), .val (.int ((g P) &&& (255 : Int32))), .val (.int (3 : Int32)), .val (.int (160 : Int32)), .val (.int (191 : Int32)), .unset] [])
            refine Ends.by (fun _ => XS.goto X0.here hx rfl (pc0 := 92) (pc' := 146) rfl (hb hby d8_92) (by decide) (by decide)) ?_
            show Ends p e below _ s₁ (mkF m 146 #[.val (.ref ar), .val (.int ps), .val (.int to1), .val (.int ((g P) &&& (255 : Int32))), .val (.int (3 : Int32)), .val (.int (160 : Int32)), .val (.int (191 : Int32)), .unset] [])
            rw [own_sq, if_pos c25, if_neg c45, if_neg c52, if_pos c62, if_neg c79]
            exact J3 (160 : Int32) (191 : Int32)
          · have c79 : ((g P) &&& (255 : Int32)) = (237 : Int32) := own_ne.2 q
            show Ends p e below _ s₁ (mkF m 82 #[.val (.ref ar), .val (.int ps), .val (.int to1), .val (.int ((g P) &&& (255 : Int32))), .val (.int (3 : Int32)), .val (.int (160 : Int32)), .val (.int (191 : Int32)), .unset] [])
            refine Ends.by (fun _ => XS.sipush X0.here hx rfl (hb hby d8_82)) ?_
            show Ends p e below _ s₁ (mkF m 85 #[.val (.ref ar), .val (.int ps), .val (.int to1), .val (.int ((g P) &&& (255 : Int32))), .val (.int (3 : Int32)), .val (.int (160 : Int32)), .val (.int (191 : Int32)), .unset] [(.int (159 : Int32))])
            refine Ends.by (fun _ => XS.goto X0.here hx rfl (pc0 := 85) (pc' := 90) rfl (hb hby d8_85) (by decide) (by decide)) ?_
            show Ends p e below _ s₁ (mkF m 90 #[.val (.ref ar), .val (.int ps), .val (.int to1), .val (.int ((g P) &&& (255 : Int32))), .val (.int (3 : Int32)), .val (.int (160 : Int32)), .val (.int (191 : Int32)), .unset] [(.int (159 : Int32))])
            refine Ends.by (fun _ => XS.istore X0.here hx rfl (hb hby d8_90) rfl (l' := #[.val (.ref ar), .val (.int ps), .val (.int to1), .val (.int ((g P) &&& (255 : Int32))), .val (.int (3 : Int32)), .val (.int (160 : Int32)), .val (.int (159 : Int32)), .unset]) rfl) ?_
            show Ends p e below _ s₁ (mkF m 92 #[.val (.ref ar), .val (.int ps), .val (.int to1), .val (.int ((g P) &&& (255 : Int32))), .val (.int (3 : Int32)), .val (.int (160 : Int32)), .val (.int (159 : Int32)), .unset] [])
            refine Ends.by (fun _ => XS.goto X0.here hx rfl (pc0 := 92) (pc' := 146) rfl (hb hby d8_92) (by decide) (by decide)) ?_
            show Ends p e below _ s₁ (mkF m 146 #[.val (.ref ar), .val (.int ps), .val (.int to1), .val (.int ((g P) &&& (255 : Int32))), .val (.int (3 : Int32)), .val (.int (160 : Int32)), .val (.int (159 : Int32)), .unset] [])
            rw [own_sq, if_pos c25, if_neg c45, if_neg c52, if_pos c62, if_pos c79]
            exact J3 (160 : Int32) (159 : Int32)
  · have c25 : ¬ (((g P) &&& (255 : Int32)) < (194 : Int32)) := own_lt.2 q
    show Ends p e below _ s₁ (mkF m 28 #[.val (.ref ar), .val (.int ps), .val (.int to1), .val (.int ((g P) &&& (255 : Int32))), .val (.int (0 : Int32)), .val (.int (128 : Int32)), .val (.int (191 : Int32)), .unset] [])
    refine Ends.by (fun _ => XS.iloadN X0.here hx rfl (hb hby d8_28) rfl) ?_
    show Ends p e below _ s₁ (mkF m 29 #[.val (.ref ar), .val (.int ps), .val (.int to1), .val (.int ((g P) &&& (255 : Int32))), .val (.int (0 : Int32)), .val (.int (128 : Int32)), .val (.int (191 : Int32)), .unset] [(.int ((g P) &&& (255 : Int32)))])
    refine Ends.by (fun _ => XS.sipush X0.here hx rfl (hb hby d8_29)) ?_
    show Ends p e below _ s₁ (mkF m 32 #[.val (.ref ar), .val (.int ps), .val (.int to1), .val (.int ((g P) &&& (255 : Int32))), .val (.int (0 : Int32)), .val (.int (128 : Int32)), .val (.int (191 : Int32)), .unset] [(.int (223 : Int32)), (.int ((g P) &&& (255 : Int32)))])
    refine Ends.icmp X0 hx (hb hby d8_32) 41 (by decide) (by decide) (fun q => ?_) (fun q => ?_)
    · have c32 : (223 : Int32) < ((g P) &&& (255 : Int32)) := own_gt.1 q
      show Ends p e below _ s₁ (mkF m 41 #[.val (.ref ar), .val (.int ps), .val (.int to1), .val (.int ((g P) &&& (255 : Int32))), .val (.int (0 : Int32)), .val (.int (128 : Int32)), .val (.int (191 : Int32)), .unset] [])
      refine Ends.by (fun _ => XS.iloadN X0.here hx rfl (hb hby d8_41) rfl) ?_
      show Ends p e below _ s₁ (mkF m 42 #[.val (.ref ar), .val (.int ps), .val (.int to1), .val (.int ((g P) &&& (255 : Int32))), .val (.int (0 : Int32)), .val (.int (128 : Int32)), .val (.int (191 : Int32)), .unset] [(.int ((g P) &&& (255 : Int32)))])
      refine Ends.by (fun _ => XS.sipush X0.here hx rfl (hb hby d8_42)) ?_
      show Ends p e below _ s₁ (mkF m 45 #[.val (.ref ar), .val (.int ps), .val (.int to1), .val (.int ((g P) &&& (255 : Int32))), .val (.int (0 : Int32)), .val (.int (128 : Int32)), .val (.int (191 : Int32)), .unset] [(.int (224 : Int32)), (.int ((g P) &&& (255 : Int32)))])
      refine Ends.icmp X0 hx (hb hby d8_45) 95 (by decide) (by decide) (fun q => ?_) (fun q => ?_)
      · have c45 : ((g P) &&& (255 : Int32)) < (224 : Int32) := own_lt.1 q
        show Ends p e below _ s₁ (mkF m 95 #[.val (.ref ar), .val (.int ps), .val (.int to1), .val (.int ((g P) &&& (255 : Int32))), .val (.int (0 : Int32)), .val (.int (128 : Int32)), .val (.int (191 : Int32)), .unset] [])
        refine Ends.by (fun _ => XS.iloadN X0.here hx rfl (hb hby d8_95) rfl) ?_
        show Ends p e below _ s₁ (mkF m 96 #[.val (.ref ar), .val (.int ps), .val (.int to1), .val (.int ((g P) &&& (255 : Int32))), .val (.int (0 : Int32)), .val (.int (128 : Int32)), .val (.int (191 : Int32)), .unset] [(.int ((g P) &&& (255 : Int32)))])
        refine Ends.by (fun _ => XS.sipush X0.here hx rfl (hb hby d8_96)) ?_
        show Ends p e below _ s₁ (mkF m 99 #[.val (.ref ar), .val (.int ps), .val (.int to1), .val (.int ((g P) &&& (255 : Int32))), .val (.int (0 : Int32)), .val (.int (128 : Int32)), .val (.int (191 : Int32)), .unset] [(.int (240 : Int32)), (.int ((g P) &&& (255 : Int32)))])
        refine Ends.icmp X0 hx (hb hby d8_99) 146 (by decide) (by decide) (fun q => ?_) (fun q => ?_)
        · have c99 : ((g P) &&& (255 : Int32)) < (240 : Int32) := own_lt.1 q
          show Ends p e below _ s₁ (mkF m 146 #[.val (.ref ar), .val (.int ps), .val (.int to1), .val (.int ((g P) &&& (255 : Int32))), .val (.int (0 : Int32)), .val (.int (128 : Int32)), .val (.int (191 : Int32)), .unset] [])
          refine Ends.by (fun _ => XS.iload X0.here hx rfl (hb hby d8_146) rfl) ?_
          show Ends p e below _ s₁ (mkF m 148 #[.val (.ref ar), .val (.int ps), .val (.int to1), .val (.int ((g P) &&& (255 : Int32))), .val (.int (0 : Int32)), .val (.int (128 : Int32)), .val (.int (191 : Int32)), .unset] [(.int (0 : Int32))])
          refine Ends.ifc X0 hx (hb hby d8_148) 187 (by decide) (by decide) (fun q => ?_) (fun q => ?_)
          · have c148 : (0 : Int32) = (0 : Int32) := own_eq.1 q
            show Ends p e below _ s₁ (mkF m 187 #[.val (.ref ar), .val (.int ps), .val (.int to1), .val (.int ((g P) &&& (255 : Int32))), .val (.int (0 : Int32)), .val (.int (128 : Int32)), .val (.int (191 : Int32)), .unset] [])
            refine Ends.by (fun _ => XS.iconst X0.here hx rfl (hb hby d8_187)) ?_
            show Ends p e below _ s₁ (mkF m 188 #[.val (.ref ar), .val (.int ps), .val (.int to1), .val (.int ((g P) &&& (255 : Int32))), .val (.int (0 : Int32)), .val (.int (128 : Int32)), .val (.int (191 : Int32)), .unset] [(.int (0 : Int32))])
            exact Ends.retI X0 hx hlk hret (hb hby d8_188) (by decide) (by decide) (by rw [e0]; exact ⟨by rw [own_sq, if_neg c25, if_pos c32, if_pos c45, if_pos c99], rfl, rfl⟩)
          · have c148 : ¬ ((0 : Int32) = (0 : Int32)) := own_eq.2 q
            exact absurd c148 (by decide)
        · have c99 : ¬ (((g P) &&& (255 : Int32)) < (240 : Int32)) := own_lt.2 q
          show Ends p e below _ s₁ (mkF m 102 #[.val (.ref ar), .val (.int ps), .val (.int to1), .val (.int ((g P) &&& (255 : Int32))), .val (.int (0 : Int32)), .val (.int (128 : Int32)), .val (.int (191 : Int32)), .unset] [])
          refine Ends.by (fun _ => XS.iloadN X0.here hx rfl (hb hby d8_102) rfl) ?_
          show Ends p e below _ s₁ (mkF m 103 #[.val (.ref ar), .val (.int ps), .val (.int to1), .val (.int ((g P) &&& (255 : Int32))), .val (.int (0 : Int32)), .val (.int (128 : Int32)), .val (.int (191 : Int32)), .unset] [(.int ((g P) &&& (255 : Int32)))])
          refine Ends.by (fun _ => XS.sipush X0.here hx rfl (hb hby d8_103)) ?_
          show Ends p e below _ s₁ (mkF m 106 #[.val (.ref ar), .val (.int ps), .val (.int to1), .val (.int ((g P) &&& (255 : Int32))), .val (.int (0 : Int32)), .val (.int (128 : Int32)), .val (.int (191 : Int32)), .unset] [(.int (244 : Int32)), (.int ((g P) &&& (255 : Int32)))])
          refine Ends.icmp X0 hx (hb hby d8_106) 146 (by decide) (by decide) (fun q => ?_) (fun q => ?_)
          · have c106 : (244 : Int32) < ((g P) &&& (255 : Int32)) := own_gt.1 q
            show Ends p e below _ s₁ (mkF m 146 #[.val (.ref ar), .val (.int ps), .val (.int to1), .val (.int ((g P) &&& (255 : Int32))), .val (.int (0 : Int32)), .val (.int (128 : Int32)), .val (.int (191 : Int32)), .unset] [])
            refine Ends.by (fun _ => XS.iload X0.here hx rfl (hb hby d8_146) rfl) ?_
            show Ends p e below _ s₁ (mkF m 148 #[.val (.ref ar), .val (.int ps), .val (.int to1), .val (.int ((g P) &&& (255 : Int32))), .val (.int (0 : Int32)), .val (.int (128 : Int32)), .val (.int (191 : Int32)), .unset] [(.int (0 : Int32))])
            refine Ends.ifc X0 hx (hb hby d8_148) 187 (by decide) (by decide) (fun q => ?_) (fun q => ?_)
            · have c148 : (0 : Int32) = (0 : Int32) := own_eq.1 q
              show Ends p e below _ s₁ (mkF m 187 #[.val (.ref ar), .val (.int ps), .val (.int to1), .val (.int ((g P) &&& (255 : Int32))), .val (.int (0 : Int32)), .val (.int (128 : Int32)), .val (.int (191 : Int32)), .unset] [])
              refine Ends.by (fun _ => XS.iconst X0.here hx rfl (hb hby d8_187)) ?_
              show Ends p e below _ s₁ (mkF m 188 #[.val (.ref ar), .val (.int ps), .val (.int to1), .val (.int ((g P) &&& (255 : Int32))), .val (.int (0 : Int32)), .val (.int (128 : Int32)), .val (.int (191 : Int32)), .unset] [(.int (0 : Int32))])
              exact Ends.retI X0 hx hlk hret (hb hby d8_188) (by decide) (by decide) (by rw [e0]; exact ⟨by rw [own_sq, if_neg c25, if_pos c32, if_pos c45, if_neg c99, if_pos c106], rfl, rfl⟩)
            · have c148 : ¬ ((0 : Int32) = (0 : Int32)) := own_eq.2 q
              exact absurd c148 (by decide)
          · have c106 : ¬ ((244 : Int32) < ((g P) &&& (255 : Int32))) := own_gt.2 q
            show Ends p e below _ s₁ (mkF m 109 #[.val (.ref ar), .val (.int ps), .val (.int to1), .val (.int ((g P) &&& (255 : Int32))), .val (.int (0 : Int32)), .val (.int (128 : Int32)), .val (.int (191 : Int32)), .unset] [])
            refine Ends.by (fun _ => XS.iconst X0.here hx rfl (hb hby d8_109)) ?_
            show Ends p e below _ s₁ (mkF m 110 #[.val (.ref ar), .val (.int ps), .val (.int to1), .val (.int ((g P) &&& (255 : Int32))), .val (.int (0 : Int32)), .val (.int (128 : Int32)), .val (.int (191 : Int32)), .unset] [(.int (4 : Int32))])
            refine Ends.by (fun _ => XS.istore X0.here hx rfl (hb hby d8_110) rfl (l' := #[.val (.ref ar), .val (.int ps), .val (.int to1), .val (.int ((g P) &&& (255 : Int32))), .val (.int (4 : Int32)), .val (.int (128 : Int32)), .val (.int (191 : Int32)), .unset]) rfl) ?_
            show Ends p e below _ s₁ (mkF m 112 #[.val (.ref ar), .val (.int ps), .val (.int to1), .val (.int ((g P) &&& (255 : Int32))), .val (.int (4 : Int32)), .val (.int (128 : Int32)), .val (.int (191 : Int32)), .unset] [])
            refine Ends.by (fun _ => XS.iloadN X0.here hx rfl (hb hby d8_112) rfl) ?_
            show Ends p e below _ s₁ (mkF m 113 #[.val (.ref ar), .val (.int ps), .val (.int to1), .val (.int ((g P) &&& (255 : Int32))), .val (.int (4 : Int32)), .val (.int (128 : Int32)), .val (.int (191 : Int32)), .unset] [(.int ((g P) &&& (255 : Int32)))])
            refine Ends.by (fun _ => XS.sipush X0.here hx rfl (hb hby d8_113)) ?_
            show Ends p e below _ s₁ (mkF m 116 #[.val (.ref ar), .val (.int ps), .val (.int to1), .val (.int ((g P) &&& (255 : Int32))), .val (.int (4 : Int32)), .val (.int (128 : Int32)), .val (.int (191 : Int32)), .unset] [(.int (240 : Int32)), (.int ((g P) &&& (255 : Int32)))])
            refine Ends.icmp X0 hx (hb hby d8_116) 125 (by decide) (by decide) (fun q => ?_) (fun q => ?_)
            · have c116 : ¬ (((g P) &&& (255 : Int32)) = (240 : Int32)) := own_ne.1 q
              show Ends p e below _ s₁ (mkF m 125 #[.val (.ref ar), .val (.int ps), .val (.int to1), .val (.int ((g P) &&& (255 : Int32))), .val (.int (4 : Int32)), .val (.int (128 : Int32)), .val (.int (191 : Int32)), .unset] [])
              refine Ends.by (fun _ => XS.iload X0.here hx rfl (hb hby d8_125) rfl) ?_
              show Ends p e below _ s₁ (mkF m 127 #[.val (.ref ar), .val (.int ps), .val (.int to1), .val (.int ((g P) &&& (255 : Int32))), .val (.int (4 : Int32)), .val (.int (128 : Int32)), .val (.int (191 : Int32)), .unset] [(.int (128 : Int32))])
              refine Ends.by (fun _ => XS.istore X0.here hx rfl (hb hby d8_127) rfl (l' := #[.val (.ref ar), .val (.int ps), .val (.int to1), .val (.int ((g P) &&& (255 : Int32))), .val (.int (4 : Int32)), .val (.int (128 : Int32)), .val (.int (191 : Int32)), .unset]) rfl) ?_
              show Ends p e below _ s₁ (mkF m 129 #[.val (.ref ar), .val (.int ps), .val (.int to1), .val (.int ((g P) &&& (255 : Int32))), .val (.int (4 : Int32)), .val (.int (128 : Int32)), .val (.int (191 : Int32)), .unset] [])
              refine Ends.by (fun _ => XS.iloadN X0.here hx rfl (hb hby d8_129) rfl) ?_
              show Ends p e below _ s₁ (mkF m 130 #[.val (.ref ar), .val (.int ps), .val (.int to1), .val (.int ((g P) &&& (255 : Int32))), .val (.int (4 : Int32)), .val (.int (128 : Int32)), .val (.int (191 : Int32)), .unset] [(.int ((g P) &&& (255 : Int32)))])
              refine Ends.by (fun _ => XS.sipush X0.here hx rfl (hb hby d8_130)) ?_
              show Ends p e below _ s₁ (mkF m 133 #[.val (.ref ar), .val (.int ps), .val (.int to1), .val (.int ((g P) &&& (255 : Int32))), .val (.int (4 : Int32)), .val (.int (128 : Int32)), .val (.int (191 : Int32)), .unset] [(.int (244 : Int32)), (.int ((g P) &&& (255 : Int32)))])
              refine Ends.icmp X0 hx (hb hby d8_133) 142 (by decide) (by decide) (fun q => ?_) (fun q => ?_)
              · have c133 : ¬ (((g P) &&& (255 : Int32)) = (244 : Int32)) := own_ne.1 q
                show Ends p e below _ s₁ (mkF m 142 #[.val (.ref ar), .val (.int ps), .val (.int to1), .val (.int ((g P) &&& (255 : Int32))), .val (.int (4 : Int32)), .val (.int (128 : Int32)), .val (.int (191 : Int32)), .unset] [])
                refine Ends.by (fun _ => XS.iload X0.here hx rfl (hb hby d8_142) rfl) ?_
                show Ends p e below _ s₁ (mkF m 144 #[.val (.ref ar), .val (.int ps), .val (.int to1), .val (.int ((g P) &&& (255 : Int32))), .val (.int (4 : Int32)), .val (.int (128 : Int32)), .val (.int (191 : Int32)), .unset] [(.int (191 : Int32))])
                refine Ends.by (fun _ => XS.istore X0.here hx rfl (hb hby d8_144) rfl (l' := #[.val (.ref ar), .val (.int ps), .val (.int to1), .val (.int ((g P) &&& (255 : Int32))), .val (.int (4 : Int32)), .val (.int (128 : Int32)), .val (.int (191 : Int32)), .unset]) rfl) ?_
                show Ends p e below _ s₁ (mkF m 146 #[.val (.ref ar), .val (.int ps), .val (.int to1), .val (.int ((g P) &&& (255 : Int32))), .val (.int (4 : Int32)), .val (.int (128 : Int32)), .val (.int (191 : Int32)), .unset] [])
                rw [own_sq, if_neg c25, if_pos c32, if_pos c45, if_neg c99, if_neg c106, if_neg c116, if_neg c133]
                exact J4 (128 : Int32) (191 : Int32)
              · have c133 : ((g P) &&& (255 : Int32)) = (244 : Int32) := own_ne.2 q
                show Ends p e below _ s₁ (mkF m 136 #[.val (.ref ar), .val (.int ps), .val (.int to1), .val (.int ((g P) &&& (255 : Int32))), .val (.int (4 : Int32)), .val (.int (128 : Int32)), .val (.int (191 : Int32)), .unset] [])
                refine Ends.by (fun _ => XS.sipush X0.here hx rfl (hb hby d8_136)) ?_
                show Ends p e below _ s₁ (mkF m 139 #[.val (.ref ar), .val (.int ps), .val (.int to1), .val (.int ((g P) &&& (255 : Int32))), .val (.int (4 : Int32)), .val (.int (128 : Int32)), .val (.int (191 : Int32)), .unset] [(.int (143 : Int32))])
                refine Ends.by (fun _ => XS.goto X0.here hx rfl (pc0 := 139) (pc' := 144) rfl (hb hby d8_139) (by decide) (by decide)) ?_
                show Ends p e below _ s₁ (mkF m 144 #[.val (.ref ar), .val (.int ps), .val (.int to1), .val (.int ((g P) &&& (255 : Int32))), .val (.int (4 : Int32)), .val (.int (128 : Int32)), .val (.int (191 : Int32)), .unset] [(.int (143 : Int32))])
                refine Ends.by (fun _ => XS.istore X0.here hx rfl (hb hby d8_144) rfl (l' := #[.val (.ref ar), .val (.int ps), .val (.int to1), .val (.int ((g P) &&& (255 : Int32))), .val (.int (4 : Int32)), .val (.int (128 : Int32)), .val (.int (143 : Int32)), .unset]) rfl) ?_
                show Ends p e below _ s₁ (mkF m 146 #[.val (.ref ar), .val (.int ps), .val (.int to1), .val (.int ((g P) &&& (255 : Int32))), .val (.int (4 : Int32)), .val (.int (128 : Int32)), .val (.int (143 : Int32)), .unset] [])
                rw [own_sq, if_neg c25, if_pos c32, if_pos c45, if_neg c99, if_neg c106, if_neg c116, if_pos c133]
                exact J4 (128 : Int32) (143 : Int32)
            · have c116 : ((g P) &&& (255 : Int32)) = (240 : Int32) := own_ne.2 q
              show Ends p e below _ s₁ (mkF m 119 #[.val (.ref ar), .val (.int ps), .val (.int to1), .val (.int ((g P) &&& (255 : Int32))), .val (.int (4 : Int32)), .val (.int (128 : Int32)), .val (.int (191 : Int32)), .unset] [])
              refine Ends.by (fun _ => XS.sipush X0.here hx rfl (hb hby d8_119)) ?_
              show Ends p e below _ s₁ (mkF m 122 #[.val (.ref ar), .val (.int ps), .val (.int to1), .val (.int ((g P) &&& (255 : Int32))), .val (.int (4 : Int32)), .val (.int (128 : Int32)), .val (.int (191 : Int32)), .unset] [(.int (144 : Int32))])
              refine Ends.by (fun _ => XS.goto X0.here hx rfl (pc0 := 122) (pc' := 127) rfl (hb hby d8_122) (by decide) (by decide)) ?_
              show Ends p e below _ s₁ (mkF m 127 #[.val (.ref ar), .val (.int ps), .val (.int to1), .val (.int ((g P) &&& (255 : Int32))), .val (.int (4 : Int32)), .val (.int (128 : Int32)), .val (.int (191 : Int32)), .unset] [(.int (144 : Int32))])
              refine Ends.by (fun _ => XS.istore X0.here hx rfl (hb hby d8_127) rfl (l' := #[.val (.ref ar), .val (.int ps), .val (.int to1), .val (.int ((g P) &&& (255 : Int32))), .val (.int (4 : Int32)), .val (.int (144 : Int32)), .val (.int (191 : Int32)), .unset]) rfl) ?_
              show Ends p e below _ s₁ (mkF m 129 #[.val (.ref ar), .val (.int ps), .val (.int to1), .val (.int ((g P) &&& (255 : Int32))), .val (.int (4 : Int32)), .val (.int (144 : Int32)), .val (.int (191 : Int32)), .unset] [])
              refine Ends.by (fun _ => XS.iloadN X0.here hx rfl (hb hby d8_129) rfl) ?_
              show Ends p e below _ s₁ (mkF m 130 #[.val (.ref ar), .val (.int ps), .val (.int to1), .val (.int ((g P) &&& (255 : Int32))), .val (.int (4 : Int32)), .val (.int (144 : Int32)), .val (.int (191 : Int32)), .unset] [(.int ((g P) &&& (255 : Int32)))])
              refine Ends.by (fun _ => XS.sipush X0.here hx rfl (hb hby d8_130)) ?_
              show Ends p e below _ s₁ (mkF m 133 #[.val (.ref ar), .val (.int ps), .val (.int to1), .val (.int ((g P) &&& (255 : Int32))), .val (.int (4 : Int32)), .val (.int (144 : Int32)), .val (.int (191 : Int32)), .unset] [(.int (244 : Int32)), (.int ((g P) &&& (255 : Int32)))])
              refine Ends.icmp X0 hx (hb hby d8_133) 142 (by decide) (by decide) (fun q => ?_) (fun q => ?_)
              · have c133 : ¬ (((g P) &&& (255 : Int32)) = (244 : Int32)) := own_ne.1 q
                show Ends p e below _ s₁ (mkF m 142 #[.val (.ref ar), .val (.int ps), .val (.int to1), .val (.int ((g P) &&& (255 : Int32))), .val (.int (4 : Int32)), .val (.int (144 : Int32)), .val (.int (191 : Int32)), .unset] [])
                refine Ends.by (fun _ => XS.iload X0.here hx rfl (hb hby d8_142) rfl) ?_
                show Ends p e below _ s₁ (mkF m 144 #[.val (.ref ar), .val (.int ps), .val (.int to1), .val (.int ((g P) &&& (255 : Int32))), .val (.int (4 : Int32)), .val (.int (144 : Int32)), .val (.int (191 : Int32)), .unset] [(.int (191 : Int32))])
                refine Ends.by (fun _ => XS.istore X0.here hx rfl (hb hby d8_144) rfl (l' := #[.val (.ref ar), .val (.int ps), .val (.int to1), .val (.int ((g P) &&& (255 : Int32))), .val (.int (4 : Int32)), .val (.int (144 : Int32)), .val (.int (191 : Int32)), .unset]) rfl) ?_
                show Ends p e below _ s₁ (mkF m 146 #[.val (.ref ar), .val (.int ps), .val (.int to1), .val (.int ((g P) &&& (255 : Int32))), .val (.int (4 : Int32)), .val (.int (144 : Int32)), .val (.int (191 : Int32)), .unset] [])
                rw [own_sq, if_neg c25, if_pos c32, if_pos c45, if_neg c99, if_neg c106, if_pos c116, if_neg c133]
                exact J4 (144 : Int32) (191 : Int32)
              · have c133 : ((g P) &&& (255 : Int32)) = (244 : Int32) := own_ne.2 q
                show Ends p e below _ s₁ (mkF m 136 #[.val (.ref ar), .val (.int ps), .val (.int to1), .val (.int ((g P) &&& (255 : Int32))), .val (.int (4 : Int32)), .val (.int (144 : Int32)), .val (.int (191 : Int32)), .unset] [])
                refine Ends.by (fun _ => XS.sipush X0.here hx rfl (hb hby d8_136)) ?_
                show Ends p e below _ s₁ (mkF m 139 #[.val (.ref ar), .val (.int ps), .val (.int to1), .val (.int ((g P) &&& (255 : Int32))), .val (.int (4 : Int32)), .val (.int (144 : Int32)), .val (.int (191 : Int32)), .unset] [(.int (143 : Int32))])
                refine Ends.by (fun _ => XS.goto X0.here hx rfl (pc0 := 139) (pc' := 144) rfl (hb hby d8_139) (by decide) (by decide)) ?_
                show Ends p e below _ s₁ (mkF m 144 #[.val (.ref ar), .val (.int ps), .val (.int to1), .val (.int ((g P) &&& (255 : Int32))), .val (.int (4 : Int32)), .val (.int (144 : Int32)), .val (.int (191 : Int32)), .unset] [(.int (143 : Int32))])
                refine Ends.by (fun _ => XS.istore X0.here hx rfl (hb hby d8_144) rfl (l' := #[.val (.ref ar), .val (.int ps), .val (.int to1), .val (.int ((g P) &&& (255 : Int32))), .val (.int (4 : Int32)), .val (.int (144 : Int32)), .val (.int (143 : Int32)), .unset]) rfl) ?_
                show Ends p e below _ s₁ (mkF m 146 #[.val (.ref ar), .val (.int ps), .val (.int to1), .val (.int ((g P) &&& (255 : Int32))), .val (.int (4 : Int32)), .val (.int (144 : Int32)), .val (.int (143 : Int32)), .unset] [])
                rw [own_sq, if_neg c25, if_pos c32, if_pos c45, if_neg c99, if_neg c106, if_pos c116, if_pos c133]
                exact J4 (144 : Int32) (143 : Int32)
      · have c45 : ¬ (((g P) &&& (255 : Int32)) < (224 : Int32)) := own_lt.2 q
        show Ends p e below _ s₁ (mkF m 48 #[.val (.ref ar), .val (.int ps), .val (.int to1), .val (.int ((g P) &&& (255 : Int32))), .val (.int (0 : Int32)), .val (.int (128 : Int32)), .val (.int (191 : Int32)), .unset] [])
        refine Ends.by (fun _ => XS.iloadN X0.here hx rfl (hb hby d8_48) rfl) ?_
        show Ends p e below _ s₁ (mkF m 49 #[.val (.ref ar), .val (.int ps), .val (.int to1), .val (.int ((g P) &&& (255 : Int32))), .val (.int (0 : Int32)), .val (.int (128 : Int32)), .val (.int (191 : Int32)), .unset] [(.int ((g P) &&& (255 : Int32)))])
        refine Ends.by (fun _ => XS.sipush X0.here hx rfl (hb hby d8_49)) ?_
        show Ends p e below _ s₁ (mkF m 52 #[.val (.ref ar), .val (.int ps), .val (.int to1), .val (.int ((g P) &&& (255 : Int32))), .val (.int (0 : Int32)), .val (.int (128 : Int32)), .val (.int (191 : Int32)), .unset] [(.int (239 : Int32)), (.int ((g P) &&& (255 : Int32)))])
        refine Ends.icmp X0 hx (hb hby d8_52) 95 (by decide) (by decide) (fun q => ?_) (fun q => ?_)
        · have c52 : (239 : Int32) < ((g P) &&& (255 : Int32)) := own_gt.1 q
          show Ends p e below _ s₁ (mkF m 95 #[.val (.ref ar), .val (.int ps), .val (.int to1), .val (.int ((g P) &&& (255 : Int32))), .val (.int (0 : Int32)), .val (.int (128 : Int32)), .val (.int (191 : Int32)), .unset] [])
          refine Ends.by (fun _ => XS.iloadN X0.here hx rfl (hb hby d8_95) rfl) ?_
          show Ends p e below _ s₁ (mkF m 96 #[.val (.ref ar), .val (.int ps), .val (.int to1), .val (.int ((g P) &&& (255 : Int32))), .val (.int (0 : Int32)), .val (.int (128 : Int32)), .val (.int (191 : Int32)), .unset] [(.int ((g P) &&& (255 : Int32)))])
          refine Ends.by (fun _ => XS.sipush X0.here hx rfl (hb hby d8_96)) ?_
          show Ends p e below _ s₁ (mkF m 99 #[.val (.ref ar), .val (.int ps), .val (.int to1), .val (.int ((g P) &&& (255 : Int32))), .val (.int (0 : Int32)), .val (.int (128 : Int32)), .val (.int (191 : Int32)), .unset] [(.int (240 : Int32)), (.int ((g P) &&& (255 : Int32)))])
          refine Ends.icmp X0 hx (hb hby d8_99) 146 (by decide) (by decide) (fun q => ?_) (fun q => ?_)
          · have c99 : ((g P) &&& (255 : Int32)) < (240 : Int32) := own_lt.1 q
            show Ends p e below _ s₁ (mkF m 146 #[.val (.ref ar), .val (.int ps), .val (.int to1), .val (.int ((g P) &&& (255 : Int32))), .val (.int (0 : Int32)), .val (.int (128 : Int32)), .val (.int (191 : Int32)), .unset] [])
            refine Ends.by (fun _ => XS.iload X0.here hx rfl (hb hby d8_146) rfl) ?_
            show Ends p e below _ s₁ (mkF m 148 #[.val (.ref ar), .val (.int ps), .val (.int to1), .val (.int ((g P) &&& (255 : Int32))), .val (.int (0 : Int32)), .val (.int (128 : Int32)), .val (.int (191 : Int32)), .unset] [(.int (0 : Int32))])
            refine Ends.ifc X0 hx (hb hby d8_148) 187 (by decide) (by decide) (fun q => ?_) (fun q => ?_)
            · have c148 : (0 : Int32) = (0 : Int32) := own_eq.1 q
              show Ends p e below _ s₁ (mkF m 187 #[.val (.ref ar), .val (.int ps), .val (.int to1), .val (.int ((g P) &&& (255 : Int32))), .val (.int (0 : Int32)), .val (.int (128 : Int32)), .val (.int (191 : Int32)), .unset] [])
              refine Ends.by (fun _ => XS.iconst X0.here hx rfl (hb hby d8_187)) ?_
              show Ends p e below _ s₁ (mkF m 188 #[.val (.ref ar), .val (.int ps), .val (.int to1), .val (.int ((g P) &&& (255 : Int32))), .val (.int (0 : Int32)), .val (.int (128 : Int32)), .val (.int (191 : Int32)), .unset] [(.int (0 : Int32))])
              exact Ends.retI X0 hx hlk hret (hb hby d8_188) (by decide) (by decide) (by rw [e0]; exact ⟨by rw [own_sq, if_neg c25, if_pos c32, if_neg c45, if_pos c52, if_pos c99], rfl, rfl⟩)
            · have c148 : ¬ ((0 : Int32) = (0 : Int32)) := own_eq.2 q
              exact absurd c148 (by decide)
          · have c99 : ¬ (((g P) &&& (255 : Int32)) < (240 : Int32)) := own_lt.2 q
            show Ends p e below _ s₁ (mkF m 102 #[.val (.ref ar), .val (.int ps), .val (.int to1), .val (.int ((g P) &&& (255 : Int32))), .val (.int (0 : Int32)), .val (.int (128 : Int32)), .val (.int (191 : Int32)), .unset] [])
            refine Ends.by (fun _ => XS.iloadN X0.here hx rfl (hb hby d8_102) rfl) ?_
            show Ends p e below _ s₁ (mkF m 103 #[.val (.ref ar), .val (.int ps), .val (.int to1), .val (.int ((g P) &&& (255 : Int32))), .val (.int (0 : Int32)), .val (.int (128 : Int32)), .val (.int (191 : Int32)), .unset] [(.int ((g P) &&& (255 : Int32)))])
            refine Ends.by (fun _ => XS.sipush X0.here hx rfl (hb hby d8_103)) ?_
            show Ends p e below _ s₁ (mkF m 106 #[.val (.ref ar), .val (.int ps), .val (.int to1), .val (.int ((g P) &&& (255 : Int32))), .val (.int (0 : Int32)), .val (.int (128 : Int32)), .val (.int (191 : Int32)), .unset] [(.int (244 : Int32)), (.int ((g P) &&& (255 : Int32)))])
            refine Ends.icmp X0 hx (hb hby d8_106) 146 (by decide) (by decide) (fun q => ?_) (fun q => ?_)
            · have c106 : (244 : Int32) < ((g P) &&& (255 : Int32)) := own_gt.1 q
              show Ends p e below _ s₁ (mkF m 146 #[.val (.ref ar), .val (.int ps), .val (.int to1), .val (.int ((g P) &&& (255 : Int32))), .val (.int (0 : Int32)), .val (.int (128 : Int32)), .val (.int (191 : Int32)), .unset] [])
              refine Ends.by (fun _ => XS.iload X0.here hx rfl (hb hby d8_146) rfl) ?_
              show Ends p e below _ s₁ (mkF m 148 #[.val (.ref ar), .val (.int ps), .val (.int to1), .val (.int ((g P) &&& (255 : Int32))), .val (.int (0 : Int32)), .val (.int (128 : Int32)), .val (.int (191 : Int32)), .unset] [(.int (0 : Int32))])
              refine Ends.ifc X0 hx (hb hby d8_148) 187 (by decide) (by decide) (fun q => ?_) (fun q => ?_)
              · have c148 : (0 : Int32) = (0 : Int32) := own_eq.1 q
                show Ends p e below _ s₁ (mkF m 187 #[.val (.ref ar), .val (.int ps), .val (.int to1), .val (.int ((g P) &&& (255 : Int32))), .val (.int (0 : Int32)), .val (.int (128 : Int32)), .val (.int (191 : Int32)), .unset] [])
                refine Ends.by (fun _ => XS.iconst X0.here hx rfl (hb hby d8_187)) ?_
                show Ends p e below _ s₁ (mkF m 188 #[.val (.ref ar), .val (.int ps), .val (.int to1), .val (.int ((g P) &&& (255 : Int32))), .val (.int (0 : Int32)), .val (.int (128 : Int32)), .val (.int (191 : Int32)), .unset] [(.int (0 : Int32))])
                exact Ends.retI X0 hx hlk hret (hb hby d8_188) (by decide) (by decide) (by rw [e0]; exact ⟨by rw [own_sq, if_neg c25, if_pos c32, if_neg c45, if_pos c52, if_neg c99, if_pos c106], rfl, rfl⟩)
              · have c148 : ¬ ((0 : Int32) = (0 : Int32)) := own_eq.2 q
                exact absurd c148 (by decide)
            · have c106 : ¬ ((244 : Int32) < ((g P) &&& (255 : Int32))) := own_gt.2 q
              show Ends p e below _ s₁ (mkF m 109 #[.val (.ref ar), .val (.int ps), .val (.int to1), .val (.int ((g P) &&& (255 : Int32))), .val (.int (0 : Int32)), .val (.int (128 : Int32)), .val (.int (191 : Int32)), .unset] [])
              refine Ends.by (fun _ => XS.iconst X0.here hx rfl (hb hby d8_109)) ?_
              show Ends p e below _ s₁ (mkF m 110 #[.val (.ref ar), .val (.int ps), .val (.int to1), .val (.int ((g P) &&& (255 : Int32))), .val (.int (0 : Int32)), .val (.int (128 : Int32)), .val (.int (191 : Int32)), .unset] [(.int (4 : Int32))])
              refine Ends.by (fun _ => XS.istore X0.here hx rfl (hb hby d8_110) rfl (l' := #[.val (.ref ar), .val (.int ps), .val (.int to1), .val (.int ((g P) &&& (255 : Int32))), .val (.int (4 : Int32)), .val (.int (128 : Int32)), .val (.int (191 : Int32)), .unset]) rfl) ?_
              show Ends p e below _ s₁ (mkF m 112 #[.val (.ref ar), .val (.int ps), .val (.int to1), .val (.int ((g P) &&& (255 : Int32))), .val (.int (4 : Int32)), .val (.int (128 : Int32)), .val (.int (191 : Int32)), .unset] [])
              refine Ends.by (fun _ => XS.iloadN X0.here hx rfl (hb hby d8_112) rfl) ?_
              show Ends p e below _ s₁ (mkF m 113 #[.val (.ref ar), .val (.int ps), .val (.int to1), .val (.int ((g P) &&& (255 : Int32))), .val (.int (4 : Int32)), .val (.int (128 : Int32)), .val (.int (191 : Int32)), .unset] [(.int ((g P) &&& (255 : Int32)))])
              refine Ends.by (fun _ => XS.sipush X0.here hx rfl (hb hby d8_113)) ?_
              show Ends p e below _ s₁ (mkF m 116 #[.val (.ref ar), .val (.int ps), .val (.int to1), .val (.int ((g P) &&& (255 : Int32))), .val (.int (4 : Int32)), .val (.int (128 : Int32)), .val (.int (191 : Int32)), .unset] [(.int (240 : Int32)), (.int ((g P) &&& (255 : Int32)))])
              refine Ends.icmp X0 hx (hb hby d8_116) 125 (by decide) (by decide) (fun q => ?_) (fun q => ?_)
              · have c116 : ¬ (((g P) &&& (255 : Int32)) = (240 : Int32)) := own_ne.1 q
                show Ends p e below _ s₁ (mkF m 125 #[.val (.ref ar), .val (.int ps), .val (.int to1), .val (.int ((g P) &&& (255 : Int32))), .val (.int (4 : Int32)), .val (.int (128 : Int32)), .val (.int (191 : Int32)), .unset] [])
                refine Ends.by (fun _ => XS.iload X0.here hx rfl (hb hby d8_125) rfl) ?_
                show Ends p e below _ s₁ (mkF m 127 #[.val (.ref ar), .val (.int ps), .val (.int to1), .val (.int ((g P) &&& (255 : Int32))), .val (.int (4 : Int32)), .val (.int (128 : Int32)), .val (.int (191 : Int32)), .unset] [(.int (128 : Int32))])
                refine Ends.by (fun _ => XS.istore X0.here hx rfl (hb hby d8_127) rfl (l' := #[.val (.ref ar), .val (.int ps), .val (.int to1), .val (.int ((g P) &&& (255 : Int32))), .val (.int (4 : Int32)), .val (.int (128 : Int32)), .val (.int (191 : Int32)), .unset]) rfl) ?_
                show Ends p e below _ s₁ (mkF m 129 #[.val (.ref ar), .val (.int ps), .val (.int to1), .val (.int ((g P) &&& (255 : Int32))), .val (.int (4 : Int32)), .val (.int (128 : Int32)), .val (.int (191 : Int32)), .unset] [])
                refine Ends.by (fun _ => XS.iloadN X0.here hx rfl (hb hby d8_129) rfl) ?_
                show Ends p e below _ s₁ (mkF m 130 #[.val (.ref ar), .val (.int ps), .val (.int to1), .val (.int ((g P) &&& (255 : Int32))), .val (.int (4 : Int32)), .val (.int (128 : Int32)), .val (.int (191 : Int32)), .unset] [(.int ((g P) &&& (255 : Int32)))])
                refine Ends.by (fun _ => XS.sipush X0.here hx rfl (hb hby d8_130)) ?_
                show Ends p e below _ s₁ (mkF m 133 #[.val (.ref ar), .val (.int ps), .val (.int to1), .val (.int ((g P) &&& (255 : Int32))), .val (.int (4 : Int32)), .val (.int (128 : Int32)), .val (.int (191 : Int32)), .unset] [(.int (244 : Int32)), (.int ((g P) &&& (255 : Int32)))])
                refine Ends.icmp X0 hx (hb hby d8_133) 142 (by decide) (by decide) (fun q => ?_) (fun q => ?_)
                · have c133 : ¬ (((g P) &&& (255 : Int32)) = (244 : Int32)) := own_ne.1 q
                  show Ends p e below _ s₁ (mkF m 142 #[.val (.ref ar), .val (.int ps), .val (.int to1), .val (.int ((g P) &&& (255 : Int32))), .val (.int (4 : Int32)), .val (.int (128 : Int32)), .val (.int (191 : Int32)), .unset] [])
                  refine Ends.by (fun _ => XS.iload X0.here hx rfl (hb hby d8_142) rfl) ?_
                  show Ends p e below _ s₁ (mkF m 144 #[.val (.ref ar), .val (.int ps), .val (.int to1), .val (.int ((g P) &&& (255 : Int32))), .val (.int (4 : Int32)), .val (.int (128 : Int32)), .val (.int (191 : Int32)), .unset] [(.int (191 : Int32))])
                  refine Ends.by (fun _ => XS.istore X0.here hx rfl (hb hby d8_144) rfl (l' := #[.val (.ref ar), .val (.int ps), .val (.int to1), .val (.int ((g P) &&& (255 : Int32))), .val (.int (4 : Int32)), .val (.int (128 : Int32)), .val (.int (191 : Int32)), .unset]) rfl) ?_
                  show Ends p e below _ s₁ (mkF m 146 #[.val (.ref ar), .val (.int ps), .val (.int to1), .val (.int ((g P) &&& (255 : Int32))), .val (.int (4 : Int32)), .val (.int (128 : Int32)), .val (.int (191 : Int32)), .unset] [])
                  rw [own_sq, if_neg c25, if_pos c32, if_neg c45, if_pos c52, if_neg c99, if_neg c106, if_neg c116, if_neg c133]
                  exact J4 (128 : Int32) (191 : Int32)
                · have c133 : ((g P) &&& (255 : Int32)) = (244 : Int32) := own_ne.2 q
                  show Ends p e below _ s₁ (mkF m 136 #[.val (.ref ar), .val (.int ps), .val (.int to1), .val (.int ((g P) &&& (255 : Int32))), .val (.int (4 : Int32)), .val (.int (128 : Int32)), .val (.int (191 : Int32)), .unset] [])
                  refine Ends.by (fun _ => XS.sipush X0.here hx rfl (hb hby d8_136)) ?_
                  show Ends p e below _ s₁ (mkF m 139 #[.val (.ref ar), .val (.int ps), .val (.int to1), .val (.int ((g P) &&& (255 : Int32))), .val (.int (4 : Int32)), .val (.int (128 : Int32)), .val (.int (191 : Int32)), .unset] [(.int (143 : Int32))])
                  refine Ends.by (fun _ => XS.goto X0.here hx rfl (pc0 := 139) (pc' := 144) rfl (hb hby d8_139) (by decide) (by decide)) ?_
                  show Ends p e below _ s₁ (mkF m 144 #[.val (.ref ar), .val (.int ps), .val (.int to1), .val (.int ((g P) &&& (255 : Int32))), .val (.int (4 : Int32)), .val (.int (128 : Int32)), .val (.int (191 : Int32)), .unset] [(.int (143 : Int32))])
                  refine Ends.by (fun _ => XS.istore X0.here hx rfl (hb hby d8_144) rfl (l' := #[.val (.ref ar), .val (.int ps), .val (.int to1), .val (.int ((g P) &&& (255 : Int32))), .val (.int (4 : Int32)), .val (.int (128 : Int32)), .val (.int (143 : Int32)), .unset]) rfl) ?_
                  show Ends p e below _ s₁ (mkF m 146 #[.val (.ref ar), .val (.int ps), .val (.int to1), .val (.int ((g P) &&& (255 : Int32))), .val (.int (4 : Int32)), .val (.int (128 : Int32)), .val (.int (143 : Int32)), .unset] [])
                  rw [own_sq, if_neg c25, if_pos c32, if_neg c45, if_pos c52, if_neg c99, if_neg c106, if_neg c116, if_pos c133]
                  exact J4 (128 : Int32) (143 : Int32)
              · have c116 : ((g P) &&& (255 : Int32)) = (240 : Int32) := own_ne.2 q
                show Ends p e below _ s₁ (mkF m 119 #[.val (.ref ar), .val (.int ps), .val (.int to1), .val (.int ((g P) &&& (255 : Int32))), .val (.int (4 : Int32)), .val (.int (128 : Int32)), .val (.int (191 : Int32)), .unset] [])
                refine Ends.by (fun _ => XS.sipush X0.here hx rfl (hb hby d8_119)) ?_
                show Ends p e below _ s₁ (mkF m 122 #[.val (.ref ar), .val (.int ps), .val (.int to1), .val (.int ((g P) &&& (255 : Int32))), .val (.int (4 : Int32)), .val (.int (128 : Int32)), .val (.int (191 : Int32)), .unset] [(.int (144 : Int32))])
                refine Ends.by (fun _ => XS.goto X0.here hx rfl (pc0 := 122) (pc' := 127) rfl (hb hby d8_122) (by decide) (by decide)) ?_
                show Ends p e below _ s₁ (mkF m 127 #[.val (.ref ar), .val (.int ps), .val (.int to1), .val (.int ((g P) &&& (255 : Int32))), .val (.int (4 : Int32)), .val (.int (128 : Int32)), .val (.int (191 : Int32)), .unset] [(.int (144 : Int32))])
                refine Ends.by (fun _ => XS.istore X0.here hx rfl (hb hby d8_127) rfl (l' := #[.val (.ref ar), .val (.int ps), .val (.int to1), .val (.int ((g P) &&& (255 : Int32))), .val (.int (4 : Int32)), .val (.int (144 : Int32)), .val (.int (191 : Int32)), .unset]) rfl) ?_
                show Ends p e below _ s₁ (mkF m 129 #[.val (.ref ar), .val (.int ps), .val (.int to1), .val (.int ((g P) &&& (255 : Int32))), .val (.int (4 : Int32)), .val (.int (144 : Int32)), .val (.int (191 : Int32)), .unset] [])
                refine Ends.by (fun _ => XS.iloadN X0.here hx rfl (hb hby d8_129) rfl) ?_
                show Ends p e below _ s₁ (mkF m 130 #[.val (.ref ar), .val (.int ps), .val (.int to1), .val (.int ((g P) &&& (255 : Int32))), .val (.int (4 : Int32)), .val (.int (144 : Int32)), .val (.int (191 : Int32)), .unset] [(.int ((g P) &&& (255 : Int32)))])
                refine Ends.by (fun _ => XS.sipush X0.here hx rfl (hb hby d8_130)) ?_
                show Ends p e below _ s₁ (mkF m 133 #[.val (.ref ar), .val (.int ps), .val (.int to1), .val (.int ((g P) &&& (255 : Int32))), .val (.int (4 : Int32)), .val (.int (144 : Int32)), .val (.int (191 : Int32)), .unset] [(.int (244 : Int32)), (.int ((g P) &&& (255 : Int32)))])
                refine Ends.icmp X0 hx (hb hby d8_133) 142 (by decide) (by decide) (fun q => ?_) (fun q => ?_)
                · have c133 : ¬ (((g P) &&& (255 : Int32)) = (244 : Int32)) := own_ne.1 q
                  show Ends p e below _ s₁ (mkF m 142 #[.val (.ref ar), .val (.int ps), .val (.int to1), .val (.int ((g P) &&& (255 : Int32))), .val (.int (4 : Int32)), .val (.int (144 : Int32)), .val (.int (191 : Int32)), .unset] [])
                  refine Ends.by (fun _ => XS.iload X0.here hx rfl (hb hby d8_142) rfl) ?_
                  show Ends p e below _ s₁ (mkF m 144 #[.val (.ref ar), .val (.int ps), .val (.int to1), .val (.int ((g P) &&& (255 : Int32))), .val (.int (4 : Int32)), .val (.int (144 : Int32)), .val (.int (191 : Int32)), .unset] [(.int (191 : Int32))])
                  refine Ends.by (fun _ => XS.istore X0.here hx rfl (hb hby d8_144) rfl (l' := #[.val (.ref ar), .val (.int ps), .val (.int to1), .val (.int ((g P) &&& (255 : Int32))), .val (.int (4 : Int32)), .val (.int (144 : Int32)), .val (.int (191 : Int32)), .unset]) rfl) ?_
                  show Ends p e below _ s₁ (mkF m 146 #[.val (.ref ar), .val (.int ps), .val (.int to1), .val (.int ((g P) &&& (255 : Int32))), .val (.int (4 : Int32)), .val (.int (144 : Int32)), .val (.int (191 : Int32)), .unset] [])
                  rw [own_sq, if_neg c25, if_pos c32, if_neg c45, if_pos c52, if_neg c99, if_neg c106, if_pos c116, if_neg c133]
                  exact J4 (144 : Int32) (191 : Int32)
                · have c133 : ((g P) &&& (255 : Int32)) = (244 : Int32) := own_ne.2 q
                  show Ends p e below _ s₁ (mkF m 136 #[.val (.ref ar), .val (.int ps), .val (.int to1), .val (.int ((g P) &&& (255 : Int32))), .val (.int (4 : Int32)), .val (.int (144 : Int32)), .val (.int (191 : Int32)), .unset] [])
                  refine Ends.by (fun _ => XS.sipush X0.here hx rfl (hb hby d8_136)) ?_
                  show Ends p e below _ s₁ (mkF m 139 #[.val (.ref ar), .val (.int ps), .val (.int to1), .val (.int ((g P) &&& (255 : Int32))), .val (.int (4 : Int32)), .val (.int (144 : Int32)), .val (.int (191 : Int32)), .unset] [(.int (143 : Int32))])
                  refine Ends.by (fun _ => XS.goto X0.here hx rfl (pc0 := 139) (pc' := 144) rfl (hb hby d8_139) (by decide) (by decide)) ?_
                  show Ends p e below _ s₁ (mkF m 144 #[.val (.ref ar), .val (.int ps), .val (.int to1), .val (.int ((g P) &&& (255 : Int32))), .val (.int (4 : Int32)), .val (.int (144 : Int32)), .val (.int (191 : Int32)), .unset] [(.int (143 : Int32))])
                  refine Ends.by (fun _ => XS.istore X0.here hx rfl (hb hby d8_144) rfl (l' := #[.val (.ref ar), .val (.int ps), .val (.int to1), .val (.int ((g P) &&& (255 : Int32))), .val (.int (4 : Int32)), .val (.int (144 : Int32)), .val (.int (143 : Int32)), .unset]) rfl) ?_
                  show Ends p e below _ s₁ (mkF m 146 #[.val (.ref ar), .val (.int ps), .val (.int to1), .val (.int ((g P) &&& (255 : Int32))), .val (.int (4 : Int32)), .val (.int (144 : Int32)), .val (.int (143 : Int32)), .unset] [])
                  rw [own_sq, if_neg c25, if_pos c32, if_neg c45, if_pos c52, if_neg c99, if_neg c106, if_pos c116, if_pos c133]
                  exact J4 (144 : Int32) (143 : Int32)
        · have c52 : ¬ ((239 : Int32) < ((g P) &&& (255 : Int32))) := own_gt.2 q
          show Ends p e below _ s₁ (mkF m 55 #[.val (.ref ar), .val (.int ps), .val (.int to1), .val (.int ((g P) &&& (255 : Int32))), .val (.int (0 : Int32)), .val (.int (128 : Int32)), .val (.int (191 : Int32)), .unset] [])
          refine Ends.by (fun _ => XS.iconst X0.here hx rfl (hb hby d8_55)) ?_
          show Ends p e below _ s₁ (mkF m 56 #[.val (.ref ar), .val (.int ps), .val (.int to1), .val (.int ((g P) &&& (255 : Int32))), .val (.int (0 : Int32)), .val (.int (128 : Int32)), .val (.int (191 : Int32)), .unset] [(.int (3 : Int32))])
          refine Ends.by (fun _ => XS.istore X0.here hx rfl (hb hby d8_56) rfl (l' := #[.val (.ref ar), .val (.int ps), .val (.int to1), .val (.int ((g P) &&& (255 : Int32))), .val (.int (3 : Int32)), .val (.int (128 : Int32)), .val (.int (191 : Int32)), .unset]) rfl) ?_
          show Ends p e below _ s₁ (mkF m 58 #[.val (.ref ar), .val (.int ps), .val (.int to1), .val (.int ((g P) &&& (255 : Int32))), .val (.int (3 : Int32)), .val (.int (128 : Int32)), .val (.int (191 : Int32)), .unset] [])
          refine Ends.by (fun _ => XS.iloadN X0.here hx rfl (hb hby d8_58) rfl) ?_
          show Ends p e below _ s₁ (mkF m 59 #[.val (.ref ar), .val (.int ps), .val (.int to1), .val (.int ((g P) &&& (255 : Int32))), .val (.int (3 : Int32)), .val (.int (128 : Int32)), .val (.int (191 : Int32)), .unset] [(.int ((g P) &&& (255 : Int32)))])
          refine Ends.by (fun _ => XS.sipush X0.here hx rfl (hb hby d8_59)) ?_
          show Ends p e below _ s₁ (mkF m 62 #[.val (.ref ar), .val (.int ps), .val (.int to1), .val (.int ((g P) &&& (255 : Int32))), .val (.int (3 : Int32)), .val (.int (128 : Int32)), .val (.int (191 : Int32)), .unset] [(.int (224 : Int32)), (.int ((g P) &&& (255 : Int32)))])
          refine Ends.icmp X0 hx (hb hby d8_62) 71 (by decide) (by decide) (fun q => ?_) (fun q => ?_)
          · have c62 : ¬ (((g P) &&& (255 : Int32)) = (224 : Int32)) := own_ne.1 q
            show Ends p e below _ s₁ (mkF m 71 #[.val (.ref ar), .val (.int ps), .val (.int to1), .val (.int ((g P) &&& (255 : Int32))), .val (.int (3 : Int32)), .val (.int (128 : Int32)), .val (.int (191 : Int32)), .unset] [])
            refine Ends.by (fun _ => XS.iload X0.here hx rfl (hb hby d8_71) rfl) ?_
            show Ends p e below _ s₁ (mkF m 73 #[.val (.ref ar), .val (.int ps), .val (.int to1), .val (.int ((g P) &&& (255 : Int32))), .val (.int (3 : Int32)), .val (.int (128 : Int32)), .val (.int (191 : Int32)), .unset] [(.int (128 : Int32))])
            refine Ends.by (fun _ => XS.istore X0.here hx rfl (hb hby d8_73) rfl (l' := #[.val (.ref ar), .val (.int ps), .val (.int to1), .val (.int ((g P) &&& (255 : Int32))), .val (.int (3 : Int32)), .val (.int (128 : Int32)), .val (.int (191 : Int32)), .unset]) rfl) ?_
            show Ends p e below _ s₁ (mkF m 75 #[.val (.ref ar), .val (.int ps), .val (.int to1), .val (.int ((g P) &&& (255 : Int32))), .val (.int (3 : Int32)), .val (.int (128 : Int32)), .val (.int (191 : Int32)), .unset] [])
            refine Ends.by (fun _ => XS.iloadN X0.here hx rfl (hb hby d8_75) rfl) ?_
            show Ends p e below _ s₁ (mkF m 76 #[.val (.ref ar), .val (.int ps), .val (.int to1), .val (.int ((g P) &&& (255 : Int32))), .val (.int (3 : Int32)), .val (.int (128 : Int32)), .val (.int (191 : Int32)), .unset] [(.int ((g P) &&& (255 : Int32)))])
            refine Ends.by (fun _ => XS.sipush X0.here hx rfl (hb hby d8_76)) ?_
            show Ends p e below _ s₁ (mkF m 79 #[.val (.ref ar), .val (.int ps), .val (.int to1), .val (.int ((g P) &&& (255 : Int32))), .val (.int (3 : Int32)), .val (.int (128 : Int32)), .val (.int (191 : Int32)), .unset] [(.int (237 : Int32)), (.int ((g P) &&& (255 : Int32)))])
            refine Ends.icmp X0 hx (hb hby d8_79) 88 (by decide) (by decide) (fun q => ?_) (fun q => ?_)
            · have c79 : ¬ (((g P) &&& (255 : Int32)) = (237 : Int32)) := own_ne.1 q
              show Ends p e below _ s₁ (mkF m 88 #[.val (.ref ar), .val (.int ps), .val (.int to1), .val (.int ((g P) &&& (255 : Int32))), .val (.int (3 : Int32)), .val (.int (128 : Int32)), .val (.int (191 : Int32)), .unset] [])
              refine Ends.by (fun _ => XS.iload X0.here hx rfl (hb hby d8_88) rfl) ?_
              show Ends p e below _ s₁ (mkF m 90 #[.val (.ref ar), .val (.int ps), .val (.int to1), .val (.int ((g P) &&& (255 : Int32))), .val (.int (3 : Int32)), .val (.int (128 : Int32)), .val (.int (191 : Int32)), .unset] [(.int (191 : Int32))])
              refine Ends.by (fun _ => XS.istore X0.here hx rfl (hb hby d8_90) rfl (l' := #[.val (.ref ar), .val (.int ps), .val (.int to1), .val (.int ((g P) &&& (255 : Int32))), .val (.int (3 : Int32)), .val (.int (128 : Int32)), .val (.int (191 : Int32)), .unset]) rfl) ?_
              show Ends p e below _ s₁ (mkF m 92 #[.val (.ref ar), .val (.int ps), .val (.int to1), .val (.int ((g P) &&& (255 : Int32))), .val (.int (3 : Int32)), .val (.int (128 : Int32)), .val (.int (191 : Int32)), .unset] [])
              refine Ends.by (fun _ => XS.goto X0.here hx rfl (pc0 := 92) (pc' := 146) rfl (hb hby d8_92) (by decide) (by decide)) ?_
              show Ends p e below _ s₁ (mkF m 146 #[.val (.ref ar), .val (.int ps), .val (.int to1), .val (.int ((g P) &&& (255 : Int32))), .val (.int (3 : Int32)), .val (.int (128 : Int32)), .val (.int (191 : Int32)), .unset] [])
              rw [own_sq, if_neg c25, if_pos c32, if_neg c45, if_neg c52, if_neg c62, if_neg c79]
              exact J3 (128 : Int32) (191 : Int32)
            · have c79 : ((g P) &&& (255 : Int32)) = (237 : Int32) := own_ne.2 q
              show Ends p e below _ s₁ (mkF m 82 #[.val (.ref ar), .val (.int ps), .val (.int to1), .val (.int ((g P) &&& (255 : Int32))), .val (.int (3 : Int32)), .val (.int (128 : Int32)), .val (.int (191 : Int32)), .unset] [])
              refine Ends.by (fun _ => XS.sipush X0.here hx rfl (hb hby d8_82)) ?_
              show Ends p e below _ s₁ (mkF m 85 #[.val (.ref ar), .val (.int ps), .val (.int to1), .val (.int ((g P) &&& (255 : Int32))), .val (.int (3 : Int32)), .val (.int (128 : Int32)), .val (.int (191 : Int32)), .unset] [(.int (159 : Int32))])
              refine Ends.by (fun _ => XS.goto X0.here hx rfl (pc0 := 85) (pc' := 90) rfl (hb hby d8_85) (by decide) (by decide)) ?_
              show Ends p e below _ s₁ (mkF m 90 #[.val (.ref ar), .val (.int ps), .val (.int to1), .val (.int ((g P) &&& (255 : Int32))), .val (.int (3 : Int32)), .val (.int (128 : Int32)), .val (.int (191 : Int32)), .unset] [(.int (159 : Int32))])
              refine Ends.by (fun _ => XS.istore X0.here hx rfl (hb hby d8_90) rfl (l' := #[.val (.ref ar), .val (.int ps), .val (.int to1), .val (.int ((g P) &&& (255 : Int32))), .val (.int (3 : Int32)), .val (.int (128 : Int32)), .val (.int (159 : Int32)), .unset]) rfl) ?_
              show Ends p e below _ s₁ (mkF m 92 #[.val (.ref ar), .val (.int ps), .val (.int to1), .val (.int ((g P) &&& (255 : Int32))), .val (.int (3 : Int32)), .val (.int (128 : Int32)), .val (.int (159 : Int32)), .unset] [])
              refine Ends.by (fun _ => XS.goto X0.here hx rfl (pc0 := 92) (pc' := 146) rfl (hb hby d8_92) (by decide) (by decide)) ?_
              show Ends p e below _ s₁ (mkF m 146 #[.val (.ref ar), .val (.int ps), .val (.int to1), .val (.int ((g P) &&& (255 : Int32))), .val (.int (3 : Int32)), .val (.int (128 : Int32)), .val (.int (159 : Int32)), .unset] [])
              rw [own_sq, if_neg c25, if_pos c32, if_neg c45, if_neg c52, if_neg c62, if_pos c79]
              exact J3 (128 : Int32) (159 : Int32)
          · have c62 : ((g P) &&& (255 : Int32)) = (224 : Int32) := own_ne.2 q
            show Ends p e below _ s₁ (mkF m 65 #[.val (.ref ar), .val (.int ps), .val (.int to1), .val (.int ((g P) &&& (255 : Int32))), .val (.int (3 : Int32)), .val (.int (128 : Int32)), .val (.int (191 : Int32)), .unset] [])
            refine Ends.by (fun _ => XS.sipush X0.here hx rfl (hb hby d8_65)) ?_
            show Ends p e below _ s₁ (mkF m 68 #[.val (.ref ar), .val (.int ps), .val (.int to1), .val (.int ((g P) &&& (255 : Int32))), .val (.int (3 : Int32)), .val (.int (128 : Int32)), .val (.int (191 : Int32)), .unset] [(.int (160 : Int32))])
            refine Ends.by (fun _ => XS.goto X0.here hx rfl (pc0 := 68) (pc' := 73) rfl (hb hby d8_68) (by decide) (by decide)) ?_
            show Ends p e below _ s₁ (mkF m 73 #[.val (.ref ar), .val (.int ps), .val (.int to1), .val (.int ((g P) &&& (255 : Int32))), .val (.int (3 : Int32)), .val (.int (128 : Int32)), .val (.int (191 : Int32)), .unset] [(.int (160 : Int32))])
            refine Ends.by (fun _ => XS.istore X0.here hx rfl (hb hby d8_73) rfl (l' := #[.val (.ref ar), .val (.int ps), .val (.int to1), .val (.int ((g P) &&& (255 : Int32))), .val (.int (3 : Int32)), .val (.int (160 : Int32)), .val (.int (191 : Int32)), .unset]) rfl) ?_
            show Ends p e below _ s₁ (mkF m 75 #[.val (.ref ar), .val (.int ps), .val (.int to1), .val (.int ((g P) &&& (255 : Int32))), .val (.int (3 : Int32)), .val (.int (160 : Int32)), .val (.int (191 : Int32)), .unset] [])
            refine Ends.by (fun _ => XS.iloadN X0.here hx rfl (hb hby d8_75) rfl) ?_
            show Ends p e below _ s₁ (mkF m 76 #[.val (.ref ar), .val (.int ps), .val (.int to1), .val (.int ((g P) &&& (255 : Int32))), .val (.int (3 : Int32)), .val (.int (160 : Int32)), .val (.int (191 : Int32)), .unset] [(.int ((g P) &&& (255 : Int32)))])
            refine Ends.by (fun _ => XS.sipush X0.here hx rfl (hb hby d8_76)) ?_
            show Ends p e below _ s₁ (mkF m 79 #[.val (.ref ar), .val (.int ps), .val (.int to1), .val (.int ((g P) &&& (255 : Int32))), .val (.int (3 : Int32)), .val (.int (160 : Int32)), .val (.int (191 : Int32)), .unset] [(.int (237 : Int32)), (.int ((g P) &&& (255 : Int32)))])
            refine Ends.icmp X0 hx (hb hby d8_79) 88 (by decide) (by decide) (fun q => ?_) (fun q => ?_)
            · have c79 : ¬ (((g P) &&& (255 : Int32)) = (237 : Int32)) := own_ne.1 q
              show Ends p e below _ s₁ (mkF m 88 #[.val (.ref ar), .val (.int ps), .val (.int to1), .val (.int ((g P) &&& (255 : Int32))), .val (.int (3 : Int32)), .val (.int (160 : Int32)), .val (.int (191 : Int32)), .unset] [])
              refine Ends.by (fun _ => XS.iload X0.here hx rfl (hb hby d8_88) rfl) ?_
              show Ends p e below _ s₁ (mkF m 90 #[.val (.ref ar), .val (.int ps), .val (.int to1), .val (.int ((g P) &&& (255 : Int32))), .val (.int (3 : Int32)), .val (.int (160 : Int32)), .val (.int (191 : Int32)), .unset] [(.int (191 : Int32))])
              refine Ends.by (fun _ => XS.istore X0.here hx rfl (hb hby d8_90) rfl (l' := #[.val (.ref ar), .val (.int ps), .val (.int to1), .val (.int ((g P) &&& (255 : Int32))), .val (.int (3 : Int32)), .val (.int (160 : Int32)), .val (.int (191 : Int32)), .unset]) rfl) ?_
              show Ends p e below _ s₁ (mkF m 92 #[.val (.ref ar), .val (.int ps), .val (.int to1), .val (.int ((g P) &&& (255 : Int32))), .val (.int (3 : Int32)), .val (.int (160 : Int32)), .val (.int (191 : Int32)), .unset] [])
              refine Ends.by (fun _ => XS.goto X0.here hx rfl (pc0 := 92) (pc' := 146) rfl (hb hby d8_92) (by decide) (by decide)) ?_
              show Ends p e below _ s₁ (mkF m 146 #[.val (.ref ar), .val (.int ps), .val (.int to1), .val (.int ((g P) &&& (255 : Int32))), .val (.int (3 : Int32)), .val (.int (160 : Int32)), .val (.int (191 : Int32)), .unset] [])
              rw [own_sq, if_neg c25, if_pos c32, if_neg c45, if_neg c52, if_pos c62, if_neg c79]
              exact J3 (160 : Int32) (191 : Int32)
            · have c79 : ((g P) &&& (255 : Int32)) = (237 : Int32) := own_ne.2 q
              show Ends p e below _ s₁ (mkF m 82 #[.val (.ref ar), .val (.int ps), .val (.int to1), .val (.int ((g P) &&& (255 : Int32))), .val (.int (3 : Int32)), .val (.int (160 : Int32)), .val (.int (191 : Int32)), .unset] [])
              refine Ends.by (fun _ => XS.sipush X0.here hx rfl (hb hby d8_82)) ?_
              show Ends p e below _ s₁ (mkF m 85 #[.val (.ref ar), .val (.int ps), .val (.int to1), .val (.int ((g P) &&& (255 : Int32))), .val (.int (3 : Int32)), .val (.int (160 : Int32)), .val (.int (191 : Int32)), .unset] [(.int (159 : Int32))])
              refine Ends.by (fun _ => XS.goto X0.here hx rfl (pc0 := 85) (pc' := 90) rfl (hb hby d8_85) (by decide) (by decide)) ?_
              show Ends p e below _ s₁ (mkF m 90 #[.val (.ref ar), .val (.int ps), .val (.int to1), .val (.int ((g P) &&& (255 : Int32))), .val (.int (3 : Int32)), .val (.int (160 : Int32)), .val (.int (191 : Int32)), .unset] [(.int (159 : Int32))])
              refine Ends.by (fun _ => XS.istore X0.here hx rfl (hb hby d8_90) rfl (l' := #[.val (.ref ar), .val (.int ps), .val (.int to1), .val (.int ((g P) &&& (255 : Int32))), .val (.int (3 : Int32)), .val (.int (160 : Int32)), .val (.int (159 : Int32)), .unset]) rfl) ?_
              show Ends p e below _ s₁ (mkF m 92 #[.val (.ref ar), .val (.int ps), .val (.int to1), .val (.int ((g P) &&& (255 : Int32))), .val (.int (3 : Int32)), .val (.int (160 : Int32)), .val (.int (159 : Int32)), .unset] [])
              refine Ends.by (fun _ => XS.goto X0.here hx rfl (pc0 := 92) (pc' := 146) rfl (hb hby d8_92) (by decide) (by decide)) ?_
              show Ends p e below _ s₁ (mkF m 146 #[.val (.ref ar), .val (.int ps), .val (.int to1), .val (.int ((g P) &&& (255 : Int32))), .val (.int (3 : Int32)), .val (.int (160 : Int32)), .val (.int (159 : Int32)), .unset] [])
              rw [own_sq, if_neg c25, if_pos c32, if_neg c45, if_neg c52, if_pos c62, if_pos c79]
              exact J3 (160 : Int32) (159 : Int32)
    · have c32 : ¬ ((223 : Int32) < ((g P) &&& (255 : Int32))) := own_gt.2 q
      show Ends p e below _ s₁ (mkF m 35 #[.val (.ref ar), .val (.int ps), .val (.int to1), .val (.int ((g P) &&& (255 : Int32))), .val (.int (0 : Int32)), .val (.int (128 : Int32)), .val (.int (191 : Int32)), .unset] [])
      refine Ends.by (fun _ => XS.iconst X0.here hx rfl (hb hby d8_35)) ?_
      show Ends p e below _ s₁ (mkF m 36 #[.val (.ref ar), .val (.int ps), .val (.int to1), .val (.int ((g P) &&& (255 : Int32))), .val (.int (0 : Int32)), .val (.int (128 : Int32)), .val (.int (191 : Int32)), .unset] [(.int (2 : Int32))])
      refine Ends.by (fun _ => XS.istore X0.here hx rfl (hb hby d8_36) rfl (l' := #[.val (.ref ar), .val (.int ps), .val (.int to1), .val (.int ((g P) &&& (255 : Int32))), .val (.int (2 : Int32)), .val (.int (128 : Int32)), .val (.int (191 : Int32)), .unset]) rfl) ?_
      show Ends p e below _ s₁ (mkF m 38 #[.val (.ref ar), .val (.int ps), .val (.int to1), .val (.int ((g P) &&& (255 : Int32))), .val (.int (2 : Int32)), .val (.int (128 : Int32)), .val (.int (191 : Int32)), .unset] [])
      refine Ends.by (fun _ => XS.goto X0.here hx rfl (pc0 := 38) (pc' := 146) rfl (hb hby d8_38) (by decide) (by decide)) ?_
      show Ends p e below _ s₁ (mkF m 146 #[.val (.ref ar), .val (.int ps), .val (.int to1), .val (.int ((g P) &&& (255 : Int32))), .val (.int (2 : Int32)), .val (.int (128 : Int32)), .val (.int (191 : Int32)), .unset] [])
      rw [own_sq, if_neg c25, if_neg c32]
      exact J2 (128 : Int32) (191 : Int32)
theorem own_192 (y : Int32) : (y &&& 192).toInt = y.toInt % 256 - y.toInt % 64 := by
  have e1 : (y &&& 63).toInt = y.toInt % (2 ^ 6 : Nat) := c_mask y 63 6 (by decide) (by decide)
  have e2 : (y &&& 255).toInt = y.toInt % (2 ^ 8 : Nat) := c_mask y 255 8 (by decide) (by decide)
  have e3 : ((y &&& 192) &&& 63).toInt = (y &&& 192).toInt % (2 ^ 6 : Nat) := c_mask _ 63 6 (by decide) (by decide)
  have e4 : (y &&& 192) &&& 63 = 0 := by
    rw [Int32.and_assoc]; have : (192 : Int32) &&& 63 = 0 := by decide
    rw [this, Int32.and_zero]
  have e5 : (y &&& 192) ||| (y &&& 63) = y &&& 255 := by rw [own_andor]; rfl
  have e6 := c_or (y &&& 192) (y &&& 63) 6 (by decide) 64 (by decide)
  have e7 := c_and y 192 (by decide)
  have e8 : (192 : Int32).toInt = 192 := by decide
  rw [e4] at e3
  have e9 : (0 : Int32).toInt = 0 := by decide
  rw [e5] at e6
  omega
theorem own_cont (y : Int32) : (y &&& 192) = 128 ↔ (128 ≤ y.toInt % 256 ∧ y.toInt % 256 ≤ 191) := by
  rw [← Int32.toInt_inj, own_192]
  have : (128 : Int32).toInt = 128 := by decide
  omega
theorem own_255 (y : Int32) : (y &&& (255 : Int32)).toInt = y.toInt % 256 := by
  have e2 : (y &&& 255).toInt = y.toInt % (2 ^ 8 : Nat) := c_mask y 255 8 (by decide) (by decide)
  exact e2
/-- what the two agree on: the length of the character that begins at c0, with A bytes left -/
def own_S (c0 c1 c2 c3 A : Int) : Int32 :=
  if c0 < 128 then 1
  else if c0 < 194 then 0
  else if c0 < 224 then (if 2 ≤ A ∧ 128 ≤ c1 ∧ c1 ≤ 191 then 2 else 0)
  else if c0 < 240 then (if 3 ≤ A ∧ (¬ c0 = 224 ∨ 160 ≤ c1) ∧ 128 ≤ c1 ∧ (¬ c0 = 237 ∨ c1 ≤ 159) ∧ c1 ≤ 191 ∧ 128 ≤ c2 ∧ c2 ≤ 191 then 3 else 0)
  else if c0 < 245 then (if 4 ≤ A ∧ (¬ c0 = 240 ∨ 144 ≤ c1) ∧ 128 ≤ c1 ∧ (¬ c0 = 244 ∨ c1 ≤ 143) ∧ c1 ≤ 191 ∧ 128 ≤ c2 ∧ c2 ≤ 191 ∧ 128 ≤ c3 ∧ c3 ≤ 191 then 4 else 0)
  else 0
theorem own_S_le (c0 c1 c2 c3 A : Int) (hA : 1 ≤ A) : own_S c0 c1 c2 c3 A = 0 ∨ ∃ n : Nat, (own_S c0 c1 c2 c3 A).toInt = (n : Int) ∧ 1 ≤ n ∧ (n : Int) ≤ A := by
  unfold own_S
  repeat' split
  all_goals first | (left; rfl) | (right; exact ⟨1, by decide, by decide, by omega⟩) | (right; exact ⟨2, by decide, by decide, by omega⟩) | (right; exact ⟨3, by decide, by decide, by omega⟩) | (right; exact ⟨4, by decide, by decide, by omega⟩)
theorem own_t2S {g : Nat → Int32} {ps to1 : Int32} {P T : Nat} (hp : ps.toInt = (P : Int)) (hP : P < 5) (ht : to1.toInt = (T : Int)) :
    own_t2 g ps to1 P 128 191 = if 2 ≤ (T : Int) - P ∧ 128 ≤ (g (P + 1)).toInt % 256 ∧ (g (P + 1)).toInt % 256 ≤ 191 then 2 else 0 := by
  have f := own_offp hp hP (2 : Int32) 2 (by decide) (by decide)
  have a1 : (128 : Int32).toInt = 128 := by decide
  have a2 : (191 : Int32).toInt = 191 := by decide
  unfold own_t2
  simp only [Int32.lt_iff_toInt_lt, f, ht, own_255, a1, a2]
  repeat' split
  all_goals first | rfl | (exfalso; omega)
theorem own_t3S {g : Nat → Int32} {ps to1 : Int32} {P T : Nat} (hp : ps.toInt = (P : Int)) (hP : P < 5) (ht : to1.toInt = (T : Int)) (lo hi : Int32) :
    own_t3 g ps to1 P lo hi = if 3 ≤ (T : Int) - P ∧ lo.toInt ≤ (g (P + 1)).toInt % 256 ∧ (g (P + 1)).toInt % 256 ≤ hi.toInt ∧ 128 ≤ (g (P + 2)).toInt % 256 ∧ (g (P + 2)).toInt % 256 ≤ 191 then 3 else 0 := by
  have f := own_offp hp hP (3 : Int32) 3 (by decide) (by decide)
  unfold own_t3
  simp only [Int32.lt_iff_toInt_lt, f, ht, own_255, own_cont]
  repeat' split
  all_goals first | rfl | (exfalso; omega)
theorem own_t4S {g : Nat → Int32} {ps to1 : Int32} {P T : Nat} (hp : ps.toInt = (P : Int)) (hP : P < 5) (ht : to1.toInt = (T : Int)) (lo hi : Int32) :
    own_t4 g ps to1 P lo hi = if 4 ≤ (T : Int) - P ∧ lo.toInt ≤ (g (P + 1)).toInt % 256 ∧ (g (P + 1)).toInt % 256 ≤ hi.toInt ∧ 128 ≤ (g (P + 2)).toInt % 256 ∧ (g (P + 2)).toInt % 256 ≤ 191 ∧ 128 ≤ (g (P + 3)).toInt % 256 ∧ (g (P + 3)).toInt % 256 ≤ 191 then 4 else 0 := by
  have f := own_offp hp hP (4 : Int32) 4 (by decide) (by decide)
  unfold own_t4
  simp only [Int32.lt_iff_toInt_lt, f, ht, own_255, own_cont]
  repeat' split
  all_goals first | rfl | (exfalso; omega)
theorem own_ifeq {p q : Prop} [Decidable p] [Decidable q] {a b : Int32} (h : p ↔ q) : (if p then a else b) = if q then a else b := by
  by_cases z : p
  · rw [if_pos z, if_pos (h.mp z)]
  · rw [if_neg z, if_neg (fun y => z (h.mpr y))]
theorem own_sqS {g : Nat → Int32} {ps to1 : Int32} {P T : Nat} (hp : ps.toInt = (P : Int)) (hP : P < 5) (ht : to1.toInt = (T : Int)) (h128 : 128 ≤ (g P).toInt % 256) :
    own_sq g ps to1 P = own_S ((g P).toInt % 256) ((g (P + 1)).toInt % 256) ((g (P + 2)).toInt % 256) ((g (P + 3)).toInt % 256) ((T : Int) - P) := by
  unfold own_sq
  rw [own_t2S hp hP ht]
  simp only [own_t3S hp hP ht, own_t4S hp hP ht]
  have k128 : (128 : Int32).toInt = 128 := by decide
  have k143 : (143 : Int32).toInt = 143 := by decide
  have k144 : (144 : Int32).toInt = 144 := by decide
  have k159 : (159 : Int32).toInt = 159 := by decide
  have k160 : (160 : Int32).toInt = 160 := by decide
  have k191 : (191 : Int32).toInt = 191 := by decide
  have k194 : (194 : Int32).toInt = 194 := by decide
  have k223 : (223 : Int32).toInt = 223 := by decide
  have k224 : (224 : Int32).toInt = 224 := by decide
  have k237 : (237 : Int32).toInt = 237 := by decide
  have k239 : (239 : Int32).toInt = 239 := by decide
  have k240 : (240 : Int32).toInt = 240 := by decide
  have k244 : (244 : Int32).toInt = 244 := by decide
  have q_ : ∀ k : Int32, (g P &&& (255 : Int32)) = k ↔ (g P).toInt % 256 = k.toInt := fun k => by rw [← Int32.toInt_inj, own_255]
  simp only [Int32.lt_iff_toInt_lt, q_, own_255, k128, k143, k144, k159, k160, k191, k194, k223, k224, k237, k239, k240, k244]
  unfold own_S
  generalize (g P).toInt % 256 = c0 at h128 ⊢
  generalize (g (P + 1)).toInt % 256 = c1
  generalize (g (P + 2)).toInt % 256 = c2
  generalize (g (P + 3)).toInt % 256 = c3
  generalize (T : Int) - P = A
  rw [if_neg (show ¬ c0 < 128 by omega)]
  by_cases h1 : c0 < 194
  · rw [if_pos h1, if_pos h1, if_pos (show c0 < 224 by omega), if_pos (show c0 < 240 by omega)]
  rw [if_neg h1, if_neg h1]
  by_cases h2 : c0 < 224
  · rw [if_neg (show ¬ 223 < c0 by omega), if_pos h2]
  rw [if_pos (show 223 < c0 by omega), if_neg h2, if_neg h2]
  by_cases h3 : c0 < 240
  · rw [if_neg (show ¬ 239 < c0 by omega), if_pos h3]
    by_cases q1 : c0 = 224
    · rw [if_pos q1, if_neg (show ¬ c0 = 237 by omega)]
      exact own_ifeq (by constructor <;> intro hh <;> omega)
    · rw [if_neg q1]
      by_cases q2 : c0 = 237
      · rw [if_pos q2]
        exact own_ifeq (by constructor <;> intro hh <;> omega)
      · rw [if_neg q2]
        exact own_ifeq (by constructor <;> intro hh <;> omega)
  rw [if_pos (show 239 < c0 by omega), if_neg h3, if_neg h3]
  by_cases h4 : c0 < 245
  · rw [if_neg (show ¬ 244 < c0 by omega), if_pos h4]
    by_cases q1 : c0 = 240
    · rw [if_pos q1, if_neg (show ¬ c0 = 244 by omega)]
      exact own_ifeq (by constructor <;> intro hh <;> omega)
    · rw [if_neg q1]
      by_cases q2 : c0 = 244
      · rw [if_pos q2]
        exact own_ifeq (by constructor <;> intro hh <;> omega)
      · rw [if_neg q2]
        exact own_ifeq (by constructor <;> intro hh <;> omega)
  · rw [if_pos (show 244 < c0 by omega), if_neg h4]
theorem own_f9 (x : Int32) : f_9 x = 0 ↔ ¬ (0 ≤ x.toInt ∧ 128 ≤ x.toInt % 256 ∧ x.toInt % 256 ≤ 191) := by
  unfold f_9
  have e0 : (0 : Int32).toInt = 0 := by decide
  simp only [Int32.lt_iff_toInt_lt, own_cont, e0]
  repeat' split
  · exact ⟨fun _ => by omega, fun _ => rfl⟩
  · exact ⟨fun h => absurd h (by decide), fun h => absurd h (by omega)⟩
  · exact ⟨fun _ => by omega, fun _ => rfl⟩
theorem own_m224 : ∀ k : Fin 256, (Int32.ofNat k.1 &&& 224 = 192) ↔ (192 ≤ k.1 ∧ k.1 ≤ 223) := by decide +kernel
theorem own_m240 : ∀ k : Fin 256, (Int32.ofNat k.1 &&& 240 = 224) ↔ (224 ≤ k.1 ∧ k.1 ≤ 239) := by decide +kernel
theorem own_m248 : ∀ k : Fin 256, (Int32.ofNat k.1 &&& 248 = 240) ↔ (240 ≤ k.1 ∧ k.1 ≤ 247) := by decide +kernel
theorem own_ofNat {x : Int32} {n : Nat} (h : x.toInt = (n : Int)) : x = Int32.ofNat n := by
  apply Int32.toInt_inj.mp
  have r := x.toInt_lt
  rw [Int32.toInt_ofNat_of_lt (by omega), h]
theorem own_cp2 (a b : Int32) (ha : 192 ≤ a.toInt ∧ a.toInt ≤ 223) (hb : 128 ≤ b.toInt ∧ b.toInt ≤ 191) : (((a &&& (31 : Int32)) <<< ((6 : Int32) &&& 31)) ||| (b &&& (63 : Int32))).toInt = (a.toInt - 192) * 64 + (b.toInt - 128) := by
  have e1 : (a &&& 31).toInt = a.toInt % (2 ^ 5 : Nat) := c_mask a 31 5 (by decide) (by decide)
  have e2 : (b &&& 63).toInt = b.toInt % (2 ^ 6 : Nat) := c_mask b 63 6 (by decide) (by decide)
  have e3 := c_ishl (a &&& 31) 6 6 (by decide)
  have r1 := rng32 ((a &&& 31) <<< ((6 : Int32) &&& 31))
  have p6 : ((2 ^ 6 : Nat) : Int) = 64 := by decide
  have e4 := c_or ((a &&& 31) <<< ((6 : Int32) &&& 31)) (b &&& 63) 6 (by decide) 64 (by decide) (by omega) (by omega) (by omega)
  have r2 := rng32 (((a &&& (31 : Int32)) <<< ((6 : Int32) &&& 31)) ||| (b &&& (63 : Int32)))
  omega
theorem own_cp3 (a b c : Int32) (ha : 224 ≤ a.toInt ∧ a.toInt ≤ 239) (hb : 128 ≤ b.toInt ∧ b.toInt ≤ 191) (hc : 128 ≤ c.toInt ∧ c.toInt ≤ 191) :
    ((((a &&& (15 : Int32)) <<< ((12 : Int32) &&& 31)) ||| ((b &&& (63 : Int32)) <<< ((6 : Int32) &&& 31))) ||| (c &&& (63 : Int32))).toInt = (a.toInt - 224) * 4096 + (b.toInt - 128) * 64 + (c.toInt - 128) := by
  have e1 : (a &&& 15).toInt = a.toInt % (2 ^ 4 : Nat) := c_mask a 15 4 (by decide) (by decide)
  have e2 : (b &&& 63).toInt = b.toInt % (2 ^ 6 : Nat) := c_mask b 63 6 (by decide) (by decide)
  have e2' : (c &&& 63).toInt = c.toInt % (2 ^ 6 : Nat) := c_mask c 63 6 (by decide) (by decide)
  have e3 := c_ishl (a &&& 15) 12 12 (by decide)
  have e3' := c_ishl (b &&& 63) 6 6 (by decide)
  have r1 := rng32 ((a &&& 15) <<< ((12 : Int32) &&& 31))
  have r1' := rng32 ((b &&& 63) <<< ((6 : Int32) &&& 31))
  have p6 : ((2 ^ 6 : Nat) : Int) = 64 := by decide
  have p12 : ((2 ^ 12 : Nat) : Int) = 4096 := by decide
  have e4 := c_or ((a &&& 15) <<< ((12 : Int32) &&& 31)) ((b &&& 63) <<< ((6 : Int32) &&& 31)) 12 (by decide) 4096 (by decide) (by omega) (by omega) (by omega)
  have r2 := rng32 (((a &&& (15 : Int32)) <<< ((12 : Int32) &&& 31)) ||| ((b &&& (63 : Int32)) <<< ((6 : Int32) &&& 31)))
  have e5 := c_or (((a &&& (15 : Int32)) <<< ((12 : Int32) &&& 31)) ||| ((b &&& (63 : Int32)) <<< ((6 : Int32) &&& 31))) (c &&& 63) 6 (by decide) 64 (by decide) (by omega) (by omega) (by omega)
  have r3 := rng32 ((((a &&& (15 : Int32)) <<< ((12 : Int32) &&& 31)) ||| ((b &&& (63 : Int32)) <<< ((6 : Int32) &&& 31))) ||| (c &&& (63 : Int32)))
  omega
theorem own_cp4 (a b c d : Int32) (ha : 240 ≤ a.toInt ∧ a.toInt ≤ 247) (hb : 128 ≤ b.toInt ∧ b.toInt ≤ 191) (hc : 128 ≤ c.toInt ∧ c.toInt ≤ 191) (hd : 128 ≤ d.toInt ∧ d.toInt ≤ 191) :
    (((((a &&& (7 : Int32)) <<< ((18 : Int32) &&& 31)) ||| ((b &&& (63 : Int32)) <<< ((12 : Int32) &&& 31))) ||| ((c &&& (63 : Int32)) <<< ((6 : Int32) &&& 31))) ||| (d &&& (63 : Int32))).toInt = (a.toInt - 240) * 262144 + (b.toInt - 128) * 4096 + (c.toInt - 128) * 64 + (d.toInt - 128) := by
  have e1 : (a &&& 7).toInt = a.toInt % (2 ^ 3 : Nat) := c_mask a 7 3 (by decide) (by decide)
  have e2 : (b &&& 63).toInt = b.toInt % (2 ^ 6 : Nat) := c_mask b 63 6 (by decide) (by decide)
  have e2' : (c &&& 63).toInt = c.toInt % (2 ^ 6 : Nat) := c_mask c 63 6 (by decide) (by decide)
  have e2'' : (d &&& 63).toInt = d.toInt % (2 ^ 6 : Nat) := c_mask d 63 6 (by decide) (by decide)
  have e3 := c_ishl (a &&& 7) 18 18 (by decide)
  have e3' := c_ishl (b &&& 63) 12 12 (by decide)
  have e3'' := c_ishl (c &&& 63) 6 6 (by decide)
  have p6 : ((2 ^ 6 : Nat) : Int) = 64 := by decide
  have p12 : ((2 ^ 12 : Nat) : Int) = 4096 := by decide
  have p18 : ((2 ^ 18 : Nat) : Int) = 262144 := by decide
  have r1 := rng32 ((a &&& 7) <<< ((18 : Int32) &&& 31))
  have r1' := rng32 ((b &&& 63) <<< ((12 : Int32) &&& 31))
  have r1'' := rng32 ((c &&& 63) <<< ((6 : Int32) &&& 31))
  generalize (a &&& 7) <<< ((18 : Int32) &&& 31) = x at *
  generalize (b &&& 63) <<< ((12 : Int32) &&& 31) = y at *
  generalize (c &&& 63) <<< ((6 : Int32) &&& 31) = z at *
  have hx : x.toInt = (a.toInt - 240) * 262144 := by omega
  have hy : y.toInt = (b.toInt - 128) * 4096 := by omega
  have hz : z.toInt = (c.toInt - 128) * 64 := by omega
  have e4 := c_or x y 18 (by decide) 262144 (by decide) (by omega) (by omega) (by omega)
  have r2 := rng32 (x ||| y)
  have hxy : (x ||| y).toInt = (a.toInt - 240) * 262144 + (b.toInt - 128) * 4096 := by omega
  have e5 := c_or (x ||| y) z 12 (by decide) 4096 (by decide) (by omega) (by omega) (by omega)
  have r3 := rng32 (x ||| y ||| z)
  have hxyz : (x ||| y ||| z).toInt = (a.toInt - 240) * 262144 + (b.toInt - 128) * 4096 + (c.toInt - 128) * 64 := by omega
  have e6 := c_or (x ||| y ||| z) (d &&& 63) 6 (by decide) 64 (by decide) (by omega) (by omega) (by omega)
  have r4 := rng32 (x ||| y ||| z ||| (d &&& 63))
  omega
theorem own_clx {a0 a1 a2 a3 : Int32} {c0 c1 c2 c3 A : Int} (h0 : a0.toInt = c0) (hc0 : 0 ≤ c0 ∧ c0 ≤ 255) (hc1 : 0 ≤ c1 ∧ c1 ≤ 255) (hc2 : 0 ≤ c2 ∧ c2 ≤ 255) (hc3 : 0 ≤ c3 ∧ c3 ≤ 255)
    (h1 : a1.toInt = if 2 ≤ A then c1 else -1) (h2 : a2.toInt = if 3 ≤ A then c2 else -1) (h3 : a3.toInt = if 4 ≤ A then c3 else -1) :
    (if a0 < (128 : Int32) then (1 : Int32)
      else if (a0 &&& (224 : Int32)) = (192 : Int32) then if (f_9 a1) = (0 : Int32) then (0 : Int32)
        else if (((a0 &&& (31 : Int32)) <<< ((6 : Int32) &&& 31)) ||| (a1 &&& (63 : Int32))) < (128 : Int32) then (0 : Int32)
        else (2 : Int32)
      else if (a0 &&& (240 : Int32)) = (224 : Int32) then if (f_9 a1) = (0 : Int32) then (0 : Int32)
        else if (f_9 a2) = (0 : Int32) then (0 : Int32)
        else if ((((a0 &&& (15 : Int32)) <<< ((12 : Int32) &&& 31)) ||| ((a1 &&& (63 : Int32)) <<< ((6 : Int32) &&& 31))) ||| (a2 &&& (63 : Int32))) < (2048 : Int32) then (0 : Int32)
        else if ((((a0 &&& (15 : Int32)) <<< ((12 : Int32) &&& 31)) ||| ((a1 &&& (63 : Int32)) <<< ((6 : Int32) &&& 31))) ||| (a2 &&& (63 : Int32))) < (55296 : Int32) then (3 : Int32)
        else if (57343 : Int32) < ((((a0 &&& (15 : Int32)) <<< ((12 : Int32) &&& 31)) ||| ((a1 &&& (63 : Int32)) <<< ((6 : Int32) &&& 31))) ||| (a2 &&& (63 : Int32))) then (3 : Int32)
        else (0 : Int32)
      else if (a0 &&& (248 : Int32)) = (240 : Int32) then if (f_9 a1) = (0 : Int32) then (0 : Int32)
        else if (f_9 a2) = (0 : Int32) then (0 : Int32)
        else if (f_9 a3) = (0 : Int32) then (0 : Int32)
        else if (((((a0 &&& (7 : Int32)) <<< ((18 : Int32) &&& 31)) ||| ((a1 &&& (63 : Int32)) <<< ((12 : Int32) &&& 31))) ||| ((a2 &&& (63 : Int32)) <<< ((6 : Int32) &&& 31))) ||| (a3 &&& (63 : Int32))) < (65536 : Int32) then (0 : Int32)
        else if (1114111 : Int32) < (((((a0 &&& (7 : Int32)) <<< ((18 : Int32) &&& 31)) ||| ((a1 &&& (63 : Int32)) <<< ((12 : Int32) &&& 31))) ||| ((a2 &&& (63 : Int32)) <<< ((6 : Int32) &&& 31))) ||| (a3 &&& (63 : Int32))) then (0 : Int32)
        else (4 : Int32)
      else (0 : Int32)) = own_S c0 c1 c2 c3 A := by
  have hk := own_ofNat (x := a0) (n := c0.toNat) (by omega)
  have m1 : (a0 &&& (224 : Int32)) = (192 : Int32) ↔ (192 ≤ c0 ∧ c0 ≤ 223) := by rw [hk, own_m224 ⟨c0.toNat, by omega⟩]; show (192 ≤ c0.toNat ∧ c0.toNat ≤ 223) ↔ _; omega
  have m2 : (a0 &&& (240 : Int32)) = (224 : Int32) ↔ (224 ≤ c0 ∧ c0 ≤ 239) := by rw [hk, own_m240 ⟨c0.toNat, by omega⟩]; show (224 ≤ c0.toNat ∧ c0.toNat ≤ 239) ↔ _; omega
  have m3 : (a0 &&& (248 : Int32)) = (240 : Int32) ↔ (240 ≤ c0 ∧ c0 ≤ 247) := by rw [hk, own_m248 ⟨c0.toNat, by omega⟩]; show (240 ≤ c0.toNat ∧ c0.toNat ≤ 247) ↔ _; omega
  have n1 : f_9 a1 = 0 ↔ ¬ (2 ≤ A ∧ 128 ≤ c1 ∧ c1 ≤ 191) := by rw [own_f9, h1]; split <;> omega
  have n2 : f_9 a2 = 0 ↔ ¬ (3 ≤ A ∧ 128 ≤ c2 ∧ c2 ≤ 191) := by rw [own_f9, h2]; split <;> omega
  have n3 : f_9 a3 = 0 ↔ ¬ (4 ≤ A ∧ 128 ≤ c3 ∧ c3 ≤ 191) := by rw [own_f9, h3]; split <;> omega
  have k128 : (128 : Int32).toInt = 128 := by decide
  unfold own_S
  by_cases q0 : c0 < 128
  · rw [if_pos (by rw [Int32.lt_iff_toInt_lt]; omega), if_pos q0]
  rw [if_neg (by rw [Int32.lt_iff_toInt_lt]; omega), if_neg q0]
  by_cases q1 : c0 < 192
  · rw [if_neg (by rw [m1]; omega), if_neg (by rw [m2]; omega), if_neg (by rw [m3]; omega), if_pos (by omega)]
  by_cases q2 : c0 < 224
  · rw [if_pos (by rw [m1]; omega)]
    by_cases z1 : 2 ≤ A ∧ 128 ≤ c1 ∧ c1 ≤ 191
    · rw [if_neg (by rw [n1]; omega)]
      rw [if_pos z1.1] at h1
      have cp := own_cp2 a0 a1 (by omega) (by omega)
      simp only [Int32.lt_iff_toInt_lt, cp, k128]
      by_cases q3 : c0 < 194
      · rw [if_pos (by omega), if_pos q3]
      · rw [if_neg (by omega), if_neg q3, if_pos q2, if_pos z1]
    · rw [if_pos (n1.mpr z1)]
      by_cases q3 : c0 < 194
      · rw [if_pos q3]
      · rw [if_neg q3, if_pos q2, if_neg z1]
  rw [if_neg (by rw [m1]; omega), if_neg (show ¬ c0 < 194 by omega), if_neg q2]
  by_cases q3 : c0 < 240
  · rw [if_pos (by rw [m2]; omega), if_pos q3]
    by_cases z1 : 2 ≤ A ∧ 128 ≤ c1 ∧ c1 ≤ 191
    · rw [if_neg (by rw [n1]; omega)]
      by_cases z2 : 3 ≤ A ∧ 128 ≤ c2 ∧ c2 ≤ 191
      · rw [if_neg (by rw [n2]; omega)]
        rw [if_pos z1.1] at h1
        rw [if_pos z2.1] at h2
        have cp := own_cp3 a0 a1 a2 (by omega) (by omega) (by omega)
        have k1 : (2048 : Int32).toInt = 2048 := by decide
        have k2 : (55296 : Int32).toInt = 55296 := by decide
        have k3 : (57343 : Int32).toInt = 57343 := by decide
        simp only [Int32.lt_iff_toInt_lt, cp, k1, k2, k3, h0, h1, h2]
        repeat' split
        all_goals first | rfl | (exfalso; omega)
      · rw [if_pos (n2.mpr z2), if_neg (by omega)]
    · rw [if_pos (n1.mpr z1), if_neg (by omega)]
  rw [if_neg (by rw [m2]; omega), if_neg q3]
  by_cases q4 : c0 ≤ 247
  · rw [if_pos (by rw [m3]; omega)]
    by_cases z1 : 2 ≤ A ∧ 128 ≤ c1 ∧ c1 ≤ 191
    · rw [if_neg (by rw [n1]; omega)]
      by_cases z2 : 3 ≤ A ∧ 128 ≤ c2 ∧ c2 ≤ 191
      · rw [if_neg (by rw [n2]; omega)]
        by_cases z3 : 4 ≤ A ∧ 128 ≤ c3 ∧ c3 ≤ 191
        · rw [if_neg (by rw [n3]; omega)]
          rw [if_pos z1.1] at h1
          rw [if_pos z2.1] at h2
          rw [if_pos z3.1] at h3
          have cp := own_cp4 a0 a1 a2 a3 (by omega) (by omega) (by omega) (by omega)
          have k1 : (65536 : Int32).toInt = 65536 := by decide
          have k2 : (1114111 : Int32).toInt = 1114111 := by decide
          simp only [Int32.lt_iff_toInt_lt, cp, k1, k2, h0, h1, h2, h3]
          repeat' split
          all_goals first | rfl | (exfalso; omega)
        · rw [if_pos (n3.mpr z3)]
          split
          · rw [if_neg (by omega)]
          · rfl
      · rw [if_pos (n2.mpr z2)]
        split
        · rw [if_neg (by omega)]
        · rfl
    · rw [if_pos (n1.mpr z1)]
      split
      · rw [if_neg (by omega)]
      · rfl
  · rw [if_neg (by rw [m3]; omega), if_neg (by omega)]
theorem own_atv {g : Nat → Int32} {ps to1 : Int32} {P T k : Nat} (hp : ps.toInt = ((P + k : Nat) : Int)) (ht : to1.toInt = (T : Int)) : (own_at g ps to1 (P + k)).toInt = if (k + 1 : Int) ≤ (T : Int) - P then (g (P + k)).toInt % 256 else -1 := by
  unfold own_at
  simp only [Int32.lt_iff_toInt_lt, hp, ht]
  by_cases q : (k + 1 : Int) ≤ (T : Int) - P
  · rw [if_pos q, if_pos (by omega), own_255]
  · rw [if_neg q, if_neg (by omega)]; decide
theorem own_clS {g : Nat → Int32} {ps to1 : Int32} {P T : Nat} (hp : ps.toInt = (P : Int)) (hP : P < 5) (ht : to1.toInt = (T : Int)) (hPT : P < T) :
    own_cl g ps to1 P = own_S ((g P).toInt % 256) ((g (P + 1)).toInt % 256) ((g (P + 2)).toInt % 256) ((g (P + 3)).toInt % 256) ((T : Int) - P) := by
  unfold own_cl
  have v0 := own_atv (g := g) (k := 0) (P := P) (ps := ps) hp ht
  have v1 := own_atv (g := g) (k := 1) (P := P) (own_offp hp hP (1 : Int32) 1 (by decide) (by decide)) ht
  have v2 := own_atv (g := g) (k := 2) (P := P) (own_offp hp hP (2 : Int32) 2 (by decide) (by decide)) ht
  have v3 := own_atv (g := g) (k := 3) (P := P) (own_offp hp hP (3 : Int32) 3 (by decide) (by decide)) ht
  rw [if_pos (by omega)] at v0
  exact own_clx v0 (by omega) (by omega) (by omega) (by omega) v1 v2 v3
/-- the length at a position -/
def own_L (g : Nat → Int32) (to1 : Int32) (P : Nat) : Nat := (own_cl g (Int32.ofNat P) to1 P).toInt.toNat
def own_ok (Ln : Nat → Nat) (T : Nat) : Nat → Nat → Bool
  | 0, P => decide (P = T)
  | k + 1, P => if P < T then (if Ln P = 0 then false else own_ok Ln T k (P + Ln P)) else decide (P = T)
def own_b (b : Bool) : Int32 := if b then 1 else 0
theorem own_Lv {g : Nat → Int32} {ps to1 : Int32} {P T : Nat} (hp : ps.toInt = (P : Int)) (ht : to1.toInt = (T : Int)) (hT : T ≤ 5) (hPT : P < T) : (own_cl g ps to1 P = 0 ∧ own_L g to1 P = 0) ∨ ((own_cl g ps to1 P).toInt = (own_L g to1 P : Int) ∧ 1 ≤ own_L g to1 P ∧ P + own_L g to1 P ≤ T) := by
  have e := own_ofNat hp
  have h := own_S_le ((g P).toInt % 256) ((g (P + 1)).toInt % 256) ((g (P + 2)).toInt % 256) ((g (P + 3)).toInt % 256) ((T : Int) - P) (by omega)
  rw [← own_clS hp (by omega) ht hPT] at h
  unfold own_L
  rw [← e]
  rcases h with h | ⟨n, h1, h2, h3⟩
  · left; refine ⟨h, ?_⟩; rw [h]; rfl
  · right; rw [h1]; refine ⟨by omega, by omega, by omega⟩
theorem own_L1 {g : Nat → Int32} {to1 : Int32} {P T : Nat} (ht : to1.toInt = (T : Int)) (hT : T ≤ 5) (hPT : P < T) (hr : -128 ≤ (g P).toInt ∧ (g P).toInt < 128) (h : ¬ g P < 0) : own_L g to1 P = 1 := by
  have hp : (Int32.ofNat P).toInt = (P : Int) := Int32.toInt_ofNat_of_lt (by omega)
  unfold own_L
  rw [own_clS hp (by omega) ht hPT]
  rw [Int32.lt_iff_toInt_lt] at h
  have e0 : (0 : Int32).toInt = 0 := by decide
  unfold own_S
  rw [if_pos (by omega)]
  rfl
theorem own_Lle {g : Nat → Int32} {to1 : Int32} {T : Nat} (ht : to1.toInt = (T : Int)) (hT : T ≤ 5) : ∀ P, P < T → own_L g to1 P ≠ 0 → 1 ≤ own_L g to1 P ∧ P + own_L g to1 P ≤ T := by
  intro P hP hne
  have hp : (Int32.ofNat P).toInt = (P : Int) := Int32.toInt_ofNat_of_lt (by omega)
  rcases own_Lv (g := g) hp ht hT hP with h | h
  · exact absurd h.2 hne
  · exact h.2
theorem own_ok_fuel {Ln : Nat → Nat} {T : Nat} (hL : ∀ P, P < T → Ln P ≠ 0 → 1 ≤ Ln P ∧ P + Ln P ≤ T) : ∀ (k Q : Nat), Q ≤ T → T - Q ≤ k → own_ok Ln T k Q = own_ok Ln T (T - Q) Q := by
  have step : ∀ (k Q : Nat), Q ≤ T → T - Q ≤ k → own_ok Ln T (k + 1) Q = own_ok Ln T k Q := by
    intro k
    induction k with
    | zero =>
      intro Q h1 h2
      have : ¬ Q < T := by omega
      simp only [own_ok, if_neg this]
    | succ k ih =>
      intro Q h1 h2
      by_cases q : Q < T
      · by_cases z : Ln Q = 0
        · simp only [own_ok, if_pos q, if_pos z]
        · have hh := hL Q q z
          have e := ih (Q + Ln Q) (by omega) (by omega)
          show (if Q < T then (if Ln Q = 0 then false else own_ok Ln T (k + 1) (Q + Ln Q)) else decide (Q = T)) = (if Q < T then (if Ln Q = 0 then false else own_ok Ln T k (Q + Ln Q)) else decide (Q = T))
          rw [if_pos q, if_pos q, if_neg z, if_neg z, e]
      · simp only [own_ok, if_neg q]
  intro k Q h1 h2
  obtain ⟨d, rfl⟩ : ∃ d, k = (T - Q) + d := ⟨k - (T - Q), by omega⟩
  induction d with
  | zero => rfl
  | succ d ih => rw [← Nat.add_assoc, step _ _ h1 (by omega)]; exact ih (by omega)
theorem own_ok_step {Ln : Nat → Nat} {T P : Nat} (hL : ∀ P, P < T → Ln P ≠ 0 → 1 ≤ Ln P ∧ P + Ln P ≤ T) (hP : P < T) (h : Ln P ≠ 0) : own_ok Ln T (T - P) P = own_ok Ln T (T - (P + Ln P)) (P + Ln P) := by
  have hh := hL P hP h
  obtain ⟨k, hk⟩ : ∃ k, T - P = k + 1 := ⟨T - P - 1, by omega⟩
  rw [hk]
  show (if P < T then (if Ln P = 0 then false else own_ok Ln T k (P + Ln P)) else decide (P = T)) = _
  rw [if_pos hP, if_neg h]
  exact own_ok_fuel hL k _ (by omega) (by omega)
theorem own_ok_zero {Ln : Nat → Nat} {T P : Nat} (hP : P < T) (h : Ln P = 0) : own_ok Ln T (T - P) P = false := by
  obtain ⟨k, hk⟩ : ∃ k, T - P = k + 1 := ⟨T - P - 1, by omega⟩
  rw [hk]
  show (if P < T then (if Ln P = 0 then false else own_ok Ln T k (P + Ln P)) else decide (P = T)) = _
  rw [if_pos hP, if_pos h]
theorem own_end {Ln : Nat → Nat} {T I : Nat} (h : I = T) : own_b (own_ok Ln T (T - I) I) = 1 := by
  subst h; rw [Nat.sub_self]; simp [own_ok, own_b]
theorem own_skip {Ln : Nat → Nat} {T : Nat} (hL : ∀ P, P < T → Ln P ≠ 0 → 1 ≤ Ln P ∧ P + Ln P ≤ T) : ∀ (d I J : Nat), J = I + d → J ≤ T → (∀ q, I ≤ q → q < J → Ln q = 1) → own_ok Ln T (T - I) I = own_ok Ln T (T - J) J := by
  intro d
  induction d with
  | zero => intro I J h _ _; rw [h]; rfl
  | succ d ih =>
    intro I J h1 h2 h3
    have e1 : Ln I = 1 := h3 I (Nat.le_refl _) (by omega)
    rw [own_ok_step hL (by omega) (by rw [e1]; decide), e1]
    exact ih (I + 1) J (by omega) h2 (fun q a b => h3 q (by omega) b)
theorem own_turn0 {g : Nat → Int32} {to1 : Int32} {T I J : Nat} (ht : to1.toInt = (T : Int)) (hT : T ≤ 5) (hr : ∀ q, q < 5 → -128 ≤ (g q).toInt ∧ (g q).toInt < 128) (as : ∀ q, I ≤ q → q < J → ¬ g q < 0) (l : I ≤ J) (u : J ≤ T) :
    own_b (own_ok (own_L g to1) T (T - I) I) = own_b (own_ok (own_L g to1) T (T - J) J) := by
  rw [own_skip (own_Lle ht hT) (J - I) I J (by omega) u (fun q a b => own_L1 ht hT (by omega) (hr q (by omega)) (as q a b))]
theorem own_turn {g : Nat → Int32} {to1 : Int32} {T I J N : Nat} (ht : to1.toInt = (T : Int)) (hT : T ≤ 5) (hr : ∀ q, q < 5 → -128 ≤ (g q).toInt ∧ (g q).toInt < 128) (hlt : I < T) (hN1 : own_L g to1 I = N) (hN2 : 1 ≤ N) (hN3 : I + N ≤ T)
    (as : ∀ q, I + N ≤ q → q < J → ¬ g q < 0) (l : I + N ≤ J) (u : J ≤ T) : own_b (own_ok (own_L g to1) T (T - I) I) = own_b (own_ok (own_L g to1) T (T - J) J) := by
  rw [own_ok_step (own_Lle ht hT) hlt (by omega), hN1]
  exact own_turn0 ht hT hr as l u
theorem own_sqL {g : Nat → Int32} {ps to1 : Int32} {P T : Nat} (ht : to1.toInt = (T : Int)) (hT : T ≤ 5) (hr : ∀ q, q < 5 → -128 ≤ (g q).toInt ∧ (g q).toInt < 128) (hp : ps.toInt = (P : Int)) (hPT : P < T) (hng : g P < 0) : own_sq g ps to1 P = own_cl g ps to1 P := by
  rw [Int32.lt_iff_toInt_lt] at hng
  have e0 : (0 : Int32).toInt = 0 := by decide
  have r := hr P (by omega)
  rw [own_clS hp (by omega) ht hPT, own_sqS hp (by omega) ht (by omega)]
theorem own_dead {g : Nat → Int32} {ps to1 : Int32} {P T : Nat} (ht : to1.toInt = (T : Int)) (hT : T ≤ 5) (hr : ∀ q, q < 5 → -128 ≤ (g q).toInt ∧ (g q).toInt < 128) (hp : ps.toInt = (P : Int)) (hPT : P < T) (hng : g P < 0) (h : own_sq g ps to1 P = 0) : own_b (own_ok (own_L g to1) T (T - P) P) = 0 := by
  rw [own_sqL ht hT hr hp hPT hng] at h
  rcases own_Lv (g := g) hp ht hT hPT with z | z
  · rw [own_ok_zero hPT z.2]; rfl
  · rw [h] at z; have : (0 : Int32).toInt = 0 := by decide
    omega
theorem own_seq {g : Nat → Int32} {ps to1 : Int32} {P T : Nat} (ht : to1.toInt = (T : Int)) (hT : T ≤ 5) (hr : ∀ q, q < 5 → -128 ≤ (g q).toInt ∧ (g q).toInt < 128) (hp : ps.toInt = (P : Int)) (hPT : P < T) (hng : g P < 0) (h : ¬ own_sq g ps to1 P = 0) :
    ∃ N : Nat, (own_sq g ps to1 P).toInt = (N : Int) ∧ own_L g to1 P = N ∧ 1 ≤ N ∧ P + N ≤ T := by
  rw [own_sqL ht hT hr hp hPT hng] at h ⊢
  rcases own_Lv (g := g) hp ht hT hPT with z | z
  · exact absurd z.1 h
  · exact ⟨_, z.1, rfl, z.2.1, z.2.2⟩
theorem own_addN {u v : Int32} {A B : Nat} (hu : u.toInt = (A : Int)) (hv : v.toInt = (B : Int)) (h : A + B ≤ 5) : (u + v).toInt = ((A + B : Nat) : Int) := by
  have e := c_iadd u v
  have r := rng32 (u + v)
  omega
def own_it (g : Nat → Int32) (to1 : Int32) : Nat → Int32 → Int32
  | 0, v => v
  | k + 1, v => own_it g to1 k (own_next g to1 v)
theorem own_it_0 (g : Nat → Int32) (to1 v : Int32) : own_it g to1 0 v = v := rfl
theorem own_it_s (g : Nat → Int32) (to1 : Int32) (k : Nat) (v : Int32) : own_it g to1 (k + 1) v = own_it g to1 k (own_next g to1 v) := rfl
theorem own_it_5 (g : Nat → Int32) (to1 v : Int32) : own_it g to1 (0 + 1 + 1 + 1 + 1 + 1) v = own_next g to1 (own_next g to1 (own_next g to1 (own_next g to1 (own_next g to1 v)))) := by
  rw [own_it_s, own_it_s, own_it_s, own_it_s, own_it_s, own_it_0]
theorem own_it_neg (g : Nat → Int32) (to1 : Int32) : ∀ k, own_it g to1 k (-1) = -1 := by
  intro k
  induction k with
  | zero => rfl
  | succ k ih =>
    show own_it g to1 k (own_next g to1 (-1)) = -1
    have : own_next g to1 (-1) = -1 := by rw [own_next, if_pos (by decide)]
    rw [this]; exact ih
theorem own_iter {g : Nat → Int32} {to1 : Int32} {T : Nat} (ht : to1.toInt = (T : Int)) (hT : T ≤ 5) : ∀ (k P : Nat) (ps : Int32), ps.toInt = (P : Int) → P ≤ T → T - P ≤ k → (own_it g to1 k ps = to1 ↔ own_ok (own_L g to1) T (T - P) P = true) := by
  intro k
  induction k with
  | zero =>
    intro P ps hp h1 h2
    have e : P = T := by omega
    subst e
    rw [Nat.sub_self]
    have q : ps = to1 := by apply Int32.toInt_inj.mp; rw [hp, ht]
    simp [own_it, own_ok, q]
  | succ k ih =>
    intro P ps hp h1 h2
    show own_it g to1 k (own_next g to1 ps) = to1 ↔ _
    have n0 : ¬ ps < (0 : Int32) := by rw [Int32.lt_iff_toInt_lt]; have : (0 : Int32).toInt = 0 := by decide
                                       omega
    have hN : ps.toInt.toNat = P := by omega
    by_cases q : P < T
    · have n1 : ps < to1 := by rw [Int32.lt_iff_toInt_lt]; omega
      have e : own_next g to1 ps = if own_cl g ps to1 P = 0 then -1 else ps + own_cl g ps to1 P := by
        rw [own_next, if_neg n0, if_pos n1, hN]
      rw [e]
      rcases own_Lv (g := g) hp ht hT q with z | z
      · rw [if_pos z.1, own_it_neg, own_ok_zero q z.2]
        constructor
        · intro w
          have w2 : (-1 : Int32).toInt = to1.toInt := by rw [w]
          have : (-1 : Int32).toInt = -1 := by decide
          omega
        · intro w; cases w
      · have hne : ¬ own_cl g ps to1 P = 0 := by
          intro w; rw [w] at z; have : (0 : Int32).toInt = 0 := by decide
          omega
        rw [if_neg hne, own_ok_step (own_Lle ht hT) q (by omega)]
        exact ih _ _ (own_addN hp z.1 (by omega)) z.2.2 (by omega)
    · have n1 : ¬ ps < to1 := by rw [Int32.lt_iff_toInt_lt]; omega
      have e : own_next g to1 ps = ps := by rw [own_next, if_neg n0, if_neg n1]
      rw [e]
      exact ih P ps hp h1 (by omega)
theorem own_fivey {g : Nat → Int32} {fr to1 : Int32} {F T : Nat} (hf : fr.toInt = (F : Int)) (ht : to1.toInt = (T : Int)) (hFT : F ≤ T) (hT : T ≤ 5) (h : own_next g to1 (own_next g to1 (own_next g to1 (own_next g to1 (own_next g to1 fr)))) = to1) : own_b (own_ok (own_L g to1) T (T - F) F) = 1 := by
  rw [← own_it_5] at h
  rw [(own_iter ht hT (0 + 1 + 1 + 1 + 1 + 1) F fr hf hFT (by omega)).mp h]; rfl
theorem own_fiven {g : Nat → Int32} {fr to1 : Int32} {F T : Nat} (hf : fr.toInt = (F : Int)) (ht : to1.toInt = (T : Int)) (hFT : F ≤ T) (hT : T ≤ 5) (h : ¬ own_next g to1 (own_next g to1 (own_next g to1 (own_next g to1 (own_next g to1 fr)))) = to1) : own_b (own_ok (own_L g to1) T (T - F) F) = 0 := by
  rw [← own_it_5] at h
  have q : ¬ own_ok (own_L g to1) T (T - F) F = true := fun w => h ((own_iter ht hT (0 + 1 + 1 + 1 + 1 + 1) F fr hf hFT (by omega)).mpr w)
  unfold own_b
  rw [if_neg q]
theorem own_ft (i2 : Int32) : ∃ F T : Nat, (f_1 ((i2 &&& (7 : Int32)) % (6 : Int32)) ((((i2.toUInt32 >>> ((3 : Int32) &&& 31).toUInt32).toInt32) &&& (7 : Int32)) % (6 : Int32))).toInt = (F : Int) ∧ (f_2 ((i2 &&& (7 : Int32)) % (6 : Int32)) ((((i2.toUInt32 >>> ((3 : Int32) &&& 31).toUInt32).toInt32) &&& (7 : Int32)) % (6 : Int32))).toInt = (T : Int) ∧ F ≤ T ∧ T ≤ 5 := by
  have key : ∀ u : Int32, ∃ N : Nat, ((u &&& (7 : Int32)) % (6 : Int32)).toInt = (N : Int) ∧ N ≤ 5 := by
    intro u
    have e1 : (u &&& 7).toInt = u.toInt % (2 ^ 3 : Nat) := c_mask u 7 3 (by decide) (by decide)
    have e2 := (c_irem (u &&& 7) 6 6 (by decide)).1 (by omega)
    exact ⟨((u &&& 7) % 6).toInt.toNat, by omega, by omega⟩
  obtain ⟨A, hA, hA5⟩ := key i2
  obtain ⟨B, hB, hB5⟩ := key ((i2.toUInt32 >>> ((3 : Int32) &&& 31).toUInt32).toInt32)
  generalize (i2 &&& (7 : Int32)) % (6 : Int32) = u at hA ⊢
  generalize (((i2.toUInt32 >>> ((3 : Int32) &&& 31).toUInt32).toInt32) &&& (7 : Int32)) % (6 : Int32) = w at hB ⊢
  unfold f_1 f_2
  by_cases q : A ≤ B
  · rw [if_neg (by rw [Int32.lt_iff_toInt_lt]; omega)]
    refine ⟨A, B, hA, ?_, q, hB5⟩
    split
    · exact hB
    · rename_i z; rw [Int32.lt_iff_toInt_lt] at z; omega
  · rw [if_pos (by rw [Int32.lt_iff_toInt_lt]; omega), if_neg (by rw [Int32.lt_iff_toInt_lt]; omega)]
    exact ⟨B, A, hB, hA, by omega, hA5⟩

theorem own_bytes {Z : State} {h : Heap} {a : Addr} {g : Nat → Int32} (A : Af Z h a .byte 5 (fun q => .int (g q))) : ∀ q, q < 5 → -128 ≤ (g q).toInt ∧ (g q).toInt < 128 := by
  obtain ⟨c, -, -, -, -, r⟩ := A
  intro q hq
  have h := rng_byte (r q hq)
  rw [Int32.lt_iff_toInt_lt, Int32.lt_iff_toInt_lt] at h
  have e1 : (-128 : Int32).toInt = -128 := by decide
  have e2 : (127 : Int32).toInt = 127 := by decide
  omega
theorem d6_0 : decode prog_75_method_2_code 0 = .ok (.aload_n 0, 1) := by decide +kernel
theorem d6_1 : decode prog_75_method_2_code 1 = .ok (.iload_n 1, 1) := by decide +kernel
theorem d6_2 : decode prog_75_method_2_code 2 = .ok (.iload_n 2, 1) := by decide +kernel
theorem d6_3 : decode prog_75_method_2_code 3 = .ok (.invokestatic 7, 3) := by decide +kernel
theorem d6_6 : decode prog_75_method_2_code 6 = .ok (.istore_n 3, 1) := by decide +kernel
theorem d6_7 : decode prog_75_method_2_code 7 = .ok (.iload_n 3, 1) := by decide +kernel
theorem d6_8 : decode prog_75_method_2_code 8 = .ok (.iload_n 2, 1) := by decide +kernel
theorem d6_9 : decode prog_75_method_2_code 9 = .ok (.if_icmp .ge 31, 3) := by decide +kernel
theorem d6_12 : decode prog_75_method_2_code 12 = .ok (.aload_n 0, 1) := by decide +kernel
theorem d6_13 : decode prog_75_method_2_code 13 = .ok (.iload_n 3, 1) := by decide +kernel
theorem d6_14 : decode prog_75_method_2_code 14 = .ok (.iload_n 2, 1) := by decide +kernel
theorem d6_15 : decode prog_75_method_2_code 15 = .ok (.invokestatic 13, 3) := by decide +kernel
theorem d6_18 : decode prog_75_method_2_code 18 = .ok (.istore 4, 2) := by decide +kernel
theorem d6_20 : decode prog_75_method_2_code 20 = .ok (.iload 4, 2) := by decide +kernel
theorem d6_22 : decode prog_75_method_2_code 22 = .ok (.ifCond .ne 5, 3) := by decide +kernel
theorem d6_25 : decode prog_75_method_2_code 25 = .ok (.iconst 0, 1) := by decide +kernel
theorem d6_26 : decode prog_75_method_2_code 26 = .ok (.ireturn, 1) := by decide +kernel
theorem d6_27 : decode prog_75_method_2_code 27 = .ok (.aload_n 0, 1) := by decide +kernel
theorem d6_28 : decode prog_75_method_2_code 28 = .ok (.iload_n 3, 1) := by decide +kernel
theorem d6_29 : decode prog_75_method_2_code 29 = .ok (.iload 4, 2) := by decide +kernel
theorem d6_31 : decode prog_75_method_2_code 31 = .ok (.iadd, 1) := by decide +kernel
theorem d6_32 : decode prog_75_method_2_code 32 = .ok (.iload_n 2, 1) := by decide +kernel
theorem d6_33 : decode prog_75_method_2_code 33 = .ok (.invokestatic 7, 3) := by decide +kernel
theorem d6_36 : decode prog_75_method_2_code 36 = .ok (.istore_n 3, 1) := by decide +kernel
theorem d6_37 : decode prog_75_method_2_code 37 = .ok (.goto (-30), 3) := by decide +kernel
theorem d6_40 : decode prog_75_method_2_code 40 = .ok (.iconst 1, 1) := by decide +kernel
theorem d6_41 : decode prog_75_method_2_code 41 = .ok (.ireturn, 1) := by decide +kernel
theorem pd_6 : parseMethodDescriptor "([BII)Z" = some ⟨[(.array .byte), .int, .int], some .boolean⟩ := by decide +kernel
theorem pf_6 : plainFor (⟨"com/example/vedette/vedette/records/Utf8", "wellFormed", "([BII)Z"⟩ : MethodName) = true := plainFor_of_name (by first | (simp [plainName, overriddenIn, x]; done) | decide +kernel)
theorem ef_6 (m : MethodId) (ar : Addr) (fr : Int32) (to1 : Int32) : entryFrame m #[(.ref ar), (.int fr), (.int to1)] 5 = mkF m 0 #[.val (.ref ar), .val (.int fr), .val (.int to1), .unset, .unset] [] := by first | (simp [entryFrame, mkF, argsToLocals, Value.category]; done) | rfl
set_option maxRecDepth 65536 in
set_option maxHeartbeats 40000000 in
theorem con_6 (l : Launch) (Z : State) (a0 : Array Value) (hw : ∀ d ∈ tables_1, d.before a0 Z = true) (ar : Addr) (fr : Int32) (to1 : Int32) (F T : Nat) (g : Nat → Int32) (h0 : Heap) (n0 : Nat) (Z0 : n0 ≤ h0.size) (A0 : Af Z h0 ar .byte 5 (fun q => .int (g q))) (hf : fr.toInt = (F : Int)) (hFT : F ≤ T) (ht : to1.toInt = (T : Int)) (hT : T ≤ 5) : Con l Z (⟨"com/example/vedette/vedette/records/Utf8", "wellFormed", "([BII)Z"⟩ : MethodName) prog_75_method_2_code 5 (some .boolean) ({ frames := 1, cells := 0, slots := 0, locals := 19 } : Room) #[(.ref ar), (.int fr), (.int to1)] h0 (Pure h0 (some (.int (own_b (own_ok (own_L g to1) T (T - F) F))))) := by
  refine Con.intro pf_6 ?_
  intro p e s m below meth c s₁ hx hby hml hown hnm hret hlk hZ X0 e0
  refine Ends.cast (ef_6 m ar fr to1) ?_
  have N0 := Fr.nil n0
  have hr := own_bytes A0
  refine Ends.by (fun _ => XS.aloadN X0.here hx rfl (hb hby d6_0) rfl rfl) ?_
  show Ends p e below _ s₁ (mkF m 1 #[.val (.ref ar), .val (.int fr), .val (.int to1), .unset, .unset] [(.ref ar)])
  refine Ends.by (fun _ => XS.iloadN X0.here hx rfl (hb hby d6_1) rfl) ?_
  show Ends p e below _ s₁ (mkF m 2 #[.val (.ref ar), .val (.int fr), .val (.int to1), .unset, .unset] [(.int fr), (.ref ar)])
  refine Ends.by (fun _ => XS.iloadN X0.here hx rfl (hb hby d6_2) rfl) ?_
  show Ends p e below _ s₁ (mkF m 3 #[.val (.ref ar), .val (.int fr), .val (.int to1), .unset, .unset] [(.int to1), (.int fr), (.ref ar)])
  refine Ends.callS (argsL := [(.ref ar), (.int fr), (.int to1)]) (rest := []) X0 hx hZ hown (hw _ (List.mem_of_getElem? (i := 22) rfl)) (hw _ (List.mem_of_getElem? (i := 23) rfl)) (hw _ (List.mem_of_getElem? (i := 20) rfl)) (hw _ (List.mem_of_getElem? (i := 24) rfl)) (by decide) (con_7 l Z a0 hw ar fr to1 F T g h0 n0 Z0 A0 hf hFT ht hT) e0 (by rw [hml]; rfl) (hb hby d6_3) (lenOf pd_7 rfl) 0 (Nat.le_of_eq rfl) (by decide) (by decide) (by decide) (by decide) ?_
  intro v T1 L1 X1 hQ
  obtain ⟨z1, J1, rfl, hz1, l1, u1, as1, ng1, e1, rfl⟩ := hQ
  rw [List.append_nil] at X1
  show Ends p e below _ T1 (mkF m 6 #[.val (.ref ar), .val (.int fr), .val (.int to1), .unset, .unset] [(.int z1)])
  refine Ends.by (fun _ => XS.istoreN X1.here hx rfl (hb hby d6_6) rfl (l' := #[.val (.ref ar), .val (.int fr), .val (.int to1), .val (.int z1), .unset]) rfl) ?_
  show Ends p e below _ T1 (mkF m 7 #[.val (.ref ar), .val (.int fr), .val (.int to1), .val (.int z1), .unset] [])
  have loop : ∀ (k : Nat) (i3 : Int32) (I3 : Nat) (s4 : Slot) (T3 : State), T - I3 = k → i3.toInt = (I3 : Int) → I3 ≤ T → (I3 < T → g I3 < 0) → One s4 → Stand p l e ({ frames := 1, cells := 0, slots := 0, locals := 19 } : Room) s m #[(.ref ar), (.int fr), (.int to1)] below meth c T3 [] 0 0 → T3.heap = h0 → Ends p e below (Fini s (Pure h0 (some (.int (own_b (own_ok (own_L g to1) T (T - I3) I3))))) 0 0) T3 (mkF m 7 #[.val (.ref ar), .val (.int fr), .val (.int to1), .val (.int i3), s4] []) := by
    intro k
    induction k using Nat.strongRecOn with
    | _ k ih =>
      intro i3 I3 s4 T3 hk h3 hI hng hs4 X3 e3
      show Ends p e below _ T3 (mkF m 7 #[.val (.ref ar), .val (.int fr), .val (.int to1), .val (.int i3), s4] [])
      refine Ends.by (fun _ => XS.iloadN X3.here hx rfl (hb hby d6_7) rfl) ?_
      show Ends p e below _ T3 (mkF m 8 #[.val (.ref ar), .val (.int fr), .val (.int to1), .val (.int i3), s4] [(.int i3)])
      refine Ends.by (fun _ => XS.iloadN X3.here hx rfl (hb hby d6_8) rfl) ?_
      show Ends p e below _ T3 (mkF m 9 #[.val (.ref ar), .val (.int fr), .val (.int to1), .val (.int i3), s4] [(.int to1), (.int i3)])
      refine Ends.icmp X3 hx (hb hby d6_9) 40 (by decide) (by decide) (fun q => ?_) (fun q => ?_)
      · have c9 : ¬ (i3 < to1) := own_ge.1 q
        show Ends p e below _ T3 (mkF m 40 #[.val (.ref ar), .val (.int fr), .val (.int to1), .val (.int i3), s4] [])
        refine Ends.by (fun _ => XS.iconst X3.here hx rfl (hb hby d6_40)) ?_
        show Ends p e below _ T3 (mkF m 41 #[.val (.ref ar), .val (.int fr), .val (.int to1), .val (.int i3), s4] [(.int (1 : Int32))])
        exact Ends.retZ X3 hx hlk hret (hb hby d6_41) (by decide) (by decide) (by decide) (by rw [e3]; exact ⟨by rw [own_end (by rw [Int32.lt_iff_toInt_lt] at c9; omega)], rfl, rfl⟩)
      · have c9 : i3 < to1 := own_ge.2 q
        show Ends p e below _ T3 (mkF m 12 #[.val (.ref ar), .val (.int fr), .val (.int to1), .val (.int i3), s4] [])
        have hlt : I3 < T := by rw [Int32.lt_iff_toInt_lt] at c9; omega
        refine Ends.by (fun _ => XS.aloadN X3.here hx rfl (hb hby d6_12) rfl rfl) ?_
        show Ends p e below _ T3 (mkF m 13 #[.val (.ref ar), .val (.int fr), .val (.int to1), .val (.int i3), s4] [(.ref ar)])
        refine Ends.by (fun _ => XS.iloadN X3.here hx rfl (hb hby d6_13) rfl) ?_
        show Ends p e below _ T3 (mkF m 14 #[.val (.ref ar), .val (.int fr), .val (.int to1), .val (.int i3), s4] [(.int i3), (.ref ar)])
        refine Ends.by (fun _ => XS.iloadN X3.here hx rfl (hb hby d6_14) rfl) ?_
        show Ends p e below _ T3 (mkF m 15 #[.val (.ref ar), .val (.int fr), .val (.int to1), .val (.int i3), s4] [(.int to1), (.int i3), (.ref ar)])
        refine Ends.callS (argsL := [(.ref ar), (.int i3), (.int to1)]) (rest := []) X3 hx hZ hown (hw _ (List.mem_of_getElem? (i := 25) rfl)) (hw _ (List.mem_of_getElem? (i := 26) rfl)) (hw _ (List.mem_of_getElem? (i := 20) rfl)) (hw _ (List.mem_of_getElem? (i := 27) rfl)) (by decide) (con_8 l Z a0 hw ar i3 to1 I3 T g h0 n0 Z0 A0 h3 (by omega) ht hT) e3 (by rw [hml]; rfl) (hb hby d6_15) (lenOf pd_8 rfl) 0 (Nat.le_of_eq rfl) (by decide) (by decide) (by decide) (by decide) ?_
        intro v T2 L2 X2 hQ
        obtain ⟨rfl, e2, rfl⟩ := hQ
        rw [List.append_nil] at X2
        show Ends p e below _ T2 (mkF m 18 #[.val (.ref ar), .val (.int fr), .val (.int to1), .val (.int i3), s4] [(.int (own_sq g i3 to1 I3))])
        refine Ends.by (fun _ => XS.istoreS X2.here hx rfl (hb hby d6_18) rfl rfl hs4) ?_
        show Ends p e below _ T2 (mkF m 20 #[.val (.ref ar), .val (.int fr), .val (.int to1), .val (.int i3), .val (.int (own_sq g i3 to1 I3))] [])
        refine Ends.by (fun _ => XS.iload X2.here hx rfl (hb hby d6_20) rfl) ?_
        show Ends p e below _ T2 (mkF m 22 #[.val (.ref ar), .val (.int fr), .val (.int to1), .val (.int i3), .val (.int (own_sq g i3 to1 I3))] [(.int (own_sq g i3 to1 I3))])
        refine Ends.ifc X2 hx (hb hby d6_22) 27 (by decide) (by decide) (fun q => ?_) (fun q => ?_)
        · have c22 : ¬ ((own_sq g i3 to1 I3) = (0 : Int32)) := own_ne.1 q
          show Ends p e below _ T2 (mkF m 27 #[.val (.ref ar), .val (.int fr), .val (.int to1), .val (.int i3), .val (.int (own_sq g i3 to1 I3))] [])
          obtain ⟨N3, hN, hN1, hN2, hN3⟩ := own_seq ht hT hr h3 hlt (hng hlt) c22
          refine Ends.by (fun _ => XS.aloadN X2.here hx rfl (hb hby d6_27) rfl rfl) ?_
          show Ends p e below _ T2 (mkF m 28 #[.val (.ref ar), .val (.int fr), .val (.int to1), .val (.int i3), .val (.int (own_sq g i3 to1 I3))] [(.ref ar)])
          refine Ends.by (fun _ => XS.iloadN X2.here hx rfl (hb hby d6_28) rfl) ?_
          show Ends p e below _ T2 (mkF m 29 #[.val (.ref ar), .val (.int fr), .val (.int to1), .val (.int i3), .val (.int (own_sq g i3 to1 I3))] [(.int i3), (.ref ar)])
          refine Ends.by (fun _ => XS.iload X2.here hx rfl (hb hby d6_29) rfl) ?_
          show Ends p e below _ T2 (mkF m 31 #[.val (.ref ar), .val (.int fr), .val (.int to1), .val (.int i3), .val (.int (own_sq g i3 to1 I3))] [(.int (own_sq g i3 to1 I3)), (.int i3), (.ref ar)])
          refine Ends.by (fun _ => XS.iadd X2.here hx rfl (hb hby d6_31) rfl) ?_
          show Ends p e below _ T2 (mkF m 32 #[.val (.ref ar), .val (.int fr), .val (.int to1), .val (.int i3), .val (.int (own_sq g i3 to1 I3))] [(.int (i3 + (own_sq g i3 to1 I3))), (.ref ar)])
          refine Ends.by (fun _ => XS.iloadN X2.here hx rfl (hb hby d6_32) rfl) ?_
          show Ends p e below _ T2 (mkF m 33 #[.val (.ref ar), .val (.int fr), .val (.int to1), .val (.int i3), .val (.int (own_sq g i3 to1 I3))] [(.int to1), (.int (i3 + (own_sq g i3 to1 I3))), (.ref ar)])
          refine Ends.callS (argsL := [(.ref ar), (.int (i3 + (own_sq g i3 to1 I3))), (.int to1)]) (rest := []) X2 hx hZ hown (hw _ (List.mem_of_getElem? (i := 22) rfl)) (hw _ (List.mem_of_getElem? (i := 23) rfl)) (hw _ (List.mem_of_getElem? (i := 20) rfl)) (hw _ (List.mem_of_getElem? (i := 24) rfl)) (by decide) (con_7 l Z a0 hw ar (i3 + (own_sq g i3 to1 I3)) to1 (I3 + N3) T g h0 n0 Z0 A0 (own_addN h3 hN (by omega)) (by omega) ht hT) e2 (by rw [hml]; rfl) (hb hby d6_33) (lenOf pd_7 rfl) 0 (Nat.le_of_eq rfl) (by decide) (by decide) (by decide) (by decide) ?_
          intro v T3 L3 X3 hQ
          obtain ⟨z3, J3, rfl, hz3, l3, u3, as3, ng3, e3, rfl⟩ := hQ
          rw [List.append_nil] at X3
          show Ends p e below _ T3 (mkF m 36 #[.val (.ref ar), .val (.int fr), .val (.int to1), .val (.int i3), .val (.int (own_sq g i3 to1 I3))] [(.int z3)])
          refine Ends.by (fun _ => XS.istoreN X3.here hx rfl (hb hby d6_36) rfl (l' := #[.val (.ref ar), .val (.int fr), .val (.int to1), .val (.int z3), .val (.int (own_sq g i3 to1 I3))]) rfl) ?_
          show Ends p e below _ T3 (mkF m 37 #[.val (.ref ar), .val (.int fr), .val (.int to1), .val (.int z3), .val (.int (own_sq g i3 to1 I3))] [])
          refine Ends.by (fun _ => XS.goto X3.here hx rfl (pc0 := 37) (pc' := 7) rfl (hb hby d6_37) (by decide) (by decide)) ?_
          show Ends p e below _ T3 (mkF m 7 #[.val (.ref ar), .val (.int fr), .val (.int to1), .val (.int z3), .val (.int (own_sq g i3 to1 I3))] [])
          have key := own_turn ht hT hr hlt hN1 hN2 hN3 as3 l3 u3
          rw [key]
          exact ih (T - J3) (by omega) z3 J3 _ T3 rfl hz3 u3 ng3 (One.val rfl) X3 e3
        · have c22 : (own_sq g i3 to1 I3) = (0 : Int32) := own_ne.2 q
          show Ends p e below _ T2 (mkF m 25 #[.val (.ref ar), .val (.int fr), .val (.int to1), .val (.int i3), .val (.int (own_sq g i3 to1 I3))] [])
          refine Ends.by (fun _ => XS.iconst X2.here hx rfl (hb hby d6_25)) ?_
          show Ends p e below _ T2 (mkF m 26 #[.val (.ref ar), .val (.int fr), .val (.int to1), .val (.int i3), .val (.int (own_sq g i3 to1 I3))] [(.int (0 : Int32))])
          exact Ends.retZ X2 hx hlk hret (hb hby d6_26) (by decide) (by decide) (by decide) (by rw [e2]; exact ⟨by rw [own_dead ht hT hr h3 hlt (hng hlt) c22], rfl, rfl⟩)
  rw [own_turn0 ht hT hr as1 l1 u1]
  exact loop _ z1 J1 _ T1 rfl hz1 u1 ng1 One.u X1 e1
theorem pd_0 : parseMethodDescriptor "(III)Z" = some ⟨[.int, .int, .int], some .boolean⟩ := by decide +kernel
theorem pf_0 : plainFor x = true := plainFor_of_name (by first | (simp [plainName, overriddenIn, x]; done) | decide +kernel)
theorem ef_0 (m : MethodId) (i0 : Int32) (i1 : Int32) (i2 : Int32) : entryFrame m #[(.int i0), (.int i1), (.int i2)] maxLocals = mkF m 0 #[.val (.int i0), .val (.int i1), .val (.int i2), .unset, .unset, .unset, .unset, .unset, .unset, .unset] [] := by first | (simp [entryFrame, mkF, argsToLocals, Value.category, maxLocals]; done) | rfl
set_option maxRecDepth 65536 in
set_option maxHeartbeats 40000000 in
theorem con_0 (l : Launch) (Z : State) (a0 : Array Value) (hw : ∀ d ∈ tables_1, d.before a0 Z = true) (i0 : Int32) (i1 : Int32) (i2 : Int32)  (h0 : Heap) (n0 : Nat) (Z0 : n0 ≤ h0.size) : Con l Z x code maxLocals ret room_1 #[(.int i0), (.int i1), (.int i2)] h0 (fun v h L => v = some (.int 1) ∧ Fr n0 L) := by
  refine Con.intro pf_0 ?_
  intro p e s m below meth c s₁ hx hby hml hown hnm hret hlk hZ X0 e0
  refine Ends.cast (ef_0 m i0 i1 i2) ?_
  have N0 := Fr.nil n0
  refine Ends.by (fun _ => XS.iconst X0.here hx rfl (hb hby at_0)) ?_
  show Ends p e below _ s₁ (mkF m 1 #[.val (.int i0), .val (.int i1), .val (.int i2), .unset, .unset, .unset, .unset, .unset, .unset, .unset] [(.int (5 : Int32))])
  refine Ends.newA X0 hx hZ (hw _ (List.mem_of_getElem? (i := 0) rfl)) e0 (n := 5) (by decide) 5 (by decide) (by decide) (by decide) (by decide) rfl (ad := "[B") (by decide) (hb hby at_1) ?_
  intro T1 h1 b1 g1 X1 e1 E1 A1 Q1
  have Z1 : n0 ≤ h1.size := Nat.le_trans Z0 E1.1
  have g_b1 : n0 ≤ b1 := Nat.le_trans Z0 (Nat.le_of_eq g1.symm)
  have A_b1 : Af Z h1 b1 .byte 5 (fun q => .int ((fun _ => (0 : Int32)) q)) := A1
  show Ends p e below _ T1 (mkF m 3 #[.val (.int i0), .val (.int i1), .val (.int i2), .unset, .unset, .unset, .unset, .unset, .unset, .unset] [(.ref b1)])
  refine Ends.by (fun _ => XS.astoreN X1.here hx rfl (hb hby at_3) rfl rfl (l' := #[.val (.int i0), .val (.int i1), .val (.int i2), .val (.ref b1), .unset, .unset, .unset, .unset, .unset, .unset]) rfl) ?_
  show Ends p e below _ T1 (mkF m 4 #[.val (.int i0), .val (.int i1), .val (.int i2), .val (.ref b1), .unset, .unset, .unset, .unset, .unset, .unset] [])
  refine Ends.by (fun _ => XS.aloadN X1.here hx rfl (hb hby at_4) rfl rfl) ?_
  show Ends p e below _ T1 (mkF m 5 #[.val (.int i0), .val (.int i1), .val (.int i2), .val (.ref b1), .unset, .unset, .unset, .unset, .unset, .unset] [(.ref b1)])
  refine Ends.by (fun _ => XS.iconst X1.here hx rfl (hb hby at_5)) ?_
  show Ends p e below _ T1 (mkF m 6 #[.val (.int i0), .val (.int i1), .val (.int i2), .val (.ref b1), .unset, .unset, .unset, .unset, .unset, .unset] [(.int (0 : Int32)), (.ref b1)])
  refine Ends.by (fun _ => XS.iloadN X1.here hx rfl (hb hby at_6) rfl) ?_
  show Ends p e below _ T1 (mkF m 7 #[.val (.int i0), .val (.int i1), .val (.int i2), .val (.ref b1), .unset, .unset, .unset, .unset, .unset, .unset] [(.int i0), (.int (0 : Int32)), (.ref b1)])
  refine Ends.by (fun _ => XS.i2b X1.here hx rfl (hb hby at_7) rfl) ?_
  show Ends p e below _ T1 (mkF m 8 #[.val (.int i0), .val (.int i1), .val (.int i2), .val (.ref b1), .unset, .unset, .unset, .unset, .unset, .unset] [(.int (i0.toInt8.toInt32)), (.int (0 : Int32)), (.ref b1)])
  refine Ends.stB X1 hx hZ e1 N0 g_b1 A_b1 (k := 0) (by decide) (by decide) (hb hby at_8) ?_
  intro T2 h2 L2 X2 e2 N2 W2 B2
  have C2 : Af Z h2 b1 .byte 5 (fun q => .int ((upd (fun _ => (0 : Int32)) 0 ((i0.toInt8.toInt32)).toInt8.toInt32) q)) := B2.congr (fun q _ => own_updI (fun _ => (0 : Int32)) 0 _ q)
  have E_b1_2 : Exa Z h2 b1 "[B" := Q1.wr W2
  have Z2 : n0 ≤ h2.size := Nat.le_trans Z1 (Nat.le_of_eq W2.size.symm)
  show Ends p e below _ T2 (mkF m 9 #[.val (.int i0), .val (.int i1), .val (.int i2), .val (.ref b1), .unset, .unset, .unset, .unset, .unset, .unset] [])
  refine Ends.by (fun _ => XS.aloadN X2.here hx rfl (hb hby at_9) rfl rfl) ?_
  show Ends p e below _ T2 (mkF m 10 #[.val (.int i0), .val (.int i1), .val (.int i2), .val (.ref b1), .unset, .unset, .unset, .unset, .unset, .unset] [(.ref b1)])
  refine Ends.by (fun _ => XS.iconst X2.here hx rfl (hb hby at_10)) ?_
  show Ends p e below _ T2 (mkF m 11 #[.val (.int i0), .val (.int i1), .val (.int i2), .val (.ref b1), .unset, .unset, .unset, .unset, .unset, .unset] [(.int (1 : Int32)), (.ref b1)])
  refine Ends.by (fun _ => XS.iloadN X2.here hx rfl (hb hby at_11) rfl) ?_
  show Ends p e below _ T2 (mkF m 12 #[.val (.int i0), .val (.int i1), .val (.int i2), .val (.ref b1), .unset, .unset, .unset, .unset, .unset, .unset] [(.int i0), (.int (1 : Int32)), (.ref b1)])
  refine Ends.by (fun _ => XS.bipush X2.here hx rfl (hb hby at_12)) ?_
  show Ends p e below _ T2 (mkF m 14 #[.val (.int i0), .val (.int i1), .val (.int i2), .val (.ref b1), .unset, .unset, .unset, .unset, .unset, .unset] [(.int (8 : Int32)), (.int i0), (.int (1 : Int32)), (.ref b1)])
  refine Ends.by (fun _ => XS.ishr X2.here hx rfl (hb hby at_14) rfl) ?_
  show Ends p e below _ T2 (mkF m 15 #[.val (.int i0), .val (.int i1), .val (.int i2), .val (.ref b1), .unset, .unset, .unset, .unset, .unset, .unset] [(.int (i0 >>> ((8 : Int32) &&& 31))), (.int (1 : Int32)), (.ref b1)])
  refine Ends.by (fun _ => XS.i2b X2.here hx rfl (hb hby at_15) rfl) ?_
  show Ends p e below _ T2 (mkF m 16 #[.val (.int i0), .val (.int i1), .val (.int i2), .val (.ref b1), .unset, .unset, .unset, .unset, .unset, .unset] [(.int ((i0 >>> ((8 : Int32) &&& 31)).toInt8.toInt32)), (.int (1 : Int32)), (.ref b1)])
  refine Ends.stB X2 hx hZ e2 N2 g_b1 C2 (k := 1) (by decide) (by decide) (hb hby at_16) ?_
  intro T3 h3 L3 X3 e3 N3 W3 B3
  have C3 : Af Z h3 b1 .byte 5 (fun q => .int ((upd (upd (fun _ => (0 : Int32)) 0 ((i0.toInt8.toInt32)).toInt8.toInt32) 1 (((i0 >>> ((8 : Int32) &&& 31)).toInt8.toInt32)).toInt8.toInt32) q)) := B3.congr (fun q _ => own_updI (upd (fun _ => (0 : Int32)) 0 ((i0.toInt8.toInt32)).toInt8.toInt32) 1 _ q)
  have E_b1_3 : Exa Z h3 b1 "[B" := E_b1_2.wr W3
  have Z3 : n0 ≤ h3.size := Nat.le_trans Z2 (Nat.le_of_eq W3.size.symm)
  show Ends p e below _ T3 (mkF m 17 #[.val (.int i0), .val (.int i1), .val (.int i2), .val (.ref b1), .unset, .unset, .unset, .unset, .unset, .unset] [])
  refine Ends.by (fun _ => XS.aloadN X3.here hx rfl (hb hby at_17) rfl rfl) ?_
  show Ends p e below _ T3 (mkF m 18 #[.val (.int i0), .val (.int i1), .val (.int i2), .val (.ref b1), .unset, .unset, .unset, .unset, .unset, .unset] [(.ref b1)])
  refine Ends.by (fun _ => XS.iconst X3.here hx rfl (hb hby at_18)) ?_
  show Ends p e below _ T3 (mkF m 19 #[.val (.int i0), .val (.int i1), .val (.int i2), .val (.ref b1), .unset, .unset, .unset, .unset, .unset, .unset] [(.int (2 : Int32)), (.ref b1)])
  refine Ends.by (fun _ => XS.iloadN X3.here hx rfl (hb hby at_19) rfl) ?_
  show Ends p e below _ T3 (mkF m 20 #[.val (.int i0), .val (.int i1), .val (.int i2), .val (.ref b1), .unset, .unset, .unset, .unset, .unset, .unset] [(.int i0), (.int (2 : Int32)), (.ref b1)])
  refine Ends.by (fun _ => XS.bipush X3.here hx rfl (hb hby at_20)) ?_
  show Ends p e below _ T3 (mkF m 22 #[.val (.int i0), .val (.int i1), .val (.int i2), .val (.ref b1), .unset, .unset, .unset, .unset, .unset, .unset] [(.int (16 : Int32)), (.int i0), (.int (2 : Int32)), (.ref b1)])
  refine Ends.by (fun _ => XS.ishr X3.here hx rfl (hb hby at_22) rfl) ?_
  show Ends p e below _ T3 (mkF m 23 #[.val (.int i0), .val (.int i1), .val (.int i2), .val (.ref b1), .unset, .unset, .unset, .unset, .unset, .unset] [(.int (i0 >>> ((16 : Int32) &&& 31))), (.int (2 : Int32)), (.ref b1)])
  refine Ends.by (fun _ => XS.i2b X3.here hx rfl (hb hby at_23) rfl) ?_
  show Ends p e below _ T3 (mkF m 24 #[.val (.int i0), .val (.int i1), .val (.int i2), .val (.ref b1), .unset, .unset, .unset, .unset, .unset, .unset] [(.int ((i0 >>> ((16 : Int32) &&& 31)).toInt8.toInt32)), (.int (2 : Int32)), (.ref b1)])
  refine Ends.stB X3 hx hZ e3 N3 g_b1 C3 (k := 2) (by decide) (by decide) (hb hby at_24) ?_
  intro T4 h4 L4 X4 e4 N4 W4 B4
  have C4 : Af Z h4 b1 .byte 5 (fun q => .int ((upd (upd (upd (fun _ => (0 : Int32)) 0 ((i0.toInt8.toInt32)).toInt8.toInt32) 1 (((i0 >>> ((8 : Int32) &&& 31)).toInt8.toInt32)).toInt8.toInt32) 2 (((i0 >>> ((16 : Int32) &&& 31)).toInt8.toInt32)).toInt8.toInt32) q)) := B4.congr (fun q _ => own_updI (upd (upd (fun _ => (0 : Int32)) 0 ((i0.toInt8.toInt32)).toInt8.toInt32) 1 (((i0 >>> ((8 : Int32) &&& 31)).toInt8.toInt32)).toInt8.toInt32) 2 _ q)
  have E_b1_4 : Exa Z h4 b1 "[B" := E_b1_3.wr W4
  have Z4 : n0 ≤ h4.size := Nat.le_trans Z3 (Nat.le_of_eq W4.size.symm)
  show Ends p e below _ T4 (mkF m 25 #[.val (.int i0), .val (.int i1), .val (.int i2), .val (.ref b1), .unset, .unset, .unset, .unset, .unset, .unset] [])
  refine Ends.by (fun _ => XS.aloadN X4.here hx rfl (hb hby at_25) rfl rfl) ?_
  show Ends p e below _ T4 (mkF m 26 #[.val (.int i0), .val (.int i1), .val (.int i2), .val (.ref b1), .unset, .unset, .unset, .unset, .unset, .unset] [(.ref b1)])
  refine Ends.by (fun _ => XS.iconst X4.here hx rfl (hb hby at_26)) ?_
  show Ends p e below _ T4 (mkF m 27 #[.val (.int i0), .val (.int i1), .val (.int i2), .val (.ref b1), .unset, .unset, .unset, .unset, .unset, .unset] [(.int (3 : Int32)), (.ref b1)])
  refine Ends.by (fun _ => XS.iloadN X4.here hx rfl (hb hby at_27) rfl) ?_
  show Ends p e below _ T4 (mkF m 28 #[.val (.int i0), .val (.int i1), .val (.int i2), .val (.ref b1), .unset, .unset, .unset, .unset, .unset, .unset] [(.int i0), (.int (3 : Int32)), (.ref b1)])
  refine Ends.by (fun _ => XS.bipush X4.here hx rfl (hb hby at_28)) ?_
  show Ends p e below _ T4 (mkF m 30 #[.val (.int i0), .val (.int i1), .val (.int i2), .val (.ref b1), .unset, .unset, .unset, .unset, .unset, .unset] [(.int (24 : Int32)), (.int i0), (.int (3 : Int32)), (.ref b1)])
  refine Ends.by (fun _ => XS.ishr X4.here hx rfl (hb hby at_30) rfl) ?_
  show Ends p e below _ T4 (mkF m 31 #[.val (.int i0), .val (.int i1), .val (.int i2), .val (.ref b1), .unset, .unset, .unset, .unset, .unset, .unset] [(.int (i0 >>> ((24 : Int32) &&& 31))), (.int (3 : Int32)), (.ref b1)])
  refine Ends.by (fun _ => XS.i2b X4.here hx rfl (hb hby at_31) rfl) ?_
  show Ends p e below _ T4 (mkF m 32 #[.val (.int i0), .val (.int i1), .val (.int i2), .val (.ref b1), .unset, .unset, .unset, .unset, .unset, .unset] [(.int ((i0 >>> ((24 : Int32) &&& 31)).toInt8.toInt32)), (.int (3 : Int32)), (.ref b1)])
  refine Ends.stB X4 hx hZ e4 N4 g_b1 C4 (k := 3) (by decide) (by decide) (hb hby at_32) ?_
  intro T5 h5 L5 X5 e5 N5 W5 B5
  have C5 : Af Z h5 b1 .byte 5 (fun q => .int ((upd (upd (upd (upd (fun _ => (0 : Int32)) 0 ((i0.toInt8.toInt32)).toInt8.toInt32) 1 (((i0 >>> ((8 : Int32) &&& 31)).toInt8.toInt32)).toInt8.toInt32) 2 (((i0 >>> ((16 : Int32) &&& 31)).toInt8.toInt32)).toInt8.toInt32) 3 (((i0 >>> ((24 : Int32) &&& 31)).toInt8.toInt32)).toInt8.toInt32) q)) := B5.congr (fun q _ => own_updI (upd (upd (upd (fun _ => (0 : Int32)) 0 ((i0.toInt8.toInt32)).toInt8.toInt32) 1 (((i0 >>> ((8 : Int32) &&& 31)).toInt8.toInt32)).toInt8.toInt32) 2 (((i0 >>> ((16 : Int32) &&& 31)).toInt8.toInt32)).toInt8.toInt32) 3 _ q)
  have E_b1_5 : Exa Z h5 b1 "[B" := E_b1_4.wr W5
  have Z5 : n0 ≤ h5.size := Nat.le_trans Z4 (Nat.le_of_eq W5.size.symm)
  show Ends p e below _ T5 (mkF m 33 #[.val (.int i0), .val (.int i1), .val (.int i2), .val (.ref b1), .unset, .unset, .unset, .unset, .unset, .unset] [])
  refine Ends.by (fun _ => XS.aloadN X5.here hx rfl (hb hby at_33) rfl rfl) ?_
  show Ends p e below _ T5 (mkF m 34 #[.val (.int i0), .val (.int i1), .val (.int i2), .val (.ref b1), .unset, .unset, .unset, .unset, .unset, .unset] [(.ref b1)])
  refine Ends.by (fun _ => XS.iconst X5.here hx rfl (hb hby at_34)) ?_
  show Ends p e below _ T5 (mkF m 35 #[.val (.int i0), .val (.int i1), .val (.int i2), .val (.ref b1), .unset, .unset, .unset, .unset, .unset, .unset] [(.int (4 : Int32)), (.ref b1)])
  refine Ends.by (fun _ => XS.iloadN X5.here hx rfl (hb hby at_35) rfl) ?_
  show Ends p e below _ T5 (mkF m 36 #[.val (.int i0), .val (.int i1), .val (.int i2), .val (.ref b1), .unset, .unset, .unset, .unset, .unset, .unset] [(.int i1), (.int (4 : Int32)), (.ref b1)])
  refine Ends.by (fun _ => XS.i2b X5.here hx rfl (hb hby at_36) rfl) ?_
  show Ends p e below _ T5 (mkF m 37 #[.val (.int i0), .val (.int i1), .val (.int i2), .val (.ref b1), .unset, .unset, .unset, .unset, .unset, .unset] [(.int (i1.toInt8.toInt32)), (.int (4 : Int32)), (.ref b1)])
  refine Ends.stB X5 hx hZ e5 N5 g_b1 C5 (k := 4) (by decide) (by decide) (hb hby at_37) ?_
  intro T6 h6 L6 X6 e6 N6 W6 B6
  have C6 : Af Z h6 b1 .byte 5 (fun q => .int ((upd (upd (upd (upd (upd (fun _ => (0 : Int32)) 0 ((i0.toInt8.toInt32)).toInt8.toInt32) 1 (((i0 >>> ((8 : Int32) &&& 31)).toInt8.toInt32)).toInt8.toInt32) 2 (((i0 >>> ((16 : Int32) &&& 31)).toInt8.toInt32)).toInt8.toInt32) 3 (((i0 >>> ((24 : Int32) &&& 31)).toInt8.toInt32)).toInt8.toInt32) 4 ((i1.toInt8.toInt32)).toInt8.toInt32) q)) := B6.congr (fun q _ => own_updI (upd (upd (upd (upd (fun _ => (0 : Int32)) 0 ((i0.toInt8.toInt32)).toInt8.toInt32) 1 (((i0 >>> ((8 : Int32) &&& 31)).toInt8.toInt32)).toInt8.toInt32) 2 (((i0 >>> ((16 : Int32) &&& 31)).toInt8.toInt32)).toInt8.toInt32) 3 (((i0 >>> ((24 : Int32) &&& 31)).toInt8.toInt32)).toInt8.toInt32) 4 _ q)
  have E_b1_6 : Exa Z h6 b1 "[B" := E_b1_5.wr W6
  have Z6 : n0 ≤ h6.size := Nat.le_trans Z5 (Nat.le_of_eq W6.size.symm)
  show Ends p e below _ T6 (mkF m 38 #[.val (.int i0), .val (.int i1), .val (.int i2), .val (.ref b1), .unset, .unset, .unset, .unset, .unset, .unset] [])
  generalize (upd (upd (upd (upd (upd (fun _ => (0 : Int32)) 0 ((i0.toInt8.toInt32)).toInt8.toInt32) 1 (((i0 >>> ((8 : Int32) &&& 31)).toInt8.toInt32)).toInt8.toInt32) 2 (((i0 >>> ((16 : Int32) &&& 31)).toInt8.toInt32)).toInt8.toInt32) 3 (((i0 >>> ((24 : Int32) &&& 31)).toInt8.toInt32)).toInt8.toInt32) 4 ((i1.toInt8.toInt32)).toInt8.toInt32) = g5 at C6
  refine Ends.by (fun _ => XS.iloadN X6.here hx rfl (hb hby at_38) rfl) ?_
  show Ends p e below _ T6 (mkF m 39 #[.val (.int i0), .val (.int i1), .val (.int i2), .val (.ref b1), .unset, .unset, .unset, .unset, .unset, .unset] [(.int i2)])
  refine Ends.by (fun _ => XS.bipush X6.here hx rfl (hb hby at_39)) ?_
  show Ends p e below _ T6 (mkF m 41 #[.val (.int i0), .val (.int i1), .val (.int i2), .val (.ref b1), .unset, .unset, .unset, .unset, .unset, .unset] [(.int (7 : Int32)), (.int i2)])
  refine Ends.by (fun _ => XS.iand X6.here hx rfl (hb hby at_41) rfl) ?_
  show Ends p e below _ T6 (mkF m 42 #[.val (.int i0), .val (.int i1), .val (.int i2), .val (.ref b1), .unset, .unset, .unset, .unset, .unset, .unset] [(.int (i2 &&& (7 : Int32)))])
  refine Ends.by (fun _ => XS.bipush X6.here hx rfl (hb hby at_42)) ?_
  show Ends p e below _ T6 (mkF m 44 #[.val (.int i0), .val (.int i1), .val (.int i2), .val (.ref b1), .unset, .unset, .unset, .unset, .unset, .unset] [(.int (6 : Int32)), (.int (i2 &&& (7 : Int32)))])
  refine Ends.by (fun _ => iremM (g := (mkF m 44 #[.val (.int i0), .val (.int i1), .val (.int i2), .val (.ref b1), .unset, .unset, .unset, .unset, .unset, .unset] [(.int (6 : Int32)), (.int (i2 &&& (7 : Int32)))])) X6 hx rfl (hb hby at_44) rfl (by decide)) ?_
  show Ends p e below _ T6 (mkF m 45 #[.val (.int i0), .val (.int i1), .val (.int i2), .val (.ref b1), .unset, .unset, .unset, .unset, .unset, .unset] [(.int ((i2 &&& (7 : Int32)) % (6 : Int32)))])
  refine Ends.by (fun _ => XS.istore X6.here hx rfl (hb hby at_45) rfl (l' := #[.val (.int i0), .val (.int i1), .val (.int i2), .val (.ref b1), .val (.int ((i2 &&& (7 : Int32)) % (6 : Int32))), .unset, .unset, .unset, .unset, .unset]) rfl) ?_
  show Ends p e below _ T6 (mkF m 47 #[.val (.int i0), .val (.int i1), .val (.int i2), .val (.ref b1), .val (.int ((i2 &&& (7 : Int32)) % (6 : Int32))), .unset, .unset, .unset, .unset, .unset] [])
  refine Ends.by (fun _ => XS.iloadN X6.here hx rfl (hb hby at_47) rfl) ?_
  show Ends p e below _ T6 (mkF m 48 #[.val (.int i0), .val (.int i1), .val (.int i2), .val (.ref b1), .val (.int ((i2 &&& (7 : Int32)) % (6 : Int32))), .unset, .unset, .unset, .unset, .unset] [(.int i2)])
  refine Ends.by (fun _ => XS.iconst X6.here hx rfl (hb hby at_48)) ?_
  show Ends p e below _ T6 (mkF m 49 #[.val (.int i0), .val (.int i1), .val (.int i2), .val (.ref b1), .val (.int ((i2 &&& (7 : Int32)) % (6 : Int32))), .unset, .unset, .unset, .unset, .unset] [(.int (3 : Int32)), (.int i2)])
  refine Ends.by (fun _ => XS.iushr X6.here hx rfl (hb hby at_49) rfl) ?_
  show Ends p e below _ T6 (mkF m 50 #[.val (.int i0), .val (.int i1), .val (.int i2), .val (.ref b1), .val (.int ((i2 &&& (7 : Int32)) % (6 : Int32))), .unset, .unset, .unset, .unset, .unset] [(.int ((i2.toUInt32 >>> ((3 : Int32) &&& 31).toUInt32).toInt32))])
  refine Ends.by (fun _ => XS.bipush X6.here hx rfl (hb hby at_50)) ?_
  show Ends p e below _ T6 (mkF m 52 #[.val (.int i0), .val (.int i1), .val (.int i2), .val (.ref b1), .val (.int ((i2 &&& (7 : Int32)) % (6 : Int32))), .unset, .unset, .unset, .unset, .unset] [(.int (7 : Int32)), (.int ((i2.toUInt32 >>> ((3 : Int32) &&& 31).toUInt32).toInt32))])
  refine Ends.by (fun _ => XS.iand X6.here hx rfl (hb hby at_52) rfl) ?_
  show Ends p e below _ T6 (mkF m 53 #[.val (.int i0), .val (.int i1), .val (.int i2), .val (.ref b1), .val (.int ((i2 &&& (7 : Int32)) % (6 : Int32))), .unset, .unset, .unset, .unset, .unset] [(.int (((i2.toUInt32 >>> ((3 : Int32) &&& 31).toUInt32).toInt32) &&& (7 : Int32)))])
  refine Ends.by (fun _ => XS.bipush X6.here hx rfl (hb hby at_53)) ?_
  show Ends p e below _ T6 (mkF m 55 #[.val (.int i0), .val (.int i1), .val (.int i2), .val (.ref b1), .val (.int ((i2 &&& (7 : Int32)) % (6 : Int32))), .unset, .unset, .unset, .unset, .unset] [(.int (6 : Int32)), (.int (((i2.toUInt32 >>> ((3 : Int32) &&& 31).toUInt32).toInt32) &&& (7 : Int32)))])
  refine Ends.by (fun _ => iremM (g := (mkF m 55 #[.val (.int i0), .val (.int i1), .val (.int i2), .val (.ref b1), .val (.int ((i2 &&& (7 : Int32)) % (6 : Int32))), .unset, .unset, .unset, .unset, .unset] [(.int (6 : Int32)), (.int (((i2.toUInt32 >>> ((3 : Int32) &&& 31).toUInt32).toInt32) &&& (7 : Int32)))])) X6 hx rfl (hb hby at_55) rfl (by decide)) ?_
  show Ends p e below _ T6 (mkF m 56 #[.val (.int i0), .val (.int i1), .val (.int i2), .val (.ref b1), .val (.int ((i2 &&& (7 : Int32)) % (6 : Int32))), .unset, .unset, .unset, .unset, .unset] [(.int ((((i2.toUInt32 >>> ((3 : Int32) &&& 31).toUInt32).toInt32) &&& (7 : Int32)) % (6 : Int32)))])
  refine Ends.by (fun _ => XS.istore X6.here hx rfl (hb hby at_56) rfl (l' := #[.val (.int i0), .val (.int i1), .val (.int i2), .val (.ref b1), .val (.int ((i2 &&& (7 : Int32)) % (6 : Int32))), .val (.int ((((i2.toUInt32 >>> ((3 : Int32) &&& 31).toUInt32).toInt32) &&& (7 : Int32)) % (6 : Int32))), .unset, .unset, .unset, .unset]) rfl) ?_
  show Ends p e below _ T6 (mkF m 58 #[.val (.int i0), .val (.int i1), .val (.int i2), .val (.ref b1), .val (.int ((i2 &&& (7 : Int32)) % (6 : Int32))), .val (.int ((((i2.toUInt32 >>> ((3 : Int32) &&& 31).toUInt32).toInt32) &&& (7 : Int32)) % (6 : Int32))), .unset, .unset, .unset, .unset] [])
  refine Ends.by (fun _ => XS.iload X6.here hx rfl (hb hby at_58) rfl) ?_
  show Ends p e below _ T6 (mkF m 60 #[.val (.int i0), .val (.int i1), .val (.int i2), .val (.ref b1), .val (.int ((i2 &&& (7 : Int32)) % (6 : Int32))), .val (.int ((((i2.toUInt32 >>> ((3 : Int32) &&& 31).toUInt32).toInt32) &&& (7 : Int32)) % (6 : Int32))), .unset, .unset, .unset, .unset] [(.int ((i2 &&& (7 : Int32)) % (6 : Int32)))])
  refine Ends.by (fun _ => XS.iload X6.here hx rfl (hb hby at_60) rfl) ?_
  show Ends p e below _ T6 (mkF m 62 #[.val (.int i0), .val (.int i1), .val (.int i2), .val (.ref b1), .val (.int ((i2 &&& (7 : Int32)) % (6 : Int32))), .val (.int ((((i2.toUInt32 >>> ((3 : Int32) &&& 31).toUInt32).toInt32) &&& (7 : Int32)) % (6 : Int32))), .unset, .unset, .unset, .unset] [(.int ((((i2.toUInt32 >>> ((3 : Int32) &&& 31).toUInt32).toInt32) &&& (7 : Int32)) % (6 : Int32))), (.int ((i2 &&& (7 : Int32)) % (6 : Int32)))])
  refine Ends.callS (argsL := [(.int ((i2 &&& (7 : Int32)) % (6 : Int32))), (.int ((((i2.toUInt32 >>> ((3 : Int32) &&& 31).toUInt32).toInt32) &&& (7 : Int32)) % (6 : Int32)))]) (rest := []) X6 hx hZ hown (hw _ (List.mem_of_getElem? (i := 1) rfl)) (hw _ (List.mem_of_getElem? (i := 2) rfl)) (hw _ (List.mem_of_getElem? (i := 3) rfl)) (hw _ (List.mem_of_getElem? (i := 4) rfl)) (by decide) (con_1 l Z a0 hw ((i2 &&& (7 : Int32)) % (6 : Int32)) ((((i2.toUInt32 >>> ((3 : Int32) &&& 31).toUInt32).toInt32) &&& (7 : Int32)) % (6 : Int32)) h6) e6 (by rw [hml]; rfl) (hb hby at_62) (lenOf pd_1 rfl) 0 (Nat.le_of_eq rfl) (by decide) (by decide) (by decide) (by decide) ?_
  intro v T7 L7 X7 hQ
  obtain ⟨rfl, e7, rfl⟩ := hQ
  rw [List.append_nil] at X7
  show Ends p e below _ T7 (mkF m 65 #[.val (.int i0), .val (.int i1), .val (.int i2), .val (.ref b1), .val (.int ((i2 &&& (7 : Int32)) % (6 : Int32))), .val (.int ((((i2.toUInt32 >>> ((3 : Int32) &&& 31).toUInt32).toInt32) &&& (7 : Int32)) % (6 : Int32))), .unset, .unset, .unset, .unset] [(.int (f_1 ((i2 &&& (7 : Int32)) % (6 : Int32)) ((((i2.toUInt32 >>> ((3 : Int32) &&& 31).toUInt32).toInt32) &&& (7 : Int32)) % (6 : Int32))))])
  refine Ends.by (fun _ => XS.istore X7.here hx rfl (hb hby at_65) rfl (l' := #[.val (.int i0), .val (.int i1), .val (.int i2), .val (.ref b1), .val (.int ((i2 &&& (7 : Int32)) % (6 : Int32))), .val (.int ((((i2.toUInt32 >>> ((3 : Int32) &&& 31).toUInt32).toInt32) &&& (7 : Int32)) % (6 : Int32))), .val (.int (f_1 ((i2 &&& (7 : Int32)) % (6 : Int32)) ((((i2.toUInt32 >>> ((3 : Int32) &&& 31).toUInt32).toInt32) &&& (7 : Int32)) % (6 : Int32)))), .unset, .unset, .unset]) rfl) ?_
  show Ends p e below _ T7 (mkF m 67 #[.val (.int i0), .val (.int i1), .val (.int i2), .val (.ref b1), .val (.int ((i2 &&& (7 : Int32)) % (6 : Int32))), .val (.int ((((i2.toUInt32 >>> ((3 : Int32) &&& 31).toUInt32).toInt32) &&& (7 : Int32)) % (6 : Int32))), .val (.int (f_1 ((i2 &&& (7 : Int32)) % (6 : Int32)) ((((i2.toUInt32 >>> ((3 : Int32) &&& 31).toUInt32).toInt32) &&& (7 : Int32)) % (6 : Int32)))), .unset, .unset, .unset] [])
  refine Ends.by (fun _ => XS.iload X7.here hx rfl (hb hby at_67) rfl) ?_
  show Ends p e below _ T7 (mkF m 69 #[.val (.int i0), .val (.int i1), .val (.int i2), .val (.ref b1), .val (.int ((i2 &&& (7 : Int32)) % (6 : Int32))), .val (.int ((((i2.toUInt32 >>> ((3 : Int32) &&& 31).toUInt32).toInt32) &&& (7 : Int32)) % (6 : Int32))), .val (.int (f_1 ((i2 &&& (7 : Int32)) % (6 : Int32)) ((((i2.toUInt32 >>> ((3 : Int32) &&& 31).toUInt32).toInt32) &&& (7 : Int32)) % (6 : Int32)))), .unset, .unset, .unset] [(.int ((i2 &&& (7 : Int32)) % (6 : Int32)))])
  refine Ends.by (fun _ => XS.iload X7.here hx rfl (hb hby at_69) rfl) ?_
  show Ends p e below _ T7 (mkF m 71 #[.val (.int i0), .val (.int i1), .val (.int i2), .val (.ref b1), .val (.int ((i2 &&& (7 : Int32)) % (6 : Int32))), .val (.int ((((i2.toUInt32 >>> ((3 : Int32) &&& 31).toUInt32).toInt32) &&& (7 : Int32)) % (6 : Int32))), .val (.int (f_1 ((i2 &&& (7 : Int32)) % (6 : Int32)) ((((i2.toUInt32 >>> ((3 : Int32) &&& 31).toUInt32).toInt32) &&& (7 : Int32)) % (6 : Int32)))), .unset, .unset, .unset] [(.int ((((i2.toUInt32 >>> ((3 : Int32) &&& 31).toUInt32).toInt32) &&& (7 : Int32)) % (6 : Int32))), (.int ((i2 &&& (7 : Int32)) % (6 : Int32)))])
  refine Ends.callS (argsL := [(.int ((i2 &&& (7 : Int32)) % (6 : Int32))), (.int ((((i2.toUInt32 >>> ((3 : Int32) &&& 31).toUInt32).toInt32) &&& (7 : Int32)) % (6 : Int32)))]) (rest := []) X7 hx hZ hown (hw _ (List.mem_of_getElem? (i := 5) rfl)) (hw _ (List.mem_of_getElem? (i := 6) rfl)) (hw _ (List.mem_of_getElem? (i := 3) rfl)) (hw _ (List.mem_of_getElem? (i := 7) rfl)) (by decide) (con_2 l Z a0 hw ((i2 &&& (7 : Int32)) % (6 : Int32)) ((((i2.toUInt32 >>> ((3 : Int32) &&& 31).toUInt32).toInt32) &&& (7 : Int32)) % (6 : Int32)) h6) e7 (by rw [hml]; rfl) (hb hby at_71) (lenOf pd_2 rfl) 0 (Nat.le_of_eq rfl) (by decide) (by decide) (by decide) (by decide) ?_
  intro v T8 L8 X8 hQ
  obtain ⟨rfl, e8, rfl⟩ := hQ
  rw [List.append_nil] at X8
  show Ends p e below _ T8 (mkF m 74 #[.val (.int i0), .val (.int i1), .val (.int i2), .val (.ref b1), .val (.int ((i2 &&& (7 : Int32)) % (6 : Int32))), .val (.int ((((i2.toUInt32 >>> ((3 : Int32) &&& 31).toUInt32).toInt32) &&& (7 : Int32)) % (6 : Int32))), .val (.int (f_1 ((i2 &&& (7 : Int32)) % (6 : Int32)) ((((i2.toUInt32 >>> ((3 : Int32) &&& 31).toUInt32).toInt32) &&& (7 : Int32)) % (6 : Int32)))), .unset, .unset, .unset] [(.int (f_2 ((i2 &&& (7 : Int32)) % (6 : Int32)) ((((i2.toUInt32 >>> ((3 : Int32) &&& 31).toUInt32).toInt32) &&& (7 : Int32)) % (6 : Int32))))])
  refine Ends.by (fun _ => XS.istore X8.here hx rfl (hb hby at_74) rfl (l' := #[.val (.int i0), .val (.int i1), .val (.int i2), .val (.ref b1), .val (.int ((i2 &&& (7 : Int32)) % (6 : Int32))), .val (.int ((((i2.toUInt32 >>> ((3 : Int32) &&& 31).toUInt32).toInt32) &&& (7 : Int32)) % (6 : Int32))), .val (.int (f_1 ((i2 &&& (7 : Int32)) % (6 : Int32)) ((((i2.toUInt32 >>> ((3 : Int32) &&& 31).toUInt32).toInt32) &&& (7 : Int32)) % (6 : Int32)))), .val (.int (f_2 ((i2 &&& (7 : Int32)) % (6 : Int32)) ((((i2.toUInt32 >>> ((3 : Int32) &&& 31).toUInt32).toInt32) &&& (7 : Int32)) % (6 : Int32)))), .unset, .unset]) rfl) ?_
  show Ends p e below _ T8 (mkF m 76 #[.val (.int i0), .val (.int i1), .val (.int i2), .val (.ref b1), .val (.int ((i2 &&& (7 : Int32)) % (6 : Int32))), .val (.int ((((i2.toUInt32 >>> ((3 : Int32) &&& 31).toUInt32).toInt32) &&& (7 : Int32)) % (6 : Int32))), .val (.int (f_1 ((i2 &&& (7 : Int32)) % (6 : Int32)) ((((i2.toUInt32 >>> ((3 : Int32) &&& 31).toUInt32).toInt32) &&& (7 : Int32)) % (6 : Int32)))), .val (.int (f_2 ((i2 &&& (7 : Int32)) % (6 : Int32)) ((((i2.toUInt32 >>> ((3 : Int32) &&& 31).toUInt32).toInt32) &&& (7 : Int32)) % (6 : Int32)))), .unset, .unset] [])
  have hft := own_ft i2
  generalize (f_1 ((i2 &&& (7 : Int32)) % (6 : Int32)) ((((i2.toUInt32 >>> ((3 : Int32) &&& 31).toUInt32).toInt32) &&& (7 : Int32)) % (6 : Int32))) = fr at hft ⊢
  generalize (f_2 ((i2 &&& (7 : Int32)) % (6 : Int32)) ((((i2.toUInt32 >>> ((3 : Int32) &&& 31).toUInt32).toInt32) &&& (7 : Int32)) % (6 : Int32))) = to1 at hft ⊢
  obtain ⟨F, T, hf, ht, hFT, hT⟩ := hft
  show Ends p e below _ T8 (mkF m 76 #[.val (.int i0), .val (.int i1), .val (.int i2), .val (.ref b1), .val (.int ((i2 &&& (7 : Int32)) % (6 : Int32))), .val (.int ((((i2.toUInt32 >>> ((3 : Int32) &&& 31).toUInt32).toInt32) &&& (7 : Int32)) % (6 : Int32))), .val (.int fr), .val (.int to1), .unset, .unset] [])
  refine Ends.by (fun _ => XS.iload X8.here hx rfl (hb hby at_76) rfl) ?_
  show Ends p e below _ T8 (mkF m 78 #[.val (.int i0), .val (.int i1), .val (.int i2), .val (.ref b1), .val (.int ((i2 &&& (7 : Int32)) % (6 : Int32))), .val (.int ((((i2.toUInt32 >>> ((3 : Int32) &&& 31).toUInt32).toInt32) &&& (7 : Int32)) % (6 : Int32))), .val (.int fr), .val (.int to1), .unset, .unset] [(.int fr)])
  refine Ends.by (fun _ => XS.istore X8.here hx rfl (hb hby at_78) rfl (l' := #[.val (.int i0), .val (.int i1), .val (.int i2), .val (.ref b1), .val (.int ((i2 &&& (7 : Int32)) % (6 : Int32))), .val (.int ((((i2.toUInt32 >>> ((3 : Int32) &&& 31).toUInt32).toInt32) &&& (7 : Int32)) % (6 : Int32))), .val (.int fr), .val (.int to1), .val (.int fr), .unset]) rfl) ?_
  show Ends p e below _ T8 (mkF m 80 #[.val (.int i0), .val (.int i1), .val (.int i2), .val (.ref b1), .val (.int ((i2 &&& (7 : Int32)) % (6 : Int32))), .val (.int ((((i2.toUInt32 >>> ((3 : Int32) &&& 31).toUInt32).toInt32) &&& (7 : Int32)) % (6 : Int32))), .val (.int fr), .val (.int to1), .val (.int fr), .unset] [])
  refine Ends.by (fun _ => XS.aloadN X8.here hx rfl (hb hby at_80) rfl rfl) ?_
  show Ends p e below _ T8 (mkF m 81 #[.val (.int i0), .val (.int i1), .val (.int i2), .val (.ref b1), .val (.int ((i2 &&& (7 : Int32)) % (6 : Int32))), .val (.int ((((i2.toUInt32 >>> ((3 : Int32) &&& 31).toUInt32).toInt32) &&& (7 : Int32)) % (6 : Int32))), .val (.int fr), .val (.int to1), .val (.int fr), .unset] [(.ref b1)])
  refine Ends.by (fun _ => XS.iload X8.here hx rfl (hb hby at_81) rfl) ?_
  show Ends p e below _ T8 (mkF m 83 #[.val (.int i0), .val (.int i1), .val (.int i2), .val (.ref b1), .val (.int ((i2 &&& (7 : Int32)) % (6 : Int32))), .val (.int ((((i2.toUInt32 >>> ((3 : Int32) &&& 31).toUInt32).toInt32) &&& (7 : Int32)) % (6 : Int32))), .val (.int fr), .val (.int to1), .val (.int fr), .unset] [(.int fr), (.ref b1)])
  refine Ends.by (fun _ => XS.iload X8.here hx rfl (hb hby at_83) rfl) ?_
  show Ends p e below _ T8 (mkF m 85 #[.val (.int i0), .val (.int i1), .val (.int i2), .val (.ref b1), .val (.int ((i2 &&& (7 : Int32)) % (6 : Int32))), .val (.int ((((i2.toUInt32 >>> ((3 : Int32) &&& 31).toUInt32).toInt32) &&& (7 : Int32)) % (6 : Int32))), .val (.int fr), .val (.int to1), .val (.int fr), .unset] [(.int to1), (.int fr), (.ref b1)])
  refine Ends.callS (argsL := [(.ref b1), (.int fr), (.int to1)]) (rest := []) X8 hx hZ hown (hw _ (List.mem_of_getElem? (i := 8) rfl)) (hw _ (List.mem_of_getElem? (i := 9) rfl)) (hw _ (List.mem_of_getElem? (i := 10) rfl)) (hw _ (List.mem_of_getElem? (i := 11) rfl)) (by decide) (con_3 l Z a0 hw b1 fr to1 T g5 h6 n0 Z6 C6 ht hT) e8 (by rw [hml]; rfl) (hb hby at_85) (lenOf pd_3 rfl) 0 (Nat.le_of_eq rfl) (by decide) (by decide) (by decide) (by decide) ?_
  intro v T9 L9 X9 hQ
  obtain ⟨rfl, e9, rfl⟩ := hQ
  rw [List.append_nil] at X9
  show Ends p e below _ T9 (mkF m 88 #[.val (.int i0), .val (.int i1), .val (.int i2), .val (.ref b1), .val (.int ((i2 &&& (7 : Int32)) % (6 : Int32))), .val (.int ((((i2.toUInt32 >>> ((3 : Int32) &&& 31).toUInt32).toInt32) &&& (7 : Int32)) % (6 : Int32))), .val (.int fr), .val (.int to1), .val (.int fr), .unset] [(.int (own_next g5 to1 fr))])
  refine Ends.by (fun _ => XS.istore X9.here hx rfl (hb hby at_88) rfl (l' := #[.val (.int i0), .val (.int i1), .val (.int i2), .val (.ref b1), .val (.int ((i2 &&& (7 : Int32)) % (6 : Int32))), .val (.int ((((i2.toUInt32 >>> ((3 : Int32) &&& 31).toUInt32).toInt32) &&& (7 : Int32)) % (6 : Int32))), .val (.int fr), .val (.int to1), .val (.int (own_next g5 to1 fr)), .unset]) rfl) ?_
  show Ends p e below _ T9 (mkF m 90 #[.val (.int i0), .val (.int i1), .val (.int i2), .val (.ref b1), .val (.int ((i2 &&& (7 : Int32)) % (6 : Int32))), .val (.int ((((i2.toUInt32 >>> ((3 : Int32) &&& 31).toUInt32).toInt32) &&& (7 : Int32)) % (6 : Int32))), .val (.int fr), .val (.int to1), .val (.int (own_next g5 to1 fr)), .unset] [])
  refine Ends.by (fun _ => XS.aloadN X9.here hx rfl (hb hby at_90) rfl rfl) ?_
  show Ends p e below _ T9 (mkF m 91 #[.val (.int i0), .val (.int i1), .val (.int i2), .val (.ref b1), .val (.int ((i2 &&& (7 : Int32)) % (6 : Int32))), .val (.int ((((i2.toUInt32 >>> ((3 : Int32) &&& 31).toUInt32).toInt32) &&& (7 : Int32)) % (6 : Int32))), .val (.int fr), .val (.int to1), .val (.int (own_next g5 to1 fr)), .unset] [(.ref b1)])
  refine Ends.by (fun _ => XS.iload X9.here hx rfl (hb hby at_91) rfl) ?_
  show Ends p e below _ T9 (mkF m 93 #[.val (.int i0), .val (.int i1), .val (.int i2), .val (.ref b1), .val (.int ((i2 &&& (7 : Int32)) % (6 : Int32))), .val (.int ((((i2.toUInt32 >>> ((3 : Int32) &&& 31).toUInt32).toInt32) &&& (7 : Int32)) % (6 : Int32))), .val (.int fr), .val (.int to1), .val (.int (own_next g5 to1 fr)), .unset] [(.int (own_next g5 to1 fr)), (.ref b1)])
  refine Ends.by (fun _ => XS.iload X9.here hx rfl (hb hby at_93) rfl) ?_
  show Ends p e below _ T9 (mkF m 95 #[.val (.int i0), .val (.int i1), .val (.int i2), .val (.ref b1), .val (.int ((i2 &&& (7 : Int32)) % (6 : Int32))), .val (.int ((((i2.toUInt32 >>> ((3 : Int32) &&& 31).toUInt32).toInt32) &&& (7 : Int32)) % (6 : Int32))), .val (.int fr), .val (.int to1), .val (.int (own_next g5 to1 fr)), .unset] [(.int to1), (.int (own_next g5 to1 fr)), (.ref b1)])
  refine Ends.callS (argsL := [(.ref b1), (.int (own_next g5 to1 fr)), (.int to1)]) (rest := []) X9 hx hZ hown (hw _ (List.mem_of_getElem? (i := 8) rfl)) (hw _ (List.mem_of_getElem? (i := 9) rfl)) (hw _ (List.mem_of_getElem? (i := 10) rfl)) (hw _ (List.mem_of_getElem? (i := 11) rfl)) (by decide) (con_3 l Z a0 hw b1 (own_next g5 to1 fr) to1 T g5 h6 n0 Z6 C6 ht hT) e9 (by rw [hml]; rfl) (hb hby at_95) (lenOf pd_3 rfl) 0 (Nat.le_of_eq rfl) (by decide) (by decide) (by decide) (by decide) ?_
  intro v T10 L10 X10 hQ
  obtain ⟨rfl, e10, rfl⟩ := hQ
  rw [List.append_nil] at X10
  show Ends p e below _ T10 (mkF m 98 #[.val (.int i0), .val (.int i1), .val (.int i2), .val (.ref b1), .val (.int ((i2 &&& (7 : Int32)) % (6 : Int32))), .val (.int ((((i2.toUInt32 >>> ((3 : Int32) &&& 31).toUInt32).toInt32) &&& (7 : Int32)) % (6 : Int32))), .val (.int fr), .val (.int to1), .val (.int (own_next g5 to1 fr)), .unset] [(.int (own_next g5 to1 (own_next g5 to1 fr)))])
  refine Ends.by (fun _ => XS.istore X10.here hx rfl (hb hby at_98) rfl (l' := #[.val (.int i0), .val (.int i1), .val (.int i2), .val (.ref b1), .val (.int ((i2 &&& (7 : Int32)) % (6 : Int32))), .val (.int ((((i2.toUInt32 >>> ((3 : Int32) &&& 31).toUInt32).toInt32) &&& (7 : Int32)) % (6 : Int32))), .val (.int fr), .val (.int to1), .val (.int (own_next g5 to1 (own_next g5 to1 fr))), .unset]) rfl) ?_
  show Ends p e below _ T10 (mkF m 100 #[.val (.int i0), .val (.int i1), .val (.int i2), .val (.ref b1), .val (.int ((i2 &&& (7 : Int32)) % (6 : Int32))), .val (.int ((((i2.toUInt32 >>> ((3 : Int32) &&& 31).toUInt32).toInt32) &&& (7 : Int32)) % (6 : Int32))), .val (.int fr), .val (.int to1), .val (.int (own_next g5 to1 (own_next g5 to1 fr))), .unset] [])
  refine Ends.by (fun _ => XS.aloadN X10.here hx rfl (hb hby at_100) rfl rfl) ?_
  show Ends p e below _ T10 (mkF m 101 #[.val (.int i0), .val (.int i1), .val (.int i2), .val (.ref b1), .val (.int ((i2 &&& (7 : Int32)) % (6 : Int32))), .val (.int ((((i2.toUInt32 >>> ((3 : Int32) &&& 31).toUInt32).toInt32) &&& (7 : Int32)) % (6 : Int32))), .val (.int fr), .val (.int to1), .val (.int (own_next g5 to1 (own_next g5 to1 fr))), .unset] [(.ref b1)])
  refine Ends.by (fun _ => XS.iload X10.here hx rfl (hb hby at_101) rfl) ?_
  show Ends p e below _ T10 (mkF m 103 #[.val (.int i0), .val (.int i1), .val (.int i2), .val (.ref b1), .val (.int ((i2 &&& (7 : Int32)) % (6 : Int32))), .val (.int ((((i2.toUInt32 >>> ((3 : Int32) &&& 31).toUInt32).toInt32) &&& (7 : Int32)) % (6 : Int32))), .val (.int fr), .val (.int to1), .val (.int (own_next g5 to1 (own_next g5 to1 fr))), .unset] [(.int (own_next g5 to1 (own_next g5 to1 fr))), (.ref b1)])
  refine Ends.by (fun _ => XS.iload X10.here hx rfl (hb hby at_103) rfl) ?_
  show Ends p e below _ T10 (mkF m 105 #[.val (.int i0), .val (.int i1), .val (.int i2), .val (.ref b1), .val (.int ((i2 &&& (7 : Int32)) % (6 : Int32))), .val (.int ((((i2.toUInt32 >>> ((3 : Int32) &&& 31).toUInt32).toInt32) &&& (7 : Int32)) % (6 : Int32))), .val (.int fr), .val (.int to1), .val (.int (own_next g5 to1 (own_next g5 to1 fr))), .unset] [(.int to1), (.int (own_next g5 to1 (own_next g5 to1 fr))), (.ref b1)])
  refine Ends.callS (argsL := [(.ref b1), (.int (own_next g5 to1 (own_next g5 to1 fr))), (.int to1)]) (rest := []) X10 hx hZ hown (hw _ (List.mem_of_getElem? (i := 8) rfl)) (hw _ (List.mem_of_getElem? (i := 9) rfl)) (hw _ (List.mem_of_getElem? (i := 10) rfl)) (hw _ (List.mem_of_getElem? (i := 11) rfl)) (by decide) (con_3 l Z a0 hw b1 (own_next g5 to1 (own_next g5 to1 fr)) to1 T g5 h6 n0 Z6 C6 ht hT) e10 (by rw [hml]; rfl) (hb hby at_105) (lenOf pd_3 rfl) 0 (Nat.le_of_eq rfl) (by decide) (by decide) (by decide) (by decide) ?_
  intro v T11 L11 X11 hQ
  obtain ⟨rfl, e11, rfl⟩ := hQ
  rw [List.append_nil] at X11
  show Ends p e below _ T11 (mkF m 108 #[.val (.int i0), .val (.int i1), .val (.int i2), .val (.ref b1), .val (.int ((i2 &&& (7 : Int32)) % (6 : Int32))), .val (.int ((((i2.toUInt32 >>> ((3 : Int32) &&& 31).toUInt32).toInt32) &&& (7 : Int32)) % (6 : Int32))), .val (.int fr), .val (.int to1), .val (.int (own_next g5 to1 (own_next g5 to1 fr))), .unset] [(.int (own_next g5 to1 (own_next g5 to1 (own_next g5 to1 fr))))])
  refine Ends.by (fun _ => XS.istore X11.here hx rfl (hb hby at_108) rfl (l' := #[.val (.int i0), .val (.int i1), .val (.int i2), .val (.ref b1), .val (.int ((i2 &&& (7 : Int32)) % (6 : Int32))), .val (.int ((((i2.toUInt32 >>> ((3 : Int32) &&& 31).toUInt32).toInt32) &&& (7 : Int32)) % (6 : Int32))), .val (.int fr), .val (.int to1), .val (.int (own_next g5 to1 (own_next g5 to1 (own_next g5 to1 fr)))), .unset]) rfl) ?_
  show Ends p e below _ T11 (mkF m 110 #[.val (.int i0), .val (.int i1), .val (.int i2), .val (.ref b1), .val (.int ((i2 &&& (7 : Int32)) % (6 : Int32))), .val (.int ((((i2.toUInt32 >>> ((3 : Int32) &&& 31).toUInt32).toInt32) &&& (7 : Int32)) % (6 : Int32))), .val (.int fr), .val (.int to1), .val (.int (own_next g5 to1 (own_next g5 to1 (own_next g5 to1 fr)))), .unset] [])
  refine Ends.by (fun _ => XS.aloadN X11.here hx rfl (hb hby at_110) rfl rfl) ?_
  show Ends p e below _ T11 (mkF m 111 #[.val (.int i0), .val (.int i1), .val (.int i2), .val (.ref b1), .val (.int ((i2 &&& (7 : Int32)) % (6 : Int32))), .val (.int ((((i2.toUInt32 >>> ((3 : Int32) &&& 31).toUInt32).toInt32) &&& (7 : Int32)) % (6 : Int32))), .val (.int fr), .val (.int to1), .val (.int (own_next g5 to1 (own_next g5 to1 (own_next g5 to1 fr)))), .unset] [(.ref b1)])
  refine Ends.by (fun _ => XS.iload X11.here hx rfl (hb hby at_111) rfl) ?_
  show Ends p e below _ T11 (mkF m 113 #[.val (.int i0), .val (.int i1), .val (.int i2), .val (.ref b1), .val (.int ((i2 &&& (7 : Int32)) % (6 : Int32))), .val (.int ((((i2.toUInt32 >>> ((3 : Int32) &&& 31).toUInt32).toInt32) &&& (7 : Int32)) % (6 : Int32))), .val (.int fr), .val (.int to1), .val (.int (own_next g5 to1 (own_next g5 to1 (own_next g5 to1 fr)))), .unset] [(.int (own_next g5 to1 (own_next g5 to1 (own_next g5 to1 fr)))), (.ref b1)])
  refine Ends.by (fun _ => XS.iload X11.here hx rfl (hb hby at_113) rfl) ?_
  show Ends p e below _ T11 (mkF m 115 #[.val (.int i0), .val (.int i1), .val (.int i2), .val (.ref b1), .val (.int ((i2 &&& (7 : Int32)) % (6 : Int32))), .val (.int ((((i2.toUInt32 >>> ((3 : Int32) &&& 31).toUInt32).toInt32) &&& (7 : Int32)) % (6 : Int32))), .val (.int fr), .val (.int to1), .val (.int (own_next g5 to1 (own_next g5 to1 (own_next g5 to1 fr)))), .unset] [(.int to1), (.int (own_next g5 to1 (own_next g5 to1 (own_next g5 to1 fr)))), (.ref b1)])
  refine Ends.callS (argsL := [(.ref b1), (.int (own_next g5 to1 (own_next g5 to1 (own_next g5 to1 fr)))), (.int to1)]) (rest := []) X11 hx hZ hown (hw _ (List.mem_of_getElem? (i := 8) rfl)) (hw _ (List.mem_of_getElem? (i := 9) rfl)) (hw _ (List.mem_of_getElem? (i := 10) rfl)) (hw _ (List.mem_of_getElem? (i := 11) rfl)) (by decide) (con_3 l Z a0 hw b1 (own_next g5 to1 (own_next g5 to1 (own_next g5 to1 fr))) to1 T g5 h6 n0 Z6 C6 ht hT) e11 (by rw [hml]; rfl) (hb hby at_115) (lenOf pd_3 rfl) 0 (Nat.le_of_eq rfl) (by decide) (by decide) (by decide) (by decide) ?_
  intro v T12 L12 X12 hQ
  obtain ⟨rfl, e12, rfl⟩ := hQ
  rw [List.append_nil] at X12
  show Ends p e below _ T12 (mkF m 118 #[.val (.int i0), .val (.int i1), .val (.int i2), .val (.ref b1), .val (.int ((i2 &&& (7 : Int32)) % (6 : Int32))), .val (.int ((((i2.toUInt32 >>> ((3 : Int32) &&& 31).toUInt32).toInt32) &&& (7 : Int32)) % (6 : Int32))), .val (.int fr), .val (.int to1), .val (.int (own_next g5 to1 (own_next g5 to1 (own_next g5 to1 fr)))), .unset] [(.int (own_next g5 to1 (own_next g5 to1 (own_next g5 to1 (own_next g5 to1 fr)))))])
  refine Ends.by (fun _ => XS.istore X12.here hx rfl (hb hby at_118) rfl (l' := #[.val (.int i0), .val (.int i1), .val (.int i2), .val (.ref b1), .val (.int ((i2 &&& (7 : Int32)) % (6 : Int32))), .val (.int ((((i2.toUInt32 >>> ((3 : Int32) &&& 31).toUInt32).toInt32) &&& (7 : Int32)) % (6 : Int32))), .val (.int fr), .val (.int to1), .val (.int (own_next g5 to1 (own_next g5 to1 (own_next g5 to1 (own_next g5 to1 fr))))), .unset]) rfl) ?_
  show Ends p e below _ T12 (mkF m 120 #[.val (.int i0), .val (.int i1), .val (.int i2), .val (.ref b1), .val (.int ((i2 &&& (7 : Int32)) % (6 : Int32))), .val (.int ((((i2.toUInt32 >>> ((3 : Int32) &&& 31).toUInt32).toInt32) &&& (7 : Int32)) % (6 : Int32))), .val (.int fr), .val (.int to1), .val (.int (own_next g5 to1 (own_next g5 to1 (own_next g5 to1 (own_next g5 to1 fr))))), .unset] [])
  refine Ends.by (fun _ => XS.aloadN X12.here hx rfl (hb hby at_120) rfl rfl) ?_
  show Ends p e below _ T12 (mkF m 121 #[.val (.int i0), .val (.int i1), .val (.int i2), .val (.ref b1), .val (.int ((i2 &&& (7 : Int32)) % (6 : Int32))), .val (.int ((((i2.toUInt32 >>> ((3 : Int32) &&& 31).toUInt32).toInt32) &&& (7 : Int32)) % (6 : Int32))), .val (.int fr), .val (.int to1), .val (.int (own_next g5 to1 (own_next g5 to1 (own_next g5 to1 (own_next g5 to1 fr))))), .unset] [(.ref b1)])
  refine Ends.by (fun _ => XS.iload X12.here hx rfl (hb hby at_121) rfl) ?_
  show Ends p e below _ T12 (mkF m 123 #[.val (.int i0), .val (.int i1), .val (.int i2), .val (.ref b1), .val (.int ((i2 &&& (7 : Int32)) % (6 : Int32))), .val (.int ((((i2.toUInt32 >>> ((3 : Int32) &&& 31).toUInt32).toInt32) &&& (7 : Int32)) % (6 : Int32))), .val (.int fr), .val (.int to1), .val (.int (own_next g5 to1 (own_next g5 to1 (own_next g5 to1 (own_next g5 to1 fr))))), .unset] [(.int (own_next g5 to1 (own_next g5 to1 (own_next g5 to1 (own_next g5 to1 fr))))), (.ref b1)])
  refine Ends.by (fun _ => XS.iload X12.here hx rfl (hb hby at_123) rfl) ?_
  show Ends p e below _ T12 (mkF m 125 #[.val (.int i0), .val (.int i1), .val (.int i2), .val (.ref b1), .val (.int ((i2 &&& (7 : Int32)) % (6 : Int32))), .val (.int ((((i2.toUInt32 >>> ((3 : Int32) &&& 31).toUInt32).toInt32) &&& (7 : Int32)) % (6 : Int32))), .val (.int fr), .val (.int to1), .val (.int (own_next g5 to1 (own_next g5 to1 (own_next g5 to1 (own_next g5 to1 fr))))), .unset] [(.int to1), (.int (own_next g5 to1 (own_next g5 to1 (own_next g5 to1 (own_next g5 to1 fr))))), (.ref b1)])
  refine Ends.callS (argsL := [(.ref b1), (.int (own_next g5 to1 (own_next g5 to1 (own_next g5 to1 (own_next g5 to1 fr))))), (.int to1)]) (rest := []) X12 hx hZ hown (hw _ (List.mem_of_getElem? (i := 8) rfl)) (hw _ (List.mem_of_getElem? (i := 9) rfl)) (hw _ (List.mem_of_getElem? (i := 10) rfl)) (hw _ (List.mem_of_getElem? (i := 11) rfl)) (by decide) (con_3 l Z a0 hw b1 (own_next g5 to1 (own_next g5 to1 (own_next g5 to1 (own_next g5 to1 fr)))) to1 T g5 h6 n0 Z6 C6 ht hT) e12 (by rw [hml]; rfl) (hb hby at_125) (lenOf pd_3 rfl) 0 (Nat.le_of_eq rfl) (by decide) (by decide) (by decide) (by decide) ?_
  intro v T13 L13 X13 hQ
  obtain ⟨rfl, e13, rfl⟩ := hQ
  rw [List.append_nil] at X13
  show Ends p e below _ T13 (mkF m 128 #[.val (.int i0), .val (.int i1), .val (.int i2), .val (.ref b1), .val (.int ((i2 &&& (7 : Int32)) % (6 : Int32))), .val (.int ((((i2.toUInt32 >>> ((3 : Int32) &&& 31).toUInt32).toInt32) &&& (7 : Int32)) % (6 : Int32))), .val (.int fr), .val (.int to1), .val (.int (own_next g5 to1 (own_next g5 to1 (own_next g5 to1 (own_next g5 to1 fr))))), .unset] [(.int (own_next g5 to1 (own_next g5 to1 (own_next g5 to1 (own_next g5 to1 (own_next g5 to1 fr))))))])
  refine Ends.by (fun _ => XS.istore X13.here hx rfl (hb hby at_128) rfl (l' := #[.val (.int i0), .val (.int i1), .val (.int i2), .val (.ref b1), .val (.int ((i2 &&& (7 : Int32)) % (6 : Int32))), .val (.int ((((i2.toUInt32 >>> ((3 : Int32) &&& 31).toUInt32).toInt32) &&& (7 : Int32)) % (6 : Int32))), .val (.int fr), .val (.int to1), .val (.int (own_next g5 to1 (own_next g5 to1 (own_next g5 to1 (own_next g5 to1 (own_next g5 to1 fr)))))), .unset]) rfl) ?_
  show Ends p e below _ T13 (mkF m 130 #[.val (.int i0), .val (.int i1), .val (.int i2), .val (.ref b1), .val (.int ((i2 &&& (7 : Int32)) % (6 : Int32))), .val (.int ((((i2.toUInt32 >>> ((3 : Int32) &&& 31).toUInt32).toInt32) &&& (7 : Int32)) % (6 : Int32))), .val (.int fr), .val (.int to1), .val (.int (own_next g5 to1 (own_next g5 to1 (own_next g5 to1 (own_next g5 to1 (own_next g5 to1 fr)))))), .unset] [])
  refine Ends.by (fun _ => XS.iload X13.here hx rfl (hb hby at_130) rfl) ?_
  show Ends p e below _ T13 (mkF m 132 #[.val (.int i0), .val (.int i1), .val (.int i2), .val (.ref b1), .val (.int ((i2 &&& (7 : Int32)) % (6 : Int32))), .val (.int ((((i2.toUInt32 >>> ((3 : Int32) &&& 31).toUInt32).toInt32) &&& (7 : Int32)) % (6 : Int32))), .val (.int fr), .val (.int to1), .val (.int (own_next g5 to1 (own_next g5 to1 (own_next g5 to1 (own_next g5 to1 (own_next g5 to1 fr)))))), .unset] [(.int (own_next g5 to1 (own_next g5 to1 (own_next g5 to1 (own_next g5 to1 (own_next g5 to1 fr))))))])
  refine Ends.by (fun _ => XS.iload X13.here hx rfl (hb hby at_132) rfl) ?_
  show Ends p e below _ T13 (mkF m 134 #[.val (.int i0), .val (.int i1), .val (.int i2), .val (.ref b1), .val (.int ((i2 &&& (7 : Int32)) % (6 : Int32))), .val (.int ((((i2.toUInt32 >>> ((3 : Int32) &&& 31).toUInt32).toInt32) &&& (7 : Int32)) % (6 : Int32))), .val (.int fr), .val (.int to1), .val (.int (own_next g5 to1 (own_next g5 to1 (own_next g5 to1 (own_next g5 to1 (own_next g5 to1 fr)))))), .unset] [(.int to1), (.int (own_next g5 to1 (own_next g5 to1 (own_next g5 to1 (own_next g5 to1 (own_next g5 to1 fr))))))])
  refine Ends.icmp X13 hx (hb hby at_134) 141 (by decide) (by decide) (fun q => ?_) (fun q => ?_)
  · have c134 : ¬ ((own_next g5 to1 (own_next g5 to1 (own_next g5 to1 (own_next g5 to1 (own_next g5 to1 fr))))) = to1) := own_ne.1 q
    show Ends p e below _ T13 (mkF m 141 #[.val (.int i0), .val (.int i1), .val (.int i2), .val (.ref b1), .val (.int ((i2 &&& (7 : Int32)) % (6 : Int32))), .val (.int ((((i2.toUInt32 >>> ((3 : Int32) &&& 31).toUInt32).toInt32) &&& (7 : Int32)) % (6 : Int32))), .val (.int fr), .val (.int to1), .val (.int (own_next g5 to1 (own_next g5 to1 (own_next g5 to1 (own_next g5 to1 (own_next g5 to1 fr)))))), .unset] [])
    refine Ends.by (fun _ => XS.iconst X13.here hx rfl (hb hby at_141)) ?_
    show Ends p e below _ T13 (mkF m 142 #[.val (.int i0), .val (.int i1), .val (.int i2), .val (.ref b1), .val (.int ((i2 &&& (7 : Int32)) % (6 : Int32))), .val (.int ((((i2.toUInt32 >>> ((3 : Int32) &&& 31).toUInt32).toInt32) &&& (7 : Int32)) % (6 : Int32))), .val (.int fr), .val (.int to1), .val (.int (own_next g5 to1 (own_next g5 to1 (own_next g5 to1 (own_next g5 to1 (own_next g5 to1 fr)))))), .unset] [(.int (0 : Int32))])
    refine Ends.by (fun _ => XS.istore X13.here hx rfl (hb hby at_142) rfl (l' := #[.val (.int i0), .val (.int i1), .val (.int i2), .val (.ref b1), .val (.int ((i2 &&& (7 : Int32)) % (6 : Int32))), .val (.int ((((i2.toUInt32 >>> ((3 : Int32) &&& 31).toUInt32).toInt32) &&& (7 : Int32)) % (6 : Int32))), .val (.int fr), .val (.int to1), .val (.int (own_next g5 to1 (own_next g5 to1 (own_next g5 to1 (own_next g5 to1 (own_next g5 to1 fr)))))), .val (.int (0 : Int32))]) rfl) ?_
    show Ends p e below _ T13 (mkF m 144 #[.val (.int i0), .val (.int i1), .val (.int i2), .val (.ref b1), .val (.int ((i2 &&& (7 : Int32)) % (6 : Int32))), .val (.int ((((i2.toUInt32 >>> ((3 : Int32) &&& 31).toUInt32).toInt32) &&& (7 : Int32)) % (6 : Int32))), .val (.int fr), .val (.int to1), .val (.int (own_next g5 to1 (own_next g5 to1 (own_next g5 to1 (own_next g5 to1 (own_next g5 to1 fr)))))), .val (.int (0 : Int32))] [])
    refine Ends.by (fun _ => XS.aloadN X13.here hx rfl (hb hby at_144) rfl rfl) ?_
    show Ends p e below _ T13 (mkF m 145 #[.val (.int i0), .val (.int i1), .val (.int i2), .val (.ref b1), .val (.int ((i2 &&& (7 : Int32)) % (6 : Int32))), .val (.int ((((i2.toUInt32 >>> ((3 : Int32) &&& 31).toUInt32).toInt32) &&& (7 : Int32)) % (6 : Int32))), .val (.int fr), .val (.int to1), .val (.int (own_next g5 to1 (own_next g5 to1 (own_next g5 to1 (own_next g5 to1 (own_next g5 to1 fr)))))), .val (.int (0 : Int32))] [(.ref b1)])
    refine Ends.by (fun _ => XS.iload X13.here hx rfl (hb hby at_145) rfl) ?_
    show Ends p e below _ T13 (mkF m 147 #[.val (.int i0), .val (.int i1), .val (.int i2), .val (.ref b1), .val (.int ((i2 &&& (7 : Int32)) % (6 : Int32))), .val (.int ((((i2.toUInt32 >>> ((3 : Int32) &&& 31).toUInt32).toInt32) &&& (7 : Int32)) % (6 : Int32))), .val (.int fr), .val (.int to1), .val (.int (own_next g5 to1 (own_next g5 to1 (own_next g5 to1 (own_next g5 to1 (own_next g5 to1 fr)))))), .val (.int (0 : Int32))] [(.int fr), (.ref b1)])
    refine Ends.by (fun _ => XS.iload X13.here hx rfl (hb hby at_147) rfl) ?_
    show Ends p e below _ T13 (mkF m 149 #[.val (.int i0), .val (.int i1), .val (.int i2), .val (.ref b1), .val (.int ((i2 &&& (7 : Int32)) % (6 : Int32))), .val (.int ((((i2.toUInt32 >>> ((3 : Int32) &&& 31).toUInt32).toInt32) &&& (7 : Int32)) % (6 : Int32))), .val (.int fr), .val (.int to1), .val (.int (own_next g5 to1 (own_next g5 to1 (own_next g5 to1 (own_next g5 to1 (own_next g5 to1 fr)))))), .val (.int (0 : Int32))] [(.int to1), (.int fr), (.ref b1)])
    refine Ends.callS (argsL := [(.ref b1), (.int fr), (.int to1)]) (rest := []) X13 hx hZ hown (hw _ (List.mem_of_getElem? (i := 18) rfl)) (hw _ (List.mem_of_getElem? (i := 19) rfl)) (hw _ (List.mem_of_getElem? (i := 20) rfl)) (hw _ (List.mem_of_getElem? (i := 21) rfl)) (by decide) (con_6 l Z a0 hw b1 fr to1 F T g5 h6 n0 Z6 C6 hf hFT ht hT) e13 (by rw [hml]; rfl) (hb hby at_149) (lenOf pd_6 rfl) 0 (Nat.le_of_eq rfl) (by decide) (by decide) (by decide) (by decide) ?_
    intro v T14 L14 X14 hQ
    obtain ⟨rfl, e14, rfl⟩ := hQ
    rw [List.append_nil] at X14
    show Ends p e below _ T14 (mkF m 152 #[.val (.int i0), .val (.int i1), .val (.int i2), .val (.ref b1), .val (.int ((i2 &&& (7 : Int32)) % (6 : Int32))), .val (.int ((((i2.toUInt32 >>> ((3 : Int32) &&& 31).toUInt32).toInt32) &&& (7 : Int32)) % (6 : Int32))), .val (.int fr), .val (.int to1), .val (.int (own_next g5 to1 (own_next g5 to1 (own_next g5 to1 (own_next g5 to1 (own_next g5 to1 fr)))))), .val (.int (0 : Int32))] [(.int (own_b (own_ok (own_L g5 to1) T (T - F) F)))])
    refine Ends.by (fun _ => XS.iload X14.here hx rfl (hb hby at_152) rfl) ?_
    show Ends p e below _ T14 (mkF m 154 #[.val (.int i0), .val (.int i1), .val (.int i2), .val (.ref b1), .val (.int ((i2 &&& (7 : Int32)) % (6 : Int32))), .val (.int ((((i2.toUInt32 >>> ((3 : Int32) &&& 31).toUInt32).toInt32) &&& (7 : Int32)) % (6 : Int32))), .val (.int fr), .val (.int to1), .val (.int (own_next g5 to1 (own_next g5 to1 (own_next g5 to1 (own_next g5 to1 (own_next g5 to1 fr)))))), .val (.int (0 : Int32))] [(.int (0 : Int32)), (.int (own_b (own_ok (own_L g5 to1) T (T - F) F)))])
    refine Ends.icmp X14 hx (hb hby at_154) 161 (by decide) (by decide) (fun q => ?_) (fun q => ?_)
    · have c154 : ¬ ((own_b (own_ok (own_L g5 to1) T (T - F) F)) = (0 : Int32)) := own_ne.1 q
      exact absurd (own_fiven hf ht hFT hT c134) c154
    · have c154 : (own_b (own_ok (own_L g5 to1) T (T - F) F)) = (0 : Int32) := own_ne.2 q
      show Ends p e below _ T14 (mkF m 157 #[.val (.int i0), .val (.int i1), .val (.int i2), .val (.ref b1), .val (.int ((i2 &&& (7 : Int32)) % (6 : Int32))), .val (.int ((((i2.toUInt32 >>> ((3 : Int32) &&& 31).toUInt32).toInt32) &&& (7 : Int32)) % (6 : Int32))), .val (.int fr), .val (.int to1), .val (.int (own_next g5 to1 (own_next g5 to1 (own_next g5 to1 (own_next g5 to1 (own_next g5 to1 fr)))))), .val (.int (0 : Int32))] [])
      refine Ends.by (fun _ => XS.iconst X14.here hx rfl (hb hby at_157)) ?_
      show Ends p e below _ T14 (mkF m 158 #[.val (.int i0), .val (.int i1), .val (.int i2), .val (.ref b1), .val (.int ((i2 &&& (7 : Int32)) % (6 : Int32))), .val (.int ((((i2.toUInt32 >>> ((3 : Int32) &&& 31).toUInt32).toInt32) &&& (7 : Int32)) % (6 : Int32))), .val (.int fr), .val (.int to1), .val (.int (own_next g5 to1 (own_next g5 to1 (own_next g5 to1 (own_next g5 to1 (own_next g5 to1 fr)))))), .val (.int (0 : Int32))] [(.int (1 : Int32))])
      refine Ends.by (fun _ => XS.goto X14.here hx rfl (pc0 := 158) (pc' := 162) rfl (hb hby at_158) (by decide) (by decide)) ?_
      show Ends p e below _ T14 (mkF m 162 #[.val (.int i0), .val (.int i1), .val (.int i2), .val (.ref b1), .val (.int ((i2 &&& (7 : Int32)) % (6 : Int32))), .val (.int ((((i2.toUInt32 >>> ((3 : Int32) &&& 31).toUInt32).toInt32) &&& (7 : Int32)) % (6 : Int32))), .val (.int fr), .val (.int to1), .val (.int (own_next g5 to1 (own_next g5 to1 (own_next g5 to1 (own_next g5 to1 (own_next g5 to1 fr)))))), .val (.int (0 : Int32))] [(.int (1 : Int32))])
      exact Ends.retZ X14 hx hlk hret (hb hby at_162) (by first | decide | (simp; done)) (by decide) (by decide) (⟨rfl, N6⟩)
  · have c134 : (own_next g5 to1 (own_next g5 to1 (own_next g5 to1 (own_next g5 to1 (own_next g5 to1 fr))))) = to1 := own_ne.2 q
    show Ends p e below _ T13 (mkF m 137 #[.val (.int i0), .val (.int i1), .val (.int i2), .val (.ref b1), .val (.int ((i2 &&& (7 : Int32)) % (6 : Int32))), .val (.int ((((i2.toUInt32 >>> ((3 : Int32) &&& 31).toUInt32).toInt32) &&& (7 : Int32)) % (6 : Int32))), .val (.int fr), .val (.int to1), .val (.int (own_next g5 to1 (own_next g5 to1 (own_next g5 to1 (own_next g5 to1 (own_next g5 to1 fr)))))), .unset] [])
    refine Ends.by (fun _ => XS.iconst X13.here hx rfl (hb hby at_137)) ?_
    show Ends p e below _ T13 (mkF m 138 #[.val (.int i0), .val (.int i1), .val (.int i2), .val (.ref b1), .val (.int ((i2 &&& (7 : Int32)) % (6 : Int32))), .val (.int ((((i2.toUInt32 >>> ((3 : Int32) &&& 31).toUInt32).toInt32) &&& (7 : Int32)) % (6 : Int32))), .val (.int fr), .val (.int to1), .val (.int (own_next g5 to1 (own_next g5 to1 (own_next g5 to1 (own_next g5 to1 (own_next g5 to1 fr)))))), .unset] [(.int (1 : Int32))])
    refine Ends.by (fun _ => XS.goto X13.here hx rfl (pc0 := 138) (pc' := 142) rfl (hb hby at_138) (by decide) (by decide)) ?_
    show Ends p e below _ T13 (mkF m 142 #[.val (.int i0), .val (.int i1), .val (.int i2), .val (.ref b1), .val (.int ((i2 &&& (7 : Int32)) % (6 : Int32))), .val (.int ((((i2.toUInt32 >>> ((3 : Int32) &&& 31).toUInt32).toInt32) &&& (7 : Int32)) % (6 : Int32))), .val (.int fr), .val (.int to1), .val (.int (own_next g5 to1 (own_next g5 to1 (own_next g5 to1 (own_next g5 to1 (own_next g5 to1 fr)))))), .unset] [(.int (1 : Int32))])
    refine Ends.by (fun _ => XS.istore X13.here hx rfl (hb hby at_142) rfl (l' := #[.val (.int i0), .val (.int i1), .val (.int i2), .val (.ref b1), .val (.int ((i2 &&& (7 : Int32)) % (6 : Int32))), .val (.int ((((i2.toUInt32 >>> ((3 : Int32) &&& 31).toUInt32).toInt32) &&& (7 : Int32)) % (6 : Int32))), .val (.int fr), .val (.int to1), .val (.int (own_next g5 to1 (own_next g5 to1 (own_next g5 to1 (own_next g5 to1 (own_next g5 to1 fr)))))), .val (.int (1 : Int32))]) rfl) ?_
    show Ends p e below _ T13 (mkF m 144 #[.val (.int i0), .val (.int i1), .val (.int i2), .val (.ref b1), .val (.int ((i2 &&& (7 : Int32)) % (6 : Int32))), .val (.int ((((i2.toUInt32 >>> ((3 : Int32) &&& 31).toUInt32).toInt32) &&& (7 : Int32)) % (6 : Int32))), .val (.int fr), .val (.int to1), .val (.int (own_next g5 to1 (own_next g5 to1 (own_next g5 to1 (own_next g5 to1 (own_next g5 to1 fr)))))), .val (.int (1 : Int32))] [])
    refine Ends.by (fun _ => XS.aloadN X13.here hx rfl (hb hby at_144) rfl rfl) ?_
    show Ends p e below _ T13 (mkF m 145 #[.val (.int i0), .val (.int i1), .val (.int i2), .val (.ref b1), .val (.int ((i2 &&& (7 : Int32)) % (6 : Int32))), .val (.int ((((i2.toUInt32 >>> ((3 : Int32) &&& 31).toUInt32).toInt32) &&& (7 : Int32)) % (6 : Int32))), .val (.int fr), .val (.int to1), .val (.int (own_next g5 to1 (own_next g5 to1 (own_next g5 to1 (own_next g5 to1 (own_next g5 to1 fr)))))), .val (.int (1 : Int32))] [(.ref b1)])
    refine Ends.by (fun _ => XS.iload X13.here hx rfl (hb hby at_145) rfl) ?_
    show Ends p e below _ T13 (mkF m 147 #[.val (.int i0), .val (.int i1), .val (.int i2), .val (.ref b1), .val (.int ((i2 &&& (7 : Int32)) % (6 : Int32))), .val (.int ((((i2.toUInt32 >>> ((3 : Int32) &&& 31).toUInt32).toInt32) &&& (7 : Int32)) % (6 : Int32))), .val (.int fr), .val (.int to1), .val (.int (own_next g5 to1 (own_next g5 to1 (own_next g5 to1 (own_next g5 to1 (own_next g5 to1 fr)))))), .val (.int (1 : Int32))] [(.int fr), (.ref b1)])
    refine Ends.by (fun _ => XS.iload X13.here hx rfl (hb hby at_147) rfl) ?_
    show Ends p e below _ T13 (mkF m 149 #[.val (.int i0), .val (.int i1), .val (.int i2), .val (.ref b1), .val (.int ((i2 &&& (7 : Int32)) % (6 : Int32))), .val (.int ((((i2.toUInt32 >>> ((3 : Int32) &&& 31).toUInt32).toInt32) &&& (7 : Int32)) % (6 : Int32))), .val (.int fr), .val (.int to1), .val (.int (own_next g5 to1 (own_next g5 to1 (own_next g5 to1 (own_next g5 to1 (own_next g5 to1 fr)))))), .val (.int (1 : Int32))] [(.int to1), (.int fr), (.ref b1)])
    refine Ends.callS (argsL := [(.ref b1), (.int fr), (.int to1)]) (rest := []) X13 hx hZ hown (hw _ (List.mem_of_getElem? (i := 18) rfl)) (hw _ (List.mem_of_getElem? (i := 19) rfl)) (hw _ (List.mem_of_getElem? (i := 20) rfl)) (hw _ (List.mem_of_getElem? (i := 21) rfl)) (by decide) (con_6 l Z a0 hw b1 fr to1 F T g5 h6 n0 Z6 C6 hf hFT ht hT) e13 (by rw [hml]; rfl) (hb hby at_149) (lenOf pd_6 rfl) 0 (Nat.le_of_eq rfl) (by decide) (by decide) (by decide) (by decide) ?_
    intro v T15 L15 X15 hQ
    obtain ⟨rfl, e15, rfl⟩ := hQ
    rw [List.append_nil] at X15
    show Ends p e below _ T15 (mkF m 152 #[.val (.int i0), .val (.int i1), .val (.int i2), .val (.ref b1), .val (.int ((i2 &&& (7 : Int32)) % (6 : Int32))), .val (.int ((((i2.toUInt32 >>> ((3 : Int32) &&& 31).toUInt32).toInt32) &&& (7 : Int32)) % (6 : Int32))), .val (.int fr), .val (.int to1), .val (.int (own_next g5 to1 (own_next g5 to1 (own_next g5 to1 (own_next g5 to1 (own_next g5 to1 fr)))))), .val (.int (1 : Int32))] [(.int (own_b (own_ok (own_L g5 to1) T (T - F) F)))])
    refine Ends.by (fun _ => XS.iload X15.here hx rfl (hb hby at_152) rfl) ?_
    show Ends p e below _ T15 (mkF m 154 #[.val (.int i0), .val (.int i1), .val (.int i2), .val (.ref b1), .val (.int ((i2 &&& (7 : Int32)) % (6 : Int32))), .val (.int ((((i2.toUInt32 >>> ((3 : Int32) &&& 31).toUInt32).toInt32) &&& (7 : Int32)) % (6 : Int32))), .val (.int fr), .val (.int to1), .val (.int (own_next g5 to1 (own_next g5 to1 (own_next g5 to1 (own_next g5 to1 (own_next g5 to1 fr)))))), .val (.int (1 : Int32))] [(.int (1 : Int32)), (.int (own_b (own_ok (own_L g5 to1) T (T - F) F)))])
    refine Ends.icmp X15 hx (hb hby at_154) 161 (by decide) (by decide) (fun q => ?_) (fun q => ?_)
    · have c154 : ¬ ((own_b (own_ok (own_L g5 to1) T (T - F) F)) = (1 : Int32)) := own_ne.1 q
      exact absurd (own_fivey hf ht hFT hT c134) c154
    · have c154 : (own_b (own_ok (own_L g5 to1) T (T - F) F)) = (1 : Int32) := own_ne.2 q
      show Ends p e below _ T15 (mkF m 157 #[.val (.int i0), .val (.int i1), .val (.int i2), .val (.ref b1), .val (.int ((i2 &&& (7 : Int32)) % (6 : Int32))), .val (.int ((((i2.toUInt32 >>> ((3 : Int32) &&& 31).toUInt32).toInt32) &&& (7 : Int32)) % (6 : Int32))), .val (.int fr), .val (.int to1), .val (.int (own_next g5 to1 (own_next g5 to1 (own_next g5 to1 (own_next g5 to1 (own_next g5 to1 fr)))))), .val (.int (1 : Int32))] [])
      refine Ends.by (fun _ => XS.iconst X15.here hx rfl (hb hby at_157)) ?_
      show Ends p e below _ T15 (mkF m 158 #[.val (.int i0), .val (.int i1), .val (.int i2), .val (.ref b1), .val (.int ((i2 &&& (7 : Int32)) % (6 : Int32))), .val (.int ((((i2.toUInt32 >>> ((3 : Int32) &&& 31).toUInt32).toInt32) &&& (7 : Int32)) % (6 : Int32))), .val (.int fr), .val (.int to1), .val (.int (own_next g5 to1 (own_next g5 to1 (own_next g5 to1 (own_next g5 to1 (own_next g5 to1 fr)))))), .val (.int (1 : Int32))] [(.int (1 : Int32))])
      refine Ends.by (fun _ => XS.goto X15.here hx rfl (pc0 := 158) (pc' := 162) rfl (hb hby at_158) (by decide) (by decide)) ?_
      show Ends p e below _ T15 (mkF m 162 #[.val (.int i0), .val (.int i1), .val (.int i2), .val (.ref b1), .val (.int ((i2 &&& (7 : Int32)) % (6 : Int32))), .val (.int ((((i2.toUInt32 >>> ((3 : Int32) &&& 31).toUInt32).toInt32) &&& (7 : Int32)) % (6 : Int32))), .val (.int fr), .val (.int to1), .val (.int (own_next g5 to1 (own_next g5 to1 (own_next g5 to1 (own_next g5 to1 (own_next g5 to1 fr)))))), .val (.int (1 : Int32))] [(.int (1 : Int32))])
      exact Ends.retZ X15 hx hlk hret (hb hby at_162) (by first | decide | (simp; done)) (by decide) (by decide) (⟨rfl, N6⟩)
set_option maxRecDepth 65536 in
set_option maxHeartbeats 40000000 in
theorem comes_1 {Post : Tables → Env → Array Value → State → Outcome → State → Prop} (hpost : ∀ tb e args s v u, (limb_1_1.after args s (.returned v) u = true ∧ limb_1_2.after args s (.returned v) u = true) → FrameEnd s (.returned v) u (Jvm.fieldLocs frame_1_writes args s ++ Jvm.arrayLocs frame_1_arrays args s ++ Jvm.staticLocs frame_1_statics s) 16 128 → Post tb e args s (.returned v) u) :
    ArmFor flags0 classFile x code maxLocals ret World_1 tables_1 room_1 Calls_1 rest_1 Pre_1 Post := by
  intro l hfl _ _ p e ha hc hk s m args below hf hA hF happ hP
  obtain ⟨hcalls, hrest, hpre⟩ := hP
  obtain ⟨-, -, -, hnamed, -, -, -, hat⟩ := (Spec.applies_iff hf).mp happ
  obtain ⟨hg, hn⟩ := and_e (Cond.before_iff.mp (show (Jvm.Cond.and given_1 narrow_1).before args s = true from hpre))
  obtain ⟨hcount, g0⟩ := and_e hg
  obtain ⟨k0, g1⟩ := and_e g0
  obtain ⟨k1, g2⟩ := and_e g1
  obtain ⟨w0, w1, w2, rfl⟩ : ∃ w0 w1 w2 : Value, args = #[w0, w1, w2] := by
    have hs : args.size = 3 := by simpa [Cond.value, given_1] using hcount
    obtain ⟨L⟩ := args
    match L, hs with
    | [w0, w1, w2], _ => exact ⟨w0, w1, w2, rfl⟩
  have hw := fun d (hd : d ∈ tables_1) => atoms_spec (ws := Jvm.Cond.code x code maxLocals ret :: tables_1) hat d (List.mem_cons_of_mem _ hd)
  obtain ⟨i0, ei0⟩ := is_v k0
  obtain rfl : w0 = (.int i0) := Option.some.inj ei0
  obtain ⟨i1, ei1⟩ := is_v k1
  obtain rfl : w1 = (.int i1) := Option.some.inj ei1
  obtain ⟨i2, ei2⟩ := is_v g2
  obtain rfl : w2 = (.int i2) := Option.some.inj ei2
  obtain ⟨n, o, h1, h2, h3, _, L, rfl, ⟨rfl, N⟩, hq⟩ := con_0 l s _ hw i0 i1 i2 s.heap s.heap.size (Nat.le_refl _) tables_1 p e ha hc hk s m _ below hf ((Spec.applies_iff_loose hf).mp happ).1 ⟨rfl, State.Warmed39.refl s, rfl⟩ trivial
  refine ⟨n, _, h1, h2, h3, hpost _ _ _ _ _ _ ⟨Cond.after_iff.mpr rfl, Cond.after_iff.mpr (eq_i res_at (Term.int_eval (1)) rfl)⟩ ⟨hq.1, hq.2.1, (hq.2.2.sift fun y hy => Or.inr (N y hy)).mono (by decide) (by decide)⟩⟩
theorem main_1_1 : Claimed_1_1 := comes_1 fun _ _ _ _ _ _ h hF => ⟨h.1, hF⟩
theorem main_1_2 : Claimed_1_2 := comes_1 fun _ _ _ _ _ _ h hF => ⟨h.2, hF⟩
end Jvm.Pilot.@@N@@
namespace Jvm.Pilot.@@N@@
open Jvm Jvm.ClassFile Sem Op Lib Jvm.Free Jvm.Stand Jvm.Pilot.@@N@@.Jvm.D
/-! MADE BY PROGRAM (witnessworld.py) out of the Statement's table words and the real class files: 10 classes; the members and pool entries that the words name. The judged class is class 1, her method 1. -/
namespace start1
open Jvm.ClassFile
def u (s : String) : CpInfo := .utf8 (stringToUtf16 s)
/-- a pool by its gaps: so many unusable entries, then the entry; so many at the end -/
def gap : Nat → List CpInfo → List CpInfo
  | 0, r => r
  | n + 1, r => .unusable :: gap n r
def poolList (es : List (Nat × CpInfo)) (last : Nat) : List CpInfo := es.foldr (fun e r => gap e.1 (e.2 :: r)) (gap last [])
def pool (es : List (Nat × CpInfo)) (last : Nat) : Array CpInfo := ⟨poolList es last⟩
def fileOf (pool : Array CpInfo) (this : Nat) (attrs : Array Attribute := #[]) (ms : Array MethodInfo := #[]) (fl : Nat := 33) (sup : Nat := 0) (ifs : Array Nat := #[]) (fds : Array FieldInfo := #[]) : ClassFile where
  minorVersion := 0
  majorVersion := 65
  constantPool := pool
  accessFlags := fl
  thisClass := this
  superClass := sup
  interfaces := ifs
  fields := fds
  methods := ms
  attributes := attrs
def plain (name : String) (sup : Option ClassId) : Class where
  name := name
  kind := .ordinary
  loader := none
  accessFlags := 33
  super := sup
  interfaces := #[]
  cf := none
  fields := #[]
  methods := #[]
  instanceTypes := #[]
  staticTypes := #[]
  resolved := #[]
  callSites := []
  init := .initialized
  statics := none
  mirror := none

def pool0 : Array CpInfo := pool [(5, u "<init>"), (0, u "()V"), (1, .class_ 10), (1, u "java/lang/Object")] 113

def k0m0 : Method := { name := "<init>", desc := "()V", sig := { parameters := [], returnType := none }, accessFlags := 1, code := none }
/-- java/lang/Object -/
def k0 : Class := { plain "java/lang/Object" none with
  accessFlags := 33
  interfaces := #[]
  cf := some (fileOf pool0 8 #[] #[{ accessFlags := 1, nameIndex := 5, descriptorIndex := 6, attributes := #[] }] 33 0 #[] #[])
  fields := #[]
  methods := #[k0m0]
  instanceTypes := #[]
  staticTypes := #[]
  resolved := Array.replicate 124 none
  statics := none }

def pool1 : Array CpInfo := pool [(2, .class_ 4), (1, u "java/lang/Object"), (0, u "<init>"), (0, u "()V"), (0, .methodref 8 9), (0, .class_ 10), (0, .nameAndType 11 12), (0, u "java/lang/Math"), (0, u "min"), (0, u "(II)I"), (0, .methodref 8 14), (0, .nameAndType 15 12), (0, u "max"), (0, .methodref 17 18), (0, .class_ 19), (0, .nameAndType 20 21), (0, u "com/example/vedette/vedette/records/Utf8WellFormedPinLaw"), (0, u "next"), (0, u "([BII)I"), (0, .methodref 23 24), (0, .class_ 25), (0, .nameAndType 26 27), (0, u "com/example/vedette/vedette/records/Utf8"), (0, u "wellFormed"), (0, u "([BII)Z"), (0, .methodref 17 29), (0, .nameAndType 30 21), (0, u "at"), (0, .methodref 17 32), (0, .nameAndType 33 34), (0, u "cont"), (0, u "(I)Z"), (0, .integer 55296), (0, .integer 57343), (0, .integer 65536), (0, .integer 1114111), (0, .methodref 17 40), (0, .nameAndType 41 21), (0, u "charLength"), (2, u "law"), (0, u "(III)Z")] 5

def k1m0 : Method := { name := "<init>", desc := "()V", sig := { parameters := [], returnType := none }, accessFlags := 1, code := none }
def k1c1 : Code := { maxStack := 4, maxLocals := 10, code := code, exceptionTable := #[], attributes := #[] }
def k1m1 : Method := { name := "law", desc := "(III)Z", sig := { parameters := [.int, .int, .int], returnType := some .boolean }, accessFlags := 9, code := some k1c1 }
def k1c2 : Code := { maxStack := 2, maxLocals := 3, code := method_3_code, exceptionTable := #[], attributes := #[] }
def k1m2 : Method := { name := "at", desc := "([BII)I", sig := { parameters := [(.array .byte), .int, .int], returnType := some .int }, accessFlags := 10, code := some k1c2 }
def k1c3 : Code := { maxStack := 2, maxLocals := 1, code := method_4_code, exceptionTable := #[], attributes := #[] }
def k1m3 : Method := { name := "cont", desc := "(I)Z", sig := { parameters := [.int], returnType := some .boolean }, accessFlags := 10, code := some k1c3 }
def k1c4 : Code := { maxStack := 3, maxLocals := 8, code := method_5_code, exceptionTable := #[], attributes := #[] }
def k1m4 : Method := { name := "charLength", desc := "([BII)I", sig := { parameters := [(.array .byte), .int, .int], returnType := some .int }, accessFlags := 10, code := some k1c4 }
def k1c5 : Code := { maxStack := 3, maxLocals := 4, code := method_6_code, exceptionTable := #[], attributes := #[] }
def k1m5 : Method := { name := "next", desc := "([BII)I", sig := { parameters := [(.array .byte), .int, .int], returnType := some .int }, accessFlags := 10, code := some k1c5 }
/-- com/example/vedette/vedette/records/Utf8WellFormedPinLaw -/
def k1 : Class := { plain "com/example/vedette/vedette/records/Utf8WellFormedPinLaw" (some 0) with
  accessFlags := 49
  interfaces := #[]
  cf := some (fileOf pool1 17 #[] #[{ accessFlags := 1, nameIndex := 5, descriptorIndex := 6, attributes := #[] }, { accessFlags := 9, nameIndex := 44, descriptorIndex := 45, attributes := #[] }, { accessFlags := 10, nameIndex := 30, descriptorIndex := 21, attributes := #[] }, { accessFlags := 10, nameIndex := 33, descriptorIndex := 34, attributes := #[] }, { accessFlags := 10, nameIndex := 41, descriptorIndex := 21, attributes := #[] }, { accessFlags := 10, nameIndex := 20, descriptorIndex := 21, attributes := #[] }] 49 2 #[] #[])
  fields := #[]
  methods := #[k1m0, k1m1, k1m2, k1m3, k1m4, k1m5]
  instanceTypes := #[]
  staticTypes := #[]
  resolved := Array.replicate 51 none
  statics := none }

def pool2 : Array CpInfo := pool [(1, .class_ 2), (0, u "java/lang/Math"), (1, .class_ 6), (1, u "java/lang/Object"), (0, u "<init>"), (0, u "()V"), (89, .class_ 100), (1, u "java/lang/Math$RandomNumberGeneratorHolder"), (71, u "negativeZeroFloatBits"), (0, u "J"), (2, u "negativeZeroDoubleBits"), (21, u "max"), (2, u "min"), (43, u "$assertionsDisabled"), (0, u "Z"), (88, u "(II)I"), (2, u "twoToTheDoubleScaleDown"), (0, u "D"), (4, u "twoToTheDoubleScaleUp"), (9, u "E"), (3, u "PI"), (2, u "TAU"), (2, u "DEGREES_TO_RADIANS"), (0, u "RADIANS_TO_DEGREES")] 94

def k2m0 : Method := { name := "<init>", desc := "()V", sig := { parameters := [], returnType := none }, accessFlags := 2, code := none }
def k2c1 : Code := { maxStack := 2, maxLocals := 2, code := jdk_29_method_65_code, exceptionTable := #[], attributes := #[] }
def k2m1 : Method := { name := "max", desc := "(II)I", sig := { parameters := [.int, .int], returnType := some .int }, accessFlags := 9, code := some k2c1 }
def k2c2 : Code := { maxStack := 2, maxLocals := 2, code := jdk_29_method_69_code, exceptionTable := #[], attributes := #[] }
def k2m2 : Method := { name := "min", desc := "(II)I", sig := { parameters := [.int, .int], returnType := some .int }, accessFlags := 9, code := some k2c2 }
/-- java/lang/Math -/
def k2 : Class := { plain "java/lang/Math" (some 0) with
  accessFlags := 49
  interfaces := #[]
  cf := some (fileOf pool2 1 #[.nestMembers #[98]] #[{ accessFlags := 2, nameIndex := 7, descriptorIndex := 8, attributes := #[] }, { accessFlags := 9, nameIndex := 198, descriptorIndex := 335, attributes := #[] }, { accessFlags := 9, nameIndex := 201, descriptorIndex := 335, attributes := #[] }] 49 4 #[] #[{ accessFlags := 25, nameIndex := 354, descriptorIndex := 339, attributes := #[] }, { accessFlags := 25, nameIndex := 358, descriptorIndex := 339, attributes := #[] }, { accessFlags := 25, nameIndex := 361, descriptorIndex := 339, attributes := #[] }, { accessFlags := 26, nameIndex := 364, descriptorIndex := 339, attributes := #[] }, { accessFlags := 26, nameIndex := 365, descriptorIndex := 339, attributes := #[] }, { accessFlags := 26, nameIndex := 172, descriptorIndex := 173, attributes := #[] }, { accessFlags := 26, nameIndex := 176, descriptorIndex := 173, attributes := #[] }, { accessFlags := 8, nameIndex := 344, descriptorIndex := 339, attributes := #[] }, { accessFlags := 8, nameIndex := 338, descriptorIndex := 339, attributes := #[] }, { accessFlags := 4120, nameIndex := 245, descriptorIndex := 246, attributes := #[] }])
  fields := #[{ name := "E", type := .double, accessFlags := 25, slot := 0, constantValue := 0 }, { name := "PI", type := .double, accessFlags := 25, slot := 1, constantValue := 0 }, { name := "TAU", type := .double, accessFlags := 25, slot := 2, constantValue := 0 }, { name := "DEGREES_TO_RADIANS", type := .double, accessFlags := 26, slot := 3, constantValue := 0 }, { name := "RADIANS_TO_DEGREES", type := .double, accessFlags := 26, slot := 4, constantValue := 0 }, { name := "negativeZeroFloatBits", type := .long, accessFlags := 26, slot := 5, constantValue := 0 }, { name := "negativeZeroDoubleBits", type := .long, accessFlags := 26, slot := 6, constantValue := 0 }, { name := "twoToTheDoubleScaleUp", type := .double, accessFlags := 8, slot := 7, constantValue := 0 }, { name := "twoToTheDoubleScaleDown", type := .double, accessFlags := 8, slot := 8, constantValue := 0 }, { name := "$assertionsDisabled", type := .boolean, accessFlags := 4120, slot := 9, constantValue := 0 }]
  methods := #[k2m0, k2m1, k2m2]
  instanceTypes := #[]
  staticTypes := #[.double, .double, .double, .double, .double, .long, .long, .double, .double, .boolean]
  resolved := Array.replicate 460 none
  statics := none }

def pool3 : Array CpInfo := pool [(2, .class_ 4), (1, u "java/lang/Object"), (0, u "<init>"), (0, u "()V"), (0, .methodref 8 9), (0, .class_ 10), (0, .nameAndType 11 12), (0, u "com/example/vedette/vedette/records/Utf8"), (0, u "pastAscii"), (0, u "([BII)I"), (0, .methodref 8 14), (0, .nameAndType 15 12), (0, u "sequence"), (6, u "wellFormed"), (0, u "([BII)Z")] 6

def k3m0 : Method := { name := "<init>", desc := "()V", sig := { parameters := [], returnType := none }, accessFlags := 2, code := none }
def k3c1 : Code := { maxStack := 3, maxLocals := 5, code := prog_75_method_2_code, exceptionTable := #[], attributes := #[] }
def k3m1 : Method := { name := "wellFormed", desc := "([BII)Z", sig := { parameters := [(.array .byte), .int, .int], returnType := some .boolean }, accessFlags := 8, code := some k3c1 }
def k3c2 : Code := { maxStack := 2, maxLocals := 4, code := prog_75_method_5_code, exceptionTable := #[], attributes := #[] }
def k3m2 : Method := { name := "pastAscii", desc := "([BII)I", sig := { parameters := [(.array .byte), .int, .int], returnType := some .int }, accessFlags := 10, code := some k3c2 }
def k3c3 : Code := { maxStack := 3, maxLocals := 8, code := prog_75_method_6_code, exceptionTable := #[], attributes := #[] }
def k3m3 : Method := { name := "sequence", desc := "([BII)I", sig := { parameters := [(.array .byte), .int, .int], returnType := some .int }, accessFlags := 10, code := some k3c3 }
/-- com/example/vedette/vedette/records/Utf8 -/
def k3 : Class := { plain "com/example/vedette/vedette/records/Utf8" (some 0) with
  accessFlags := 48
  interfaces := #[]
  cf := some (fileOf pool3 8 #[] #[{ accessFlags := 2, nameIndex := 5, descriptorIndex := 6, attributes := #[] }, { accessFlags := 8, nameIndex := 22, descriptorIndex := 23, attributes := #[] }, { accessFlags := 10, nameIndex := 11, descriptorIndex := 12, attributes := #[] }, { accessFlags := 10, nameIndex := 15, descriptorIndex := 12, attributes := #[] }] 48 2 #[] #[])
  fields := #[]
  methods := #[k3m0, k3m1, k3m2, k3m3]
  instanceTypes := #[]
  staticTypes := #[]
  resolved := Array.replicate 30 none
  statics := none }

def pool4 : Array CpInfo := pool [(1, u "java/lang/Cloneable"), (0, .class_ 1), (0, u "java/lang/Object"), (0, .class_ 3)] 3

/-- java/lang/Cloneable -/
def k4 : Class := { plain "java/lang/Cloneable" (some 0) with
  accessFlags := 1537
  interfaces := #[]
  cf := some (fileOf pool4 2 #[] #[] 1537 4 #[] #[])
  fields := #[]
  methods := #[]
  instanceTypes := #[]
  staticTypes := #[]
  resolved := Array.replicate 8 none
  statics := none }

def pool5 : Array CpInfo := pool [(1, u "java/io/Serializable"), (0, .class_ 1), (0, u "java/lang/Object"), (0, .class_ 3)] 3

/-- java/io/Serializable -/
def k5 : Class := { plain "java/io/Serializable" (some 0) with
  accessFlags := 1537
  interfaces := #[]
  cf := some (fileOf pool5 2 #[] #[] 1537 4 #[] #[])
  fields := #[]
  methods := #[]
  instanceTypes := #[]
  staticTypes := #[]
  resolved := Array.replicate 8 none
  statics := none }

/-- the primitive byte -/
def k6 : Class := { plain "byte" none with kind := .primitive 'B', accessFlags := 0x411 }
/-- [B -/
def k7 : Class := { plain "[B" (some 0) with kind := .array 6 .byte, interfaces := #[4, 5], accessFlags := 1041 }

/-- the primitive int -/
def k8 : Class := { plain "int" none with kind := .primitive 'I', accessFlags := 0x411 }
/-- [I -/
def k9 : Class := { plain "[I" (some 0) with kind := .array 8 .int, interfaces := #[4, 5], accessFlags := 1041 }

def heap : Heap := #[]
def classes : Array Class := #[k0, k1, k2, k3, k4, k5, k6, k7, k8, k9]
def interned : List (Array UInt16 × Addr) := []
def slotsUsed : Nat := 0
def theMethod : MethodId := ⟨1, 1⟩
def args0 : Array Value := #[.int 5, .int 7, .int 9]
def aboutOver (below : List Frame) : State where
  vm := { classes := classes, interned := interned.toArray }
  heap := heap
  slotsUsed := slotsUsed
  threads := #[{ frames := .invoking theMethod args0 :: below }]
def below0 : List Frame := [.native { method := ⟨0, 0⟩, args := #[] }]
def about1 : State := aboutOver below0
def p0 : Program := .bare "" "" ""
def e0 : Env := launch0.env 0 0 0
theorem w_frames : about1.frames = Frame.invoking theMethod args0 :: below0 := rfl
set_option maxRecDepth 65536 in
theorem w_args : argsFit about1.vm theMethod args0 = true := by decide +kernel
set_option maxRecDepth 65536 in
theorem w_heap : heapFits about1 = true := by decide +kernel
set_option maxRecDepth 65536 in
theorem w_runnable : about1.curStatus? = some .runnable := by decide +kernel
set_option maxRecDepth 65536 in
theorem w_alone : about1.alone = true := by decide +kernel
set_option maxRecDepth 65536 in
theorem w_named : about1.methodNamed? x = some theMethod := by decide +kernel
set_option maxRecDepth 65536 in
theorem w_hears : about1.hears theMethod below0 = true := by decide +kernel
set_option maxRecDepth 65536 in
theorem w_ripe : about1.ripe theMethod args0 below0 = true := by decide +kernel
theorem w_running : about1.status = .running := rfl
set_option maxRecDepth 65536 in
theorem w_room : about1.hasRoom e0.platform room_1 = true :=
  launch0.hasRoom_least _ room_1 (by decide +kernel) (by decide +kernel) (by decide +kernel) (by decide +kernel) (by decide +kernel) (by decide +kernel)
theorem allAtoms_all (ts : List Jvm.Cond) (a : Array Jvm.Value) (st : Jvm.State) : (allAtoms ts).before a st = ts.all (fun c => c.before a st) := by
  induction ts with
  | nil => rfl
  | cons c t ih =>
    show (Jvm.Cond.and c (allAtoms t)).before a st = _
    rw [Jvm.Cond.before_and, ih, List.all_cons]
def words1 : List Jvm.Cond := Jvm.Cond.code x code maxLocals ret :: tables_1
/-- a 'code' word, met by the world's own term for the bytes: nothing is compared byte by byte -/
theorem code_word {y : MethodName} {bytes : ByteArray} {mx : Nat} {rt : Option FieldType} {a : Array Value} {s : State} {m : MethodId} {meth : Method} {c : Code} (h1 : s.methodNamed? y = some m) (h2 : s.vm.method? m = some meth) (h3 : meth.code = some c) (h4 : c.code = bytes)
    (h5 : (c.maxLocals == mx && c.exceptionTable.isEmpty && decide (c.maxStack ≤ mostOperands) && decide (meth.sig.returnType = rt) && !meth.locks && decide (parseMethodDescriptor y.desc = some meth.sig)) = true) : (Jvm.Cond.code y bytes mx rt).before a s = true := by
  simp only [Bool.and_eq_true, beq_iff_eq, Bool.not_eq_true', decide_eq_true_eq] at h5
  obtain ⟨⟨⟨⟨⟨g1, g2⟩, g3⟩, g4⟩, g5⟩, g6⟩ := h5
  simp [Cond.before, Cond.holds, Cond.value, h1, h2, h3, h4, g1, g2, g3, g4, g5, g6]
def isCode : Jvm.Cond → Bool
  | .code _ _ _ _ => true
  | _ => false
theorem all_split {L : List Jvm.Cond} {P : Jvm.Cond → Bool} (h1 : L.all (fun c => isCode c || P c) = true) (h2 : ∀ c ∈ L.filter isCode, P c = true) : L.all P = true := by
  refine List.all_eq_true.mpr fun c hc => ?_
  have h := List.all_eq_true.mp h1 c hc
  rcases Bool.eq_false_or_eq_true (isCode c) with hi | hi
  · exact h2 c (List.mem_filter.mpr ⟨hc, hi⟩)
  · simpa [hi] using h
set_option maxRecDepth 65536 in
theorem w_c0 : (Jvm.Cond.code x code maxLocals ret).before args0 about1 = true := code_word (m := ⟨1, 1⟩) (meth := k1m1) (c := k1c1) (by decide +kernel) rfl rfl rfl (by decide +kernel)
set_option maxRecDepth 65536 in
theorem w_c1 : (Jvm.Cond.code ({ cls := "java/lang/Math", name := "min", desc := "(II)I" } : Jvm.MethodName) jdk_29_method_69_code (2 : Nat) (Option.some Jvm.ClassFile.FieldType.int)).before args0 about1 = true := code_word (m := ⟨2, 2⟩) (meth := k2m2) (c := k2c2) (by decide +kernel) rfl rfl rfl (by decide +kernel)
set_option maxRecDepth 65536 in
theorem w_c2 : (Jvm.Cond.code ({ cls := "java/lang/Math", name := "max", desc := "(II)I" } : Jvm.MethodName) jdk_29_method_65_code (2 : Nat) (Option.some Jvm.ClassFile.FieldType.int)).before args0 about1 = true := code_word (m := ⟨2, 1⟩) (meth := k2m1) (c := k2c1) (by decide +kernel) rfl rfl rfl (by decide +kernel)
set_option maxRecDepth 65536 in
theorem w_c3 : (Jvm.Cond.code ({ cls := "com/example/vedette/vedette/records/Utf8WellFormedPinLaw", name := "next", desc := "([BII)I" } : Jvm.MethodName) method_6_code (4 : Nat) (Option.some Jvm.ClassFile.FieldType.int)).before args0 about1 = true := code_word (m := ⟨1, 5⟩) (meth := k1m5) (c := k1c5) (by decide +kernel) rfl rfl rfl (by decide +kernel)
set_option maxRecDepth 65536 in
theorem w_c4 : (Jvm.Cond.code ({ cls := "com/example/vedette/vedette/records/Utf8WellFormedPinLaw", name := "charLength", desc := "([BII)I" } : Jvm.MethodName) method_5_code (8 : Nat) (Option.some Jvm.ClassFile.FieldType.int)).before args0 about1 = true := code_word (m := ⟨1, 4⟩) (meth := k1m4) (c := k1c4) (by decide +kernel) rfl rfl rfl (by decide +kernel)
set_option maxRecDepth 65536 in
theorem w_c5 : (Jvm.Cond.code ({ cls := "com/example/vedette/vedette/records/Utf8WellFormedPinLaw", name := "at", desc := "([BII)I" } : Jvm.MethodName) method_3_code (3 : Nat) (Option.some Jvm.ClassFile.FieldType.int)).before args0 about1 = true := code_word (m := ⟨1, 2⟩) (meth := k1m2) (c := k1c2) (by decide +kernel) rfl rfl rfl (by decide +kernel)
set_option maxRecDepth 65536 in
theorem w_c6 : (Jvm.Cond.code ({ cls := "com/example/vedette/vedette/records/Utf8", name := "wellFormed", desc := "([BII)Z" } : Jvm.MethodName) prog_75_method_2_code (5 : Nat) (Option.some Jvm.ClassFile.FieldType.boolean)).before args0 about1 = true := code_word (m := ⟨3, 1⟩) (meth := k3m1) (c := k3c1) (by decide +kernel) rfl rfl rfl (by decide +kernel)
set_option maxRecDepth 65536 in
theorem w_c7 : (Jvm.Cond.code ({ cls := "com/example/vedette/vedette/records/Utf8", name := "pastAscii", desc := "([BII)I" } : Jvm.MethodName) prog_75_method_5_code (4 : Nat) (Option.some Jvm.ClassFile.FieldType.int)).before args0 about1 = true := code_word (m := ⟨3, 2⟩) (meth := k3m2) (c := k3c2) (by decide +kernel) rfl rfl rfl (by decide +kernel)
set_option maxRecDepth 65536 in
theorem w_c8 : (Jvm.Cond.code ({ cls := "com/example/vedette/vedette/records/Utf8", name := "sequence", desc := "([BII)I" } : Jvm.MethodName) prog_75_method_6_code (8 : Nat) (Option.some Jvm.ClassFile.FieldType.int)).before args0 about1 = true := code_word (m := ⟨3, 3⟩) (meth := k3m3) (c := k3c3) (by decide +kernel) rfl rfl rfl (by decide +kernel)
set_option maxRecDepth 65536 in
theorem w_c9 : (Jvm.Cond.code ({ cls := "com/example/vedette/vedette/records/Utf8WellFormedPinLaw", name := "cont", desc := "(I)Z" } : Jvm.MethodName) method_4_code (1 : Nat) (Option.some Jvm.ClassFile.FieldType.boolean)).before args0 about1 = true := code_word (m := ⟨1, 3⟩) (meth := k1m3) (c := k1c3) (by decide +kernel) rfl rfl rfl (by decide +kernel)
def codes1 : List Jvm.Cond := [Jvm.Cond.code x code maxLocals ret, Jvm.Cond.code ({ cls := "java/lang/Math", name := "min", desc := "(II)I" } : Jvm.MethodName) jdk_29_method_69_code (2 : Nat) (Option.some Jvm.ClassFile.FieldType.int), Jvm.Cond.code ({ cls := "java/lang/Math", name := "max", desc := "(II)I" } : Jvm.MethodName) jdk_29_method_65_code (2 : Nat) (Option.some Jvm.ClassFile.FieldType.int), Jvm.Cond.code ({ cls := "com/example/vedette/vedette/records/Utf8WellFormedPinLaw", name := "next", desc := "([BII)I" } : Jvm.MethodName) method_6_code (4 : Nat) (Option.some Jvm.ClassFile.FieldType.int), Jvm.Cond.code ({ cls := "com/example/vedette/vedette/records/Utf8WellFormedPinLaw", name := "charLength", desc := "([BII)I" } : Jvm.MethodName) method_5_code (8 : Nat) (Option.some Jvm.ClassFile.FieldType.int), Jvm.Cond.code ({ cls := "com/example/vedette/vedette/records/Utf8WellFormedPinLaw", name := "at", desc := "([BII)I" } : Jvm.MethodName) method_3_code (3 : Nat) (Option.some Jvm.ClassFile.FieldType.int), Jvm.Cond.code ({ cls := "com/example/vedette/vedette/records/Utf8", name := "wellFormed", desc := "([BII)Z" } : Jvm.MethodName) prog_75_method_2_code (5 : Nat) (Option.some Jvm.ClassFile.FieldType.boolean), Jvm.Cond.code ({ cls := "com/example/vedette/vedette/records/Utf8", name := "pastAscii", desc := "([BII)I" } : Jvm.MethodName) prog_75_method_5_code (4 : Nat) (Option.some Jvm.ClassFile.FieldType.int), Jvm.Cond.code ({ cls := "com/example/vedette/vedette/records/Utf8", name := "sequence", desc := "([BII)I" } : Jvm.MethodName) prog_75_method_6_code (8 : Nat) (Option.some Jvm.ClassFile.FieldType.int), Jvm.Cond.code ({ cls := "com/example/vedette/vedette/records/Utf8WellFormedPinLaw", name := "cont", desc := "(I)Z" } : Jvm.MethodName) method_4_code (1 : Nat) (Option.some Jvm.ClassFile.FieldType.boolean)]
set_option maxRecDepth 65536 in
theorem codes_eq : words1.filter isCode = codes1 := rfl
theorem w_codes : ∀ c ∈ words1.filter isCode, c.before args0 about1 = true := by
  rw [codes_eq]
  intro c hc
  simp only [codes1, List.mem_cons, List.not_mem_nil, or_false] at hc
  rcases hc with rfl | rfl | rfl | rfl | rfl | rfl | rfl | rfl | rfl | rfl
  · exact w_c0
  · exact w_c1
  · exact w_c2
  · exact w_c3
  · exact w_c4
  · exact w_c5
  · exact w_c6
  · exact w_c7
  · exact w_c8
  · exact w_c9
set_option maxRecDepth 65536 in
theorem w_t1 : (words1.take 24).all (fun c => isCode c || c.before args0 about1) = true := by decide +kernel
set_option maxRecDepth 65536 in
theorem w_t2 : (words1.drop 24).all (fun c => isCode c || c.before args0 about1) = true := by decide +kernel
theorem w_tables : (allAtoms (Jvm.Cond.code x code maxLocals ret :: tables_1)).before args0 about1 = true := by
  rw [allAtoms_all]
  show words1.all (fun c => c.before args0 about1) = true
  refine all_split ?_ w_codes
  rw [← List.take_append_drop 24 words1, List.all_append, w_t1, w_t2]
  rfl
set_option maxRecDepth 65536 in
theorem w_case : (Jvm.Cond.and given_1 narrow_1).before args0 about1 = true := by decide +kernel
theorem w_applies : (headSpec (Jvm.Cond.code x code maxLocals ret :: tables_1) room_1).applies x e0.platform about1 = true :=
  (Spec.applies_iff w_frames).mpr ⟨w_running, w_runnable, w_alone, w_named, w_hears, w_ripe, w_room, w_tables⟩
theorem atStart : AtStart classFile x code maxLocals ret World_1 tables_1 room_1 Calls_1 rest_1 Pre_1 launch0 p0 e0 about1 theMethod args0 below0 :=
  ⟨lists_1, trivial, launch0.admits_env _ _ _, launch0.least_env, fairChoices_fair.cas, fairChoices_fair.clock, w_frames, w_args, w_heap, w_applies, trivial, trivial, w_case⟩
end start1
theorem witness_1 : WitnessClaimed_1 := ⟨start1.p0, start1.e0, start1.about1, start1.theMethod, start1.args0, start1.below0, start1.atStart⟩
end Jvm.Pilot.@@N@@
