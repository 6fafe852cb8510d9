import JvmDerived
import JvmDerived.Pilot.@@N@@Statement
import JvmDerived.Pilot.@@N@@Code
set_option linter.unusedVariables false
set_option linter.unusedSimpArgs false
namespace Jvm.Pilot.@@N@@
open Jvm Jvm.ClassFile Sem Op Lib Jvm.Free Jvm.Stand Jvm.LawKit Jvm.RoadKit Bundle Jvm.Pilot.@@N@@.Jvm.D
section Own
variable {p : Program} {l : Launch} {e : Env} {R : Room} {s : State} {m : MethodId} {args : Array Value} {below : List Frame} {meth : Method} {c : Code} {T T' Z : State} {locs : List Loc} {cells slots : Nat} {P : Outcome → State → Prop} {a0 : Array Value} {h : Heap}
/-- from the frame g over the state T the run ends, and P holds of the end -/
def Ends (p : Program) (e : Env) (below : List Frame) (P : Outcome → State → Prop) (T : State) (g : JFrame) : Prop :=
  ∃ s₂ o, Steps p.tables e below (T.setTop g) s₂ ∧ s₂.status = .running ∧ Ended s₂ below o ∧ P o s₂
theorem Ends.by {g g' : JFrame} (h : ∀ t, Steps p.tables e below (T'.setTop g') t → Steps p.tables e below (T.setTop g) t) (k : Ends p e below P T' g') : Ends p e below P T g :=
  let ⟨s₂, o, h1, r⟩ := k; ⟨s₂, o, h _ h1, r⟩
theorem Ends.on {g g' : JFrame} (h : Steps p.tables e below (T.setTop g) (T'.setTop g')) (k : Ends p e below P T' g') : Ends p e below P T g :=
  let ⟨s₂, o, h1, r⟩ := k; ⟨s₂, o, h.trans h1, r⟩
/-- the end: it returned v, Q holds of v, the heap and the places written; the frame -/
def Fini (s : State) (Q : Option Value → Heap → List Loc → Prop) (rc rs : Nat) : Outcome → State → Prop :=
  fun o U' => ∃ v L, o = .returned v ∧ Q v U'.heap L ∧ FrameEnd s o U' L rc rs
/-- a body's contract: from these arguments over the heap h0 it returns with Q -/
def Con (l : Launch) (Z : State) (y : MethodName) (bytes : ByteArray) (maxL : Nat) (ret : Option FieldType) (rm : Room) (as' : Array Value) (h0 : Heap) (Q : Option Value → Heap → List Loc → Prop) : Prop :=
  ∀ ws : List Jvm.Cond, MetFree l y (head1 (Jvm.Cond.code y bytes maxL ret :: ws) rm) (fun a U => a = as' ∧ Z.Warmed39 U.vm ∧ U.heap = h0) (fun _ _ _ _ _ => True) (fun _ U o U' => ∃ v L, o = .returned v ∧ Q v U'.heap L ∧ FrameEnd U o U' L rm.cells rm.slots)
theorem Con.intro {y : MethodName} {bytes : ByteArray} {maxL : Nat} {ret : Option FieldType} {rm : Room} {as' : Array Value} {h0 : Heap} {Q : Option Value → Heap → List Loc → Prop} (hpl : plainFor y = true)
    (body : ∀ (p : Program) (e : Env) (s : State) (m : MethodId) (below : List Frame) (meth : Method) (c : Code) (s₁ : State), p.tables.exec = Jvm.exec → c.code = bytes → c.maxLocals = maxL → s.vm.findClass y.cls = some m.cls → meth.name = y.name → meth.sig.returnType = ret → meth.locks = false → Z.Warmed39 s.vm →
      Stand p l e rm s m as' below meth c s₁ [] 0 0 → s₁.heap = h0 → Ends p e below (Fini s Q rm.cells rm.slots) s₁ (entryFrame m as' maxL)) : Con l Z y bytes maxL ret rm as' h0 Q := by
  intro ws
  refine MetFree.of_bodySF hpl hisR ?_
  intro p e s m args below meth c s₁ Bd hml0 hP hK
  obtain ⟨rfl, hZ, hh⟩ := hP
  have X0 : Stand p l e rm s m args below meth c s₁ [] 0 0 := Stand.of_body Bd
  have e0 : s₁.heap = h0 := by rw [← hh, Bd.state]; rfl
  exact body p e s m below meth c s₁ Bd.exec Bd.bytes hml0 (findClass_of_methodNamed Bd.named) (name_of_methodNamed Bd.named Bd.method).1 Bd.returns Bd.notSynchronized hZ X0 e0
theorem Con.mono {y : MethodName} {bytes : ByteArray} {maxL : Nat} {ret : Option FieldType} {rm : Room} {as' : Array Value} {h0 : Heap} {Q Q' : Option Value → Heap → List Loc → Prop} (C : Con l Z y bytes maxL ret rm as' h0 Q) (hq : ∀ v h L, Q v h L → Q' v h L) : Con l Z y bytes maxL ret rm as' h0 Q' :=
  fun ws p e ha hc hk s m args below hf happ hP hK => let ⟨n, o, h1, h2, h3, v, L, r1, r2, r3⟩ := C ws p e ha hc hk s m args below hf happ hP hK; ⟨n, o, h1, h2, h3, v, L, r1, hq _ _ _ r2, r3⟩
theorem Ends.cast {g g' : JFrame} (q : g = g') (k : Ends p e below P T g') : Ends p e below P T g := q ▸ k
theorem Ends.retV (X : Stand p l e R s m args below meth c T locs cells slots) (hx : p.tables.exec = Jvm.exec) (hlk : meth.locks = false) {pc : Nat} {Ls : Array Slot} (hret : meth.sig.returnType = none) (hd : decode c.code pc = .ok (.return_, 1))
    {Q : Option Value → Heap → List Loc → Prop} {rc rs : Nat} (hc : cells ≤ rc) (hs : slots ≤ rs) (hQ : Q none T.heap locs) : Ends p e below (Fini s Q rc rs) T (mkF m pc Ls []) := by
  obtain ⟨fs, hr, hrun, hended, hW, hsame⟩ := X.leave (v := none) (fun _ => rfl) hlk
  exact ⟨_, _, X.returnOut hx hret hd hr, hrun, hended, _, _, rfl, hQ, ⟨_, rfl⟩, hW, hsame.mono hc hs⟩
theorem Ends.retI (X : Stand p l e R s m args below meth c T locs cells slots) (hx : p.tables.exec = Jvm.exec) (hlk : meth.locks = false) {pc : Nat} {Ls : Array Slot} {z : Int32} {rest : List Value} (hret : meth.sig.returnType = some .int) (hd : decode c.code pc = .ok (.ireturn, 1))
    {Q : Option Value → Heap → List Loc → Prop} {rc rs : Nat} (hc : cells ≤ rc) (hs : slots ≤ rs) (hQ : Q (some (.int z)) T.heap locs) : Ends p e below (Fini s Q rc rs) T (mkF m pc Ls (.int z :: rest)) := by
  obtain ⟨fs, hr, hrun, hended, hW, hsame⟩ := X.leave (v := some (.int z)) (fun h => by rw [hret] at h; cases h) hlk
  exact ⟨_, _, retOut X hx hret rfl (Or.inl ⟨rfl, Or.inl rfl, z, rfl⟩) hd hr, hrun, hended, _, _, rfl, hQ, ⟨_, rfl⟩, hW, hsame.mono hc hs⟩
theorem Ends.retL (X : Stand p l e R s m args below meth c T locs cells slots) (hx : p.tables.exec = Jvm.exec) (hlk : meth.locks = false) {pc : Nat} {Ls : Array Slot} {z : Int64} {rest : List Value} (hret : meth.sig.returnType = some .long) (hd : decode c.code pc = .ok (.lreturn, 1))
    {Q : Option Value → Heap → List Loc → Prop} {rc rs : Nat} (hc : cells ≤ rc) (hs : slots ≤ rs) (hQ : Q (some (.long z)) T.heap locs) : Ends p e below (Fini s Q rc rs) T (mkF m pc Ls (.long z :: rest)) := by
  obtain ⟨fs, hr, hrun, hended, hW, hsame⟩ := X.leave (v := some (.long z)) (fun h => by rw [hret] at h; cases h) hlk
  exact ⟨_, _, retOut X hx hret rfl (Or.inr (Or.inl ⟨rfl, rfl, z, rfl⟩)) hd hr, hrun, hended, _, _, rfl, hQ, ⟨_, rfl⟩, hW, hsame.mono hc hs⟩
theorem Ends.retA (X : Stand p l e R s m args below meth c T locs cells slots) (hx : p.tables.exec = Jvm.exec) (hlk : meth.locks = false) {pc : Nat} {Ls : Array Slot} {t : FieldType} {a : Addr} {rest : List Value} (hret : meth.sig.returnType = some t) (ht : t.isReference = true) (hn : narrow t (.ref a) = .ref a) (hd : decode c.code pc = .ok (.areturn, 1))
    {Q : Option Value → Heap → List Loc → Prop} {rc rs : Nat} (hc : cells ≤ rc) (hs : slots ≤ rs) (hQ : Q (some (.ref a)) T.heap locs) : Ends p e below (Fini s Q rc rs) T (mkF m pc Ls (.ref a :: rest)) := by
  obtain ⟨fs, hr, hrun, hended, hW, hsame⟩ := X.leave (v := some (.ref a)) (fun h => by rw [hret] at h; cases h) hlk
  exact ⟨_, _, retOut X hx hret hn (Or.inr (Or.inr (Or.inr (Or.inr ⟨rfl, ht, rfl⟩)))) hd hr, hrun, hended, _, _, rfl, hQ, ⟨_, rfl⟩, hW, hsame.mono hc hs⟩
/-- a boolean that is 0 or 1 -/
theorem Ends.retZ (X : Stand p l e R s m args below meth c T locs cells slots) (hx : p.tables.exec = Jvm.exec) (hlk : meth.locks = false) {pc : Nat} {Ls : Array Slot} {z : Int32} {rest : List Value} (hret : meth.sig.returnType = some .boolean) (hd : decode c.code pc = .ok (.ireturn, 1)) (h01 : z &&& 1 = z)
    {Q : Option Value → Heap → List Loc → Prop} {rc rs : Nat} (hc : cells ≤ rc) (hs : slots ≤ rs) (hQ : Q (some (.int z)) T.heap locs) : Ends p e below (Fini s Q rc rs) T (mkF m pc Ls (.int z :: rest)) := by
  obtain ⟨fs, hr, hrun, hended, hW, hsame⟩ := X.leave (v := some (.int z)) (fun h => by rw [hret] at h; cases h) hlk
  have hn : nar .boolean z = z := h01
  refine ⟨_, _, retN X hx (t := .boolean) hret (by simp) hd (fs := fs) ?_, hrun, hended, _, _, rfl, hQ, ⟨_, rfl⟩, hW, hsame.mono hc hs⟩
  rw [hn]; exact hr
/-- a static method by its contract -/
theorem Ends.callS (X : Stand p l e R s m args below meth c T locs cells slots) (hx : p.tables.exec = Jvm.exec) (hZ : Z.Warmed39 s.vm) {own : String} {index : Nat} {y : MethodName} {bytes : ByteArray} {maxL : Nat} {ret : Option FieldType}
    (hown : s.vm.findClass own = some m.cls) (w1 : (Jvm.Cond.methodLink own index y).before a0 Z = true) (w2 : (Jvm.Cond.static y).before a0 Z = true) (w3 : (Jvm.Cond.initialized y.cls).before a0 Z = true) (w4 : (Jvm.Cond.code y bytes maxL ret).before a0 Z = true)
    (hy : y.cls ≠ "java/lang/invoke/MethodHandle" ∧ y.cls ≠ "java/lang/invoke/VarHandle") {rm : Room} {argsL rest : List Value} {Q : Option Value → Heap → List Loc → Prop} (C : Con l Z y bytes maxL ret rm argsL.toArray h Q) (eT : T.heap = h)
    {pc : Nat} {Ls : Array Slot} (hsize : Ls.size = c.maxLocals) (hd : decode c.code pc = .ok (.invokestatic index, 3)) (hlen : ∀ sig, parseMethodDescriptor y.desc = some sig → argsL.length = sig.parameters.length)
    (W : Nat) (hW : (rest.map fun v => v.category).sum ≤ W) (hf : rm.frames + 1 ≤ R.frames) (hl : W + (maxL + 11) + rm.locals ≤ R.locals) (hc : cells + rm.cells ≤ R.cells) (hs : slots + rm.slots ≤ R.slots)
    (k : ∀ v T' L, Stand p l e R s m args below meth c T' (locs ++ L) (cells + rm.cells) (slots + rm.slots) → Q v T'.heap L → Ends p e below P T' (mkF m (pc + 3) Ls (v.toList ++ rest))) :
    Ends p e below P T (mkF m pc Ls (argsL.reverse ++ rest)) := by
  obtain ⟨v, _, ⟨T1, L1, k1, n1⟩, -, X1, ⟨Lc, hQ, l1, y1, z1⟩, st⟩ := Jvm.LawKit.callS X hx (y := y) hown (mvT hZ w1) (mvT hZ w2) (mvT hZ w3) (mvT hZ w4) hy (backOf (W := W) (C []) hZ w4 w3 hf hl) (g := mkF m pc Ls (argsL.reverse ++ rest)) rfl hsize (argsL := argsL) (rest := rest) hlen rfl (by show 2 * 0 + _ ≤ _; omega) hd (fun _ _ => ⟨rfl, eT, hc, hs⟩)
  dsimp only [Pt.U, Pt.locs, Pt.cells, Pt.slots] at X1 l1 y1 z1 st hQ
  subst l1 y1 z1
  exact Ends.by st (k v T1 Lc X1 hQ)
/-- a constructor by its contract -/
theorem Ends.callI (X : Stand p l e R s m args below meth c T locs cells slots) (hx : p.tables.exec = Jvm.exec) (hZ : Z.Warmed39 s.vm) {own : String} {index : Nat} {y : MethodName} {bytes : ByteArray} {maxL : Nat} (hy1 : y.name = "<init>")
    (hown : s.vm.findClass own = some m.cls) (w1 : (Jvm.Cond.methodLink own index y).before a0 Z = true) (w2 : (Jvm.Cond.instanceMethod y).before a0 Z = true) (w3 : (Jvm.Cond.initialized y.cls).before a0 Z = true) (w4 : (Jvm.Cond.code y bytes maxL none).before a0 Z = true)
    (hy : y.cls ≠ "java/lang/invoke/MethodHandle" ∧ y.cls ≠ "java/lang/invoke/VarHandle") {rm : Room} {a : Addr} {argsL rest : List Value} {Q : Option Value → Heap → List Loc → Prop} (C : Con l Z y bytes maxL none rm (.ref a :: argsL).toArray h Q) (eT : T.heap = h)
    {pc : Nat} {Ls : Array Slot} (hsize : Ls.size = c.maxLocals) (hd : decode c.code pc = .ok (.invokespecial index, 3)) (hlen : ∀ sig, parseMethodDescriptor y.desc = some sig → argsL.length = sig.parameters.length)
    (W : Nat) (hW : (rest.map fun v => v.category).sum ≤ W) (hf : rm.frames + 1 ≤ R.frames) (hl : W + (maxL + 11) + rm.locals ≤ R.locals) (hc : cells + rm.cells ≤ R.cells) (hs : slots + rm.slots ≤ R.slots)
    (k : ∀ v T' L, Stand p l e R s m args below meth c T' (locs ++ L) (cells + rm.cells) (slots + rm.slots) → Q v T'.heap L → Ends p e below P T' (mkF m (pc + 3) Ls (v.toList ++ rest))) :
    Ends p e below P T (mkF m pc Ls (argsL.reverse ++ .ref a :: rest)) := by
  obtain ⟨v, _, ⟨T1, L1, k1, n1⟩, -, X1, ⟨Lc, hQ, l1, y1, z1⟩, st⟩ := X.specialBack hx (y := y) hy1 hown (mvT hZ w1) (mvT hZ w2) (mvT hZ w4) hy (backOf (W := W) (C []) hZ w4 w3 hf hl) (g := mkF m pc Ls (argsL.reverse ++ .ref a :: rest)) rfl hsize (Steps.refl _) (a := a) (argsL := argsL) (rest := rest) hlen rfl (by show 2 * 0 + _ ≤ _; omega) hd (fun _ _ => ⟨rfl, eT, hc, hs⟩)
  dsimp only [Pt.U, Pt.locs, Pt.cells, Pt.slots] at X1 l1 y1 z1 st hQ
  subst l1 y1 z1
  exact Ends.on st (k v T1 Lc X1 hQ)
/-- an instance method, declared and selected in the receiver's own class -/
theorem Ends.callV (X : Stand p l e R s m args below meth c T locs cells slots) (hx : p.tables.exec = Jvm.exec) (hZ : Z.Warmed39 s.vm) {own : String} {index : Nat} {y : MethodName} {bytes : ByteArray} {maxL : Nat} {ret : Option FieldType}
    (hown : s.vm.findClass own = some m.cls) (w1 : (Jvm.Cond.methodLink own index y).before a0 Z = true) (wd : (Jvm.Cond.declares y).before a0 Z = true) (w2 : (Jvm.Cond.instanceMethod y).before a0 Z = true) (ws : (Jvm.Cond.selects y.cls y y).before a0 Z = true) (w3 : (Jvm.Cond.initialized y.cls).before a0 Z = true) (w4 : (Jvm.Cond.code y bytes maxL ret).before a0 Z = true)
    (hy : y.cls ≠ "java/lang/invoke/MethodHandle" ∧ y.cls ≠ "java/lang/invoke/VarHandle") {rm : Room} {a : Addr} {argsL rest : List Value} {Q : Option Value → Heap → List Loc → Prop} (C : Con l Z y bytes maxL ret rm (.ref a :: argsL).toArray h Q) (eT : T.heap = h) (E : Exa Z h a y.cls)
    {pc : Nat} {Ls : Array Slot} (hsize : Ls.size = c.maxLocals) (hd : decode c.code pc = .ok (.invokevirtual index, 3)) (hlen : ∀ sig, parseMethodDescriptor y.desc = some sig → argsL.length = sig.parameters.length)
    (W : Nat) (hW : (rest.map fun v => v.category).sum ≤ W) (hf : rm.frames + 1 ≤ R.frames) (hl : W + (maxL + 11) + rm.locals ≤ R.locals) (hc : cells + rm.cells ≤ R.cells) (hs : slots + rm.slots ≤ R.slots)
    (k : ∀ v T' L, Stand p l e R s m args below meth c T' (locs ++ L) (cells + rm.cells) (slots + rm.slots) → Q v T'.heap L → Ends p e below P T' (mkF m (pc + 3) Ls (v.toList ++ rest))) :
    Ends p e below P T (mkF m pc Ls (argsL.reverse ++ .ref a :: rest)) := by
  obtain ⟨cq, kq, qa, qb, qc⟩ := isOf (T := T) hZ eT E
  obtain ⟨v, _, ⟨T1, L1, k1, n1⟩, -, X1, ⟨Lc, hQ, l1, y1, z1⟩, st⟩ := X.virtualBack hx (y := y) (z := y) hown (mvT hZ w1) (mvT hZ wd) (notFace_of_selects (args := #[]) (mvT hZ ws)) (mvT hZ ws) (mvT hZ w2) hy (backOf (W := W) (C []) hZ w4 w3 hf hl) qa qc (g := mkF m pc Ls (argsL.reverse ++ .ref a :: rest)) rfl hsize (Steps.refl _) (argsL := argsL) (rest := rest) hlen rfl (by show 2 * 0 + _ ≤ _; omega) hd (fun _ _ => ⟨rfl, eT, hc, hs⟩)
  dsimp only [Pt.U, Pt.locs, Pt.cells, Pt.slots] at X1 l1 y1 z1 st hQ
  subst l1 y1 z1
  exact Ends.on st (k v T1 Lc X1 hQ)
/-- nothing is written, nothing made: it returns v -/
def Pure (h0 : Heap) (r : Option Value) (v : Option Value) (h : Heap) (L : List Loc) : Prop := v = r ∧ h = h0 ∧ L = []
/-- the six comparisons, both ways at once -/
theorem Ends.icmp (X : Stand p l e R s m args below meth c T locs cells slots) (hx : p.tables.exec = Jvm.exec) {cd : ClassFile.Cond} {x y : Int32} {o : Int} {pc : Nat} {Ls : Array Slot} {rest : List Value} (hd : decode c.code pc = .ok (.if_icmp cd o, 3)) (pc' : Nat) (ho : 0 ≤ (pc : Int) + o) (hp : ((pc : Int) + o).toNat = pc')
    (kT : if_icmp.holds cd x y = true → Ends p e below P T (mkF m pc' Ls rest)) (kF : if_icmp.holds cd x y = false → Ends p e below P T (mkF m (pc + 3) Ls rest)) : Ends p e below P T (mkF m pc Ls (.int y :: .int x :: rest)) := by
  rcases hb : if_icmp.holds cd x y with _ | _
  · exact Ends.by (fun _ => XS.icmpNo X.here hx rfl hd rfl hb) (kF hb)
  · exact Ends.by (fun _ => XS.icmpYes X.here hx rfl (pc0 := pc) (pc' := pc') rfl hd rfl hb ho hp) (kT hb)
theorem own_wrap {x y : Int} (h : (x - y) % 4294967296 = 0) (r : -2147483648 ≤ x ∧ x < 2147483648) (b : -2147483648 ≤ y ∧ y < 2147483648) : x = y := by omega
theorem own_andor (x a b : Int32) : (x &&& a) ||| (x &&& b) = x &&& (a ||| b) := by
  apply Int32.toBitVec_inj.mp
  rw [Int32.toBitVec_or, Int32.toBitVec_and, Int32.toBitVec_and, Int32.toBitVec_and, Int32.toBitVec_or, ← BitVec.and_or_distrib_left]
theorem own_lt {x y : Int32} : (if_icmp.holds .lt x y = true → x < y) ∧ (if_icmp.holds .lt x y = false → ¬ x < y) := ⟨fun q => Classical.byContradiction fun n => (by rw [(flt n).1] at q; cases q), fun q n => (by rw [(tlt n).1] at q; cases q)⟩
theorem own_ge {x y : Int32} : (if_icmp.holds .ge x y = true → ¬ x < y) ∧ (if_icmp.holds .ge x y = false → x < y) := ⟨fun q n => (by rw [(tlt n).2.1] at q; cases q), fun q => Classical.byContradiction fun n => (by rw [(flt n).2.1] at q; cases q)⟩
theorem own_gt {x y : Int32} : (if_icmp.holds .gt x y = true → y < x) ∧ (if_icmp.holds .gt x y = false → ¬ y < x) := ⟨fun q => Classical.byContradiction fun n => (by rw [(flt n).2.2.1] at q; cases q), fun q n => (by rw [(tlt n).2.2.1] at q; cases q)⟩
theorem own_le {x y : Int32} : (if_icmp.holds .le x y = true → ¬ y < x) ∧ (if_icmp.holds .le x y = false → y < x) := ⟨fun q n => (by rw [(tlt n).2.2.2] at q; cases q), fun q => Classical.byContradiction fun n => (by rw [(flt n).2.2.2] at q; cases q)⟩
theorem own_eq {x y : Int32} : (if_icmp.holds .eq x y = true → x = y) ∧ (if_icmp.holds .eq x y = false → ¬ x = y) := ⟨fun q => Classical.byContradiction fun n => (by rw [(feq n).1] at q; cases q), fun q n => (by rw [(teq n).1] at q; cases q)⟩
theorem own_ne {x y : Int32} : (if_icmp.holds .ne x y = true → ¬ x = y) ∧ (if_icmp.holds .ne x y = false → x = y) := ⟨fun q n => (by rw [(teq n).2] at q; cases q), fun q => Classical.byContradiction fun n => (by rw [(feq n).2] at q; cases q)⟩
theorem Ends.ifc (X : Stand p l e R s m args below meth c T locs cells slots) (hx : p.tables.exec = Jvm.exec) {cd : ClassFile.Cond} {x : Int32} {o : Int} {pc : Nat} {Ls : Array Slot} {rest : List Value} (hd : decode c.code pc = .ok (.ifCond cd o, 3)) (pc' : Nat) (ho : 0 ≤ (pc : Int) + o) (hp : ((pc : Int) + o).toNat = pc')
    (kT : if_icmp.holds cd x 0 = true → Ends p e below P T (mkF m pc' Ls rest)) (kF : if_icmp.holds cd x 0 = false → Ends p e below P T (mkF m (pc + 3) Ls rest)) : Ends p e below P T (mkF m pc Ls (.int x :: rest)) := by
  rcases hb : if_icmp.holds cd x 0 with _ | _
  · exact Ends.by (fun _ => XS.ifNo X.here hx rfl hd rfl ((if0 _ _).trans hb)) (kF hb)
  · exact Ends.by (fun _ => XS.ifYes X.here hx rfl (pc0 := pc) (pc' := pc') rfl hd rfl ((if0 _ _).trans hb) ho hp) (kT hb)
end Own
end Jvm.Pilot.@@N@@
namespace Jvm.Pilot.@@N@@
open Jvm Jvm.ClassFile Sem Op Lib Jvm.Free Jvm.Stand Jvm.LawKit Jvm.RoadKit Bundle Jvm.Pilot.@@N@@.Jvm.D
section Own2
variable {p : Program} {l : Launch} {e : Env} {R : Room} {s : State} {m : MethodId} {args : Array Value} {below : List Frame} {meth : Method} {c : Code} {T T' Z : State} {locs : List Loc} {cells slots : Nat} {P : Outcome → State → Prop} {a0 : Array Value} {h h' h0 : Heap} {a b : Addr} {ty : FieldType} {n k n0 : Nat} {f : Nat → Value} {ws : List Addr}
/-- g with v at the place k -/
def upd {α : Type} (g : Nat → α) (k : Nat) (v : α) : Nat → α := fun i => if i = k then v else g i
theorem upd_hit {α : Type} (g : Nat → α) (k : Nat) (v : α) : upd g k v k = v := if_pos rfl
theorem upd_miss {α : Type} (g : Nat → α) {k i : Nat} (v : α) (q : i ≠ k) : upd g k v i = g i := if_neg q
/-- an array of n elements, the i-th is f i -/
def Af (Z : State) (h : Heap) (a : Addr) (ty : FieldType) (n : Nat) (f : Nat → Value) : Prop :=
  ∃ c : Cell, Arr Z h a c ty ∧ c.slots.size = n ∧ n < 2147483648 ∧ (∀ i, i < n → c.slots[i]? = some (f i)) ∧ ∀ i, i < n → fits ty (f i) = true
theorem Af.lt (F : Af Z h a ty n f) : a < h.size := by obtain ⟨c, A, -⟩ := F; exact A.lt
theorem Af.small (F : Af Z h a ty n f) : n < 2147483648 := by obtain ⟨c, -, -, q, -⟩ := F; exact q
theorem Af.ext (F : Af Z h a ty n f) (E : Ext h h') : Af Z h' a ty n f := by obtain ⟨c, A, r⟩ := F; exact ⟨c, A.ext E, r⟩
theorem Af.keep (F : Af Z h a ty n f) (K : Keep h h' ws) (q : a ∉ ws) : Af Z h' a ty n f := by obtain ⟨c, A, r⟩ := F; exact ⟨c, ⟨K.2.1 a c A.1 q, A.2⟩, r⟩
theorem Af.other {sl : Nat} {v : Value} (F : Af Z h b ty n f) (W : Wr h h' a sl v) (q : b ≠ a) : Af Z h' b ty n f := by obtain ⟨c, A, r⟩ := F; exact ⟨c, A.other W q, r⟩
theorem Af.congr {f' : Nat → Value} (F : Af Z h a ty n f) (q : ∀ i, i < n → f' i = f i) : Af Z h a ty n f' := by
  obtain ⟨c, A, r1, r2, r3, r4⟩ := F; exact ⟨c, A, r1, r2, fun i hi => by rw [q i hi]; exact r3 i hi, fun i hi => by rw [q i hi]; exact r4 i hi⟩
theorem Af.set {v : Value} (F : Af Z h a ty n f) (W : Wr h h' a k v) (hk : k < n) (hv : fits ty v = true) : Af Z h' a ty n (upd f k v) := by
  obtain ⟨c, A, r1, r2, r3, r4⟩ := F
  refine ⟨c.setSlot k v, A.same W, by rw [sz_set]; exact r1, r2, fun i hi => ?_, fun i hi => ?_⟩
  · by_cases q : i = k
    · subst q; rw [upd_hit]; simp [Cell.setSlot, r1, hi]
    · rw [upd_miss _ _ q, ← r3 i hi]; simp [Cell.setSlot, Array.getElem?_setIfInBounds, Ne.symm q]
  · by_cases q : i = k
    · subst q; rw [upd_hit]; exact hv
    · rw [upd_miss _ _ q]; exact r4 i hi
theorem Af.new {k : ClassId} {z : Int32} (A : Arr Z h a (newA k ty z) ty) (q : z.toInt = (n : Int)) (hd : fits ty (defaultValue ty) = true) : Af Z h a ty n (fun _ => defaultValue ty) := by
  have e : z.toNatClampNeg = n := by show z.toInt.toNat = n; omega
  have r := z.toInt_lt
  refine ⟨_, A, by rw [sz_new, e], by omega, fun i hi => ?_, fun i _ => hd⟩
  simp [newA, e, hi]
theorem own_idx {j : Int32} (q : j.toInt = (k : Int)) : j.toNatClampNeg = k ∧ ¬ j < 0 := by
  refine ⟨by show j.toInt.toNat = k; omega, ?_⟩
  rw [Int32.lt_iff_toInt_lt]; have : (0 : Int32).toInt = 0 := rfl; omega
theorem own_inb {j : Int32} {c : Cell} (S : c.slots.size = n) (q : j.toInt = (k : Int)) (hk : k < n) : ¬ (j < 0 ∨ c.slots.size ≤ j.toNatClampNeg) := by
  obtain ⟨q1, q2⟩ := own_idx q
  rw [S, q1]; intro o; rcases o with o | o
  · exact q2 o
  · omega
/-- the array's length -/
theorem Ends.len (X : Stand p l e R s m args below meth c T locs cells slots) (hx : p.tables.exec = Jvm.exec) (hZ : Z.Warmed39 s.vm) (eT : T.heap = h) (F : Af Z h a ty n f) {z : Int32} (hz : z.toInt = (n : Int)) {pc : Nat} {Ls : Array Slot} {rest : List Value} (hd : decode c.code pc = .ok (.arraylength, 1))
    (kk : Ends p e below P T (mkF m (pc + 1) Ls (.int z :: rest))) : Ends p e below P T (mkF m pc Ls (.ref a :: rest)) := by
  obtain ⟨cl, A, r1, r2, -⟩ := F
  refine Ends.by (fun t => X.arraylength hx (by rw [eT]; exact A.1) (State.isArrayOf_alike hZ.alike A.2.1) (g := mkF m pc Ls (.ref a :: rest)) rfl rfl hd t) ?_
  have q : cl.slots.size.toInt32 = z := by
    apply Int32.toInt_inj.mp; rw [r1, hz]; exact Int32.toInt_ofNat_of_lt (by omega)
  rw [q]; exact kk
theorem Ends.ldB (X : Stand p l e R s m args below meth c T locs cells slots) (hx : p.tables.exec = Jvm.exec) (hZ : Z.Warmed39 s.vm) (eT : T.heap = h) (F : Af Z h a .byte n f) {j : Int32} (hj : j.toInt = (k : Int)) (hk : k < n) {v : Value} (hv : f k = v) {pc : Nat} {Ls : Array Slot} {rest : List Value} (hd : decode c.code pc = .ok (.baload, 1))
    (kk : Ends p e below P T (mkF m (pc + 1) Ls (v :: rest))) : Ends p e below P T (mkF m pc Ls (.int j :: .ref a :: rest)) := by
  obtain ⟨cl, A, r1, r2, r3, -⟩ := F
  exact Ends.by (fun t => X.baloadBytes hx (j := j) (v := v) (by rw [eT]; exact A.1) (State.isArrayOf_alike hZ.alike A.2.1) A.2.2 (own_inb r1 hj hk) (by rw [(own_idx hj).1, ← hv]; exact r3 k hk) (g := mkF m pc Ls (.int j :: .ref a :: rest)) rfl rfl hd t) kk
theorem Ends.ldI (X : Stand p l e R s m args below meth c T locs cells slots) (hx : p.tables.exec = Jvm.exec) (hZ : Z.Warmed39 s.vm) (eT : T.heap = h) (F : Af Z h a .int n f) {j : Int32} (hj : j.toInt = (k : Int)) (hk : k < n) {v : Value} (hv : f k = v) {pc : Nat} {Ls : Array Slot} {rest : List Value} (hd : decode c.code pc = .ok (.iaload, 1))
    (kk : Ends p e below P T (mkF m (pc + 1) Ls (v :: rest))) : Ends p e below P T (mkF m pc Ls (.int j :: .ref a :: rest)) := by
  obtain ⟨cl, A, r1, r2, r3, -⟩ := F
  exact Ends.by (fun t => X.iaload hx (j := j) (v := v) (by rw [eT]; exact A.1) (State.isArrayOf_alike hZ.alike A.2.1) A.2.2 (own_inb r1 hj hk) (by rw [(own_idx hj).1, ← hv]; exact r3 k hk) (g := mkF m pc Ls (.int j :: .ref a :: rest)) rfl rfl hd t) kk
theorem Ends.ldJ (X : Stand p l e R s m args below meth c T locs cells slots) (hx : p.tables.exec = Jvm.exec) (hZ : Z.Warmed39 s.vm) (eT : T.heap = h) (F : Af Z h a .long n f) {j : Int32} (hj : j.toInt = (k : Int)) (hk : k < n) {v : Value} (hv : f k = v) {pc : Nat} {Ls : Array Slot} {rest : List Value} (hd : decode c.code pc = .ok (.laload, 1))
    (kk : Ends p e below P T (mkF m (pc + 1) Ls (v :: rest))) : Ends p e below P T (mkF m pc Ls (.int j :: .ref a :: rest)) := by
  obtain ⟨cl, A, r1, r2, r3, -⟩ := F
  exact Ends.by (fun t => X.laload hx (j := j) (v := v) (by rw [eT]; exact A.1) (State.isArrayOf_alike hZ.alike A.2.1) A.2.2 (own_inb r1 hj hk) (by rw [(own_idx hj).1, ← hv]; exact r3 k hk) (g := mkF m pc Ls (.int j :: .ref a :: rest)) rfl rfl hd t) kk
theorem own_snoc {sl : Nat} (N : Fr n0 locs) (q : n0 ≤ a) : Fr n0 (locs ++ [⟨a, sl⟩]) := N.app fun y hy => by cases List.mem_singleton.mp hy; exact q
theorem Ends.stB (X : Stand p l e R s m args below meth c T locs cells slots) (hx : p.tables.exec = Jvm.exec) (hZ : Z.Warmed39 s.vm) (eT : T.heap = h) (N : Fr n0 locs) (ge : n0 ≤ a) (F : Af Z h a .byte n f) {j x : Int32} (hj : j.toInt = (k : Int)) (hk : k < n) {pc : Nat} {Ls : Array Slot} {rest : List Value} (hd : decode c.code pc = .ok (.bastore, 1))
    (kk : ∀ T' h' L', Stand p l e R s m args below meth c T' L' cells slots → T'.heap = h' → Fr n0 L' → Wr h h' a k (.int x.toInt8.toInt32) → Af Z h' a .byte n (upd f k (.int x.toInt8.toInt32)) → Ends p e below P T' (mkF m (pc + 1) Ls rest)) : Ends p e below P T (mkF m pc Ls (.int x :: .int j :: .ref a :: rest)) := by
  obtain ⟨cl, A, r1, r2, r3, r4⟩ := F
  obtain ⟨T1, h1, X1, e1, W1, st⟩ := Jvm.RoadKit.stB X hx hZ eT A (j := j) (x := x) (own_inb r1 hj hk) (g := mkF m pc Ls (.int x :: .int j :: .ref a :: rest)) rfl rfl hd
  rw [(own_idx hj).1] at W1
  have W2 : Wr h h1 a k (.int x.toInt8.toInt32) := W1
  exact Ends.by st (kk T1 h1 _ X1 e1 (own_snoc N ge) W2 (Af.set ⟨cl, A, r1, r2, r3, r4⟩ W2 hk (fits_nar_byte x)))
theorem Ends.stI (X : Stand p l e R s m args below meth c T locs cells slots) (hx : p.tables.exec = Jvm.exec) (hZ : Z.Warmed39 s.vm) (eT : T.heap = h) (N : Fr n0 locs) (ge : n0 ≤ a) (F : Af Z h a .int n f) {j x : Int32} (hj : j.toInt = (k : Int)) (hk : k < n) {pc : Nat} {Ls : Array Slot} {rest : List Value} (hd : decode c.code pc = .ok (.iastore, 1))
    (kk : ∀ T' h' L', Stand p l e R s m args below meth c T' L' cells slots → T'.heap = h' → Fr n0 L' → Wr h h' a k (.int x) → Af Z h' a .int n (upd f k (.int x)) → Ends p e below P T' (mkF m (pc + 1) Ls rest)) : Ends p e below P T (mkF m pc Ls (.int x :: .int j :: .ref a :: rest)) := by
  obtain ⟨cl, A, r1, r2, r3, r4⟩ := F
  obtain ⟨T1, h1, X1, e1, W1, st⟩ := Jvm.RoadKit.stI X hx hZ eT A (j := j) (x := x) (own_inb r1 hj hk) (g := mkF m pc Ls (.int x :: .int j :: .ref a :: rest)) rfl rfl hd
  rw [(own_idx hj).1] at W1
  exact Ends.by st (kk T1 h1 _ X1 e1 (own_snoc N ge) W1 (Af.set ⟨cl, A, r1, r2, r3, r4⟩ W1 hk rfl))
theorem Ends.stJ (X : Stand p l e R s m args below meth c T locs cells slots) (hx : p.tables.exec = Jvm.exec) (hZ : Z.Warmed39 s.vm) (eT : T.heap = h) (N : Fr n0 locs) (ge : n0 ≤ a) (F : Af Z h a .long n f) {j : Int32} {x : Int64} (hj : j.toInt = (k : Int)) (hk : k < n) {pc : Nat} {Ls : Array Slot} {rest : List Value} (hd : decode c.code pc = .ok (.lastore, 1))
    (kk : ∀ T' h' L', Stand p l e R s m args below meth c T' L' cells slots → T'.heap = h' → Fr n0 L' → Wr h h' a k (.long x) → Af Z h' a .long n (upd f k (.long x)) → Ends p e below P T' (mkF m (pc + 1) Ls rest)) : Ends p e below P T (mkF m pc Ls (.long x :: .int j :: .ref a :: rest)) := by
  obtain ⟨cl, A, r1, r2, r3, r4⟩ := F
  obtain ⟨T1, h1, X1, e1, W1, st⟩ := Jvm.RoadKit.stJ X hx hZ eT A (j := j) (x := x) (own_inb r1 hj hk) (g := mkF m pc Ls (.long x :: .int j :: .ref a :: rest)) rfl rfl hd
  rw [(own_idx hj).1] at W1
  exact Ends.by st (kk T1 h1 _ X1 e1 (own_snoc N ge) W1 (Af.set ⟨cl, A, r1, r2, r3, r4⟩ W1 hk rfl))
/-- a new array of bytes, ints, longs .. -/
theorem Ends.newA (X : Stand p l e R s m args below meth c T locs cells slots) (hx : p.tables.exec = Jvm.exec) (hZ : Z.Warmed39 s.vm) {aty : ArrayType} (w : (Jvm.Cond.arrayClass (newarray.typeOf aty)).before a0 Z = true) (eT : T.heap = h) {z : Int32} (hz : z.toInt = (n : Int)) (cap : Nat) (hcap : n ≤ cap) (hb : cap * 8 ≤ 536870912) (hc : cells + 1 ≤ R.cells) (hl : slots + cap ≤ R.slots) (hdf : fits (newarray.typeOf aty) (defaultValue (newarray.typeOf aty)) = true)
    {ad : String} (had : "[" ++ (newarray.typeOf aty).toString = ad) {pc : Nat} {Ls : Array Slot} {rest : List Value} (hd : decode c.code pc = .ok (.newarray aty, 2))
    (kk : ∀ T' h', Stand p l e R s m args below meth c T' locs (cells + 1) (slots + cap) → T'.heap = h' → Ext h h' → Af Z h' h.size (newarray.typeOf aty) n (fun _ => defaultValue (newarray.typeOf aty)) → Exa Z h' h.size ad → Ends p e below P T' (mkF m (pc + 2) Ls (.ref h.size :: rest))) : Ends p e below P T (mkF m pc Ls (.int z :: rest)) := by
  obtain ⟨q1, q2⟩ := own_idx hz
  obtain ⟨T1, h1, cA, X1, e1, E1, A1, Ex1, st⟩ := newPE X hx hZ w eT (g := mkF m pc Ls (.int z :: rest)) rfl hd rfl q2 (cap := cap) (by rw [q1]; exact hcap) hb hc hl had
  exact Ends.by st (kk T1 h1 X1 e1 E1 (Af.new A1 hz hdf) Ex1)
theorem own_updL (g : Nat → Int64) (k : Nat) (x : Int64) (q : Nat) : Value.long (upd g k x q) = upd (fun q => Value.long (g q)) k (.long x) q := by
  unfold upd; split <;> rfl
theorem own_updI (g : Nat → Int32) (k : Nat) (x : Int32) (q : Nat) : Value.int (upd g k x q) = upd (fun q => Value.int (g q)) k (.int x) q := by
  unfold upd; split <;> rfl
/-- an array's clone -/
theorem Ends.clone (X : Stand p l e R s m args below meth c T locs cells slots) (hx : p.tables.exec = Jvm.exec) (hZ : Z.Warmed39 s.vm) {own ad : String} {index : Nat} (hown : s.vm.findClass own = some m.cls)
    (w1 : (Jvm.Cond.methodLink own index ⟨ad, "clone", "()Ljava/lang/Object;"⟩).before a0 Z = true) (w2 : (Jvm.Cond.sameMethod ad "java/lang/Object" "clone" "()Ljava/lang/Object;").before a0 Z = true) (w3 : (Jvm.Cond.native ⟨"java/lang/Object", "clone", "()Ljava/lang/Object;"⟩).before a0 Z = true)
    (w4 : (Jvm.Cond.instanceMethod ⟨"java/lang/Object", "clone", "()Ljava/lang/Object;"⟩).before a0 Z = true) (w5 : (Jvm.Cond.selects ad ⟨ad, "clone", "()Ljava/lang/Object;"⟩ ⟨"java/lang/Object", "clone", "()Ljava/lang/Object;"⟩).before a0 Z = true) (w6 : (Jvm.Cond.castable ad "java/lang/Cloneable").before a0 Z = true)
    (eT : T.heap = h) (F : Af Z h a ty n f) (E : Exa Z h a ad) (W : Nat) {rest : List Value} (hW : (rest.map fun v => v.category).sum ≤ W) {pc : Nat} {Ls : Array Slot} (hsize : Ls.size = c.maxLocals) (hd : decode c.code pc = .ok (.invokevirtual index, 3))
    (hf : 1 ≤ R.frames) (hl : W + 14 ≤ R.locals) (hty : refKind ty = false) (cap : Nat) (hcap : n ≤ cap) (hc : cells + 1 ≤ R.cells) (hsl : slots + cap ≤ R.slots)
    (kk : ∀ T' h', Stand p l e R s m args below meth c T' locs (cells + 1) (slots + cap) → T'.heap = h' → Ext h h' → Af Z h' h.size ty n f → Exa Z h' h.size ad → Ends p e below P T' (mkF m (pc + 3) Ls (.ref h.size :: rest))) : Ends p e below P T (mkF m pc Ls (.ref a :: rest)) := by
  obtain ⟨cl, A, r1, r2, r3, r4⟩ := F
  have FC : FitC Z cl := fitC_of A fun i hi v hv => by rw [r3 i (r1 ▸ hi)] at hv; cases hv; exact r4 i (r1 ▸ hi)
  obtain ⟨T1, h1, X1, e1, E1, A1, Ex1, st⟩ := cloneA X hx hZ hown w1 w2 w3 w4 w5 w6 eT A E FC (g := mkF m pc Ls (.ref a :: rest)) rfl hsize rfl hd hf (W := W) (by show 2 * 0 + _ ≤ _; omega) hl (cap := cap) (by rw [r1]; exact hcap) hc hsl
  exact Ends.by st (kk T1 h1 X1 e1 E1 ⟨_, A1, r1, r2, r3, r4⟩ Ex1)
theorem own_apart {C : String} (F : Exa Z h a C) (G : Af Z h b ty n f) {kk : Nat} (wi : (Jvm.Cond.instantiable C kk).before a0 Z = true) : a ≠ b := by
  obtain ⟨cl, A, -⟩ := G; exact ne_arr F wi A
end Own2
end Jvm.Pilot.@@N@@
namespace Jvm.Pilot.@@N@@
open Jvm Jvm.ClassFile Sem Op Lib Jvm.Free Jvm.Stand Jvm.LawKit Jvm.RoadKit Bundle Jvm.Pilot.@@N@@.Jvm.D
theorem own_off {o : Int32} {O n : Nat} (ho : o.toInt = (O : Int)) (hO : O + 8 ≤ n) (hn : n ≤ 32) (d : Int32) (k : Nat) (hd : d.toInt = (k : Int)) (hk : k < 8) : (o + d).toInt = ((O + k : Nat) : Int) := by
  have e := c_iadd o d
  have r := rng32 (o + d)
  omega
theorem d1_0 : decode method_3_code 0 = .ok (.aload_n 0, 1) := by decide +kernel
theorem d1_1 : decode method_3_code 1 = .ok (.iload_n 1, 1) := by decide +kernel
theorem d1_2 : decode method_3_code 2 = .ok (.lload_n 2, 1) := by decide +kernel
theorem d1_3 : decode method_3_code 3 = .ok (.bipush 56, 2) := by decide +kernel
theorem d1_5 : decode method_3_code 5 = .ok (.lushr, 1) := by decide +kernel
theorem d1_6 : decode method_3_code 6 = .ok (.l2i, 1) := by decide +kernel
theorem d1_7 : decode method_3_code 7 = .ok (.i2b, 1) := by decide +kernel
theorem d1_8 : decode method_3_code 8 = .ok (.bastore, 1) := by decide +kernel
theorem d1_9 : decode method_3_code 9 = .ok (.aload_n 0, 1) := by decide +kernel
theorem d1_10 : decode method_3_code 10 = .ok (.iload_n 1, 1) := by decide +kernel
theorem d1_11 : decode method_3_code 11 = .ok (.iconst 1, 1) := by decide +kernel
theorem d1_12 : decode method_3_code 12 = .ok (.iadd, 1) := by decide +kernel
theorem d1_13 : decode method_3_code 13 = .ok (.lload_n 2, 1) := by decide +kernel
theorem d1_14 : decode method_3_code 14 = .ok (.bipush 48, 2) := by decide +kernel
theorem d1_16 : decode method_3_code 16 = .ok (.lushr, 1) := by decide +kernel
theorem d1_17 : decode method_3_code 17 = .ok (.l2i, 1) := by decide +kernel
theorem d1_18 : decode method_3_code 18 = .ok (.i2b, 1) := by decide +kernel
theorem d1_19 : decode method_3_code 19 = .ok (.bastore, 1) := by decide +kernel
theorem d1_20 : decode method_3_code 20 = .ok (.aload_n 0, 1) := by decide +kernel
theorem d1_21 : decode method_3_code 21 = .ok (.iload_n 1, 1) := by decide +kernel
theorem d1_22 : decode method_3_code 22 = .ok (.iconst 2, 1) := by decide +kernel
theorem d1_23 : decode method_3_code 23 = .ok (.iadd, 1) := by decide +kernel
theorem d1_24 : decode method_3_code 24 = .ok (.lload_n 2, 1) := by decide +kernel
theorem d1_25 : decode method_3_code 25 = .ok (.bipush 40, 2) := by decide +kernel
theorem d1_27 : decode method_3_code 27 = .ok (.lushr, 1) := by decide +kernel
theorem d1_28 : decode method_3_code 28 = .ok (.l2i, 1) := by decide +kernel
theorem d1_29 : decode method_3_code 29 = .ok (.i2b, 1) := by decide +kernel
theorem d1_30 : decode method_3_code 30 = .ok (.bastore, 1) := by decide +kernel
theorem d1_31 : decode method_3_code 31 = .ok (.aload_n 0, 1) := by decide +kernel
theorem d1_32 : decode method_3_code 32 = .ok (.iload_n 1, 1) := by decide +kernel
theorem d1_33 : decode method_3_code 33 = .ok (.iconst 3, 1) := by decide +kernel
theorem d1_34 : decode method_3_code 34 = .ok (.iadd, 1) := by decide +kernel
theorem d1_35 : decode method_3_code 35 = .ok (.lload_n 2, 1) := by decide +kernel
theorem d1_36 : decode method_3_code 36 = .ok (.bipush 32, 2) := by decide +kernel
theorem d1_38 : decode method_3_code 38 = .ok (.lushr, 1) := by decide +kernel
theorem d1_39 : decode method_3_code 39 = .ok (.l2i, 1) := by decide +kernel
theorem d1_40 : decode method_3_code 40 = .ok (.i2b, 1) := by decide +kernel
theorem d1_41 : decode method_3_code 41 = .ok (.bastore, 1) := by decide +kernel
theorem d1_42 : decode method_3_code 42 = .ok (.aload_n 0, 1) := by decide +kernel
theorem d1_43 : decode method_3_code 43 = .ok (.iload_n 1, 1) := by decide +kernel
theorem d1_44 : decode method_3_code 44 = .ok (.iconst 4, 1) := by decide +kernel
theorem d1_45 : decode method_3_code 45 = .ok (.iadd, 1) := by decide +kernel
theorem d1_46 : decode method_3_code 46 = .ok (.lload_n 2, 1) := by decide +kernel
theorem d1_47 : decode method_3_code 47 = .ok (.bipush 24, 2) := by decide +kernel
theorem d1_49 : decode method_3_code 49 = .ok (.lushr, 1) := by decide +kernel
theorem d1_50 : decode method_3_code 50 = .ok (.l2i, 1) := by decide +kernel
theorem d1_51 : decode method_3_code 51 = .ok (.i2b, 1) := by decide +kernel
theorem d1_52 : decode method_3_code 52 = .ok (.bastore, 1) := by decide +kernel
theorem d1_53 : decode method_3_code 53 = .ok (.aload_n 0, 1) := by decide +kernel
theorem d1_54 : decode method_3_code 54 = .ok (.iload_n 1, 1) := by decide +kernel
theorem d1_55 : decode method_3_code 55 = .ok (.iconst 5, 1) := by decide +kernel
theorem d1_56 : decode method_3_code 56 = .ok (.iadd, 1) := by decide +kernel
theorem d1_57 : decode method_3_code 57 = .ok (.lload_n 2, 1) := by decide +kernel
theorem d1_58 : decode method_3_code 58 = .ok (.bipush 16, 2) := by decide +kernel
theorem d1_60 : decode method_3_code 60 = .ok (.lushr, 1) := by decide +kernel
theorem d1_61 : decode method_3_code 61 = .ok (.l2i, 1) := by decide +kernel
theorem d1_62 : decode method_3_code 62 = .ok (.i2b, 1) := by decide +kernel
theorem d1_63 : decode method_3_code 63 = .ok (.bastore, 1) := by decide +kernel
theorem d1_64 : decode method_3_code 64 = .ok (.aload_n 0, 1) := by decide +kernel
theorem d1_65 : decode method_3_code 65 = .ok (.iload_n 1, 1) := by decide +kernel
theorem d1_66 : decode method_3_code 66 = .ok (.bipush 6, 2) := by decide +kernel
theorem d1_68 : decode method_3_code 68 = .ok (.iadd, 1) := by decide +kernel
theorem d1_69 : decode method_3_code 69 = .ok (.lload_n 2, 1) := by decide +kernel
theorem d1_70 : decode method_3_code 70 = .ok (.bipush 8, 2) := by decide +kernel
theorem d1_72 : decode method_3_code 72 = .ok (.lushr, 1) := by decide +kernel
theorem d1_73 : decode method_3_code 73 = .ok (.l2i, 1) := by decide +kernel
theorem d1_74 : decode method_3_code 74 = .ok (.i2b, 1) := by decide +kernel
theorem d1_75 : decode method_3_code 75 = .ok (.bastore, 1) := by decide +kernel
theorem d1_76 : decode method_3_code 76 = .ok (.aload_n 0, 1) := by decide +kernel
theorem d1_77 : decode method_3_code 77 = .ok (.iload_n 1, 1) := by decide +kernel
theorem d1_78 : decode method_3_code 78 = .ok (.bipush 7, 2) := by decide +kernel
theorem d1_80 : decode method_3_code 80 = .ok (.iadd, 1) := by decide +kernel
theorem d1_81 : decode method_3_code 81 = .ok (.lload_n 2, 1) := by decide +kernel
theorem d1_82 : decode method_3_code 82 = .ok (.l2i, 1) := by decide +kernel
theorem d1_83 : decode method_3_code 83 = .ok (.i2b, 1) := by decide +kernel
theorem d1_84 : decode method_3_code 84 = .ok (.bastore, 1) := by decide +kernel
theorem d1_85 : decode method_3_code 85 = .ok (.return_, 1) := by decide +kernel
theorem pd_1 : parseMethodDescriptor "([BIJ)V" = some ⟨[(.array .byte), .int, .long], none⟩ := by decide +kernel
theorem pf_1 : plainFor (⟨"com/example/shoalkeep/shoalkeep/IdentifierOfPinLaw", "put", "([BIJ)V"⟩ : MethodName) = true := plainFor_of_name (by first | (simp [plainName, overriddenIn, x]; done) | decide +kernel)
theorem ef_1 (m : MethodId) (ar : Addr) (o : Int32) (v : Int64) : entryFrame m #[(.ref ar), (.int o), (.long v)] 4 = mkF m 0 #[.val (.ref ar), .val (.int o), .val (.long v), .second] [] := by first | (simp [entryFrame, mkF, argsToLocals, Value.category]; done) | rfl
def own_put (g : Nat → Int32) (O : Nat) (v : Int64) : Nat → Int32 := (upd (upd (upd (upd (upd (upd (upd (upd g O (((((v.toUInt64 >>> (((56 : Int32)) &&& 0x3f).toInt64.toUInt64).toInt64).toInt32).toInt8.toInt32).toInt8.toInt32)) (O + 1) (((((v.toUInt64 >>> (((48 : Int32)) &&& 0x3f).toInt64.toUInt64).toInt64).toInt32).toInt8.toInt32).toInt8.toInt32)) (O + 2) (((((v.toUInt64 >>> (((40 : Int32)) &&& 0x3f).toInt64.toUInt64).toInt64).toInt32).toInt8.toInt32).toInt8.toInt32)) (O + 3) (((((v.toUInt64 >>> (((32 : Int32)) &&& 0x3f).toInt64.toUInt64).toInt64).toInt32).toInt8.toInt32).toInt8.toInt32)) (O + 4) (((((v.toUInt64 >>> (((24 : Int32)) &&& 0x3f).toInt64.toUInt64).toInt64).toInt32).toInt8.toInt32).toInt8.toInt32)) (O + 5) (((((v.toUInt64 >>> (((16 : Int32)) &&& 0x3f).toInt64.toUInt64).toInt64).toInt32).toInt8.toInt32).toInt8.toInt32)) (O + 6) (((((v.toUInt64 >>> (((8 : Int32)) &&& 0x3f).toInt64.toUInt64).toInt64).toInt32).toInt8.toInt32).toInt8.toInt32)) (O + 7) (((v.toInt32).toInt8.toInt32).toInt8.toInt32))
set_option maxRecDepth 65536 in
set_option maxHeartbeats 40000000 in
theorem con_1 (l : Launch) (Z : State) (a0 : Array Value) (hw : ∀ d ∈ tables_1, d.before a0 Z = true) (ar : Addr) (o : Int32) (v : Int64) (n O : Nat) (g : Nat → Int32) (h0 : Heap) (n0 : Nat) (Z0 : n0 ≤ h0.size) (A0 : Af Z h0 ar .byte n (fun q => .int (g q))) (ho : o.toInt = (O : Int)) (hO : O + 8 ≤ n) (hn : n ≤ 32) (gar : n0 ≤ ar) : Con l Z (⟨"com/example/shoalkeep/shoalkeep/IdentifierOfPinLaw", "put", "([BIJ)V"⟩ : MethodName) method_3_code 4 none ({ frames := 0, cells := 0, slots := 0, locals := 0 } : Room) #[(.ref ar), (.int o), (.long v)] h0 (fun v' h L => v' = none ∧ Fr n0 L ∧ Keep h0 h [ar] ∧ Af Z h ar .byte n (fun q => .int (own_put g O v q))) := by
  refine Con.intro pf_1 ?_
  intro p e s m below meth c s₁ hx hby hml hown hnm hret hlk hZ X0 e0
  refine Ends.cast (ef_1 m ar o v) ?_
  have N0 := Fr.nil n0
  have K0 : Keep h0 h0 [ar] := Keep.refl _ _
  refine Ends.by (fun _ => XS.aloadN X0.here hx rfl (hb hby d1_0) rfl rfl) ?_
  show Ends p e below _ s₁ (mkF m 1 #[.val (.ref ar), .val (.int o), .val (.long v), .second] [(.ref ar)])
  refine Ends.by (fun _ => XS.iloadN X0.here hx rfl (hb hby d1_1) rfl) ?_
  show Ends p e below _ s₁ (mkF m 2 #[.val (.ref ar), .val (.int o), .val (.long v), .second] [(.int o), (.ref ar)])
  refine Ends.by (fun _ => XS.lloadN X0.here hx rfl (hb hby d1_2) rfl) ?_
  show Ends p e below _ s₁ (mkF m 3 #[.val (.ref ar), .val (.int o), .val (.long v), .second] [(.long v), (.int o), (.ref ar)])
  refine Ends.by (fun _ => XS.bipush X0.here hx rfl (hb hby d1_3)) ?_
  show Ends p e below _ s₁ (mkF m 5 #[.val (.ref ar), .val (.int o), .val (.long v), .second] [(.int (56 : Int32)), (.long v), (.int o), (.ref ar)])
  refine Ends.by (fun _ => XS.lushr X0.here hx rfl (hb hby d1_5) rfl) ?_
  show Ends p e below _ s₁ (mkF m 6 #[.val (.ref ar), .val (.int o), .val (.long v), .second] [(.long ((v.toUInt64 >>> ((56 : Int32) &&& 0x3f).toInt64.toUInt64).toInt64)), (.int o), (.ref ar)])
  refine Ends.by (fun _ => XS.l2i X0.here hx rfl (hb hby d1_6) rfl) ?_
  show Ends p e below _ s₁ (mkF m 7 #[.val (.ref ar), .val (.int o), .val (.long v), .second] [(.int (((v.toUInt64 >>> ((56 : Int32) &&& 0x3f).toInt64.toUInt64).toInt64).toInt32)), (.int o), (.ref ar)])
  refine Ends.by (fun _ => XS.i2b X0.here hx rfl (hb hby d1_7) rfl) ?_
  show Ends p e below _ s₁ (mkF m 8 #[.val (.ref ar), .val (.int o), .val (.long v), .second] [(.int ((((v.toUInt64 >>> ((56 : Int32) &&& 0x3f).toInt64.toUInt64).toInt64).toInt32).toInt8.toInt32)), (.int o), (.ref ar)])
  refine Ends.stB X0 hx hZ e0 N0 gar A0 (k := O) ho (by omega) (hb hby d1_8) ?_
  intro T1 h1 L1 X1 e1 N1 W1 B1
  have C1 : Af Z h1 ar .byte n (fun q => .int ((upd g O (((((v.toUInt64 >>> ((56 : Int32) &&& 0x3f).toInt64.toUInt64).toInt64).toInt32).toInt8.toInt32)).toInt8.toInt32) q)) := B1.congr (fun q _ => own_updI g O _ q)
  have Z1 : n0 ≤ h1.size := Nat.le_trans Z0 (Nat.le_of_eq W1.size.symm)
  have K1 : Keep h0 h1 [ar] := K0.wr W1 (Or.inl (List.mem_of_getElem? (i := 0) rfl))
  show Ends p e below _ T1 (mkF m 9 #[.val (.ref ar), .val (.int o), .val (.long v), .second] [])
  refine Ends.by (fun _ => XS.aloadN X1.here hx rfl (hb hby d1_9) rfl rfl) ?_
  show Ends p e below _ T1 (mkF m 10 #[.val (.ref ar), .val (.int o), .val (.long v), .second] [(.ref ar)])
  refine Ends.by (fun _ => XS.iloadN X1.here hx rfl (hb hby d1_10) rfl) ?_
  show Ends p e below _ T1 (mkF m 11 #[.val (.ref ar), .val (.int o), .val (.long v), .second] [(.int o), (.ref ar)])
  refine Ends.by (fun _ => XS.iconst X1.here hx rfl (hb hby d1_11)) ?_
  show Ends p e below _ T1 (mkF m 12 #[.val (.ref ar), .val (.int o), .val (.long v), .second] [(.int (1 : Int32)), (.int o), (.ref ar)])
  refine Ends.by (fun _ => XS.iadd X1.here hx rfl (hb hby d1_12) rfl) ?_
  show Ends p e below _ T1 (mkF m 13 #[.val (.ref ar), .val (.int o), .val (.long v), .second] [(.int (o + (1 : Int32))), (.ref ar)])
  refine Ends.by (fun _ => XS.lloadN X1.here hx rfl (hb hby d1_13) rfl) ?_
  show Ends p e below _ T1 (mkF m 14 #[.val (.ref ar), .val (.int o), .val (.long v), .second] [(.long v), (.int (o + (1 : Int32))), (.ref ar)])
  refine Ends.by (fun _ => XS.bipush X1.here hx rfl (hb hby d1_14)) ?_
  show Ends p e below _ T1 (mkF m 16 #[.val (.ref ar), .val (.int o), .val (.long v), .second] [(.int (48 : Int32)), (.long v), (.int (o + (1 : Int32))), (.ref ar)])
  refine Ends.by (fun _ => XS.lushr X1.here hx rfl (hb hby d1_16) rfl) ?_
  show Ends p e below _ T1 (mkF m 17 #[.val (.ref ar), .val (.int o), .val (.long v), .second] [(.long ((v.toUInt64 >>> ((48 : Int32) &&& 0x3f).toInt64.toUInt64).toInt64)), (.int (o + (1 : Int32))), (.ref ar)])
  refine Ends.by (fun _ => XS.l2i X1.here hx rfl (hb hby d1_17) rfl) ?_
  show Ends p e below _ T1 (mkF m 18 #[.val (.ref ar), .val (.int o), .val (.long v), .second] [(.int (((v.toUInt64 >>> ((48 : Int32) &&& 0x3f).toInt64.toUInt64).toInt64).toInt32)), (.int (o + (1 : Int32))), (.ref ar)])
  refine Ends.by (fun _ => XS.i2b X1.here hx rfl (hb hby d1_18) rfl) ?_
  show Ends p e below _ T1 (mkF m 19 #[.val (.ref ar), .val (.int o), .val (.long v), .second] [(.int ((((v.toUInt64 >>> ((48 : Int32) &&& 0x3f).toInt64.toUInt64).toInt64).toInt32).toInt8.toInt32)), (.int (o + (1 : Int32))), (.ref ar)])
  refine Ends.stB X1 hx hZ e1 N1 gar C1 (k := (O + 1)) (own_off ho hO hn _ 1 (by decide) (by decide)) (by omega) (hb hby d1_19) ?_
  intro T2 h2 L2 X2 e2 N2 W2 B2
  have C2 : Af Z h2 ar .byte n (fun q => .int ((upd (upd g O (((((v.toUInt64 >>> ((56 : Int32) &&& 0x3f).toInt64.toUInt64).toInt64).toInt32).toInt8.toInt32)).toInt8.toInt32) (O + 1) (((((v.toUInt64 >>> ((48 : Int32) &&& 0x3f).toInt64.toUInt64).toInt64).toInt32).toInt8.toInt32)).toInt8.toInt32) q)) := B2.congr (fun q _ => own_updI (upd g O (((((v.toUInt64 >>> ((56 : Int32) &&& 0x3f).toInt64.toUInt64).toInt64).toInt32).toInt8.toInt32)).toInt8.toInt32) (O + 1) _ q)
  have Z2 : n0 ≤ h2.size := Nat.le_trans Z1 (Nat.le_of_eq W2.size.symm)
  have K2 : Keep h0 h2 [ar] := K1.wr W2 (Or.inl (List.mem_of_getElem? (i := 0) rfl))
  show Ends p e below _ T2 (mkF m 20 #[.val (.ref ar), .val (.int o), .val (.long v), .second] [])
  refine Ends.by (fun _ => XS.aloadN X2.here hx rfl (hb hby d1_20) rfl rfl) ?_
  show Ends p e below _ T2 (mkF m 21 #[.val (.ref ar), .val (.int o), .val (.long v), .second] [(.ref ar)])
  refine Ends.by (fun _ => XS.iloadN X2.here hx rfl (hb hby d1_21) rfl) ?_
  show Ends p e below _ T2 (mkF m 22 #[.val (.ref ar), .val (.int o), .val (.long v), .second] [(.int o), (.ref ar)])
  refine Ends.by (fun _ => XS.iconst X2.here hx rfl (hb hby d1_22)) ?_
  show Ends p e below _ T2 (mkF m 23 #[.val (.ref ar), .val (.int o), .val (.long v), .second] [(.int (2 : Int32)), (.int o), (.ref ar)])
  refine Ends.by (fun _ => XS.iadd X2.here hx rfl (hb hby d1_23) rfl) ?_
  show Ends p e below _ T2 (mkF m 24 #[.val (.ref ar), .val (.int o), .val (.long v), .second] [(.int (o + (2 : Int32))), (.ref ar)])
  refine Ends.by (fun _ => XS.lloadN X2.here hx rfl (hb hby d1_24) rfl) ?_
  show Ends p e below _ T2 (mkF m 25 #[.val (.ref ar), .val (.int o), .val (.long v), .second] [(.long v), (.int (o + (2 : Int32))), (.ref ar)])
  refine Ends.by (fun _ => XS.bipush X2.here hx rfl (hb hby d1_25)) ?_
  show Ends p e below _ T2 (mkF m 27 #[.val (.ref ar), .val (.int o), .val (.long v), .second] [(.int (40 : Int32)), (.long v), (.int (o + (2 : Int32))), (.ref ar)])
  refine Ends.by (fun _ => XS.lushr X2.here hx rfl (hb hby d1_27) rfl) ?_
  show Ends p e below _ T2 (mkF m 28 #[.val (.ref ar), .val (.int o), .val (.long v), .second] [(.long ((v.toUInt64 >>> ((40 : Int32) &&& 0x3f).toInt64.toUInt64).toInt64)), (.int (o + (2 : Int32))), (.ref ar)])
  refine Ends.by (fun _ => XS.l2i X2.here hx rfl (hb hby d1_28) rfl) ?_
  show Ends p e below _ T2 (mkF m 29 #[.val (.ref ar), .val (.int o), .val (.long v), .second] [(.int (((v.toUInt64 >>> ((40 : Int32) &&& 0x3f).toInt64.toUInt64).toInt64).toInt32)), (.int (o + (2 : Int32))), (.ref ar)])
  refine Ends.by (fun _ => XS.i2b X2.here hx rfl (hb hby d1_29) rfl) ?_
  show Ends p e below _ T2 (mkF m 30 #[.val (.ref ar), .val (.int o), .val (.long v), .second] [(.int ((((v.toUInt64 >>> ((40 : Int32) &&& 0x3f).toInt64.toUInt64).toInt64).toInt32).toInt8.toInt32)), (.int (o + (2 : Int32))), (.ref ar)])
  refine Ends.stB X2 hx hZ e2 N2 gar C2 (k := (O + 2)) (own_off ho hO hn _ 2 (by decide) (by decide)) (by omega) (hb hby d1_30) ?_
  intro T3 h3 L3 X3 e3 N3 W3 B3
  have C3 : Af Z h3 ar .byte n (fun q => .int ((upd (upd (upd g O (((((v.toUInt64 >>> ((56 : Int32) &&& 0x3f).toInt64.toUInt64).toInt64).toInt32).toInt8.toInt32)).toInt8.toInt32) (O + 1) (((((v.toUInt64 >>> ((48 : Int32) &&& 0x3f).toInt64.toUInt64).toInt64).toInt32).toInt8.toInt32)).toInt8.toInt32) (O + 2) (((((v.toUInt64 >>> ((40 : Int32) &&& 0x3f).toInt64.toUInt64).toInt64).toInt32).toInt8.toInt32)).toInt8.toInt32) q)) := B3.congr (fun q _ => own_updI (upd (upd g O (((((v.toUInt64 >>> ((56 : Int32) &&& 0x3f).toInt64.toUInt64).toInt64).toInt32).toInt8.toInt32)).toInt8.toInt32) (O + 1) (((((v.toUInt64 >>> ((48 : Int32) &&& 0x3f).toInt64.toUInt64).toInt64).toInt32).toInt8.toInt32)).toInt8.toInt32) (O + 2) _ q)
  have Z3 : n0 ≤ h3.size := Nat.le_trans Z2 (Nat.le_of_eq W3.size.symm)
  have K3 : Keep h0 h3 [ar] := K2.wr W3 (Or.inl (List.mem_of_getElem? (i := 0) rfl))
  show Ends p e below _ T3 (mkF m 31 #[.val (.ref ar), .val (.int o), .val (.long v), .second] [])
  refine Ends.by (fun _ => XS.aloadN X3.here hx rfl (hb hby d1_31) rfl rfl) ?_
  show Ends p e below _ T3 (mkF m 32 #[.val (.ref ar), .val (.int o), .val (.long v), .second] [(.ref ar)])
  refine Ends.by (fun _ => XS.iloadN X3.here hx rfl (hb hby d1_32) rfl) ?_
  show Ends p e below _ T3 (mkF m 33 #[.val (.ref ar), .val (.int o), .val (.long v), .second] [(.int o), (.ref ar)])
  refine Ends.by (fun _ => XS.iconst X3.here hx rfl (hb hby d1_33)) ?_
  show Ends p e below _ T3 (mkF m 34 #[.val (.ref ar), .val (.int o), .val (.long v), .second] [(.int (3 : Int32)), (.int o), (.ref ar)])
  refine Ends.by (fun _ => XS.iadd X3.here hx rfl (hb hby d1_34) rfl) ?_
  show Ends p e below _ T3 (mkF m 35 #[.val (.ref ar), .val (.int o), .val (.long v), .second] [(.int (o + (3 : Int32))), (.ref ar)])
  refine Ends.by (fun _ => XS.lloadN X3.here hx rfl (hb hby d1_35) rfl) ?_
  show Ends p e below _ T3 (mkF m 36 #[.val (.ref ar), .val (.int o), .val (.long v), .second] [(.long v), (.int (o + (3 : Int32))), (.ref ar)])
  refine Ends.by (fun _ => XS.bipush X3.here hx rfl (hb hby d1_36)) ?_
  show Ends p e below _ T3 (mkF m 38 #[.val (.ref ar), .val (.int o), .val (.long v), .second] [(.int (32 : Int32)), (.long v), (.int (o + (3 : Int32))), (.ref ar)])
  refine Ends.by (fun _ => XS.lushr X3.here hx rfl (hb hby d1_38) rfl) ?_
  show Ends p e below _ T3 (mkF m 39 #[.val (.ref ar), .val (.int o), .val (.long v), .second] [(.long ((v.toUInt64 >>> ((32 : Int32) &&& 0x3f).toInt64.toUInt64).toInt64)), (.int (o + (3 : Int32))), (.ref ar)])
  refine Ends.by (fun _ => XS.l2i X3.here hx rfl (hb hby d1_39) rfl) ?_
  show Ends p e below _ T3 (mkF m 40 #[.val (.ref ar), .val (.int o), .val (.long v), .second] [(.int (((v.toUInt64 >>> ((32 : Int32) &&& 0x3f).toInt64.toUInt64).toInt64).toInt32)), (.int (o + (3 : Int32))), (.ref ar)])
  refine Ends.by (fun _ => XS.i2b X3.here hx rfl (hb hby d1_40) rfl) ?_
  show Ends p e below _ T3 (mkF m 41 #[.val (.ref ar), .val (.int o), .val (.long v), .second] [(.int ((((v.toUInt64 >>> ((32 : Int32) &&& 0x3f).toInt64.toUInt64).toInt64).toInt32).toInt8.toInt32)), (.int (o + (3 : Int32))), (.ref ar)])
  refine Ends.stB X3 hx hZ e3 N3 gar C3 (k := (O + 3)) (own_off ho hO hn _ 3 (by decide) (by decide)) (by omega) (hb hby d1_41) ?_
  intro T4 h4 L4 X4 e4 N4 W4 B4
  have C4 : Af Z h4 ar .byte n (fun q => .int ((upd (upd (upd (upd g O (((((v.toUInt64 >>> ((56 : Int32) &&& 0x3f).toInt64.toUInt64).toInt64).toInt32).toInt8.toInt32)).toInt8.toInt32) (O + 1) (((((v.toUInt64 >>> ((48 : Int32) &&& 0x3f).toInt64.toUInt64).toInt64).toInt32).toInt8.toInt32)).toInt8.toInt32) (O + 2) (((((v.toUInt64 >>> ((40 : Int32) &&& 0x3f).toInt64.toUInt64).toInt64).toInt32).toInt8.toInt32)).toInt8.toInt32) (O + 3) (((((v.toUInt64 >>> ((32 : Int32) &&& 0x3f).toInt64.toUInt64).toInt64).toInt32).toInt8.toInt32)).toInt8.toInt32) q)) := B4.congr (fun q _ => own_updI (upd (upd (upd g O (((((v.toUInt64 >>> ((56 : Int32) &&& 0x3f).toInt64.toUInt64).toInt64).toInt32).toInt8.toInt32)).toInt8.toInt32) (O + 1) (((((v.toUInt64 >>> ((48 : Int32) &&& 0x3f).toInt64.toUInt64).toInt64).toInt32).toInt8.toInt32)).toInt8.toInt32) (O + 2) (((((v.toUInt64 >>> ((40 : Int32) &&& 0x3f).toInt64.toUInt64).toInt64).toInt32).toInt8.toInt32)).toInt8.toInt32) (O + 3) _ q)
  have Z4 : n0 ≤ h4.size := Nat.le_trans Z3 (Nat.le_of_eq W4.size.symm)
  have K4 : Keep h0 h4 [ar] := K3.wr W4 (Or.inl (List.mem_of_getElem? (i := 0) rfl))
  show Ends p e below _ T4 (mkF m 42 #[.val (.ref ar), .val (.int o), .val (.long v), .second] [])
  refine Ends.by (fun _ => XS.aloadN X4.here hx rfl (hb hby d1_42) rfl rfl) ?_
  show Ends p e below _ T4 (mkF m 43 #[.val (.ref ar), .val (.int o), .val (.long v), .second] [(.ref ar)])
  refine Ends.by (fun _ => XS.iloadN X4.here hx rfl (hb hby d1_43) rfl) ?_
  show Ends p e below _ T4 (mkF m 44 #[.val (.ref ar), .val (.int o), .val (.long v), .second] [(.int o), (.ref ar)])
  refine Ends.by (fun _ => XS.iconst X4.here hx rfl (hb hby d1_44)) ?_
  show Ends p e below _ T4 (mkF m 45 #[.val (.ref ar), .val (.int o), .val (.long v), .second] [(.int (4 : Int32)), (.int o), (.ref ar)])
  refine Ends.by (fun _ => XS.iadd X4.here hx rfl (hb hby d1_45) rfl) ?_
  show Ends p e below _ T4 (mkF m 46 #[.val (.ref ar), .val (.int o), .val (.long v), .second] [(.int (o + (4 : Int32))), (.ref ar)])
  refine Ends.by (fun _ => XS.lloadN X4.here hx rfl (hb hby d1_46) rfl) ?_
  show Ends p e below _ T4 (mkF m 47 #[.val (.ref ar), .val (.int o), .val (.long v), .second] [(.long v), (.int (o + (4 : Int32))), (.ref ar)])
  refine Ends.by (fun _ => XS.bipush X4.here hx rfl (hb hby d1_47)) ?_
  show Ends p e below _ T4 (mkF m 49 #[.val (.ref ar), .val (.int o), .val (.long v), .second] [(.int (24 : Int32)), (.long v), (.int (o + (4 : Int32))), (.ref ar)])
  refine Ends.by (fun _ => XS.lushr X4.here hx rfl (hb hby d1_49) rfl) ?_
  show Ends p e below _ T4 (mkF m 50 #[.val (.ref ar), .val (.int o), .val (.long v), .second] [(.long ((v.toUInt64 >>> ((24 : Int32) &&& 0x3f).toInt64.toUInt64).toInt64)), (.int (o + (4 : Int32))), (.ref ar)])
  refine Ends.by (fun _ => XS.l2i X4.here hx rfl (hb hby d1_50) rfl) ?_
  show Ends p e below _ T4 (mkF m 51 #[.val (.ref ar), .val (.int o), .val (.long v), .second] [(.int (((v.toUInt64 >>> ((24 : Int32) &&& 0x3f).toInt64.toUInt64).toInt64).toInt32)), (.int (o + (4 : Int32))), (.ref ar)])
  refine Ends.by (fun _ => XS.i2b X4.here hx rfl (hb hby d1_51) rfl) ?_
  show Ends p e below _ T4 (mkF m 52 #[.val (.ref ar), .val (.int o), .val (.long v), .second] [(.int ((((v.toUInt64 >>> ((24 : Int32) &&& 0x3f).toInt64.toUInt64).toInt64).toInt32).toInt8.toInt32)), (.int (o + (4 : Int32))), (.ref ar)])
  refine Ends.stB X4 hx hZ e4 N4 gar C4 (k := (O + 4)) (own_off ho hO hn _ 4 (by decide) (by decide)) (by omega) (hb hby d1_52) ?_
  intro T5 h5 L5 X5 e5 N5 W5 B5
  have C5 : Af Z h5 ar .byte n (fun q => .int ((upd (upd (upd (upd (upd g O (((((v.toUInt64 >>> ((56 : Int32) &&& 0x3f).toInt64.toUInt64).toInt64).toInt32).toInt8.toInt32)).toInt8.toInt32) (O + 1) (((((v.toUInt64 >>> ((48 : Int32) &&& 0x3f).toInt64.toUInt64).toInt64).toInt32).toInt8.toInt32)).toInt8.toInt32) (O + 2) (((((v.toUInt64 >>> ((40 : Int32) &&& 0x3f).toInt64.toUInt64).toInt64).toInt32).toInt8.toInt32)).toInt8.toInt32) (O + 3) (((((v.toUInt64 >>> ((32 : Int32) &&& 0x3f).toInt64.toUInt64).toInt64).toInt32).toInt8.toInt32)).toInt8.toInt32) (O + 4) (((((v.toUInt64 >>> ((24 : Int32) &&& 0x3f).toInt64.toUInt64).toInt64).toInt32).toInt8.toInt32)).toInt8.toInt32) q)) := B5.congr (fun q _ => own_updI (upd (upd (upd (upd g O (((((v.toUInt64 >>> ((56 : Int32) &&& 0x3f).toInt64.toUInt64).toInt64).toInt32).toInt8.toInt32)).toInt8.toInt32) (O + 1) (((((v.toUInt64 >>> ((48 : Int32) &&& 0x3f).toInt64.toUInt64).toInt64).toInt32).toInt8.toInt32)).toInt8.toInt32) (O + 2) (((((v.toUInt64 >>> ((40 : Int32) &&& 0x3f).toInt64.toUInt64).toInt64).toInt32).toInt8.toInt32)).toInt8.toInt32) (O + 3) (((((v.toUInt64 >>> ((32 : Int32) &&& 0x3f).toInt64.toUInt64).toInt64).toInt32).toInt8.toInt32)).toInt8.toInt32) (O + 4) _ q)
  have Z5 : n0 ≤ h5.size := Nat.le_trans Z4 (Nat.le_of_eq W5.size.symm)
  have K5 : Keep h0 h5 [ar] := K4.wr W5 (Or.inl (List.mem_of_getElem? (i := 0) rfl))
  show Ends p e below _ T5 (mkF m 53 #[.val (.ref ar), .val (.int o), .val (.long v), .second] [])
  refine Ends.by (fun _ => XS.aloadN X5.here hx rfl (hb hby d1_53) rfl rfl) ?_
  show Ends p e below _ T5 (mkF m 54 #[.val (.ref ar), .val (.int o), .val (.long v), .second] [(.ref ar)])
  refine Ends.by (fun _ => XS.iloadN X5.here hx rfl (hb hby d1_54) rfl) ?_
  show Ends p e below _ T5 (mkF m 55 #[.val (.ref ar), .val (.int o), .val (.long v), .second] [(.int o), (.ref ar)])
  refine Ends.by (fun _ => XS.iconst X5.here hx rfl (hb hby d1_55)) ?_
  show Ends p e below _ T5 (mkF m 56 #[.val (.ref ar), .val (.int o), .val (.long v), .second] [(.int (5 : Int32)), (.int o), (.ref ar)])
  refine Ends.by (fun _ => XS.iadd X5.here hx rfl (hb hby d1_56) rfl) ?_
  show Ends p e below _ T5 (mkF m 57 #[.val (.ref ar), .val (.int o), .val (.long v), .second] [(.int (o + (5 : Int32))), (.ref ar)])
  refine Ends.by (fun _ => XS.lloadN X5.here hx rfl (hb hby d1_57) rfl) ?_
  show Ends p e below _ T5 (mkF m 58 #[.val (.ref ar), .val (.int o), .val (.long v), .second] [(.long v), (.int (o + (5 : Int32))), (.ref ar)])
  refine Ends.by (fun _ => XS.bipush X5.here hx rfl (hb hby d1_58)) ?_
  show Ends p e below _ T5 (mkF m 60 #[.val (.ref ar), .val (.int o), .val (.long v), .second] [(.int (16 : Int32)), (.long v), (.int (o + (5 : Int32))), (.ref ar)])
  refine Ends.by (fun _ => XS.lushr X5.here hx rfl (hb hby d1_60) rfl) ?_
  show Ends p e below _ T5 (mkF m 61 #[.val (.ref ar), .val (.int o), .val (.long v), .second] [(.long ((v.toUInt64 >>> ((16 : Int32) &&& 0x3f).toInt64.toUInt64).toInt64)), (.int (o + (5 : Int32))), (.ref ar)])
  refine Ends.by (fun _ => XS.l2i X5.here hx rfl (hb hby d1_61) rfl) ?_
  show Ends p e below _ T5 (mkF m 62 #[.val (.ref ar), .val (.int o), .val (.long v), .second] [(.int (((v.toUInt64 >>> ((16 : Int32) &&& 0x3f).toInt64.toUInt64).toInt64).toInt32)), (.int (o + (5 : Int32))), (.ref ar)])
  refine Ends.by (fun _ => XS.i2b X5.here hx rfl (hb hby d1_62) rfl) ?_
  show Ends p e below _ T5 (mkF m 63 #[.val (.ref ar), .val (.int o), .val (.long v), .second] [(.int ((((v.toUInt64 >>> ((16 : Int32) &&& 0x3f).toInt64.toUInt64).toInt64).toInt32).toInt8.toInt32)), (.int (o + (5 : Int32))), (.ref ar)])
  refine Ends.stB X5 hx hZ e5 N5 gar C5 (k := (O + 5)) (own_off ho hO hn _ 5 (by decide) (by decide)) (by omega) (hb hby d1_63) ?_
  intro T6 h6 L6 X6 e6 N6 W6 B6
  have C6 : Af Z h6 ar .byte n (fun q => .int ((upd (upd (upd (upd (upd (upd g O (((((v.toUInt64 >>> ((56 : Int32) &&& 0x3f).toInt64.toUInt64).toInt64).toInt32).toInt8.toInt32)).toInt8.toInt32) (O + 1) (((((v.toUInt64 >>> ((48 : Int32) &&& 0x3f).toInt64.toUInt64).toInt64).toInt32).toInt8.toInt32)).toInt8.toInt32) (O + 2) (((((v.toUInt64 >>> ((40 : Int32) &&& 0x3f).toInt64.toUInt64).toInt64).toInt32).toInt8.toInt32)).toInt8.toInt32) (O + 3) (((((v.toUInt64 >>> ((32 : Int32) &&& 0x3f).toInt64.toUInt64).toInt64).toInt32).toInt8.toInt32)).toInt8.toInt32) (O + 4) (((((v.toUInt64 >>> ((24 : Int32) &&& 0x3f).toInt64.toUInt64).toInt64).toInt32).toInt8.toInt32)).toInt8.toInt32) (O + 5) (((((v.toUInt64 >>> ((16 : Int32) &&& 0x3f).toInt64.toUInt64).toInt64).toInt32).toInt8.toInt32)).toInt8.toInt32) q)) := B6.congr (fun q _ => own_updI (upd (upd (upd (upd (upd g O (((((v.toUInt64 >>> ((56 : Int32) &&& 0x3f).toInt64.toUInt64).toInt64).toInt32).toInt8.toInt32)).toInt8.toInt32) (O + 1) (((((v.toUInt64 >>> ((48 : Int32) &&& 0x3f).toInt64.toUInt64).toInt64).toInt32).toInt8.toInt32)).toInt8.toInt32) (O + 2) (((((v.toUInt64 >>> ((40 : Int32) &&& 0x3f).toInt64.toUInt64).toInt64).toInt32).toInt8.toInt32)).toInt8.toInt32) (O + 3) (((((v.toUInt64 >>> ((32 : Int32) &&& 0x3f).toInt64.toUInt64).toInt64).toInt32).toInt8.toInt32)).toInt8.toInt32) (O + 4) (((((v.toUInt64 >>> ((24 : Int32) &&& 0x3f).toInt64.toUInt64).toInt64).toInt32).toInt8.toInt32)).toInt8.toInt32) (O + 5) _ q)
  have Z6 : n0 ≤ h6.size := Nat.le_trans Z5 (Nat.le_of_eq W6.size.symm)
  have K6 : Keep h0 h6 [ar] := K5.wr W6 (Or.inl (List.mem_of_getElem? (i := 0) rfl))
  show Ends p e below _ T6 (mkF m 64 #[.val (.ref ar), .val (.int o), .val (.long v), .second] [])
  refine Ends.by (fun _ => XS.aloadN X6.here hx rfl (hb hby d1_64) rfl rfl) ?_
  show Ends p e below _ T6 (mkF m 65 #[.val (.ref ar), .val (.int o), .val (.long v), .second] [(.ref ar)])
  refine Ends.by (fun _ => XS.iloadN X6.here hx rfl (hb hby d1_65) rfl) ?_
  show Ends p e below _ T6 (mkF m 66 #[.val (.ref ar), .val (.int o), .val (.long v), .second] [(.int o), (.ref ar)])
  refine Ends.by (fun _ => XS.bipush X6.here hx rfl (hb hby d1_66)) ?_
  show Ends p e below _ T6 (mkF m 68 #[.val (.ref ar), .val (.int o), .val (.long v), .second] [(.int (6 : Int32)), (.int o), (.ref ar)])
  refine Ends.by (fun _ => XS.iadd X6.here hx rfl (hb hby d1_68) rfl) ?_
  show Ends p e below _ T6 (mkF m 69 #[.val (.ref ar), .val (.int o), .val (.long v), .second] [(.int (o + (6 : Int32))), (.ref ar)])
  refine Ends.by (fun _ => XS.lloadN X6.here hx rfl (hb hby d1_69) rfl) ?_
  show Ends p e below _ T6 (mkF m 70 #[.val (.ref ar), .val (.int o), .val (.long v), .second] [(.long v), (.int (o + (6 : Int32))), (.ref ar)])
  refine Ends.by (fun _ => XS.bipush X6.here hx rfl (hb hby d1_70)) ?_
  show Ends p e below _ T6 (mkF m 72 #[.val (.ref ar), .val (.int o), .val (.long v), .second] [(.int (8 : Int32)), (.long v), (.int (o + (6 : Int32))), (.ref ar)])
  refine Ends.by (fun _ => XS.lushr X6.here hx rfl (hb hby d1_72) rfl) ?_
  show Ends p e below _ T6 (mkF m 73 #[.val (.ref ar), .val (.int o), .val (.long v), .second] [(.long ((v.toUInt64 >>> ((8 : Int32) &&& 0x3f).toInt64.toUInt64).toInt64)), (.int (o + (6 : Int32))), (.ref ar)])
  refine Ends.by (fun _ => XS.l2i X6.here hx rfl (hb hby d1_73) rfl) ?_
  show Ends p e below _ T6 (mkF m 74 #[.val (.ref ar), .val (.int o), .val (.long v), .second] [(.int (((v.toUInt64 >>> ((8 : Int32) &&& 0x3f).toInt64.toUInt64).toInt64).toInt32)), (.int (o + (6 : Int32))), (.ref ar)])
  refine Ends.by (fun _ => XS.i2b X6.here hx rfl (hb hby d1_74) rfl) ?_
  show Ends p e below _ T6 (mkF m 75 #[.val (.ref ar), .val (.int o), .val (.long v), .second] [(.int ((((v.toUInt64 >>> ((8 : Int32) &&& 0x3f).toInt64.toUInt64).toInt64).toInt32).toInt8.toInt32)), (.int (o + (6 : Int32))), (.ref ar)])
  refine Ends.stB X6 hx hZ e6 N6 gar C6 (k := (O + 6)) (own_off ho hO hn _ 6 (by decide) (by decide)) (by omega) (hb hby d1_75) ?_
  intro T7 h7 L7 X7 e7 N7 W7 B7
  have C7 : Af Z h7 ar .byte n (fun q => .int ((upd (upd (upd (upd (upd (upd (upd g O (((((v.toUInt64 >>> ((56 : Int32) &&& 0x3f).toInt64.toUInt64).toInt64).toInt32).toInt8.toInt32)).toInt8.toInt32) (O + 1) (((((v.toUInt64 >>> ((48 : Int32) &&& 0x3f).toInt64.toUInt64).toInt64).toInt32).toInt8.toInt32)).toInt8.toInt32) (O + 2) (((((v.toUInt64 >>> ((40 : Int32) &&& 0x3f).toInt64.toUInt64).toInt64).toInt32).toInt8.toInt32)).toInt8.toInt32) (O + 3) (((((v.toUInt64 >>> ((32 : Int32) &&& 0x3f).toInt64.toUInt64).toInt64).toInt32).toInt8.toInt32)).toInt8.toInt32) (O + 4) (((((v.toUInt64 >>> ((24 : Int32) &&& 0x3f).toInt64.toUInt64).toInt64).toInt32).toInt8.toInt32)).toInt8.toInt32) (O + 5) (((((v.toUInt64 >>> ((16 : Int32) &&& 0x3f).toInt64.toUInt64).toInt64).toInt32).toInt8.toInt32)).toInt8.toInt32) (O + 6) (((((v.toUInt64 >>> ((8 : Int32) &&& 0x3f).toInt64.toUInt64).toInt64).toInt32).toInt8.toInt32)).toInt8.toInt32) q)) := B7.congr (fun q _ => own_updI (upd (upd (upd (upd (upd (upd g O (((((v.toUInt64 >>> ((56 : Int32) &&& 0x3f).toInt64.toUInt64).toInt64).toInt32).toInt8.toInt32)).toInt8.toInt32) (O + 1) (((((v.toUInt64 >>> ((48 : Int32) &&& 0x3f).toInt64.toUInt64).toInt64).toInt32).toInt8.toInt32)).toInt8.toInt32) (O + 2) (((((v.toUInt64 >>> ((40 : Int32) &&& 0x3f).toInt64.toUInt64).toInt64).toInt32).toInt8.toInt32)).toInt8.toInt32) (O + 3) (((((v.toUInt64 >>> ((32 : Int32) &&& 0x3f).toInt64.toUInt64).toInt64).toInt32).toInt8.toInt32)).toInt8.toInt32) (O + 4) (((((v.toUInt64 >>> ((24 : Int32) &&& 0x3f).toInt64.toUInt64).toInt64).toInt32).toInt8.toInt32)).toInt8.toInt32) (O + 5) (((((v.toUInt64 >>> ((16 : Int32) &&& 0x3f).toInt64.toUInt64).toInt64).toInt32).toInt8.toInt32)).toInt8.toInt32) (O + 6) _ q)
  have Z7 : n0 ≤ h7.size := Nat.le_trans Z6 (Nat.le_of_eq W7.size.symm)
  have K7 : Keep h0 h7 [ar] := K6.wr W7 (Or.inl (List.mem_of_getElem? (i := 0) rfl))
  show Ends p e below _ T7 (mkF m 76 #[.val (.ref ar), .val (.int o), .val (.long v), .second] [])
  refine Ends.by (fun _ => XS.aloadN X7.here hx rfl (hb hby d1_76) rfl rfl) ?_
  show Ends p e below _ T7 (mkF m 77 #[.val (.ref ar), .val (.int o), .val (.long v), .second] [(.ref ar)])
  refine Ends.by (fun _ => XS.iloadN X7.here hx rfl (hb hby d1_77) rfl) ?_
  show Ends p e below _ T7 (mkF m 78 #[.val (.ref ar), .val (.int o), .val (.long v), .second] [(.int o), (.ref ar)])
  refine Ends.by (fun _ => XS.bipush X7.here hx rfl (hb hby d1_78)) ?_
  show Ends p e below _ T7 (mkF m 80 #[.val (.ref ar), .val (.int o), .val (.long v), .second] [(.int (7 : Int32)), (.int o), (.ref ar)])
  refine Ends.by (fun _ => XS.iadd X7.here hx rfl (hb hby d1_80) rfl) ?_
  show Ends p e below _ T7 (mkF m 81 #[.val (.ref ar), .val (.int o), .val (.long v), .second] [(.int (o + (7 : Int32))), (.ref ar)])
  refine Ends.by (fun _ => XS.lloadN X7.here hx rfl (hb hby d1_81) rfl) ?_
  show Ends p e below _ T7 (mkF m 82 #[.val (.ref ar), .val (.int o), .val (.long v), .second] [(.long v), (.int (o + (7 : Int32))), (.ref ar)])
  refine Ends.by (fun _ => XS.l2i X7.here hx rfl (hb hby d1_82) rfl) ?_
  show Ends p e below _ T7 (mkF m 83 #[.val (.ref ar), .val (.int o), .val (.long v), .second] [(.int (v.toInt32)), (.int (o + (7 : Int32))), (.ref ar)])
  refine Ends.by (fun _ => XS.i2b X7.here hx rfl (hb hby d1_83) rfl) ?_
  show Ends p e below _ T7 (mkF m 84 #[.val (.ref ar), .val (.int o), .val (.long v), .second] [(.int ((v.toInt32).toInt8.toInt32)), (.int (o + (7 : Int32))), (.ref ar)])
  refine Ends.stB X7 hx hZ e7 N7 gar C7 (k := (O + 7)) (own_off ho hO hn _ 7 (by decide) (by decide)) (by omega) (hb hby d1_84) ?_
  intro T8 h8 L8 X8 e8 N8 W8 B8
  have C8 : Af Z h8 ar .byte n (fun q => .int ((upd (upd (upd (upd (upd (upd (upd (upd g O (((((v.toUInt64 >>> ((56 : Int32) &&& 0x3f).toInt64.toUInt64).toInt64).toInt32).toInt8.toInt32)).toInt8.toInt32) (O + 1) (((((v.toUInt64 >>> ((48 : Int32) &&& 0x3f).toInt64.toUInt64).toInt64).toInt32).toInt8.toInt32)).toInt8.toInt32) (O + 2) (((((v.toUInt64 >>> ((40 : Int32) &&& 0x3f).toInt64.toUInt64).toInt64).toInt32).toInt8.toInt32)).toInt8.toInt32) (O + 3) (((((v.toUInt64 >>> ((32 : Int32) &&& 0x3f).toInt64.toUInt64).toInt64).toInt32).toInt8.toInt32)).toInt8.toInt32) (O + 4) (((((v.toUInt64 >>> ((24 : Int32) &&& 0x3f).toInt64.toUInt64).toInt64).toInt32).toInt8.toInt32)).toInt8.toInt32) (O + 5) (((((v.toUInt64 >>> ((16 : Int32) &&& 0x3f).toInt64.toUInt64).toInt64).toInt32).toInt8.toInt32)).toInt8.toInt32) (O + 6) (((((v.toUInt64 >>> ((8 : Int32) &&& 0x3f).toInt64.toUInt64).toInt64).toInt32).toInt8.toInt32)).toInt8.toInt32) (O + 7) (((v.toInt32).toInt8.toInt32)).toInt8.toInt32) q)) := B8.congr (fun q _ => own_updI (upd (upd (upd (upd (upd (upd (upd g O (((((v.toUInt64 >>> ((56 : Int32) &&& 0x3f).toInt64.toUInt64).toInt64).toInt32).toInt8.toInt32)).toInt8.toInt32) (O + 1) (((((v.toUInt64 >>> ((48 : Int32) &&& 0x3f).toInt64.toUInt64).toInt64).toInt32).toInt8.toInt32)).toInt8.toInt32) (O + 2) (((((v.toUInt64 >>> ((40 : Int32) &&& 0x3f).toInt64.toUInt64).toInt64).toInt32).toInt8.toInt32)).toInt8.toInt32) (O + 3) (((((v.toUInt64 >>> ((32 : Int32) &&& 0x3f).toInt64.toUInt64).toInt64).toInt32).toInt8.toInt32)).toInt8.toInt32) (O + 4) (((((v.toUInt64 >>> ((24 : Int32) &&& 0x3f).toInt64.toUInt64).toInt64).toInt32).toInt8.toInt32)).toInt8.toInt32) (O + 5) (((((v.toUInt64 >>> ((16 : Int32) &&& 0x3f).toInt64.toUInt64).toInt64).toInt32).toInt8.toInt32)).toInt8.toInt32) (O + 6) (((((v.toUInt64 >>> ((8 : Int32) &&& 0x3f).toInt64.toUInt64).toInt64).toInt32).toInt8.toInt32)).toInt8.toInt32) (O + 7) _ q)
  have Z8 : n0 ≤ h8.size := Nat.le_trans Z7 (Nat.le_of_eq W8.size.symm)
  have K8 : Keep h0 h8 [ar] := K7.wr W8 (Or.inl (List.mem_of_getElem? (i := 0) rfl))
  show Ends p e below _ T8 (mkF m 85 #[.val (.ref ar), .val (.int o), .val (.long v), .second] [])
  exact Ends.retV X8 hx hlk hret (hb hby d1_85) (by decide) (by decide) (by rw [e8]; exact ⟨rfl, N8, K8, C8⟩)
theorem d3_0 : decode prog_36_method_1_code 0 = .ok (.aload_n 0, 1) := by decide +kernel
theorem d3_1 : decode prog_36_method_1_code 1 = .ok (.invokespecial 1, 3) := by decide +kernel
theorem d3_4 : decode prog_36_method_1_code 4 = .ok (.aload_n 0, 1) := by decide +kernel
theorem d3_5 : decode prog_36_method_1_code 5 = .ok (.aload_n 1, 1) := by decide +kernel
theorem d3_6 : decode prog_36_method_1_code 6 = .ok (.putfield 7, 3) := by decide +kernel
theorem d3_9 : decode prog_36_method_1_code 9 = .ok (.return_, 1) := by decide +kernel
theorem pd_3 : parseMethodDescriptor "([B)V" = some ⟨[(.array .byte)], none⟩ := by decide +kernel
theorem pf_3 : plainFor (⟨"com/example/shoalkeep/shoalkeep/Identifier", "<init>", "([B)V"⟩ : MethodName) = true := plainFor_of_name (by first | (simp [plainName, overriddenIn, x]; done) | decide +kernel)
theorem ef_3 (m : MethodId) (a : Addr) (ar : Addr) : entryFrame m #[(.ref a), (.ref ar)] 2 = mkF m 0 #[.val (.ref a), .val (.ref ar)] [] := by first | (simp [entryFrame, mkF, argsToLocals, Value.category]; done) | rfl
set_option maxRecDepth 65536 in
set_option maxHeartbeats 40000000 in
theorem con_3 (l : Launch) (Z : State) (a0 : Array Value) (hw : ∀ d ∈ tables_1, d.before a0 Z = true) (a : Addr) (ar : Addr)  (h0 : Heap) (n0 : Nat) (Z0 : n0 ≤ h0.size) (E0 : Exa Z h0 a "com/example/shoalkeep/shoalkeep/Identifier") (F1 : Fld Z h0 a "com/example/shoalkeep/shoalkeep/Identifier" "bytes" "[B" .null) (ga : n0 ≤ a) : Con l Z (⟨"com/example/shoalkeep/shoalkeep/Identifier", "<init>", "([B)V"⟩ : MethodName) prog_36_method_1_code 2 none ({ frames := 1, cells := 0, slots := 0, locals := 12 } : Room) #[(.ref a), (.ref ar)] h0 (fun v h L => v = none ∧ Fr n0 L ∧ Keep h0 h [a] ∧ Exa Z h a "com/example/shoalkeep/shoalkeep/Identifier" ∧ Fld Z h a "com/example/shoalkeep/shoalkeep/Identifier" "bytes" "[B" (.ref ar)) := by
  refine Con.intro pf_3 ?_
  intro p e s m below meth c s₁ hx hby hml hown hnm hret hlk hZ X0 e0
  refine Ends.cast (ef_3 m a ar) ?_
  have N0 := Fr.nil n0
  have K0 : Keep h0 h0 [a] := Keep.refl _ _
  refine Ends.by (fun _ => XS.aloadN X0.here hx rfl (hb hby d3_0) rfl rfl) ?_
  show Ends p e below _ s₁ (mkF m 1 #[.val (.ref a), .val (.ref ar)] [(.ref a)])
  obtain ⟨T1, X1, e1, st1⟩ := initO X0 hx hZ hown (hw _ (List.mem_of_getElem? (i := 23) rfl)) (hw _ (List.mem_of_getElem? (i := 24) rfl)) (hw _ (List.mem_of_getElem? (i := 25) rfl)) e0 (g := (mkF m 1 #[.val (.ref a), .val (.ref ar)] [(.ref a)])) rfl (by rw [hml]; rfl) rfl (hb hby d3_1) (by decide) (W := 0) (by show 2 * 0 + _ ≤ _; exact Nat.le_of_eq rfl) (by decide)
  refine Ends.by st1 ?_
  show Ends p e below _ T1 (mkF m 4 #[.val (.ref a), .val (.ref ar)] [])
  refine Ends.by (fun _ => XS.aloadN X1.here hx rfl (hb hby d3_4) rfl rfl) ?_
  show Ends p e below _ T1 (mkF m 5 #[.val (.ref a), .val (.ref ar)] [(.ref a)])
  refine Ends.by (fun _ => XS.aloadN X1.here hx rfl (hb hby d3_5) rfl rfl) ?_
  show Ends p e below _ T1 (mkF m 6 #[.val (.ref a), .val (.ref ar)] [(.ref ar), (.ref a)])
  obtain ⟨T2, h2, X2, e2, W2, st2⟩ := putF X1 hx hZ hown (host := "") (Or.inl (hw _ (List.mem_of_getElem? (i := 26) rfl))) Via.refl e1 F1 E0 (Or.inr ⟨(hw _ (List.mem_of_getElem? (i := 27) rfl)), rfl, hnm⟩) (hw _ (List.mem_of_getElem? (i := 10) rfl)) (ty := (.array .byte)) (by decide) rfl rfl (g := (mkF m 6 #[.val (.ref a), .val (.ref ar)] [(.ref ar), (.ref a)])) rfl rfl (hb hby d3_6)
  refine Ends.by st2 ?_
  have F_a_bytes_2 : Fld Z h2 a "com/example/shoalkeep/shoalkeep/Identifier" "bytes" "[B" (.ref ar) := F1.same W2
  have N2 := Fr.snoc X2 N0 ga
  have E_a_2 : Exa Z h2 a "com/example/shoalkeep/shoalkeep/Identifier" := E0.wr W2
  have Z2 : n0 ≤ h2.size := Nat.le_trans Z0 (Nat.le_of_eq W2.size.symm)
  have K2 : Keep h0 h2 [a] := K0.wr W2 (Or.inl (List.mem_of_getElem? (i := 0) rfl))
  show Ends p e below _ T2 (mkF m 9 #[.val (.ref a), .val (.ref ar)] [])
  exact Ends.retV X2 hx hlk hret (hb hby d3_9) (by decide) (by decide) (by rw [e2]; exact ⟨rfl, N2, K2, E_a_2, F_a_bytes_2⟩)
theorem d2_0 : decode prog_36_method_2_code 0 = .ok (.aload_n 0, 1) := by decide +kernel
theorem d2_1 : decode prog_36_method_2_code 1 = .ok (.arraylength, 1) := by decide +kernel
theorem d2_2 : decode prog_36_method_2_code 2 = .ok (.bipush 32, 2) := by decide +kernel
theorem d2_4 : decode prog_36_method_2_code 4 = .ok (.if_icmp .eq 18, 3) := by decide +kernel
theorem d2_7 : decode prog_36_method_2_code 7 = .ok (.new 13, 3) := by decide +kernel
theorem d2_10 : decode prog_36_method_2_code 10 = .ok (.dup, 1) := by decide +kernel
theorem d2_11 : decode prog_36_method_2_code 11 = .ok (.aload_n 0, 1) := by decide +kernel
theorem d2_12 : decode prog_36_method_2_code 12 = .ok (.arraylength, 1) := by decide +kernel
theorem d2_13 : decode prog_36_method_2_code 13 = .ok (.invokedynamic 15, 5) := by decide +kernel
theorem d2_18 : decode prog_36_method_2_code 18 = .ok (.invokespecial 19, 3) := by decide +kernel
theorem d2_21 : decode prog_36_method_2_code 21 = .ok (.athrow, 1) := by decide +kernel
theorem d2_22 : decode prog_36_method_2_code 22 = .ok (.new 8, 3) := by decide +kernel
theorem d2_25 : decode prog_36_method_2_code 25 = .ok (.dup, 1) := by decide +kernel
theorem d2_26 : decode prog_36_method_2_code 26 = .ok (.aload_n 0, 1) := by decide +kernel
theorem d2_27 : decode prog_36_method_2_code 27 = .ok (.invokevirtual 22, 3) := by decide +kernel
theorem d2_30 : decode prog_36_method_2_code 30 = .ok (.checkcast 23, 3) := by decide +kernel
theorem d2_33 : decode prog_36_method_2_code 33 = .ok (.invokespecial 27, 3) := by decide +kernel
theorem d2_36 : decode prog_36_method_2_code 36 = .ok (.areturn, 1) := by decide +kernel
theorem pd_2 : parseMethodDescriptor "([B)Lcom/example/shoalkeep/shoalkeep/Identifier;" = some ⟨[(.array .byte)], some (.object "com/example/shoalkeep/shoalkeep/Identifier")⟩ := by decide +kernel
theorem pf_2 : plainFor (⟨"com/example/shoalkeep/shoalkeep/Identifier", "of", "([B)Lcom/example/shoalkeep/shoalkeep/Identifier;"⟩ : MethodName) = true := plainFor_of_name (by first | (simp [plainName, overriddenIn, x]; done) | decide +kernel)
theorem ef_2 (m : MethodId) (ar : Addr) : entryFrame m #[(.ref ar)] 1 = mkF m 0 #[.val (.ref ar)] [] := by first | (simp [entryFrame, mkF, argsToLocals, Value.category]; done) | rfl
set_option maxRecDepth 65536 in
set_option maxHeartbeats 40000000 in
theorem con_2 (l : Launch) (Z : State) (a0 : Array Value) (hw : ∀ d ∈ tables_1, d.before a0 Z = true) (ar : Addr) (f : Nat → Value) (h0 : Heap) (n0 : Nat) (Z0 : n0 ≤ h0.size) (A0 : Af Z h0 ar .byte 32 f) (E0 : Exa Z h0 ar "[B") : Con l Z (⟨"com/example/shoalkeep/shoalkeep/Identifier", "of", "([B)Lcom/example/shoalkeep/shoalkeep/Identifier;"⟩ : MethodName) prog_36_method_2_code 1 (some (.object "com/example/shoalkeep/shoalkeep/Identifier")) ({ frames := 2, cells := 2, slots := 33, locals := 26 } : Room) #[(.ref ar)] h0 (fun v h L => ∃ a b : Addr, v = some (.ref a) ∧ Fr n0 L ∧ Keep h0 h [] ∧ Exa Z h a "com/example/shoalkeep/shoalkeep/Identifier" ∧ Fld Z h a "com/example/shoalkeep/shoalkeep/Identifier" "bytes" "[B" (.ref b) ∧ Af Z h b .byte 32 f ∧ Exa Z h b "[B" ∧ n0 ≤ a ∧ n0 ≤ b ∧ h0.size ≤ b) := by
  refine Con.intro pf_2 ?_
  intro p e s m below meth c s₁ hx hby hml hown hnm hret hlk hZ X0 e0
  refine Ends.cast (ef_2 m ar) ?_
  have N0 := Fr.nil n0
  have K0 : Keep h0 h0 [] := Keep.refl _ _
  refine Ends.by (fun _ => XS.aloadN X0.here hx rfl (hb hby d2_0) rfl rfl) ?_
  show Ends p e below _ s₁ (mkF m 1 #[.val (.ref ar)] [(.ref ar)])
  refine Ends.len X0 hx hZ e0 A0 (z := (32 : Int32)) (by decide) (hb hby d2_1) ?_
  show Ends p e below _ s₁ (mkF m 2 #[.val (.ref ar)] [(.int (32 : Int32))])
  refine Ends.by (fun _ => XS.bipush X0.here hx rfl (hb hby d2_2)) ?_
  show Ends p e below _ s₁ (mkF m 4 #[.val (.ref ar)] [(.int (32 : Int32)), (.int (32 : Int32))])
  refine Ends.icmp X0 hx (hb hby d2_4) 22 (by decide) (by decide) (fun q => ?_) (fun q => ?_)
  · have c4 : (32 : Int32) = (32 : Int32) := own_eq.1 q
    show Ends p e below _ s₁ (mkF m 22 #[.val (.ref ar)] [])
    obtain ⟨T1, h1, X1, e1, E1, A1, D1, -, st1⟩ := newO X0 hx hZ hown (hw _ (List.mem_of_getElem? (i := 9) rfl)) (hw _ (List.mem_of_getElem? (i := 10) rfl)) (hw _ (List.mem_of_getElem? (i := 7) rfl)) e0 (g := (mkF m 22 #[.val (.ref ar)] [])) rfl (hb hby d2_22) (by decide) (by decide)
    obtain ⟨b1, g1⟩ : ∃ z, z = h0.size := ⟨_, rfl⟩
    rw [← g1] at A1 D1 st1
    refine Ends.by st1 ?_
    have A_ar_1 : Af Z h1 ar .byte 32 f := A0.ext E1
    have E_ar_1 : Exa Z h1 ar "[B" := E0.ext E1
    have Z1 : n0 ≤ h1.size := Nat.le_trans Z0 E1.1
    have K1 : Keep h0 h1 [] := K0.ext E1
    have g_b1 : n0 ≤ b1 := Nat.le_trans Z0 (Nat.le_of_eq g1.symm)
    have gz_b1 : h0.size ≤ b1 := Nat.le_trans K0.1 (Nat.le_of_eq g1.symm)
    have ne_ar_b1 : ar ≠ b1 := Nat.ne_of_lt (Nat.lt_of_lt_of_le A0.lt (Nat.le_of_eq g1.symm))
    have F_b1_bytes : Fld Z h1 b1 "com/example/shoalkeep/shoalkeep/Identifier" "bytes" "[B" .null := D1 (Or.inr (hw _ (List.mem_of_getElem? (i := 27) rfl))) (ty := (.array .byte)) (by decide)
    show Ends p e below _ T1 (mkF m 25 #[.val (.ref ar)] [(.ref b1)])
    refine Ends.by (fun _ => XS.dup X1.here hx rfl (hb hby d2_25) rfl rfl) ?_
    show Ends p e below _ T1 (mkF m 26 #[.val (.ref ar)] [(.ref b1), (.ref b1)])
    refine Ends.by (fun _ => XS.aloadN X1.here hx rfl (hb hby d2_26) rfl rfl) ?_
    show Ends p e below _ T1 (mkF m 27 #[.val (.ref ar)] [(.ref ar), (.ref b1), (.ref b1)])
    refine Ends.clone (rest := [(.ref b1), (.ref b1)]) X1 hx hZ hown (hw _ (List.mem_of_getElem? (i := 11) rfl)) (hw _ (List.mem_of_getElem? (i := 12) rfl)) (hw _ (List.mem_of_getElem? (i := 16) rfl)) (hw _ (List.mem_of_getElem? (i := 14) rfl)) (hw _ (List.mem_of_getElem? (i := 15) rfl)) (hw _ (List.mem_of_getElem? (i := 17) rfl)) e1 A_ar_1 E_ar_1 2 (Nat.le_of_eq rfl) (by rw [hml]; rfl) (hb hby d2_27) (by decide) (by decide) (by decide) 32 (by decide) (by decide) (by decide) ?_
    intro T2 h2 X2 e2 E2 A2 Q2
    obtain ⟨b2, g2⟩ : ∃ z, z = h1.size := ⟨_, rfl⟩
    rw [← g2] at A2 Q2 ⊢
    have A_ar_2 : Af Z h2 ar .byte 32 f := A_ar_1.ext E2
    have E_ar_2 : Exa Z h2 ar "[B" := E_ar_1.ext E2
    have E_b1_2 : Exa Z h2 b1 "com/example/shoalkeep/shoalkeep/Identifier" := A1.ext E2
    have F_b1_bytes_2 : Fld Z h2 b1 "com/example/shoalkeep/shoalkeep/Identifier" "bytes" "[B" .null := F_b1_bytes.ext E2
    have Z2 : n0 ≤ h2.size := Nat.le_trans Z1 E2.1
    have K2 : Keep h0 h2 [] := K1.ext E2
    have g_b2 : n0 ≤ b2 := Nat.le_trans Z1 (Nat.le_of_eq g2.symm)
    have gz_b2 : h0.size ≤ b2 := Nat.le_trans K1.1 (Nat.le_of_eq g2.symm)
    have ne_ar_b2 : ar ≠ b2 := Nat.ne_of_lt (Nat.lt_of_lt_of_le A_ar_1.lt (Nat.le_of_eq g2.symm))
    have ne_b1_b2 : b1 ≠ b2 := Nat.ne_of_lt (Nat.lt_of_lt_of_le A1.lt (Nat.le_of_eq g2.symm))
    show Ends p e below _ T2 (mkF m 30 #[.val (.ref ar)] [(.ref b2), (.ref b1), (.ref b1)])
    obtain ⟨T3, X3, e3, st3⟩ := castY X2 hx hZ hown (hw _ (List.mem_of_getElem? (i := 18) rfl)) e2 (Ins.self Q2) (g := (mkF m 30 #[.val (.ref ar)] [(.ref b2), (.ref b1), (.ref b1)])) rfl rfl (hb hby d2_30)
    refine Ends.by st3 ?_
    show Ends p e below _ T3 (mkF m 33 #[.val (.ref ar)] [(.ref b2), (.ref b1), (.ref b1)])
    refine Ends.callI (a := b1) (argsL := [(.ref b2)]) (rest := [(.ref b1)]) X3 hx hZ rfl hown (hw _ (List.mem_of_getElem? (i := 20) rfl)) (hw _ (List.mem_of_getElem? (i := 21) rfl)) (hw _ (List.mem_of_getElem? (i := 7) rfl)) (hw _ (List.mem_of_getElem? (i := 22) rfl)) (by decide) (con_3 l Z a0 hw b1 b2 h2 n0 Z2 E_b1_2 F_b1_bytes_2 g_b1) e3 (by rw [hml]; rfl) (hb hby d2_33) (lenOf pd_3 rfl) 1 (Nat.le_of_eq rfl) (by decide) (by decide) (by decide) (by decide) ?_
    intro v T4 L4 X4 hQ
    obtain ⟨rfl, N4q, K4q, E4q, F4q⟩ := hQ
    have N4 := Fr.app N0 N4q
    have A_ar_4 : Af Z T4.heap ar .byte 32 f := A_ar_2.keep K4q (ninS ne_ar_b1 nin0)
    have E_ar_4 : Exa Z T4.heap ar "[B" := E_ar_2.keep K4q
    have E_b1_4 : Exa Z T4.heap b1 "com/example/shoalkeep/shoalkeep/Identifier" := E_b1_2.keep K4q
    have A_b2_4 : Af Z T4.heap b2 .byte 32 f := A2.keep K4q (ninS (Ne.symm ne_b1_b2) nin0)
    have E_b2_4 : Exa Z T4.heap b2 "[B" := Q2.keep K4q
    have Z4 : n0 ≤ T4.heap.size := Nat.le_trans Z2 K4q.1
    have K4 : Keep h0 T4.heap [] := K2.trans K4q (allS (P := fun q => q ∈ [] ∨ h0.size ≤ q) (Or.inr gz_b1) all0)
    show Ends p e below _ T4 (mkF m 36 #[.val (.ref ar)] [(.ref b1)])
    exact Ends.retA X4 hx hlk hret rfl rfl (hb hby d2_36) (by decide) (by decide) (⟨b1, b2, rfl, N4, K4, E4q, F4q, A_b2_4, E_b2_4, g_b1, g_b2, gz_b2⟩)
  · have c4 : ¬ ((32 : Int32) = (32 : Int32)) := own_eq.2 q
    exact absurd c4 (by decide)
theorem d5_0 : decode prog_36_method_7_code 0 = .ok (.aload_n 0, 1) := by decide +kernel
theorem d5_1 : decode prog_36_method_7_code 1 = .ok (.getfield 7, 3) := by decide +kernel
theorem d5_4 : decode prog_36_method_7_code 4 = .ok (.invokevirtual 22, 3) := by decide +kernel
theorem d5_7 : decode prog_36_method_7_code 7 = .ok (.checkcast 23, 3) := by decide +kernel
theorem d5_10 : decode prog_36_method_7_code 10 = .ok (.areturn, 1) := by decide +kernel
theorem pd_5 : parseMethodDescriptor "()[B" = some ⟨[], some (.array .byte)⟩ := by decide +kernel
theorem pf_5 : plainFor (⟨"com/example/shoalkeep/shoalkeep/Identifier", "toBytes", "()[B"⟩ : MethodName) = true := plainFor_of_name (by first | (simp [plainName, overriddenIn, x]; done) | decide +kernel)
theorem ef_5 (m : MethodId) (a : Addr) : entryFrame m #[(.ref a)] 1 = mkF m 0 #[.val (.ref a)] [] := by first | (simp [entryFrame, mkF, argsToLocals, Value.category]; done) | rfl
set_option maxRecDepth 65536 in
set_option maxHeartbeats 40000000 in
theorem con_5 (l : Launch) (Z : State) (a0 : Array Value) (hw : ∀ d ∈ tables_1, d.before a0 Z = true) (a : Addr) (b : Addr) (f : Nat → Value) (h0 : Heap) (n0 : Nat) (Z0 : n0 ≤ h0.size) (F1 : Fld Z h0 a "com/example/shoalkeep/shoalkeep/Identifier" "bytes" "[B" (.ref b)) (A0 : Af Z h0 b .byte 32 f) (E0 : Exa Z h0 b "[B") : Con l Z (⟨"com/example/shoalkeep/shoalkeep/Identifier", "toBytes", "()[B"⟩ : MethodName) prog_36_method_7_code 1 (some (.array .byte)) ({ frames := 1, cells := 1, slots := 32, locals := 14 } : Room) #[(.ref a)] h0 (fun v h L => ∃ b : Addr, v = some (.ref b) ∧ Fr n0 L ∧ Keep h0 h [] ∧ Af Z h b .byte 32 f ∧ n0 ≤ b) := by
  refine Con.intro pf_5 ?_
  intro p e s m below meth c s₁ hx hby hml hown hnm hret hlk hZ X0 e0
  refine Ends.cast (ef_5 m a) ?_
  have N0 := Fr.nil n0
  have K0 : Keep h0 h0 [] := Keep.refl _ _
  refine Ends.by (fun _ => XS.aloadN X0.here hx rfl (hb hby d5_0) rfl rfl) ?_
  show Ends p e below _ s₁ (mkF m 1 #[.val (.ref a)] [(.ref a)])
  obtain ⟨T1, X1, e1, st1⟩ := getF X0 hx hZ hown (host := "") (Or.inl (hw _ (List.mem_of_getElem? (i := 26) rfl))) Via.refl e0 F1 (g := (mkF m 1 #[.val (.ref a)] [(.ref a)])) rfl rfl (hb hby d5_1)
  refine Ends.by st1 ?_
  show Ends p e below _ T1 (mkF m 4 #[.val (.ref a)] [(.ref b)])
  refine Ends.clone (rest := []) X1 hx hZ hown (hw _ (List.mem_of_getElem? (i := 11) rfl)) (hw _ (List.mem_of_getElem? (i := 12) rfl)) (hw _ (List.mem_of_getElem? (i := 16) rfl)) (hw _ (List.mem_of_getElem? (i := 14) rfl)) (hw _ (List.mem_of_getElem? (i := 15) rfl)) (hw _ (List.mem_of_getElem? (i := 17) rfl)) e1 A0 E0 0 (Nat.le_of_eq rfl) (by rw [hml]; rfl) (hb hby d5_4) (by decide) (by decide) (by decide) 32 (by decide) (by decide) (by decide) ?_
  intro T2 h2 X2 e2 E2 A2 Q2
  obtain ⟨b2, g2⟩ : ∃ z, z = h0.size := ⟨_, rfl⟩
  rw [← g2] at A2 Q2 ⊢
  have A_b_2 : Af Z h2 b .byte 32 f := A0.ext E2
  have E_b_2 : Exa Z h2 b "[B" := E0.ext E2
  have F_a_bytes_2 : Fld Z h2 a "com/example/shoalkeep/shoalkeep/Identifier" "bytes" "[B" (.ref b) := F1.ext E2
  have Z2 : n0 ≤ h2.size := Nat.le_trans Z0 E2.1
  have K2 : Keep h0 h2 [] := K0.ext E2
  have g_b2 : n0 ≤ b2 := Nat.le_trans Z0 (Nat.le_of_eq g2.symm)
  have gz_b2 : h0.size ≤ b2 := Nat.le_trans K0.1 (Nat.le_of_eq g2.symm)
  have ne_b_b2 : b ≠ b2 := Nat.ne_of_lt (Nat.lt_of_lt_of_le A0.lt (Nat.le_of_eq g2.symm))
  have ne_a_b2 : a ≠ b2 := Nat.ne_of_lt (Nat.lt_of_lt_of_le F1.lt (Nat.le_of_eq g2.symm))
  show Ends p e below _ T2 (mkF m 7 #[.val (.ref a)] [(.ref b2)])
  obtain ⟨T3, X3, e3, st3⟩ := castY X2 hx hZ hown (hw _ (List.mem_of_getElem? (i := 18) rfl)) e2 (Ins.self Q2) (g := (mkF m 7 #[.val (.ref a)] [(.ref b2)])) rfl rfl (hb hby d5_7)
  refine Ends.by st3 ?_
  show Ends p e below _ T3 (mkF m 10 #[.val (.ref a)] [(.ref b2)])
  exact Ends.retA X3 hx hlk hret rfl rfl (hb hby d5_10) (by decide) (by decide) (by rw [e3]; exact ⟨b2, rfl, N0, K2, A2, g_b2⟩)
theorem d6_0 : decode method_4_code 0 = .ok (.aload_n 0, 1) := by decide +kernel
theorem d6_1 : decode method_4_code 1 = .ok (.iload_n 1, 1) := by decide +kernel
theorem d6_2 : decode method_4_code 2 = .ok (.baload, 1) := by decide +kernel
theorem d6_3 : decode method_4_code 3 = .ok (.i2l, 1) := by decide +kernel
theorem d6_4 : decode method_4_code 4 = .ok (.ldc2_w 27, 3) := by decide +kernel
theorem d6_7 : decode method_4_code 7 = .ok (.land, 1) := by decide +kernel
theorem d6_8 : decode method_4_code 8 = .ok (.bipush 56, 2) := by decide +kernel
theorem d6_10 : decode method_4_code 10 = .ok (.lshl, 1) := by decide +kernel
theorem d6_11 : decode method_4_code 11 = .ok (.aload_n 0, 1) := by decide +kernel
theorem d6_12 : decode method_4_code 12 = .ok (.iload_n 1, 1) := by decide +kernel
theorem d6_13 : decode method_4_code 13 = .ok (.iconst 1, 1) := by decide +kernel
theorem d6_14 : decode method_4_code 14 = .ok (.iadd, 1) := by decide +kernel
theorem d6_15 : decode method_4_code 15 = .ok (.baload, 1) := by decide +kernel
theorem d6_16 : decode method_4_code 16 = .ok (.i2l, 1) := by decide +kernel
theorem d6_17 : decode method_4_code 17 = .ok (.ldc2_w 27, 3) := by decide +kernel
theorem d6_20 : decode method_4_code 20 = .ok (.land, 1) := by decide +kernel
theorem d6_21 : decode method_4_code 21 = .ok (.bipush 48, 2) := by decide +kernel
theorem d6_23 : decode method_4_code 23 = .ok (.lshl, 1) := by decide +kernel
theorem d6_24 : decode method_4_code 24 = .ok (.lor, 1) := by decide +kernel
theorem d6_25 : decode method_4_code 25 = .ok (.aload_n 0, 1) := by decide +kernel
theorem d6_26 : decode method_4_code 26 = .ok (.iload_n 1, 1) := by decide +kernel
theorem d6_27 : decode method_4_code 27 = .ok (.iconst 2, 1) := by decide +kernel
theorem d6_28 : decode method_4_code 28 = .ok (.iadd, 1) := by decide +kernel
theorem d6_29 : decode method_4_code 29 = .ok (.baload, 1) := by decide +kernel
theorem d6_30 : decode method_4_code 30 = .ok (.i2l, 1) := by decide +kernel
theorem d6_31 : decode method_4_code 31 = .ok (.ldc2_w 27, 3) := by decide +kernel
theorem d6_34 : decode method_4_code 34 = .ok (.land, 1) := by decide +kernel
theorem d6_35 : decode method_4_code 35 = .ok (.bipush 40, 2) := by decide +kernel
theorem d6_37 : decode method_4_code 37 = .ok (.lshl, 1) := by decide +kernel
theorem d6_38 : decode method_4_code 38 = .ok (.lor, 1) := by decide +kernel
theorem d6_39 : decode method_4_code 39 = .ok (.aload_n 0, 1) := by decide +kernel
theorem d6_40 : decode method_4_code 40 = .ok (.iload_n 1, 1) := by decide +kernel
theorem d6_41 : decode method_4_code 41 = .ok (.iconst 3, 1) := by decide +kernel
theorem d6_42 : decode method_4_code 42 = .ok (.iadd, 1) := by decide +kernel
theorem d6_43 : decode method_4_code 43 = .ok (.baload, 1) := by decide +kernel
theorem d6_44 : decode method_4_code 44 = .ok (.i2l, 1) := by decide +kernel
theorem d6_45 : decode method_4_code 45 = .ok (.ldc2_w 27, 3) := by decide +kernel
theorem d6_48 : decode method_4_code 48 = .ok (.land, 1) := by decide +kernel
theorem d6_49 : decode method_4_code 49 = .ok (.bipush 32, 2) := by decide +kernel
theorem d6_51 : decode method_4_code 51 = .ok (.lshl, 1) := by decide +kernel
theorem d6_52 : decode method_4_code 52 = .ok (.lor, 1) := by decide +kernel
theorem d6_53 : decode method_4_code 53 = .ok (.aload_n 0, 1) := by decide +kernel
theorem d6_54 : decode method_4_code 54 = .ok (.iload_n 1, 1) := by decide +kernel
theorem d6_55 : decode method_4_code 55 = .ok (.iconst 4, 1) := by decide +kernel
theorem d6_56 : decode method_4_code 56 = .ok (.iadd, 1) := by decide +kernel
theorem d6_57 : decode method_4_code 57 = .ok (.baload, 1) := by decide +kernel
theorem d6_58 : decode method_4_code 58 = .ok (.i2l, 1) := by decide +kernel
theorem d6_59 : decode method_4_code 59 = .ok (.ldc2_w 27, 3) := by decide +kernel
theorem d6_62 : decode method_4_code 62 = .ok (.land, 1) := by decide +kernel
theorem d6_63 : decode method_4_code 63 = .ok (.bipush 24, 2) := by decide +kernel
theorem d6_65 : decode method_4_code 65 = .ok (.lshl, 1) := by decide +kernel
theorem d6_66 : decode method_4_code 66 = .ok (.lor, 1) := by decide +kernel
theorem d6_67 : decode method_4_code 67 = .ok (.aload_n 0, 1) := by decide +kernel
theorem d6_68 : decode method_4_code 68 = .ok (.iload_n 1, 1) := by decide +kernel
theorem d6_69 : decode method_4_code 69 = .ok (.iconst 5, 1) := by decide +kernel
theorem d6_70 : decode method_4_code 70 = .ok (.iadd, 1) := by decide +kernel
theorem d6_71 : decode method_4_code 71 = .ok (.baload, 1) := by decide +kernel
theorem d6_72 : decode method_4_code 72 = .ok (.i2l, 1) := by decide +kernel
theorem d6_73 : decode method_4_code 73 = .ok (.ldc2_w 27, 3) := by decide +kernel
theorem d6_76 : decode method_4_code 76 = .ok (.land, 1) := by decide +kernel
theorem d6_77 : decode method_4_code 77 = .ok (.bipush 16, 2) := by decide +kernel
theorem d6_79 : decode method_4_code 79 = .ok (.lshl, 1) := by decide +kernel
theorem d6_80 : decode method_4_code 80 = .ok (.lor, 1) := by decide +kernel
theorem d6_81 : decode method_4_code 81 = .ok (.aload_n 0, 1) := by decide +kernel
theorem d6_82 : decode method_4_code 82 = .ok (.iload_n 1, 1) := by decide +kernel
theorem d6_83 : decode method_4_code 83 = .ok (.bipush 6, 2) := by decide +kernel
theorem d6_85 : decode method_4_code 85 = .ok (.iadd, 1) := by decide +kernel
theorem d6_86 : decode method_4_code 86 = .ok (.baload, 1) := by decide +kernel
theorem d6_87 : decode method_4_code 87 = .ok (.i2l, 1) := by decide +kernel
theorem d6_88 : decode method_4_code 88 = .ok (.ldc2_w 27, 3) := by decide +kernel
theorem d6_91 : decode method_4_code 91 = .ok (.land, 1) := by decide +kernel
theorem d6_92 : decode method_4_code 92 = .ok (.bipush 8, 2) := by decide +kernel
theorem d6_94 : decode method_4_code 94 = .ok (.lshl, 1) := by decide +kernel
theorem d6_95 : decode method_4_code 95 = .ok (.lor, 1) := by decide +kernel
theorem d6_96 : decode method_4_code 96 = .ok (.aload_n 0, 1) := by decide +kernel
theorem d6_97 : decode method_4_code 97 = .ok (.iload_n 1, 1) := by decide +kernel
theorem d6_98 : decode method_4_code 98 = .ok (.bipush 7, 2) := by decide +kernel
theorem d6_100 : decode method_4_code 100 = .ok (.iadd, 1) := by decide +kernel
theorem d6_101 : decode method_4_code 101 = .ok (.baload, 1) := by decide +kernel
theorem d6_102 : decode method_4_code 102 = .ok (.i2l, 1) := by decide +kernel
theorem d6_103 : decode method_4_code 103 = .ok (.ldc2_w 27, 3) := by decide +kernel
theorem d6_106 : decode method_4_code 106 = .ok (.land, 1) := by decide +kernel
theorem d6_107 : decode method_4_code 107 = .ok (.lor, 1) := by decide +kernel
theorem d6_108 : decode method_4_code 108 = .ok (.lreturn, 1) := by decide +kernel
theorem pd_6 : parseMethodDescriptor "([BI)J" = some ⟨[(.array .byte), .int], some .long⟩ := by decide +kernel
theorem pf_6 : plainFor (⟨"com/example/shoalkeep/shoalkeep/IdentifierOfPinLaw", "get", "([BI)J"⟩ : MethodName) = true := plainFor_of_name (by first | (simp [plainName, overriddenIn, x]; done) | decide +kernel)
theorem ef_6 (m : MethodId) (ar : Addr) (o : Int32) : entryFrame m #[(.ref ar), (.int o)] 2 = mkF m 0 #[.val (.ref ar), .val (.int o)] [] := by first | (simp [entryFrame, mkF, argsToLocals, Value.category]; done) | rfl
def own_get8 (b0 b1 b2 b3 b4 b5 b6 b7 : Int32) : Int64 := (((((((((b0.toInt64 &&& (255 : Int64)) <<< (((56 : Int32)) &&& 0x3f).toInt64) ||| ((b1.toInt64 &&& (255 : Int64)) <<< (((48 : Int32)) &&& 0x3f).toInt64)) ||| ((b2.toInt64 &&& (255 : Int64)) <<< (((40 : Int32)) &&& 0x3f).toInt64)) ||| ((b3.toInt64 &&& (255 : Int64)) <<< (((32 : Int32)) &&& 0x3f).toInt64)) ||| ((b4.toInt64 &&& (255 : Int64)) <<< (((24 : Int32)) &&& 0x3f).toInt64)) ||| ((b5.toInt64 &&& (255 : Int64)) <<< (((16 : Int32)) &&& 0x3f).toInt64)) ||| ((b6.toInt64 &&& (255 : Int64)) <<< (((8 : Int32)) &&& 0x3f).toInt64)) ||| (b7.toInt64 &&& (255 : Int64)))
set_option maxRecDepth 65536 in
set_option maxHeartbeats 40000000 in
theorem con_6 (l : Launch) (Z : State) (a0 : Array Value) (hw : ∀ d ∈ tables_1, d.before a0 Z = true) (ar : Addr) (o : Int32) (n O : Nat) (g : Nat → Int32) (h0 : Heap) (n0 : Nat) (Z0 : n0 ≤ h0.size) (A0 : Af Z h0 ar .byte n (fun q => .int (g q))) (ho : o.toInt = (O : Int)) (hO : O + 8 ≤ n) (hn : n ≤ 32) : Con l Z (⟨"com/example/shoalkeep/shoalkeep/IdentifierOfPinLaw", "get", "([BI)J"⟩ : MethodName) method_4_code 2 (some .long) ({ frames := 0, cells := 0, slots := 0, locals := 0 } : Room) #[(.ref ar), (.int o)] h0 (Pure h0 (some (.long (own_get8 (g O) (g (O + 1)) (g (O + 2)) (g (O + 3)) (g (O + 4)) (g (O + 5)) (g (O + 6)) (g (O + 7)))))) := by
  refine Con.intro pf_6 ?_
  intro p e s m below meth c s₁ hx hby hml hown hnm hret hlk hZ X0 e0
  refine Ends.cast (ef_6 m ar o) ?_
  have N0 := Fr.nil n0
  refine Ends.by (fun _ => XS.aloadN X0.here hx rfl (hb hby d6_0) rfl rfl) ?_
  show Ends p e below _ s₁ (mkF m 1 #[.val (.ref ar), .val (.int o)] [(.ref ar)])
  refine Ends.by (fun _ => XS.iloadN X0.here hx rfl (hb hby d6_1) rfl) ?_
  show Ends p e below _ s₁ (mkF m 2 #[.val (.ref ar), .val (.int o)] [(.int o), (.ref ar)])
  refine Ends.ldB X0 hx hZ e0 A0 (k := O) ho (by omega) (v := (.int (g O))) rfl (hb hby d6_2) ?_
  show Ends p e below _ s₁ (mkF m 3 #[.val (.ref ar), .val (.int o)] [(.int (g O))])
  refine Ends.by (fun _ => XS.i2l X0.here hx rfl (hb hby d6_3) rfl) ?_
  show Ends p e below _ s₁ (mkF m 4 #[.val (.ref ar), .val (.int o)] [(.long ((g O).toInt64))])
  refine Ends.by (X0.ldc2Long hx hown (mvT hZ (hw _ (List.mem_of_getElem? (i := 36) rfl))) (g := (mkF m 4 #[.val (.ref ar), .val (.int o)] [(.long ((g O).toInt64))])) rfl (hb hby d6_4)) ?_
  show Ends p e below _ s₁ (mkF m 7 #[.val (.ref ar), .val (.int o)] [(.long (255 : Int64)), (.long ((g O).toInt64))])
  refine Ends.by (fun _ => XS.land X0.here hx rfl (hb hby d6_7) rfl) ?_
  show Ends p e below _ s₁ (mkF m 8 #[.val (.ref ar), .val (.int o)] [(.long (((g O).toInt64) &&& (255 : Int64)))])
  refine Ends.by (fun _ => XS.bipush X0.here hx rfl (hb hby d6_8)) ?_
  show Ends p e below _ s₁ (mkF m 10 #[.val (.ref ar), .val (.int o)] [(.int (56 : Int32)), (.long (((g O).toInt64) &&& (255 : Int64)))])
  refine Ends.by (fun _ => XS.lshl X0.here hx rfl (hb hby d6_10) rfl) ?_
  show Ends p e below _ s₁ (mkF m 11 #[.val (.ref ar), .val (.int o)] [(.long ((((g O).toInt64) &&& (255 : Int64)) <<< ((56 : Int32) &&& 0x3f).toInt64))])
  refine Ends.by (fun _ => XS.aloadN X0.here hx rfl (hb hby d6_11) rfl rfl) ?_
  show Ends p e below _ s₁ (mkF m 12 #[.val (.ref ar), .val (.int o)] [(.ref ar), (.long ((((g O).toInt64) &&& (255 : Int64)) <<< ((56 : Int32) &&& 0x3f).toInt64))])
  refine Ends.by (fun _ => XS.iloadN X0.here hx rfl (hb hby d6_12) rfl) ?_
  show Ends p e below _ s₁ (mkF m 13 #[.val (.ref ar), .val (.int o)] [(.int o), (.ref ar), (.long ((((g O).toInt64) &&& (255 : Int64)) <<< ((56 : Int32) &&& 0x3f).toInt64))])
  refine Ends.by (fun _ => XS.iconst X0.here hx rfl (hb hby d6_13)) ?_
  show Ends p e below _ s₁ (mkF m 14 #[.val (.ref ar), .val (.int o)] [(.int (1 : Int32)), (.int o), (.ref ar), (.long ((((g O).toInt64) &&& (255 : Int64)) <<< ((56 : Int32) &&& 0x3f).toInt64))])
  refine Ends.by (fun _ => XS.iadd X0.here hx rfl (hb hby d6_14) rfl) ?_
  show Ends p e below _ s₁ (mkF m 15 #[.val (.ref ar), .val (.int o)] [(.int (o + (1 : Int32))), (.ref ar), (.long ((((g O).toInt64) &&& (255 : Int64)) <<< ((56 : Int32) &&& 0x3f).toInt64))])
  refine Ends.ldB X0 hx hZ e0 A0 (k := (O + 1)) (own_off ho hO hn _ 1 (by decide) (by decide)) (by omega) (v := (.int (g (O + 1)))) rfl (hb hby d6_15) ?_
  show Ends p e below _ s₁ (mkF m 16 #[.val (.ref ar), .val (.int o)] [(.int (g (O + 1))), (.long ((((g O).toInt64) &&& (255 : Int64)) <<< ((56 : Int32) &&& 0x3f).toInt64))])
  refine Ends.by (fun _ => XS.i2l X0.here hx rfl (hb hby d6_16) rfl) ?_
  show Ends p e below _ s₁ (mkF m 17 #[.val (.ref ar), .val (.int o)] [(.long ((g (O + 1)).toInt64)), (.long ((((g O).toInt64) &&& (255 : Int64)) <<< ((56 : Int32) &&& 0x3f).toInt64))])
  refine Ends.by (X0.ldc2Long hx hown (mvT hZ (hw _ (List.mem_of_getElem? (i := 36) rfl))) (g := (mkF m 17 #[.val (.ref ar), .val (.int o)] [(.long ((g (O + 1)).toInt64)), (.long ((((g O).toInt64) &&& (255 : Int64)) <<< ((56 : Int32) &&& 0x3f).toInt64))])) rfl (hb hby d6_17)) ?_
  show Ends p e below _ s₁ (mkF m 20 #[.val (.ref ar), .val (.int o)] [(.long (255 : Int64)), (.long ((g (O + 1)).toInt64)), (.long ((((g O).toInt64) &&& (255 : Int64)) <<< ((56 : Int32) &&& 0x3f).toInt64))])
  refine Ends.by (fun _ => XS.land X0.here hx rfl (hb hby d6_20) rfl) ?_
  show Ends p e below _ s₁ (mkF m 21 #[.val (.ref ar), .val (.int o)] [(.long (((g (O + 1)).toInt64) &&& (255 : Int64))), (.long ((((g O).toInt64) &&& (255 : Int64)) <<< ((56 : Int32) &&& 0x3f).toInt64))])
  refine Ends.by (fun _ => XS.bipush X0.here hx rfl (hb hby d6_21)) ?_
  show Ends p e below _ s₁ (mkF m 23 #[.val (.ref ar), .val (.int o)] [(.int (48 : Int32)), (.long (((g (O + 1)).toInt64) &&& (255 : Int64))), (.long ((((g O).toInt64) &&& (255 : Int64)) <<< ((56 : Int32) &&& 0x3f).toInt64))])
  refine Ends.by (fun _ => XS.lshl X0.here hx rfl (hb hby d6_23) rfl) ?_
  show Ends p e below _ s₁ (mkF m 24 #[.val (.ref ar), .val (.int o)] [(.long ((((g (O + 1)).toInt64) &&& (255 : Int64)) <<< ((48 : Int32) &&& 0x3f).toInt64)), (.long ((((g O).toInt64) &&& (255 : Int64)) <<< ((56 : Int32) &&& 0x3f).toInt64))])
  refine Ends.by (fun _ => XS.lor X0.here hx rfl (hb hby d6_24) rfl) ?_
  show Ends p e below _ s₁ (mkF m 25 #[.val (.ref ar), .val (.int o)] [(.long (((((g O).toInt64) &&& (255 : Int64)) <<< ((56 : Int32) &&& 0x3f).toInt64) ||| ((((g (O + 1)).toInt64) &&& (255 : Int64)) <<< ((48 : Int32) &&& 0x3f).toInt64)))])
  refine Ends.by (fun _ => XS.aloadN X0.here hx rfl (hb hby d6_25) rfl rfl) ?_
  show Ends p e below _ s₁ (mkF m 26 #[.val (.ref ar), .val (.int o)] [(.ref ar), (.long (((((g O).toInt64) &&& (255 : Int64)) <<< ((56 : Int32) &&& 0x3f).toInt64) ||| ((((g (O + 1)).toInt64) &&& (255 : Int64)) <<< ((48 : Int32) &&& 0x3f).toInt64)))])
  refine Ends.by (fun _ => XS.iloadN X0.here hx rfl (hb hby d6_26) rfl) ?_
  show Ends p e below _ s₁ (mkF m 27 #[.val (.ref ar), .val (.int o)] [(.int o), (.ref ar), (.long (((((g O).toInt64) &&& (255 : Int64)) <<< ((56 : Int32) &&& 0x3f).toInt64) ||| ((((g (O + 1)).toInt64) &&& (255 : Int64)) <<< ((48 : Int32) &&& 0x3f).toInt64)))])
  refine Ends.by (fun _ => XS.iconst X0.here hx rfl (hb hby d6_27)) ?_
  show Ends p e below _ s₁ (mkF m 28 #[.val (.ref ar), .val (.int o)] [(.int (2 : Int32)), (.int o), (.ref ar), (.long (((((g O).toInt64) &&& (255 : Int64)) <<< ((56 : Int32) &&& 0x3f).toInt64) ||| ((((g (O + 1)).toInt64) &&& (255 : Int64)) <<< ((48 : Int32) &&& 0x3f).toInt64)))])
  refine Ends.by (fun _ => XS.iadd X0.here hx rfl (hb hby d6_28) rfl) ?_
  show Ends p e below _ s₁ (mkF m 29 #[.val (.ref ar), .val (.int o)] [(.int (o + (2 : Int32))), (.ref ar), (.long (((((g O).toInt64) &&& (255 : Int64)) <<< ((56 : Int32) &&& 0x3f).toInt64) ||| ((((g (O + 1)).toInt64) &&& (255 : Int64)) <<< ((48 : Int32) &&& 0x3f).toInt64)))])
  refine Ends.ldB X0 hx hZ e0 A0 (k := (O + 2)) (own_off ho hO hn _ 2 (by decide) (by decide)) (by omega) (v := (.int (g (O + 2)))) rfl (hb hby d6_29) ?_
  show Ends p e below _ s₁ (mkF m 30 #[.val (.ref ar), .val (.int o)] [(.int (g (O + 2))), (.long (((((g O).toInt64) &&& (255 : Int64)) <<< ((56 : Int32) &&& 0x3f).toInt64) ||| ((((g (O + 1)).toInt64) &&& (255 : Int64)) <<< ((48 : Int32) &&& 0x3f).toInt64)))])
  refine Ends.by (fun _ => XS.i2l X0.here hx rfl (hb hby d6_30) rfl) ?_
  show Ends p e below _ s₁ (mkF m 31 #[.val (.ref ar), .val (.int o)] [(.long ((g (O + 2)).toInt64)), (.long (((((g O).toInt64) &&& (255 : Int64)) <<< ((56 : Int32) &&& 0x3f).toInt64) ||| ((((g (O + 1)).toInt64) &&& (255 : Int64)) <<< ((48 : Int32) &&& 0x3f).toInt64)))])
  refine Ends.by (X0.ldc2Long hx hown (mvT hZ (hw _ (List.mem_of_getElem? (i := 36) rfl))) (g := (mkF m 31 #[.val (.ref ar), .val (.int o)] [(.long ((g (O + 2)).toInt64)), (.long (((((g O).toInt64) &&& (255 : Int64)) <<< ((56 : Int32) &&& 0x3f).toInt64) ||| ((((g (O + 1)).toInt64) &&& (255 : Int64)) <<< ((48 : Int32) &&& 0x3f).toInt64)))])) rfl (hb hby d6_31)) ?_
  show Ends p e below _ s₁ (mkF m 34 #[.val (.ref ar), .val (.int o)] [(.long (255 : Int64)), (.long ((g (O + 2)).toInt64)), (.long (((((g O).toInt64) &&& (255 : Int64)) <<< ((56 : Int32) &&& 0x3f).toInt64) ||| ((((g (O + 1)).toInt64) &&& (255 : Int64)) <<< ((48 : Int32) &&& 0x3f).toInt64)))])
  refine Ends.by (fun _ => XS.land X0.here hx rfl (hb hby d6_34) rfl) ?_
  show Ends p e below _ s₁ (mkF m 35 #[.val (.ref ar), .val (.int o)] [(.long (((g (O + 2)).toInt64) &&& (255 : Int64))), (.long (((((g O).toInt64) &&& (255 : Int64)) <<< ((56 : Int32) &&& 0x3f).toInt64) ||| ((((g (O + 1)).toInt64) &&& (255 : Int64)) <<< ((48 : Int32) &&& 0x3f).toInt64)))])
  refine Ends.by (fun _ => XS.bipush X0.here hx rfl (hb hby d6_35)) ?_
  show Ends p e below _ s₁ (mkF m 37 #[.val (.ref ar), .val (.int o)] [(.int (40 : Int32)), (.long (((g (O + 2)).toInt64) &&& (255 : Int64))), (.long (((((g O).toInt64) &&& (255 : Int64)) <<< ((56 : Int32) &&& 0x3f).toInt64) ||| ((((g (O + 1)).toInt64) &&& (255 : Int64)) <<< ((48 : Int32) &&& 0x3f).toInt64)))])
  refine Ends.by (fun _ => XS.lshl X0.here hx rfl (hb hby d6_37) rfl) ?_
  show Ends p e below _ s₁ (mkF m 38 #[.val (.ref ar), .val (.int o)] [(.long ((((g (O + 2)).toInt64) &&& (255 : Int64)) <<< ((40 : Int32) &&& 0x3f).toInt64)), (.long (((((g O).toInt64) &&& (255 : Int64)) <<< ((56 : Int32) &&& 0x3f).toInt64) ||| ((((g (O + 1)).toInt64) &&& (255 : Int64)) <<< ((48 : Int32) &&& 0x3f).toInt64)))])
  refine Ends.by (fun _ => XS.lor X0.here hx rfl (hb hby d6_38) rfl) ?_
  show Ends p e below _ s₁ (mkF m 39 #[.val (.ref ar), .val (.int o)] [(.long ((((((g O).toInt64) &&& (255 : Int64)) <<< ((56 : Int32) &&& 0x3f).toInt64) ||| ((((g (O + 1)).toInt64) &&& (255 : Int64)) <<< ((48 : Int32) &&& 0x3f).toInt64)) ||| ((((g (O + 2)).toInt64) &&& (255 : Int64)) <<< ((40 : Int32) &&& 0x3f).toInt64)))])
  refine Ends.by (fun _ => XS.aloadN X0.here hx rfl (hb hby d6_39) rfl rfl) ?_
  show Ends p e below _ s₁ (mkF m 40 #[.val (.ref ar), .val (.int o)] [(.ref ar), (.long ((((((g O).toInt64) &&& (255 : Int64)) <<< ((56 : Int32) &&& 0x3f).toInt64) ||| ((((g (O + 1)).toInt64) &&& (255 : Int64)) <<< ((48 : Int32) &&& 0x3f).toInt64)) ||| ((((g (O + 2)).toInt64) &&& (255 : Int64)) <<< ((40 : Int32) &&& 0x3f).toInt64)))])
  refine Ends.by (fun _ => XS.iloadN X0.here hx rfl (hb hby d6_40) rfl) ?_
  show Ends p e below _ s₁ (mkF m 41 #[.val (.ref ar), .val (.int o)] [(.int o), (.ref ar), (.long ((((((g O).toInt64) &&& (255 : Int64)) <<< ((56 : Int32) &&& 0x3f).toInt64) ||| ((((g (O + 1)).toInt64) &&& (255 : Int64)) <<< ((48 : Int32) &&& 0x3f).toInt64)) ||| ((((g (O + 2)).toInt64) &&& (255 : Int64)) <<< ((40 : Int32) &&& 0x3f).toInt64)))])
  refine Ends.by (fun _ => XS.iconst X0.here hx rfl (hb hby d6_41)) ?_
  show Ends p e below _ s₁ (mkF m 42 #[.val (.ref ar), .val (.int o)] [(.int (3 : Int32)), (.int o), (.ref ar), (.long ((((((g O).toInt64) &&& (255 : Int64)) <<< ((56 : Int32) &&& 0x3f).toInt64) ||| ((((g (O + 1)).toInt64) &&& (255 : Int64)) <<< ((48 : Int32) &&& 0x3f).toInt64)) ||| ((((g (O + 2)).toInt64) &&& (255 : Int64)) <<< ((40 : Int32) &&& 0x3f).toInt64)))])
  refine Ends.by (fun _ => XS.iadd X0.here hx rfl (hb hby d6_42) rfl) ?_
  show Ends p e below _ s₁ (mkF m 43 #[.val (.ref ar), .val (.int o)] [(.int (o + (3 : Int32))), (.ref ar), (.long ((((((g O).toInt64) &&& (255 : Int64)) <<< ((56 : Int32) &&& 0x3f).toInt64) ||| ((((g (O + 1)).toInt64) &&& (255 : Int64)) <<< ((48 : Int32) &&& 0x3f).toInt64)) ||| ((((g (O + 2)).toInt64) &&& (255 : Int64)) <<< ((40 : Int32) &&& 0x3f).toInt64)))])
  refine Ends.ldB X0 hx hZ e0 A0 (k := (O + 3)) (own_off ho hO hn _ 3 (by decide) (by decide)) (by omega) (v := (.int (g (O + 3)))) rfl (hb hby d6_43) ?_
  show Ends p e below _ s₁ (mkF m 44 #[.val (.ref ar), .val (.int o)] [(.int (g (O + 3))), (.long ((((((g O).toInt64) &&& (255 : Int64)) <<< ((56 : Int32) &&& 0x3f).toInt64) ||| ((((g (O + 1)).toInt64) &&& (255 : Int64)) <<< ((48 : Int32) &&& 0x3f).toInt64)) ||| ((((g (O + 2)).toInt64) &&& (255 : Int64)) <<< ((40 : Int32) &&& 0x3f).toInt64)))])
  refine Ends.by (fun _ => XS.i2l X0.here hx rfl (hb hby d6_44) rfl) ?_
  show Ends p e below _ s₁ (mkF m 45 #[.val (.ref ar), .val (.int o)] [(.long ((g (O + 3)).toInt64)), (.long ((((((g O).toInt64) &&& (255 : Int64)) <<< ((56 : Int32) &&& 0x3f).toInt64) ||| ((((g (O + 1)).toInt64) &&& (255 : Int64)) <<< ((48 : Int32) &&& 0x3f).toInt64)) ||| ((((g (O + 2)).toInt64) &&& (255 : Int64)) <<< ((40 : Int32) &&& 0x3f).toInt64)))])
  refine Ends.by (X0.ldc2Long hx hown (mvT hZ (hw _ (List.mem_of_getElem? (i := 36) rfl))) (g := (mkF m 45 #[.val (.ref ar), .val (.int o)] [(.long ((g (O + 3)).toInt64)), (.long ((((((g O).toInt64) &&& (255 : Int64)) <<< ((56 : Int32) &&& 0x3f).toInt64) ||| ((((g (O + 1)).toInt64) &&& (255 : Int64)) <<< ((48 : Int32) &&& 0x3f).toInt64)) ||| ((((g (O + 2)).toInt64) &&& (255 : Int64)) <<< ((40 : Int32) &&& 0x3f).toInt64)))])) rfl (hb hby d6_45)) ?_
  show Ends p e below _ s₁ (mkF m 48 #[.val (.ref ar), .val (.int o)] [(.long (255 : Int64)), (.long ((g (O + 3)).toInt64)), (.long ((((((g O).toInt64) &&& (255 : Int64)) <<< ((56 : Int32) &&& 0x3f).toInt64) ||| ((((g (O + 1)).toInt64) &&& (255 : Int64)) <<< ((48 : Int32) &&& 0x3f).toInt64)) ||| ((((g (O + 2)).toInt64) &&& (255 : Int64)) <<< ((40 : Int32) &&& 0x3f).toInt64)))])
  refine Ends.by (fun _ => XS.land X0.here hx rfl (hb hby d6_48) rfl) ?_
  show Ends p e below _ s₁ (mkF m 49 #[.val (.ref ar), .val (.int o)] [(.long (((g (O + 3)).toInt64) &&& (255 : Int64))), (.long ((((((g O).toInt64) &&& (255 : Int64)) <<< ((56 : Int32) &&& 0x3f).toInt64) ||| ((((g (O + 1)).toInt64) &&& (255 : Int64)) <<< ((48 : Int32) &&& 0x3f).toInt64)) ||| ((((g (O + 2)).toInt64) &&& (255 : Int64)) <<< ((40 : Int32) &&& 0x3f).toInt64)))])
  refine Ends.by (fun _ => XS.bipush X0.here hx rfl (hb hby d6_49)) ?_
  show Ends p e below _ s₁ (mkF m 51 #[.val (.ref ar), .val (.int o)] [(.int (32 : Int32)), (.long (((g (O + 3)).toInt64) &&& (255 : Int64))), (.long ((((((g O).toInt64) &&& (255 : Int64)) <<< ((56 : Int32) &&& 0x3f).toInt64) ||| ((((g (O + 1)).toInt64) &&& (255 : Int64)) <<< ((48 : Int32) &&& 0x3f).toInt64)) ||| ((((g (O + 2)).toInt64) &&& (255 : Int64)) <<< ((40 : Int32) &&& 0x3f).toInt64)))])
  refine Ends.by (fun _ => XS.lshl X0.here hx rfl (hb hby d6_51) rfl) ?_
  show Ends p e below _ s₁ (mkF m 52 #[.val (.ref ar), .val (.int o)] [(.long ((((g (O + 3)).toInt64) &&& (255 : Int64)) <<< ((32 : Int32) &&& 0x3f).toInt64)), (.long ((((((g O).toInt64) &&& (255 : Int64)) <<< ((56 : Int32) &&& 0x3f).toInt64) ||| ((((g (O + 1)).toInt64) &&& (255 : Int64)) <<< ((48 : Int32) &&& 0x3f).toInt64)) ||| ((((g (O + 2)).toInt64) &&& (255 : Int64)) <<< ((40 : Int32) &&& 0x3f).toInt64)))])
  refine Ends.by (fun _ => XS.lor X0.here hx rfl (hb hby d6_52) rfl) ?_
  show Ends p e below _ s₁ (mkF m 53 #[.val (.ref ar), .val (.int o)] [(.long (((((((g O).toInt64) &&& (255 : Int64)) <<< ((56 : Int32) &&& 0x3f).toInt64) ||| ((((g (O + 1)).toInt64) &&& (255 : Int64)) <<< ((48 : Int32) &&& 0x3f).toInt64)) ||| ((((g (O + 2)).toInt64) &&& (255 : Int64)) <<< ((40 : Int32) &&& 0x3f).toInt64)) ||| ((((g (O + 3)).toInt64) &&& (255 : Int64)) <<< ((32 : Int32) &&& 0x3f).toInt64)))])
  refine Ends.by (fun _ => XS.aloadN X0.here hx rfl (hb hby d6_53) rfl rfl) ?_
  show Ends p e below _ s₁ (mkF m 54 #[.val (.ref ar), .val (.int o)] [(.ref ar), (.long (((((((g O).toInt64) &&& (255 : Int64)) <<< ((56 : Int32) &&& 0x3f).toInt64) ||| ((((g (O + 1)).toInt64) &&& (255 : Int64)) <<< ((48 : Int32) &&& 0x3f).toInt64)) ||| ((((g (O + 2)).toInt64) &&& (255 : Int64)) <<< ((40 : Int32) &&& 0x3f).toInt64)) ||| ((((g (O + 3)).toInt64) &&& (255 : Int64)) <<< ((32 : Int32) &&& 0x3f).toInt64)))])
  refine Ends.by (fun _ => XS.iloadN X0.here hx rfl (hb hby d6_54) rfl) ?_
  show Ends p e below _ s₁ (mkF m 55 #[.val (.ref ar), .val (.int o)] [(.int o), (.ref ar), (.long (((((((g O).toInt64) &&& (255 : Int64)) <<< ((56 : Int32) &&& 0x3f).toInt64) ||| ((((g (O + 1)).toInt64) &&& (255 : Int64)) <<< ((48 : Int32) &&& 0x3f).toInt64)) ||| ((((g (O + 2)).toInt64) &&& (255 : Int64)) <<< ((40 : Int32) &&& 0x3f).toInt64)) ||| ((((g (O + 3)).toInt64) &&& (255 : Int64)) <<< ((32 : Int32) &&& 0x3f).toInt64)))])
  refine Ends.by (fun _ => XS.iconst X0.here hx rfl (hb hby d6_55)) ?_
  show Ends p e below _ s₁ (mkF m 56 #[.val (.ref ar), .val (.int o)] [(.int (4 : Int32)), (.int o), (.ref ar), (.long (((((((g O).toInt64) &&& (255 : Int64)) <<< ((56 : Int32) &&& 0x3f).toInt64) ||| ((((g (O + 1)).toInt64) &&& (255 : Int64)) <<< ((48 : Int32) &&& 0x3f).toInt64)) ||| ((((g (O + 2)).toInt64) &&& (255 : Int64)) <<< ((40 : Int32) &&& 0x3f).toInt64)) ||| ((((g (O + 3)).toInt64) &&& (255 : Int64)) <<< ((32 : Int32) &&& 0x3f).toInt64)))])
  refine Ends.by (fun _ => XS.iadd X0.here hx rfl (hb hby d6_56) rfl) ?_
  show Ends p e below _ s₁ (mkF m 57 #[.val (.ref ar), .val (.int o)] [(.int (o + (4 : Int32))), (.ref ar), (.long (((((((g O).toInt64) &&& (255 : Int64)) <<< ((56 : Int32) &&& 0x3f).toInt64) ||| ((((g (O + 1)).toInt64) &&& (255 : Int64)) <<< ((48 : Int32) &&& 0x3f).toInt64)) ||| ((((g (O + 2)).toInt64) &&& (255 : Int64)) <<< ((40 : Int32) &&& 0x3f).toInt64)) ||| ((((g (O + 3)).toInt64) &&& (255 : Int64)) <<< ((32 : Int32) &&& 0x3f).toInt64)))])
  refine Ends.ldB X0 hx hZ e0 A0 (k := (O + 4)) (own_off ho hO hn _ 4 (by decide) (by decide)) (by omega) (v := (.int (g (O + 4)))) rfl (hb hby d6_57) ?_
  show Ends p e below _ s₁ (mkF m 58 #[.val (.ref ar), .val (.int o)] [(.int (g (O + 4))), (.long (((((((g O).toInt64) &&& (255 : Int64)) <<< ((56 : Int32) &&& 0x3f).toInt64) ||| ((((g (O + 1)).toInt64) &&& (255 : Int64)) <<< ((48 : Int32) &&& 0x3f).toInt64)) ||| ((((g (O + 2)).toInt64) &&& (255 : Int64)) <<< ((40 : Int32) &&& 0x3f).toInt64)) ||| ((((g (O + 3)).toInt64) &&& (255 : Int64)) <<< ((32 : Int32) &&& 0x3f).toInt64)))])
  refine Ends.by (fun _ => XS.i2l X0.here hx rfl (hb hby d6_58) rfl) ?_
  show Ends p e below _ s₁ (mkF m 59 #[.val (.ref ar), .val (.int o)] [(.long ((g (O + 4)).toInt64)), (.long (((((((g O).toInt64) &&& (255 : Int64)) <<< ((56 : Int32) &&& 0x3f).toInt64) ||| ((((g (O + 1)).toInt64) &&& (255 : Int64)) <<< ((48 : Int32) &&& 0x3f).toInt64)) ||| ((((g (O + 2)).toInt64) &&& (255 : Int64)) <<< ((40 : Int32) &&& 0x3f).toInt64)) ||| ((((g (O + 3)).toInt64) &&& (255 : Int64)) <<< ((32 : Int32) &&& 0x3f).toInt64)))])
  refine Ends.by (X0.ldc2Long hx hown (mvT hZ (hw _ (List.mem_of_getElem? (i := 36) rfl))) (g := (mkF m 59 #[.val (.ref ar), .val (.int o)] [(.long ((g (O + 4)).toInt64)), (.long (((((((g O).toInt64) &&& (255 : Int64)) <<< ((56 : Int32) &&& 0x3f).toInt64) ||| ((((g (O + 1)).toInt64) &&& (255 : Int64)) <<< ((48 : Int32) &&& 0x3f).toInt64)) ||| ((((g (O + 2)).toInt64) &&& (255 : Int64)) <<< ((40 : Int32) &&& 0x3f).toInt64)) ||| ((((g (O + 3)).toInt64) &&& (255 : Int64)) <<< ((32 : Int32) &&& 0x3f).toInt64)))])) rfl (hb hby d6_59)) ?_
  show Ends p e below _ s₁ (mkF m 62 #[.val (.ref ar), .val (.int o)] [(.long (255 : Int64)), (.long ((g (O + 4)).toInt64)), (.long (((((((g O).toInt64) &&& (255 : Int64)) <<< ((56 : Int32) &&& 0x3f).toInt64) ||| ((((g (O + 1)).toInt64) &&& (255 : Int64)) <<< ((48 : Int32) &&& 0x3f).toInt64)) ||| ((((g (O + 2)).toInt64) &&& (255 : Int64)) <<< ((40 : Int32) &&& 0x3f).toInt64)) ||| ((((g (O + 3)).toInt64) &&& (255 : Int64)) <<< ((32 : Int32) &&& 0x3f).toInt64)))])
  refine Ends.by (fun _ => XS.land X0.here hx rfl (hb hby d6_62) rfl) ?_
  show Ends p e below _ s₁ (mkF m 63 #[.val (.ref ar), .val (.int o)] [(.long (((g (O + 4)).toInt64) &&& (255 : Int64))), (.long (((((((g O).toInt64) &&& (255 : Int64)) <<< ((56 : Int32) &&& 0x3f).toInt64) ||| ((((g (O + 1)).toInt64) &&& (255 : Int64)) <<< ((48 : Int32) &&& 0x3f).toInt64)) ||| ((((g (O + 2)).toInt64) &&& (255 : Int64)) <<< ((40 : Int32) &&& 0x3f).toInt64)) ||| ((((g (O + 3)).toInt64) &&& (255 : Int64)) <<< ((32 : Int32) &&& 0x3f).toInt64)))])
  refine Ends.by (fun _ => XS.bipush X0.here hx rfl (hb hby d6_63)) ?_
  show Ends p e below _ s₁ (mkF m 65 #[.val (.ref ar), .val (.int o)] [(.int (24 : Int32)), (.long (((g (O + 4)).toInt64) &&& (255 : Int64))), (.long (((((((g O).toInt64) &&& (255 : Int64)) <<< ((56 : Int32) &&& 0x3f).toInt64) ||| ((((g (O + 1)).toInt64) &&& (255 : Int64)) <<< ((48 : Int32) &&& 0x3f).toInt64)) ||| ((((g (O + 2)).toInt64) &&& (255 : Int64)) <<< ((40 : Int32) &&& 0x3f).toInt64)) ||| ((((g (O + 3)).toInt64) &&& (255 : Int64)) <<< ((32 : Int32) &&& 0x3f).toInt64)))])
  refine Ends.by (fun _ => XS.lshl X0.here hx rfl (hb hby d6_65) rfl) ?_
  show Ends p e below _ s₁ (mkF m 66 #[.val (.ref ar), .val (.int o)] [(.long ((((g (O + 4)).toInt64) &&& (255 : Int64)) <<< ((24 : Int32) &&& 0x3f).toInt64)), (.long (((((((g O).toInt64) &&& (255 : Int64)) <<< ((56 : Int32) &&& 0x3f).toInt64) ||| ((((g (O + 1)).toInt64) &&& (255 : Int64)) <<< ((48 : Int32) &&& 0x3f).toInt64)) ||| ((((g (O + 2)).toInt64) &&& (255 : Int64)) <<< ((40 : Int32) &&& 0x3f).toInt64)) ||| ((((g (O + 3)).toInt64) &&& (255 : Int64)) <<< ((32 : Int32) &&& 0x3f).toInt64)))])
  refine Ends.by (fun _ => XS.lor X0.here hx rfl (hb hby d6_66) rfl) ?_
  show Ends p e below _ s₁ (mkF m 67 #[.val (.ref ar), .val (.int o)] [(.long ((((((((g O).toInt64) &&& (255 : Int64)) <<< ((56 : Int32) &&& 0x3f).toInt64) ||| ((((g (O + 1)).toInt64) &&& (255 : Int64)) <<< ((48 : Int32) &&& 0x3f).toInt64)) ||| ((((g (O + 2)).toInt64) &&& (255 : Int64)) <<< ((40 : Int32) &&& 0x3f).toInt64)) ||| ((((g (O + 3)).toInt64) &&& (255 : Int64)) <<< ((32 : Int32) &&& 0x3f).toInt64)) ||| ((((g (O + 4)).toInt64) &&& (255 : Int64)) <<< ((24 : Int32) &&& 0x3f).toInt64)))])
  refine Ends.by (fun _ => XS.aloadN X0.here hx rfl (hb hby d6_67) rfl rfl) ?_
  show Ends p e below _ s₁ (mkF m 68 #[.val (.ref ar), .val (.int o)] [(.ref ar), (.long ((((((((g O).toInt64) &&& (255 : Int64)) <<< ((56 : Int32) &&& 0x3f).toInt64) ||| ((((g (O + 1)).toInt64) &&& (255 : Int64)) <<< ((48 : Int32) &&& 0x3f).toInt64)) ||| ((((g (O + 2)).toInt64) &&& (255 : Int64)) <<< ((40 : Int32) &&& 0x3f).toInt64)) ||| ((((g (O + 3)).toInt64) &&& (255 : Int64)) <<< ((32 : Int32) &&& 0x3f).toInt64)) ||| ((((g (O + 4)).toInt64) &&& (255 : Int64)) <<< ((24 : Int32) &&& 0x3f).toInt64)))])
  refine Ends.by (fun _ => XS.iloadN X0.here hx rfl (hb hby d6_68) rfl) ?_
  show Ends p e below _ s₁ (mkF m 69 #[.val (.ref ar), .val (.int o)] [(.int o), (.ref ar), (.long ((((((((g O).toInt64) &&& (255 : Int64)) <<< ((56 : Int32) &&& 0x3f).toInt64) ||| ((((g (O + 1)).toInt64) &&& (255 : Int64)) <<< ((48 : Int32) &&& 0x3f).toInt64)) ||| ((((g (O + 2)).toInt64) &&& (255 : Int64)) <<< ((40 : Int32) &&& 0x3f).toInt64)) ||| ((((g (O + 3)).toInt64) &&& (255 : Int64)) <<< ((32 : Int32) &&& 0x3f).toInt64)) ||| ((((g (O + 4)).toInt64) &&& (255 : Int64)) <<< ((24 : Int32) &&& 0x3f).toInt64)))])
  refine Ends.by (fun _ => XS.iconst X0.here hx rfl (hb hby d6_69)) ?_
  show Ends p e below _ s₁ (mkF m 70 #[.val (.ref ar), .val (.int o)] [(.int (5 : Int32)), (.int o), (.ref ar), (.long ((((((((g O).toInt64) &&& (255 : Int64)) <<< ((56 : Int32) &&& 0x3f).toInt64) ||| ((((g (O + 1)).toInt64) &&& (255 : Int64)) <<< ((48 : Int32) &&& 0x3f).toInt64)) ||| ((((g (O + 2)).toInt64) &&& (255 : Int64)) <<< ((40 : Int32) &&& 0x3f).toInt64)) ||| ((((g (O + 3)).toInt64) &&& (255 : Int64)) <<< ((32 : Int32) &&& 0x3f).toInt64)) ||| ((((g (O + 4)).toInt64) &&& (255 : Int64)) <<< ((24 : Int32) &&& 0x3f).toInt64)))])
  refine Ends.by (fun _ => XS.iadd X0.here hx rfl (hb hby d6_70) rfl) ?_
  show Ends p e below _ s₁ (mkF m 71 #[.val (.ref ar), .val (.int o)] [(.int (o + (5 : Int32))), (.ref ar), (.long ((((((((g O).toInt64) &&& (255 : Int64)) <<< ((56 : Int32) &&& 0x3f).toInt64) ||| ((((g (O + 1)).toInt64) &&& (255 : Int64)) <<< ((48 : Int32) &&& 0x3f).toInt64)) ||| ((((g (O + 2)).toInt64) &&& (255 : Int64)) <<< ((40 : Int32) &&& 0x3f).toInt64)) ||| ((((g (O + 3)).toInt64) &&& (255 : Int64)) <<< ((32 : Int32) &&& 0x3f).toInt64)) ||| ((((g (O + 4)).toInt64) &&& (255 : Int64)) <<< ((24 : Int32) &&& 0x3f).toInt64)))])
  refine Ends.ldB X0 hx hZ e0 A0 (k := (O + 5)) (own_off ho hO hn _ 5 (by decide) (by decide)) (by omega) (v := (.int (g (O + 5)))) rfl (hb hby d6_71) ?_
  show Ends p e below _ s₁ (mkF m 72 #[.val (.ref ar), .val (.int o)] [(.int (g (O + 5))), (.long ((((((((g O).toInt64) &&& (255 : Int64)) <<< ((56 : Int32) &&& 0x3f).toInt64) ||| ((((g (O + 1)).toInt64) &&& (255 : Int64)) <<< ((48 : Int32) &&& 0x3f).toInt64)) ||| ((((g (O + 2)).toInt64) &&& (255 : Int64)) <<< ((40 : Int32) &&& 0x3f).toInt64)) ||| ((((g (O + 3)).toInt64) &&& (255 : Int64)) <<< ((32 : Int32) &&& 0x3f).toInt64)) ||| ((((g (O + 4)).toInt64) &&& (255 : Int64)) <<< ((24 : Int32) &&& 0x3f).toInt64)))])
  refine Ends.by (fun _ => XS.i2l X0.here hx rfl (hb hby d6_72) rfl) ?_
  show Ends p e below _ s₁ (mkF m 73 #[.val (.ref ar), .val (.int o)] [(.long ((g (O + 5)).toInt64)), (.long ((((((((g O).toInt64) &&& (255 : Int64)) <<< ((56 : Int32) &&& 0x3f).toInt64) ||| ((((g (O + 1)).toInt64) &&& (255 : Int64)) <<< ((48 : Int32) &&& 0x3f).toInt64)) ||| ((((g (O + 2)).toInt64) &&& (255 : Int64)) <<< ((40 : Int32) &&& 0x3f).toInt64)) ||| ((((g (O + 3)).toInt64) &&& (255 : Int64)) <<< ((32 : Int32) &&& 0x3f).toInt64)) ||| ((((g (O + 4)).toInt64) &&& (255 : Int64)) <<< ((24 : Int32) &&& 0x3f).toInt64)))])
  refine Ends.by (X0.ldc2Long hx hown (mvT hZ (hw _ (List.mem_of_getElem? (i := 36) rfl))) (g := (mkF m 73 #[.val (.ref ar), .val (.int o)] [(.long ((g (O + 5)).toInt64)), (.long ((((((((g O).toInt64) &&& (255 : Int64)) <<< ((56 : Int32) &&& 0x3f).toInt64) ||| ((((g (O + 1)).toInt64) &&& (255 : Int64)) <<< ((48 : Int32) &&& 0x3f).toInt64)) ||| ((((g (O + 2)).toInt64) &&& (255 : Int64)) <<< ((40 : Int32) &&& 0x3f).toInt64)) ||| ((((g (O + 3)).toInt64) &&& (255 : Int64)) <<< ((32 : Int32) &&& 0x3f).toInt64)) ||| ((((g (O + 4)).toInt64) &&& (255 : Int64)) <<< ((24 : Int32) &&& 0x3f).toInt64)))])) rfl (hb hby d6_73)) ?_
  show Ends p e below _ s₁ (mkF m 76 #[.val (.ref ar), .val (.int o)] [(.long (255 : Int64)), (.long ((g (O + 5)).toInt64)), (.long ((((((((g O).toInt64) &&& (255 : Int64)) <<< ((56 : Int32) &&& 0x3f).toInt64) ||| ((((g (O + 1)).toInt64) &&& (255 : Int64)) <<< ((48 : Int32) &&& 0x3f).toInt64)) ||| ((((g (O + 2)).toInt64) &&& (255 : Int64)) <<< ((40 : Int32) &&& 0x3f).toInt64)) ||| ((((g (O + 3)).toInt64) &&& (255 : Int64)) <<< ((32 : Int32) &&& 0x3f).toInt64)) ||| ((((g (O + 4)).toInt64) &&& (255 : Int64)) <<< ((24 : Int32) &&& 0x3f).toInt64)))])
  refine Ends.by (fun _ => XS.land X0.here hx rfl (hb hby d6_76) rfl) ?_
  show Ends p e below _ s₁ (mkF m 77 #[.val (.ref ar), .val (.int o)] [(.long (((g (O + 5)).toInt64) &&& (255 : Int64))), (.long ((((((((g O).toInt64) &&& (255 : Int64)) <<< ((56 : Int32) &&& 0x3f).toInt64) ||| ((((g (O + 1)).toInt64) &&& (255 : Int64)) <<< ((48 : Int32) &&& 0x3f).toInt64)) ||| ((((g (O + 2)).toInt64) &&& (255 : Int64)) <<< ((40 : Int32) &&& 0x3f).toInt64)) ||| ((((g (O + 3)).toInt64) &&& (255 : Int64)) <<< ((32 : Int32) &&& 0x3f).toInt64)) ||| ((((g (O + 4)).toInt64) &&& (255 : Int64)) <<< ((24 : Int32) &&& 0x3f).toInt64)))])
  refine Ends.by (fun _ => XS.bipush X0.here hx rfl (hb hby d6_77)) ?_
  show Ends p e below _ s₁ (mkF m 79 #[.val (.ref ar), .val (.int o)] [(.int (16 : Int32)), (.long (((g (O + 5)).toInt64) &&& (255 : Int64))), (.long ((((((((g O).toInt64) &&& (255 : Int64)) <<< ((56 : Int32) &&& 0x3f).toInt64) ||| ((((g (O + 1)).toInt64) &&& (255 : Int64)) <<< ((48 : Int32) &&& 0x3f).toInt64)) ||| ((((g (O + 2)).toInt64) &&& (255 : Int64)) <<< ((40 : Int32) &&& 0x3f).toInt64)) ||| ((((g (O + 3)).toInt64) &&& (255 : Int64)) <<< ((32 : Int32) &&& 0x3f).toInt64)) ||| ((((g (O + 4)).toInt64) &&& (255 : Int64)) <<< ((24 : Int32) &&& 0x3f).toInt64)))])
  refine Ends.by (fun _ => XS.lshl X0.here hx rfl (hb hby d6_79) rfl) ?_
  show Ends p e below _ s₁ (mkF m 80 #[.val (.ref ar), .val (.int o)] [(.long ((((g (O + 5)).toInt64) &&& (255 : Int64)) <<< ((16 : Int32) &&& 0x3f).toInt64)), (.long ((((((((g O).toInt64) &&& (255 : Int64)) <<< ((56 : Int32) &&& 0x3f).toInt64) ||| ((((g (O + 1)).toInt64) &&& (255 : Int64)) <<< ((48 : Int32) &&& 0x3f).toInt64)) ||| ((((g (O + 2)).toInt64) &&& (255 : Int64)) <<< ((40 : Int32) &&& 0x3f).toInt64)) ||| ((((g (O + 3)).toInt64) &&& (255 : Int64)) <<< ((32 : Int32) &&& 0x3f).toInt64)) ||| ((((g (O + 4)).toInt64) &&& (255 : Int64)) <<< ((24 : Int32) &&& 0x3f).toInt64)))])
  refine Ends.by (fun _ => XS.lor X0.here hx rfl (hb hby d6_80) rfl) ?_
  show Ends p e below _ s₁ (mkF m 81 #[.val (.ref ar), .val (.int o)] [(.long (((((((((g O).toInt64) &&& (255 : Int64)) <<< ((56 : Int32) &&& 0x3f).toInt64) ||| ((((g (O + 1)).toInt64) &&& (255 : Int64)) <<< ((48 : Int32) &&& 0x3f).toInt64)) ||| ((((g (O + 2)).toInt64) &&& (255 : Int64)) <<< ((40 : Int32) &&& 0x3f).toInt64)) ||| ((((g (O + 3)).toInt64) &&& (255 : Int64)) <<< ((32 : Int32) &&& 0x3f).toInt64)) ||| ((((g (O + 4)).toInt64) &&& (255 : Int64)) <<< ((24 : Int32) &&& 0x3f).toInt64)) ||| ((((g (O + 5)).toInt64) &&& (255 : Int64)) <<< ((16 : Int32) &&& 0x3f).toInt64)))])
  refine Ends.by (fun _ => XS.aloadN X0.here hx rfl (hb hby d6_81) rfl rfl) ?_
  show Ends p e below _ s₁ (mkF m 82 #[.val (.ref ar), .val (.int o)] [(.ref ar), (.long (((((((((g O).toInt64) &&& (255 : Int64)) <<< ((56 : Int32) &&& 0x3f).toInt64) ||| ((((g (O + 1)).toInt64) &&& (255 : Int64)) <<< ((48 : Int32) &&& 0x3f).toInt64)) ||| ((((g (O + 2)).toInt64) &&& (255 : Int64)) <<< ((40 : Int32) &&& 0x3f).toInt64)) ||| ((((g (O + 3)).toInt64) &&& (255 : Int64)) <<< ((32 : Int32) &&& 0x3f).toInt64)) ||| ((((g (O + 4)).toInt64) &&& (255 : Int64)) <<< ((24 : Int32) &&& 0x3f).toInt64)) ||| ((((g (O + 5)).toInt64) &&& (255 : Int64)) <<< ((16 : Int32) &&& 0x3f).toInt64)))])
  refine Ends.by (fun _ => XS.iloadN X0.here hx rfl (hb hby d6_82) rfl) ?_
  show Ends p e below _ s₁ (mkF m 83 #[.val (.ref ar), .val (.int o)] [(.int o), (.ref ar), (.long (((((((((g O).toInt64) &&& (255 : Int64)) <<< ((56 : Int32) &&& 0x3f).toInt64) ||| ((((g (O + 1)).toInt64) &&& (255 : Int64)) <<< ((48 : Int32) &&& 0x3f).toInt64)) ||| ((((g (O + 2)).toInt64) &&& (255 : Int64)) <<< ((40 : Int32) &&& 0x3f).toInt64)) ||| ((((g (O + 3)).toInt64) &&& (255 : Int64)) <<< ((32 : Int32) &&& 0x3f).toInt64)) ||| ((((g (O + 4)).toInt64) &&& (255 : Int64)) <<< ((24 : Int32) &&& 0x3f).toInt64)) ||| ((((g (O + 5)).toInt64) &&& (255 : Int64)) <<< ((16 : Int32) &&& 0x3f).toInt64)))])
  refine Ends.by (fun _ => XS.bipush X0.here hx rfl (hb hby d6_83)) ?_
  show Ends p e below _ s₁ (mkF m 85 #[.val (.ref ar), .val (.int o)] [(.int (6 : Int32)), (.int o), (.ref ar), (.long (((((((((g O).toInt64) &&& (255 : Int64)) <<< ((56 : Int32) &&& 0x3f).toInt64) ||| ((((g (O + 1)).toInt64) &&& (255 : Int64)) <<< ((48 : Int32) &&& 0x3f).toInt64)) ||| ((((g (O + 2)).toInt64) &&& (255 : Int64)) <<< ((40 : Int32) &&& 0x3f).toInt64)) ||| ((((g (O + 3)).toInt64) &&& (255 : Int64)) <<< ((32 : Int32) &&& 0x3f).toInt64)) ||| ((((g (O + 4)).toInt64) &&& (255 : Int64)) <<< ((24 : Int32) &&& 0x3f).toInt64)) ||| ((((g (O + 5)).toInt64) &&& (255 : Int64)) <<< ((16 : Int32) &&& 0x3f).toInt64)))])
  refine Ends.by (fun _ => XS.iadd X0.here hx rfl (hb hby d6_85) rfl) ?_
  show Ends p e below _ s₁ (mkF m 86 #[.val (.ref ar), .val (.int o)] [(.int (o + (6 : Int32))), (.ref ar), (.long (((((((((g O).toInt64) &&& (255 : Int64)) <<< ((56 : Int32) &&& 0x3f).toInt64) ||| ((((g (O + 1)).toInt64) &&& (255 : Int64)) <<< ((48 : Int32) &&& 0x3f).toInt64)) ||| ((((g (O + 2)).toInt64) &&& (255 : Int64)) <<< ((40 : Int32) &&& 0x3f).toInt64)) ||| ((((g (O + 3)).toInt64) &&& (255 : Int64)) <<< ((32 : Int32) &&& 0x3f).toInt64)) ||| ((((g (O + 4)).toInt64) &&& (255 : Int64)) <<< ((24 : Int32) &&& 0x3f).toInt64)) ||| ((((g (O + 5)).toInt64) &&& (255 : Int64)) <<< ((16 : Int32) &&& 0x3f).toInt64)))])
  refine Ends.ldB X0 hx hZ e0 A0 (k := (O + 6)) (own_off ho hO hn _ 6 (by decide) (by decide)) (by omega) (v := (.int (g (O + 6)))) rfl (hb hby d6_86) ?_
  show Ends p e below _ s₁ (mkF m 87 #[.val (.ref ar), .val (.int o)] [(.int (g (O + 6))), (.long (((((((((g O).toInt64) &&& (255 : Int64)) <<< ((56 : Int32) &&& 0x3f).toInt64) ||| ((((g (O + 1)).toInt64) &&& (255 : Int64)) <<< ((48 : Int32) &&& 0x3f).toInt64)) ||| ((((g (O + 2)).toInt64) &&& (255 : Int64)) <<< ((40 : Int32) &&& 0x3f).toInt64)) ||| ((((g (O + 3)).toInt64) &&& (255 : Int64)) <<< ((32 : Int32) &&& 0x3f).toInt64)) ||| ((((g (O + 4)).toInt64) &&& (255 : Int64)) <<< ((24 : Int32) &&& 0x3f).toInt64)) ||| ((((g (O + 5)).toInt64) &&& (255 : Int64)) <<< ((16 : Int32) &&& 0x3f).toInt64)))])
  refine Ends.by (fun _ => XS.i2l X0.here hx rfl (hb hby d6_87) rfl) ?_
  show Ends p e below _ s₁ (mkF m 88 #[.val (.ref ar), .val (.int o)] [(.long ((g (O + 6)).toInt64)), (.long (((((((((g O).toInt64) &&& (255 : Int64)) <<< ((56 : Int32) &&& 0x3f).toInt64) ||| ((((g (O + 1)).toInt64) &&& (255 : Int64)) <<< ((48 : Int32) &&& 0x3f).toInt64)) ||| ((((g (O + 2)).toInt64) &&& (255 : Int64)) <<< ((40 : Int32) &&& 0x3f).toInt64)) ||| ((((g (O + 3)).toInt64) &&& (255 : Int64)) <<< ((32 : Int32) &&& 0x3f).toInt64)) ||| ((((g (O + 4)).toInt64) &&& (255 : Int64)) <<< ((24 : Int32) &&& 0x3f).toInt64)) ||| ((((g (O + 5)).toInt64) &&& (255 : Int64)) <<< ((16 : Int32) &&& 0x3f).toInt64)))])
  refine Ends.by (X0.ldc2Long hx hown (mvT hZ (hw _ (List.mem_of_getElem? (i := 36) rfl))) (g := (mkF m 88 #[.val (.ref ar), .val (.int o)] [(.long ((g (O + 6)).toInt64)), (.long (((((((((g O).toInt64) &&& (255 : Int64)) <<< ((56 : Int32) &&& 0x3f).toInt64) ||| ((((g (O + 1)).toInt64) &&& (255 : Int64)) <<< ((48 : Int32) &&& 0x3f).toInt64)) ||| ((((g (O + 2)).toInt64) &&& (255 : Int64)) <<< ((40 : Int32) &&& 0x3f).toInt64)) ||| ((((g (O + 3)).toInt64) &&& (255 : Int64)) <<< ((32 : Int32) &&& 0x3f).toInt64)) ||| ((((g (O + 4)).toInt64) &&& (255 : Int64)) <<< ((24 : Int32) &&& 0x3f).toInt64)) ||| ((((g (O + 5)).toInt64) &&& (255 : Int64)) <<< ((16 : Int32) &&& 0x3f).toInt64)))])) rfl (hb hby d6_88)) ?_
  show Ends p e below _ s₁ (mkF m 91 #[.val (.ref ar), .val (.int o)] [(.long (255 : Int64)), (.long ((g (O + 6)).toInt64)), (.long (((((((((g O).toInt64) &&& (255 : Int64)) <<< ((56 : Int32) &&& 0x3f).toInt64) ||| ((((g (O + 1)).toInt64) &&& (255 : Int64)) <<< ((48 : Int32) &&& 0x3f).toInt64)) ||| ((((g (O + 2)).toInt64) &&& (255 : Int64)) <<< ((40 : Int32) &&& 0x3f).toInt64)) ||| ((((g (O + 3)).toInt64) &&& (255 : Int64)) <<< ((32 : Int32) &&& 0x3f).toInt64)) ||| ((((g (O + 4)).toInt64) &&& (255 : Int64)) <<< ((24 : Int32) &&& 0x3f).toInt64)) ||| ((((g (O + 5)).toInt64) &&& (255 : Int64)) <<< ((16 : Int32) &&& 0x3f).toInt64)))])
  refine Ends.by (fun _ => XS.land X0.here hx rfl (hb hby d6_91) rfl) ?_
  show Ends p e below _ s₁ (mkF m 92 #[.val (.ref ar), .val (.int o)] [(.long (((g (O + 6)).toInt64) &&& (255 : Int64))), (.long (((((((((g O).toInt64) &&& (255 : Int64)) <<< ((56 : Int32) &&& 0x3f).toInt64) ||| ((((g (O + 1)).toInt64) &&& (255 : Int64)) <<< ((48 : Int32) &&& 0x3f).toInt64)) ||| ((((g (O + 2)).toInt64) &&& (255 : Int64)) <<< ((40 : Int32) &&& 0x3f).toInt64)) ||| ((((g (O + 3)).toInt64) &&& (255 : Int64)) <<< ((32 : Int32) &&& 0x3f).toInt64)) ||| ((((g (O + 4)).toInt64) &&& (255 : Int64)) <<< ((24 : Int32) &&& 0x3f).toInt64)) ||| ((((g (O + 5)).toInt64) &&& (255 : Int64)) <<< ((16 : Int32) &&& 0x3f).toInt64)))])
  refine Ends.by (fun _ => XS.bipush X0.here hx rfl (hb hby d6_92)) ?_
  show Ends p e below _ s₁ (mkF m 94 #[.val (.ref ar), .val (.int o)] [(.int (8 : Int32)), (.long (((g (O + 6)).toInt64) &&& (255 : Int64))), (.long (((((((((g O).toInt64) &&& (255 : Int64)) <<< ((56 : Int32) &&& 0x3f).toInt64) ||| ((((g (O + 1)).toInt64) &&& (255 : Int64)) <<< ((48 : Int32) &&& 0x3f).toInt64)) ||| ((((g (O + 2)).toInt64) &&& (255 : Int64)) <<< ((40 : Int32) &&& 0x3f).toInt64)) ||| ((((g (O + 3)).toInt64) &&& (255 : Int64)) <<< ((32 : Int32) &&& 0x3f).toInt64)) ||| ((((g (O + 4)).toInt64) &&& (255 : Int64)) <<< ((24 : Int32) &&& 0x3f).toInt64)) ||| ((((g (O + 5)).toInt64) &&& (255 : Int64)) <<< ((16 : Int32) &&& 0x3f).toInt64)))])
  refine Ends.by (fun _ => XS.lshl X0.here hx rfl (hb hby d6_94) rfl) ?_
  show Ends p e below _ s₁ (mkF m 95 #[.val (.ref ar), .val (.int o)] [(.long ((((g (O + 6)).toInt64) &&& (255 : Int64)) <<< ((8 : Int32) &&& 0x3f).toInt64)), (.long (((((((((g O).toInt64) &&& (255 : Int64)) <<< ((56 : Int32) &&& 0x3f).toInt64) ||| ((((g (O + 1)).toInt64) &&& (255 : Int64)) <<< ((48 : Int32) &&& 0x3f).toInt64)) ||| ((((g (O + 2)).toInt64) &&& (255 : Int64)) <<< ((40 : Int32) &&& 0x3f).toInt64)) ||| ((((g (O + 3)).toInt64) &&& (255 : Int64)) <<< ((32 : Int32) &&& 0x3f).toInt64)) ||| ((((g (O + 4)).toInt64) &&& (255 : Int64)) <<< ((24 : Int32) &&& 0x3f).toInt64)) ||| ((((g (O + 5)).toInt64) &&& (255 : Int64)) <<< ((16 : Int32) &&& 0x3f).toInt64)))])
  refine Ends.by (fun _ => XS.lor X0.here hx rfl (hb hby d6_95) rfl) ?_
  show Ends p e below _ s₁ (mkF m 96 #[.val (.ref ar), .val (.int o)] [(.long ((((((((((g O).toInt64) &&& (255 : Int64)) <<< ((56 : Int32) &&& 0x3f).toInt64) ||| ((((g (O + 1)).toInt64) &&& (255 : Int64)) <<< ((48 : Int32) &&& 0x3f).toInt64)) ||| ((((g (O + 2)).toInt64) &&& (255 : Int64)) <<< ((40 : Int32) &&& 0x3f).toInt64)) ||| ((((g (O + 3)).toInt64) &&& (255 : Int64)) <<< ((32 : Int32) &&& 0x3f).toInt64)) ||| ((((g (O + 4)).toInt64) &&& (255 : Int64)) <<< ((24 : Int32) &&& 0x3f).toInt64)) ||| ((((g (O + 5)).toInt64) &&& (255 : Int64)) <<< ((16 : Int32) &&& 0x3f).toInt64)) ||| ((((g (O + 6)).toInt64) &&& (255 : Int64)) <<< ((8 : Int32) &&& 0x3f).toInt64)))])
  refine Ends.by (fun _ => XS.aloadN X0.here hx rfl (hb hby d6_96) rfl rfl) ?_
  show Ends p e below _ s₁ (mkF m 97 #[.val (.ref ar), .val (.int o)] [(.ref ar), (.long ((((((((((g O).toInt64) &&& (255 : Int64)) <<< ((56 : Int32) &&& 0x3f).toInt64) ||| ((((g (O + 1)).toInt64) &&& (255 : Int64)) <<< ((48 : Int32) &&& 0x3f).toInt64)) ||| ((((g (O + 2)).toInt64) &&& (255 : Int64)) <<< ((40 : Int32) &&& 0x3f).toInt64)) ||| ((((g (O + 3)).toInt64) &&& (255 : Int64)) <<< ((32 : Int32) &&& 0x3f).toInt64)) ||| ((((g (O + 4)).toInt64) &&& (255 : Int64)) <<< ((24 : Int32) &&& 0x3f).toInt64)) ||| ((((g (O + 5)).toInt64) &&& (255 : Int64)) <<< ((16 : Int32) &&& 0x3f).toInt64)) ||| ((((g (O + 6)).toInt64) &&& (255 : Int64)) <<< ((8 : Int32) &&& 0x3f).toInt64)))])
  refine Ends.by (fun _ => XS.iloadN X0.here hx rfl (hb hby d6_97) rfl) ?_
  show Ends p e below _ s₁ (mkF m 98 #[.val (.ref ar), .val (.int o)] [(.int o), (.ref ar), (.long ((((((((((g O).toInt64) &&& (255 : Int64)) <<< ((56 : Int32) &&& 0x3f).toInt64) ||| ((((g (O + 1)).toInt64) &&& (255 : Int64)) <<< ((48 : Int32) &&& 0x3f).toInt64)) ||| ((((g (O + 2)).toInt64) &&& (255 : Int64)) <<< ((40 : Int32) &&& 0x3f).toInt64)) ||| ((((g (O + 3)).toInt64) &&& (255 : Int64)) <<< ((32 : Int32) &&& 0x3f).toInt64)) ||| ((((g (O + 4)).toInt64) &&& (255 : Int64)) <<< ((24 : Int32) &&& 0x3f).toInt64)) ||| ((((g (O + 5)).toInt64) &&& (255 : Int64)) <<< ((16 : Int32) &&& 0x3f).toInt64)) ||| ((((g (O + 6)).toInt64) &&& (255 : Int64)) <<< ((8 : Int32) &&& 0x3f).toInt64)))])
  refine Ends.by (fun _ => XS.bipush X0.here hx rfl (hb hby d6_98)) ?_
  show Ends p e below _ s₁ (mkF m 100 #[.val (.ref ar), .val (.int o)] [(.int (7 : Int32)), (.int o), (.ref ar), (.long ((((((((((g O).toInt64) &&& (255 : Int64)) <<< ((56 : Int32) &&& 0x3f).toInt64) ||| ((((g (O + 1)).toInt64) &&& (255 : Int64)) <<< ((48 : Int32) &&& 0x3f).toInt64)) ||| ((((g (O + 2)).toInt64) &&& (255 : Int64)) <<< ((40 : Int32) &&& 0x3f).toInt64)) ||| ((((g (O + 3)).toInt64) &&& (255 : Int64)) <<< ((32 : Int32) &&& 0x3f).toInt64)) ||| ((((g (O + 4)).toInt64) &&& (255 : Int64)) <<< ((24 : Int32) &&& 0x3f).toInt64)) ||| ((((g (O + 5)).toInt64) &&& (255 : Int64)) <<< ((16 : Int32) &&& 0x3f).toInt64)) ||| ((((g (O + 6)).toInt64) &&& (255 : Int64)) <<< ((8 : Int32) &&& 0x3f).toInt64)))])
  refine Ends.by (fun _ => XS.iadd X0.here hx rfl (hb hby d6_100) rfl) ?_
  show Ends p e below _ s₁ (mkF m 101 #[.val (.ref ar), .val (.int o)] [(.int (o + (7 : Int32))), (.ref ar), (.long ((((((((((g O).toInt64) &&& (255 : Int64)) <<< ((56 : Int32) &&& 0x3f).toInt64) ||| ((((g (O + 1)).toInt64) &&& (255 : Int64)) <<< ((48 : Int32) &&& 0x3f).toInt64)) ||| ((((g (O + 2)).toInt64) &&& (255 : Int64)) <<< ((40 : Int32) &&& 0x3f).toInt64)) ||| ((((g (O + 3)).toInt64) &&& (255 : Int64)) <<< ((32 : Int32) &&& 0x3f).toInt64)) ||| ((((g (O + 4)).toInt64) &&& (255 : Int64)) <<< ((24 : Int32) &&& 0x3f).toInt64)) ||| ((((g (O + 5)).toInt64) &&& (255 : Int64)) <<< ((16 : Int32) &&& 0x3f).toInt64)) ||| ((((g (O + 6)).toInt64) &&& (255 : Int64)) <<< ((8 : Int32) &&& 0x3f).toInt64)))])
  refine Ends.ldB X0 hx hZ e0 A0 (k := (O + 7)) (own_off ho hO hn _ 7 (by decide) (by decide)) (by omega) (v := (.int (g (O + 7)))) rfl (hb hby d6_101) ?_
  show Ends p e below _ s₁ (mkF m 102 #[.val (.ref ar), .val (.int o)] [(.int (g (O + 7))), (.long ((((((((((g O).toInt64) &&& (255 : Int64)) <<< ((56 : Int32) &&& 0x3f).toInt64) ||| ((((g (O + 1)).toInt64) &&& (255 : Int64)) <<< ((48 : Int32) &&& 0x3f).toInt64)) ||| ((((g (O + 2)).toInt64) &&& (255 : Int64)) <<< ((40 : Int32) &&& 0x3f).toInt64)) ||| ((((g (O + 3)).toInt64) &&& (255 : Int64)) <<< ((32 : Int32) &&& 0x3f).toInt64)) ||| ((((g (O + 4)).toInt64) &&& (255 : Int64)) <<< ((24 : Int32) &&& 0x3f).toInt64)) ||| ((((g (O + 5)).toInt64) &&& (255 : Int64)) <<< ((16 : Int32) &&& 0x3f).toInt64)) ||| ((((g (O + 6)).toInt64) &&& (255 : Int64)) <<< ((8 : Int32) &&& 0x3f).toInt64)))])
  refine Ends.by (fun _ => XS.i2l X0.here hx rfl (hb hby d6_102) rfl) ?_
  show Ends p e below _ s₁ (mkF m 103 #[.val (.ref ar), .val (.int o)] [(.long ((g (O + 7)).toInt64)), (.long ((((((((((g O).toInt64) &&& (255 : Int64)) <<< ((56 : Int32) &&& 0x3f).toInt64) ||| ((((g (O + 1)).toInt64) &&& (255 : Int64)) <<< ((48 : Int32) &&& 0x3f).toInt64)) ||| ((((g (O + 2)).toInt64) &&& (255 : Int64)) <<< ((40 : Int32) &&& 0x3f).toInt64)) ||| ((((g (O + 3)).toInt64) &&& (255 : Int64)) <<< ((32 : Int32) &&& 0x3f).toInt64)) ||| ((((g (O + 4)).toInt64) &&& (255 : Int64)) <<< ((24 : Int32) &&& 0x3f).toInt64)) ||| ((((g (O + 5)).toInt64) &&& (255 : Int64)) <<< ((16 : Int32) &&& 0x3f).toInt64)) ||| ((((g (O + 6)).toInt64) &&& (255 : Int64)) <<< ((8 : Int32) &&& 0x3f).toInt64)))])
  refine Ends.by (X0.ldc2Long hx hown (mvT hZ (hw _ (List.mem_of_getElem? (i := 36) rfl))) (g := (mkF m 103 #[.val (.ref ar), .val (.int o)] [(.long ((g (O + 7)).toInt64)), (.long ((((((((((g O).toInt64) &&& (255 : Int64)) <<< ((56 : Int32) &&& 0x3f).toInt64) ||| ((((g (O + 1)).toInt64) &&& (255 : Int64)) <<< ((48 : Int32) &&& 0x3f).toInt64)) ||| ((((g (O + 2)).toInt64) &&& (255 : Int64)) <<< ((40 : Int32) &&& 0x3f).toInt64)) ||| ((((g (O + 3)).toInt64) &&& (255 : Int64)) <<< ((32 : Int32) &&& 0x3f).toInt64)) ||| ((((g (O + 4)).toInt64) &&& (255 : Int64)) <<< ((24 : Int32) &&& 0x3f).toInt64)) ||| ((((g (O + 5)).toInt64) &&& (255 : Int64)) <<< ((16 : Int32) &&& 0x3f).toInt64)) ||| ((((g (O + 6)).toInt64) &&& (255 : Int64)) <<< ((8 : Int32) &&& 0x3f).toInt64)))])) rfl (hb hby d6_103)) ?_
  show Ends p e below _ s₁ (mkF m 106 #[.val (.ref ar), .val (.int o)] [(.long (255 : Int64)), (.long ((g (O + 7)).toInt64)), (.long ((((((((((g O).toInt64) &&& (255 : Int64)) <<< ((56 : Int32) &&& 0x3f).toInt64) ||| ((((g (O + 1)).toInt64) &&& (255 : Int64)) <<< ((48 : Int32) &&& 0x3f).toInt64)) ||| ((((g (O + 2)).toInt64) &&& (255 : Int64)) <<< ((40 : Int32) &&& 0x3f).toInt64)) ||| ((((g (O + 3)).toInt64) &&& (255 : Int64)) <<< ((32 : Int32) &&& 0x3f).toInt64)) ||| ((((g (O + 4)).toInt64) &&& (255 : Int64)) <<< ((24 : Int32) &&& 0x3f).toInt64)) ||| ((((g (O + 5)).toInt64) &&& (255 : Int64)) <<< ((16 : Int32) &&& 0x3f).toInt64)) ||| ((((g (O + 6)).toInt64) &&& (255 : Int64)) <<< ((8 : Int32) &&& 0x3f).toInt64)))])
  refine Ends.by (fun _ => XS.land X0.here hx rfl (hb hby d6_106) rfl) ?_
  show Ends p e below _ s₁ (mkF m 107 #[.val (.ref ar), .val (.int o)] [(.long (((g (O + 7)).toInt64) &&& (255 : Int64))), (.long ((((((((((g O).toInt64) &&& (255 : Int64)) <<< ((56 : Int32) &&& 0x3f).toInt64) ||| ((((g (O + 1)).toInt64) &&& (255 : Int64)) <<< ((48 : Int32) &&& 0x3f).toInt64)) ||| ((((g (O + 2)).toInt64) &&& (255 : Int64)) <<< ((40 : Int32) &&& 0x3f).toInt64)) ||| ((((g (O + 3)).toInt64) &&& (255 : Int64)) <<< ((32 : Int32) &&& 0x3f).toInt64)) ||| ((((g (O + 4)).toInt64) &&& (255 : Int64)) <<< ((24 : Int32) &&& 0x3f).toInt64)) ||| ((((g (O + 5)).toInt64) &&& (255 : Int64)) <<< ((16 : Int32) &&& 0x3f).toInt64)) ||| ((((g (O + 6)).toInt64) &&& (255 : Int64)) <<< ((8 : Int32) &&& 0x3f).toInt64)))])
  refine Ends.by (fun _ => XS.lor X0.here hx rfl (hb hby d6_107) rfl) ?_
  show Ends p e below _ s₁ (mkF m 108 #[.val (.ref ar), .val (.int o)] [(.long (((((((((((g O).toInt64) &&& (255 : Int64)) <<< ((56 : Int32) &&& 0x3f).toInt64) ||| ((((g (O + 1)).toInt64) &&& (255 : Int64)) <<< ((48 : Int32) &&& 0x3f).toInt64)) ||| ((((g (O + 2)).toInt64) &&& (255 : Int64)) <<< ((40 : Int32) &&& 0x3f).toInt64)) ||| ((((g (O + 3)).toInt64) &&& (255 : Int64)) <<< ((32 : Int32) &&& 0x3f).toInt64)) ||| ((((g (O + 4)).toInt64) &&& (255 : Int64)) <<< ((24 : Int32) &&& 0x3f).toInt64)) ||| ((((g (O + 5)).toInt64) &&& (255 : Int64)) <<< ((16 : Int32) &&& 0x3f).toInt64)) ||| ((((g (O + 6)).toInt64) &&& (255 : Int64)) <<< ((8 : Int32) &&& 0x3f).toInt64)) ||| (((g (O + 7)).toInt64) &&& (255 : Int64))))])
  exact Ends.retL X0 hx hlk hret (hb hby d6_108) (by decide) (by decide) (by rw [e0]; exact ⟨rfl, rfl, rfl⟩)
theorem own_dig (v : Int64) (q : Int32) (k : Nat) (hk : q.toBitVec.toNat % 64 = k) (h0 : 0 < k) : ((((v.toUInt64 >>> (q &&& 0x3f).toInt64.toUInt64).toInt64).toInt32).toInt8.toInt32.toInt8.toInt32.toInt64 &&& (255 : Int64)).toInt = (v.toInt % 18446744073709551616) / (2 ^ k : Nat) % 256 := by
  have e1 := c_lushr v q k hk h0
  generalize (v.toUInt64 >>> (q &&& 0x3f).toInt64.toUInt64).toInt64 = u at e1 ⊢
  have e2 := c_l2i u
  have e3 := c_i2b u.toInt32
  have e4 := c_i2b u.toInt32.toInt8.toInt32
  have e5 := c_i2l u.toInt32.toInt8.toInt32.toInt8.toInt32
  have e6 := c_maskL u.toInt32.toInt8.toInt32.toInt8.toInt32.toInt64 255 8 (by decide) (by decide)
  rw [← e1]
  omega
theorem own_dig0 (v : Int64) : ((v.toInt32).toInt8.toInt32.toInt8.toInt32.toInt64 &&& (255 : Int64)).toInt = (v.toInt % 18446744073709551616) % 256 := by
  have e2 := c_l2i v
  have e3 := c_i2b v.toInt32
  have e4 := c_i2b v.toInt32.toInt8.toInt32
  have e5 := c_i2l v.toInt32.toInt8.toInt32.toInt8.toInt32
  have e6 := c_maskL v.toInt32.toInt8.toInt32.toInt8.toInt32.toInt64 255 8 (by decide) (by decide)
  omega
theorem own_join (V : Int) (hV : 0 ≤ V ∧ V < 18446744073709551616) (acc x : Int64) (q : Int32) (s : Nat) (hs : q.toBitVec.toNat % 64 = s) (hs2 : s + 8 ≤ 63) (P M : Int) (hP : P = (2 ^ (s + 8) : Nat)) (hM : M = (2 ^ s : Nat)) (hPM : P = 256 * M) (Ple : P ≤ 9223372036854775808)
    (ha : (acc.toInt - (V - V % P)) % 18446744073709551616 = 0) (hd : P ∣ 18446744073709551616) (hx : x.toInt = V / M % 256) : ((acc ||| (x <<< (q &&& 0x3f).toInt64)).toInt - (V - V % M)) % 18446744073709551616 = 0 ∧ M ∣ 18446744073709551616 := by
  have e1 := c_lshl x q s hs
  have Mpos : 0 < M := by rw [hM]; exact_mod_cast Nat.pow_pos (by decide)
  have hMs : ((2 ^ s : Nat) : Int) = M := hM.symm
  rw [hMs] at e1
  have d0 : 0 ≤ V / M % 256 ∧ V / M % 256 < 256 := ⟨Int.emod_nonneg _ (by decide), Int.emod_lt_of_pos _ (by decide)⟩
  have b1 : 0 ≤ x.toInt * M := by rw [hx]; exact Int.mul_nonneg d0.1 (Int.le_of_lt Mpos)
  have b2 : x.toInt * M < P := by rw [hx, hPM]; exact Int.mul_lt_mul_of_pos_right d0.2 Mpos
  have r := rng64 (x <<< (q &&& 0x3f).toInt64)
  have e2 : (x <<< (q &&& 0x3f).toInt64).toInt = x.toInt * M := by omega
  obtain ⟨w, hw⟩ := hd
  have ha2 : acc.toInt % P = 0 := by
    have h1 : ((18446744073709551616 : Int)) ∣ (acc.toInt - (V - V % P)) := Int.dvd_of_emod_eq_zero ha
    have h2 : P ∣ (acc.toInt - (V - V % P)) := Int.dvd_trans ⟨w, hw⟩ h1
    have h3 : P ∣ (V - V % P) := Int.dvd_self_sub_emod
    have h4 : P ∣ acc.toInt := by have := Int.dvd_add h2 h3; rwa [Int.sub_add_cancel] at this
    exact Int.emod_eq_zero_of_dvd h4
  have e3 := c_orL acc (x <<< (q &&& 0x3f).toInt64) (s + 8) hs2 P hP ha2 (by omega) (by omega)
  have k1 : V % P = V % M + M * (V / M % 256) := by
    have a1 := Int.emod_add_mul_ediv V M
    have a2 := Int.emod_add_mul_ediv (V / M) 256
    have a3 := Int.emod_add_mul_ediv V P
    have a4 : V / M / 256 = V / (M * 256) := Int.ediv_ediv_of_nonneg (Int.le_of_lt Mpos)
    have e : M * (V / M % 256) + M * 256 * (V / M / 256) = M * (V / M) := by
      have h := congrArg (fun y => M * y) a2
      simp only [Int.mul_add] at h
      rw [← Int.mul_assoc] at h; exact h
    have hPM' : P = M * 256 := by rw [hPM, Int.mul_comm]
    rw [hPM', ← a4] at a3
    rw [hPM']
    omega
  refine ⟨?_, ⟨256 * w, by rw [hw, hPM]; rw [Int.mul_comm 256 M, Int.mul_assoc]⟩⟩
  rw [e2, hx] at e3
  rw [k1] at ha
  rw [Int.mul_comm (V / M % 256) M] at e3
  generalize M * (V / M % 256) = y at *
  omega
theorem own_round (v : Int64) : own_get8 (((((v.toUInt64 >>> (((56 : Int32)) &&& 0x3f).toInt64.toUInt64).toInt64).toInt32).toInt8.toInt32).toInt8.toInt32) (((((v.toUInt64 >>> (((48 : Int32)) &&& 0x3f).toInt64.toUInt64).toInt64).toInt32).toInt8.toInt32).toInt8.toInt32) (((((v.toUInt64 >>> (((40 : Int32)) &&& 0x3f).toInt64.toUInt64).toInt64).toInt32).toInt8.toInt32).toInt8.toInt32) (((((v.toUInt64 >>> (((32 : Int32)) &&& 0x3f).toInt64.toUInt64).toInt64).toInt32).toInt8.toInt32).toInt8.toInt32) (((((v.toUInt64 >>> (((24 : Int32)) &&& 0x3f).toInt64.toUInt64).toInt64).toInt32).toInt8.toInt32).toInt8.toInt32) (((((v.toUInt64 >>> (((16 : Int32)) &&& 0x3f).toInt64.toUInt64).toInt64).toInt32).toInt8.toInt32).toInt8.toInt32) (((((v.toUInt64 >>> (((8 : Int32)) &&& 0x3f).toInt64.toUInt64).toInt64).toInt32).toInt8.toInt32).toInt8.toInt32) (((v.toInt32).toInt8.toInt32).toInt8.toInt32) = v := by
  have hV : 0 ≤ v.toInt % 18446744073709551616 ∧ v.toInt % 18446744073709551616 < 18446744073709551616 := by omega
  unfold own_get8
  have x56 := own_dig v 56 56 (by decide) (by decide)
  have x48 := own_dig v 48 48 (by decide) (by decide)
  have x40 := own_dig v 40 40 (by decide) (by decide)
  have x32 := own_dig v 32 32 (by decide) (by decide)
  have x24 := own_dig v 24 24 (by decide) (by decide)
  have x16 := own_dig v 16 16 (by decide) (by decide)
  have x8 := own_dig v 8 8 (by decide) (by decide)
  have x0 := own_dig0 v
  generalize ((((v.toUInt64 >>> (((56 : Int32)) &&& 0x3f).toInt64.toUInt64).toInt64).toInt32).toInt8.toInt32).toInt8.toInt32.toInt64 &&& (255 : Int64) = y56 at x56 ⊢
  generalize ((((v.toUInt64 >>> (((48 : Int32)) &&& 0x3f).toInt64.toUInt64).toInt64).toInt32).toInt8.toInt32).toInt8.toInt32.toInt64 &&& (255 : Int64) = y48 at x48 ⊢
  generalize ((((v.toUInt64 >>> (((40 : Int32)) &&& 0x3f).toInt64.toUInt64).toInt64).toInt32).toInt8.toInt32).toInt8.toInt32.toInt64 &&& (255 : Int64) = y40 at x40 ⊢
  generalize ((((v.toUInt64 >>> (((32 : Int32)) &&& 0x3f).toInt64.toUInt64).toInt64).toInt32).toInt8.toInt32).toInt8.toInt32.toInt64 &&& (255 : Int64) = y32 at x32 ⊢
  generalize ((((v.toUInt64 >>> (((24 : Int32)) &&& 0x3f).toInt64.toUInt64).toInt64).toInt32).toInt8.toInt32).toInt8.toInt32.toInt64 &&& (255 : Int64) = y24 at x24 ⊢
  generalize ((((v.toUInt64 >>> (((16 : Int32)) &&& 0x3f).toInt64.toUInt64).toInt64).toInt32).toInt8.toInt32).toInt8.toInt32.toInt64 &&& (255 : Int64) = y16 at x16 ⊢
  generalize ((((v.toUInt64 >>> (((8 : Int32)) &&& 0x3f).toInt64.toUInt64).toInt64).toInt32).toInt8.toInt32).toInt8.toInt32.toInt64 &&& (255 : Int64) = y8 at x8 ⊢
  generalize ((v.toInt32).toInt8.toInt32).toInt8.toInt32.toInt64 &&& (255 : Int64) = y0 at x0 ⊢
  generalize hVe : v.toInt % 18446744073709551616 = V at *
  have s0 : ((y56 <<< (((56 : Int32)) &&& 0x3f).toInt64).toInt - (V - V % 72057594037927936)) % 18446744073709551616 = 0 := by
    have e := c_lshl y56 56 56 (by decide)
    have : ((2 ^ 56 : Nat) : Int) = 72057594037927936 := by decide
    omega
  have j48 := own_join V hV _ y48 48 48 (by decide) (by decide) 72057594037927936 281474976710656 (by decide) (by decide) (by decide) (by decide) s0 (by decide) (by rw [x48]; rfl)
  have j40 := own_join V hV _ y40 40 40 (by decide) (by decide) 281474976710656 1099511627776 (by decide) (by decide) (by decide) (by decide) j48.1 j48.2 (by rw [x40]; rfl)
  have j32 := own_join V hV _ y32 32 32 (by decide) (by decide) 1099511627776 4294967296 (by decide) (by decide) (by decide) (by decide) j40.1 j40.2 (by rw [x32]; rfl)
  have j24 := own_join V hV _ y24 24 24 (by decide) (by decide) 4294967296 16777216 (by decide) (by decide) (by decide) (by decide) j32.1 j32.2 (by rw [x24]; rfl)
  have j16 := own_join V hV _ y16 16 16 (by decide) (by decide) 16777216 65536 (by decide) (by decide) (by decide) (by decide) j24.1 j24.2 (by rw [x16]; rfl)
  have j8 := own_join V hV _ y8 8 8 (by decide) (by decide) 65536 256 (by decide) (by decide) (by decide) (by decide) j16.1 j16.2 (by rw [x8]; rfl)
  have r1 := rng64 v
  apply Int64.toInt_inj.mp
  generalize (y56 <<< (((56 : Int32)) &&& 0x3f).toInt64) ||| (y48 <<< (((48 : Int32)) &&& 0x3f).toInt64) ||| (y40 <<< (((40 : Int32)) &&& 0x3f).toInt64) ||| (y32 <<< (((32 : Int32)) &&& 0x3f).toInt64) ||| (y24 <<< (((24 : Int32)) &&& 0x3f).toInt64) ||| (y16 <<< (((16 : Int32)) &&& 0x3f).toInt64) ||| (y8 <<< (((8 : Int32)) &&& 0x3f).toInt64) = acc at j8 ⊢
  have ra := rng64 acc
  have e := c_orL acc y0 8 (by decide) 256 (by decide) (by omega) (by omega) (by omega)
  have rb := rng64 (acc ||| y0)
  omega
theorem own_g0 (a b c d : Int64) : own_get8 ((own_put (own_put (own_put (own_put (fun _ => (0 : Int32)) 0 a) 8 b) 16 c) 24 d) 0) ((own_put (own_put (own_put (own_put (fun _ => (0 : Int32)) 0 a) 8 b) 16 c) 24 d) (0 + 1)) ((own_put (own_put (own_put (own_put (fun _ => (0 : Int32)) 0 a) 8 b) 16 c) 24 d) (0 + 2)) ((own_put (own_put (own_put (own_put (fun _ => (0 : Int32)) 0 a) 8 b) 16 c) 24 d) (0 + 3)) ((own_put (own_put (own_put (own_put (fun _ => (0 : Int32)) 0 a) 8 b) 16 c) 24 d) (0 + 4)) ((own_put (own_put (own_put (own_put (fun _ => (0 : Int32)) 0 a) 8 b) 16 c) 24 d) (0 + 5)) ((own_put (own_put (own_put (own_put (fun _ => (0 : Int32)) 0 a) 8 b) 16 c) 24 d) (0 + 6)) ((own_put (own_put (own_put (own_put (fun _ => (0 : Int32)) 0 a) 8 b) 16 c) 24 d) (0 + 7)) = a := by
  refine Eq.trans ?_ (own_round a)
  rfl
theorem own_g8 (a b c d : Int64) : own_get8 ((own_put (own_put (own_put (own_put (fun _ => (0 : Int32)) 0 a) 8 b) 16 c) 24 d) 8) ((own_put (own_put (own_put (own_put (fun _ => (0 : Int32)) 0 a) 8 b) 16 c) 24 d) (8 + 1)) ((own_put (own_put (own_put (own_put (fun _ => (0 : Int32)) 0 a) 8 b) 16 c) 24 d) (8 + 2)) ((own_put (own_put (own_put (own_put (fun _ => (0 : Int32)) 0 a) 8 b) 16 c) 24 d) (8 + 3)) ((own_put (own_put (own_put (own_put (fun _ => (0 : Int32)) 0 a) 8 b) 16 c) 24 d) (8 + 4)) ((own_put (own_put (own_put (own_put (fun _ => (0 : Int32)) 0 a) 8 b) 16 c) 24 d) (8 + 5)) ((own_put (own_put (own_put (own_put (fun _ => (0 : Int32)) 0 a) 8 b) 16 c) 24 d) (8 + 6)) ((own_put (own_put (own_put (own_put (fun _ => (0 : Int32)) 0 a) 8 b) 16 c) 24 d) (8 + 7)) = b := by
  refine Eq.trans ?_ (own_round b)
  rfl
theorem own_g16 (a b c d : Int64) : own_get8 ((own_put (own_put (own_put (own_put (fun _ => (0 : Int32)) 0 a) 8 b) 16 c) 24 d) 16) ((own_put (own_put (own_put (own_put (fun _ => (0 : Int32)) 0 a) 8 b) 16 c) 24 d) (16 + 1)) ((own_put (own_put (own_put (own_put (fun _ => (0 : Int32)) 0 a) 8 b) 16 c) 24 d) (16 + 2)) ((own_put (own_put (own_put (own_put (fun _ => (0 : Int32)) 0 a) 8 b) 16 c) 24 d) (16 + 3)) ((own_put (own_put (own_put (own_put (fun _ => (0 : Int32)) 0 a) 8 b) 16 c) 24 d) (16 + 4)) ((own_put (own_put (own_put (own_put (fun _ => (0 : Int32)) 0 a) 8 b) 16 c) 24 d) (16 + 5)) ((own_put (own_put (own_put (own_put (fun _ => (0 : Int32)) 0 a) 8 b) 16 c) 24 d) (16 + 6)) ((own_put (own_put (own_put (own_put (fun _ => (0 : Int32)) 0 a) 8 b) 16 c) 24 d) (16 + 7)) = c := by
  refine Eq.trans ?_ (own_round c)
  rfl
theorem own_g24 (a b c d : Int64) : own_get8 ((own_put (own_put (own_put (own_put (fun _ => (0 : Int32)) 0 a) 8 b) 16 c) 24 d) 24) ((own_put (own_put (own_put (own_put (fun _ => (0 : Int32)) 0 a) 8 b) 16 c) 24 d) (24 + 1)) ((own_put (own_put (own_put (own_put (fun _ => (0 : Int32)) 0 a) 8 b) 16 c) 24 d) (24 + 2)) ((own_put (own_put (own_put (own_put (fun _ => (0 : Int32)) 0 a) 8 b) 16 c) 24 d) (24 + 3)) ((own_put (own_put (own_put (own_put (fun _ => (0 : Int32)) 0 a) 8 b) 16 c) 24 d) (24 + 4)) ((own_put (own_put (own_put (own_put (fun _ => (0 : Int32)) 0 a) 8 b) 16 c) 24 d) (24 + 5)) ((own_put (own_put (own_put (own_put (fun _ => (0 : Int32)) 0 a) 8 b) 16 c) 24 d) (24 + 6)) ((own_put (own_put (own_put (own_put (fun _ => (0 : Int32)) 0 a) 8 b) 16 c) 24 d) (24 + 7)) = d := by
  refine Eq.trans ?_ (own_round d)
  rfl
theorem own_i (i : Int32) : ∃ I : Nat, (i &&& (31 : Int32)).toInt = (I : Int) ∧ I < 32 := by
  have e : (i &&& 31).toInt = i.toInt % (2 ^ 5 : Nat) := c_mask i 31 5 (by decide) (by decide)
  exact ⟨(i &&& 31).toInt.toNat, by omega, by omega⟩
theorem pd_0 : parseMethodDescriptor "(JJJJI)Z" = some ⟨[.long, .long, .long, .long, .int], some .boolean⟩ := by decide +kernel
theorem pf_0 : plainFor x = true := plainFor_of_name (by first | (simp [plainName, overriddenIn, x]; done) | decide +kernel)
theorem ef_0 (m : MethodId) (i0 : Int64) (i1 : Int64) (i2 : Int64) (i3 : Int64) (i4 : Int32) : entryFrame m #[(.long i0), (.long i1), (.long i2), (.long i3), (.int i4)] maxLocals = mkF m 0 #[.val (.long i0), .second, .val (.long i1), .second, .val (.long i2), .second, .val (.long i3), .second, .val (.int i4), .unset, .unset, .unset, .unset] [] := by first | (simp [entryFrame, mkF, argsToLocals, Value.category, maxLocals]; done) | rfl
set_option maxRecDepth 65536 in
set_option maxHeartbeats 40000000 in
theorem con_0 (l : Launch) (Z : State) (a0 : Array Value) (hw : ∀ d ∈ tables_1, d.before a0 Z = true) (i0 : Int64) (i1 : Int64) (i2 : Int64) (i3 : Int64) (i4 : Int32)  (h0 : Heap) (n0 : Nat) (Z0 : n0 ≤ h0.size) : Con l Z x code maxLocals ret room_1 #[(.long i0), (.long i1), (.long i2), (.long i3), (.int i4)] h0 (fun v h L => v = some (.int 1) ∧ Fr n0 L) := by
  refine Con.intro pf_0 ?_
  intro p e s m below meth c s₁ hx hby hml hown hnm hret hlk hZ X0 e0
  refine Ends.cast (ef_0 m i0 i1 i2 i3 i4) ?_
  have N0 := Fr.nil n0
  refine Ends.by (fun _ => XS.bipush X0.here hx rfl (hb hby at_0)) ?_
  show Ends p e below _ s₁ (mkF m 2 #[.val (.long i0), .second, .val (.long i1), .second, .val (.long i2), .second, .val (.long i3), .second, .val (.int i4), .unset, .unset, .unset, .unset] [(.int (32 : Int32))])
  refine Ends.newA X0 hx hZ (hw _ (List.mem_of_getElem? (i := 0) rfl)) e0 (n := 32) (by decide) 32 (by decide) (by decide) (by decide) (by decide) rfl (ad := "[B") (by decide) (hb hby at_2) ?_
  intro T1 h1 X1 e1 E1 A1 Q1
  obtain ⟨b1, g1⟩ : ∃ z, z = h0.size := ⟨_, rfl⟩
  rw [← g1] at A1 Q1 ⊢
  have Z1 : n0 ≤ h1.size := Nat.le_trans Z0 E1.1
  have g_b1 : n0 ≤ b1 := Nat.le_trans Z0 (Nat.le_of_eq g1.symm)
  have A_b1 : Af Z h1 b1 .byte 32 (fun q => .int ((fun _ => (0 : Int32)) q)) := A1
  show Ends p e below _ T1 (mkF m 4 #[.val (.long i0), .second, .val (.long i1), .second, .val (.long i2), .second, .val (.long i3), .second, .val (.int i4), .unset, .unset, .unset, .unset] [(.ref b1)])
  refine Ends.by (fun _ => XS.astore X1.here hx rfl (hb hby at_4) rfl rfl (l' := #[.val (.long i0), .second, .val (.long i1), .second, .val (.long i2), .second, .val (.long i3), .second, .val (.int i4), .val (.ref b1), .unset, .unset, .unset]) rfl) ?_
  show Ends p e below _ T1 (mkF m 6 #[.val (.long i0), .second, .val (.long i1), .second, .val (.long i2), .second, .val (.long i3), .second, .val (.int i4), .val (.ref b1), .unset, .unset, .unset] [])
  refine Ends.by (fun _ => XS.aload X1.here hx rfl (hb hby at_6) rfl rfl) ?_
  show Ends p e below _ T1 (mkF m 8 #[.val (.long i0), .second, .val (.long i1), .second, .val (.long i2), .second, .val (.long i3), .second, .val (.int i4), .val (.ref b1), .unset, .unset, .unset] [(.ref b1)])
  refine Ends.by (fun _ => XS.iconst X1.here hx rfl (hb hby at_8)) ?_
  show Ends p e below _ T1 (mkF m 9 #[.val (.long i0), .second, .val (.long i1), .second, .val (.long i2), .second, .val (.long i3), .second, .val (.int i4), .val (.ref b1), .unset, .unset, .unset] [(.int (0 : Int32)), (.ref b1)])
  refine Ends.by (fun _ => XS.lloadN X1.here hx rfl (hb hby at_9) rfl) ?_
  show Ends p e below _ T1 (mkF m 10 #[.val (.long i0), .second, .val (.long i1), .second, .val (.long i2), .second, .val (.long i3), .second, .val (.int i4), .val (.ref b1), .unset, .unset, .unset] [(.long i0), (.int (0 : Int32)), (.ref b1)])
  refine Ends.callS (argsL := [(.ref b1), (.int (0 : Int32)), (.long i0)]) (rest := []) X1 hx hZ hown (hw _ (List.mem_of_getElem? (i := 1) rfl)) (hw _ (List.mem_of_getElem? (i := 2) rfl)) (hw _ (List.mem_of_getElem? (i := 3) rfl)) (hw _ (List.mem_of_getElem? (i := 4) rfl)) (by decide) (con_1 l Z a0 hw b1 (0 : Int32) i0 32 0 (fun _ => (0 : Int32)) h1 n0 Z1 A_b1 (by decide) (by decide) (by decide) g_b1) e1 (by rw [hml]; rfl) (hb hby at_10) (lenOf pd_1 rfl) 0 (Nat.le_of_eq rfl) (by decide) (by decide) (by decide) (by decide) ?_
  intro v T2 L2 X2 hQ
  obtain ⟨rfl, N2q, K2q, A2q⟩ := hQ
  have N2 := Fr.app N0 N2q
  have E_b1_2 : Exa Z T2.heap b1 "[B" := Q1.keep K2q
  have Z2 : n0 ≤ T2.heap.size := Nat.le_trans Z1 K2q.1
  show Ends p e below _ T2 (mkF m 13 #[.val (.long i0), .second, .val (.long i1), .second, .val (.long i2), .second, .val (.long i3), .second, .val (.int i4), .val (.ref b1), .unset, .unset, .unset] [])
  refine Ends.by (fun _ => XS.aload X2.here hx rfl (hb hby at_13) rfl rfl) ?_
  show Ends p e below _ T2 (mkF m 15 #[.val (.long i0), .second, .val (.long i1), .second, .val (.long i2), .second, .val (.long i3), .second, .val (.int i4), .val (.ref b1), .unset, .unset, .unset] [(.ref b1)])
  refine Ends.by (fun _ => XS.bipush X2.here hx rfl (hb hby at_15)) ?_
  show Ends p e below _ T2 (mkF m 17 #[.val (.long i0), .second, .val (.long i1), .second, .val (.long i2), .second, .val (.long i3), .second, .val (.int i4), .val (.ref b1), .unset, .unset, .unset] [(.int (8 : Int32)), (.ref b1)])
  refine Ends.by (fun _ => XS.lloadN X2.here hx rfl (hb hby at_17) rfl) ?_
  show Ends p e below _ T2 (mkF m 18 #[.val (.long i0), .second, .val (.long i1), .second, .val (.long i2), .second, .val (.long i3), .second, .val (.int i4), .val (.ref b1), .unset, .unset, .unset] [(.long i1), (.int (8 : Int32)), (.ref b1)])
  refine Ends.callS (argsL := [(.ref b1), (.int (8 : Int32)), (.long i1)]) (rest := []) X2 hx hZ hown (hw _ (List.mem_of_getElem? (i := 1) rfl)) (hw _ (List.mem_of_getElem? (i := 2) rfl)) (hw _ (List.mem_of_getElem? (i := 3) rfl)) (hw _ (List.mem_of_getElem? (i := 4) rfl)) (by decide) (con_1 l Z a0 hw b1 (8 : Int32) i1 32 8 (own_put (fun _ => (0 : Int32)) 0 i0) T2.heap n0 Z2 A2q (by decide) (by decide) (by decide) g_b1) rfl (by rw [hml]; rfl) (hb hby at_18) (lenOf pd_1 rfl) 0 (Nat.le_of_eq rfl) (by decide) (by decide) (by decide) (by decide) ?_
  intro v T3 L3 X3 hQ
  obtain ⟨rfl, N3q, K3q, A3q⟩ := hQ
  have N3 := Fr.app N2 N3q
  have E_b1_3 : Exa Z T3.heap b1 "[B" := E_b1_2.keep K3q
  have Z3 : n0 ≤ T3.heap.size := Nat.le_trans Z2 K3q.1
  show Ends p e below _ T3 (mkF m 21 #[.val (.long i0), .second, .val (.long i1), .second, .val (.long i2), .second, .val (.long i3), .second, .val (.int i4), .val (.ref b1), .unset, .unset, .unset] [])
  refine Ends.by (fun _ => XS.aload X3.here hx rfl (hb hby at_21) rfl rfl) ?_
  show Ends p e below _ T3 (mkF m 23 #[.val (.long i0), .second, .val (.long i1), .second, .val (.long i2), .second, .val (.long i3), .second, .val (.int i4), .val (.ref b1), .unset, .unset, .unset] [(.ref b1)])
  refine Ends.by (fun _ => XS.bipush X3.here hx rfl (hb hby at_23)) ?_
  show Ends p e below _ T3 (mkF m 25 #[.val (.long i0), .second, .val (.long i1), .second, .val (.long i2), .second, .val (.long i3), .second, .val (.int i4), .val (.ref b1), .unset, .unset, .unset] [(.int (16 : Int32)), (.ref b1)])
  refine Ends.by (fun _ => XS.lload X3.here hx rfl (hb hby at_25) rfl) ?_
  show Ends p e below _ T3 (mkF m 27 #[.val (.long i0), .second, .val (.long i1), .second, .val (.long i2), .second, .val (.long i3), .second, .val (.int i4), .val (.ref b1), .unset, .unset, .unset] [(.long i2), (.int (16 : Int32)), (.ref b1)])
  refine Ends.callS (argsL := [(.ref b1), (.int (16 : Int32)), (.long i2)]) (rest := []) X3 hx hZ hown (hw _ (List.mem_of_getElem? (i := 1) rfl)) (hw _ (List.mem_of_getElem? (i := 2) rfl)) (hw _ (List.mem_of_getElem? (i := 3) rfl)) (hw _ (List.mem_of_getElem? (i := 4) rfl)) (by decide) (con_1 l Z a0 hw b1 (16 : Int32) i2 32 16 (own_put (own_put (fun _ => (0 : Int32)) 0 i0) 8 i1) T3.heap n0 Z3 A3q (by decide) (by decide) (by decide) g_b1) rfl (by rw [hml]; rfl) (hb hby at_27) (lenOf pd_1 rfl) 0 (Nat.le_of_eq rfl) (by decide) (by decide) (by decide) (by decide) ?_
  intro v T4 L4 X4 hQ
  obtain ⟨rfl, N4q, K4q, A4q⟩ := hQ
  have N4 := Fr.app N3 N4q
  have E_b1_4 : Exa Z T4.heap b1 "[B" := E_b1_3.keep K4q
  have Z4 : n0 ≤ T4.heap.size := Nat.le_trans Z3 K4q.1
  show Ends p e below _ T4 (mkF m 30 #[.val (.long i0), .second, .val (.long i1), .second, .val (.long i2), .second, .val (.long i3), .second, .val (.int i4), .val (.ref b1), .unset, .unset, .unset] [])
  refine Ends.by (fun _ => XS.aload X4.here hx rfl (hb hby at_30) rfl rfl) ?_
  show Ends p e below _ T4 (mkF m 32 #[.val (.long i0), .second, .val (.long i1), .second, .val (.long i2), .second, .val (.long i3), .second, .val (.int i4), .val (.ref b1), .unset, .unset, .unset] [(.ref b1)])
  refine Ends.by (fun _ => XS.bipush X4.here hx rfl (hb hby at_32)) ?_
  show Ends p e below _ T4 (mkF m 34 #[.val (.long i0), .second, .val (.long i1), .second, .val (.long i2), .second, .val (.long i3), .second, .val (.int i4), .val (.ref b1), .unset, .unset, .unset] [(.int (24 : Int32)), (.ref b1)])
  refine Ends.by (fun _ => XS.lload X4.here hx rfl (hb hby at_34) rfl) ?_
  show Ends p e below _ T4 (mkF m 36 #[.val (.long i0), .second, .val (.long i1), .second, .val (.long i2), .second, .val (.long i3), .second, .val (.int i4), .val (.ref b1), .unset, .unset, .unset] [(.long i3), (.int (24 : Int32)), (.ref b1)])
  refine Ends.callS (argsL := [(.ref b1), (.int (24 : Int32)), (.long i3)]) (rest := []) X4 hx hZ hown (hw _ (List.mem_of_getElem? (i := 1) rfl)) (hw _ (List.mem_of_getElem? (i := 2) rfl)) (hw _ (List.mem_of_getElem? (i := 3) rfl)) (hw _ (List.mem_of_getElem? (i := 4) rfl)) (by decide) (con_1 l Z a0 hw b1 (24 : Int32) i3 32 24 (own_put (own_put (own_put (fun _ => (0 : Int32)) 0 i0) 8 i1) 16 i2) T4.heap n0 Z4 A4q (by decide) (by decide) (by decide) g_b1) rfl (by rw [hml]; rfl) (hb hby at_36) (lenOf pd_1 rfl) 0 (Nat.le_of_eq rfl) (by decide) (by decide) (by decide) (by decide) ?_
  intro v T5 L5 X5 hQ
  obtain ⟨rfl, N5q, K5q, A5q⟩ := hQ
  have N5 := Fr.app N4 N5q
  have E_b1_5 : Exa Z T5.heap b1 "[B" := E_b1_4.keep K5q
  have Z5 : n0 ≤ T5.heap.size := Nat.le_trans Z4 K5q.1
  show Ends p e below _ T5 (mkF m 39 #[.val (.long i0), .second, .val (.long i1), .second, .val (.long i2), .second, .val (.long i3), .second, .val (.int i4), .val (.ref b1), .unset, .unset, .unset] [])
  refine Ends.by (fun _ => XS.aload X5.here hx rfl (hb hby at_39) rfl rfl) ?_
  show Ends p e below _ T5 (mkF m 41 #[.val (.long i0), .second, .val (.long i1), .second, .val (.long i2), .second, .val (.long i3), .second, .val (.int i4), .val (.ref b1), .unset, .unset, .unset] [(.ref b1)])
  refine Ends.callS (argsL := [(.ref b1)]) (rest := []) X5 hx hZ hown (hw _ (List.mem_of_getElem? (i := 5) rfl)) (hw _ (List.mem_of_getElem? (i := 6) rfl)) (hw _ (List.mem_of_getElem? (i := 7) rfl)) (hw _ (List.mem_of_getElem? (i := 8) rfl)) (by decide) (con_2 l Z a0 hw b1 (fun q => .int ((own_put (own_put (own_put (own_put (fun _ => (0 : Int32)) 0 i0) 8 i1) 16 i2) 24 i3) q)) T5.heap n0 Z5 A5q E_b1_5) rfl (by rw [hml]; rfl) (hb hby at_41) (lenOf pd_2 rfl) 0 (Nat.le_of_eq rfl) (by decide) (by decide) (by decide) (by decide) ?_
  intro v T6 L6 X6 hQ
  obtain ⟨o6, p6, rfl, N6q, K6q, E6q, F6q, A6q, Q6q, ga6, gb6, gz6⟩ := hQ
  have N6 := Fr.app N5 N6q
  have E_b1_6 : Exa Z T6.heap b1 "[B" := E_b1_5.keep K6q
  have A_b1_6 : Af Z T6.heap b1 .byte 32 (fun q => .int ((own_put (own_put (own_put (own_put (fun _ => (0 : Int32)) 0 i0) 8 i1) 16 i2) 24 i3) q)) := A5q.keep K6q nin0
  have Z6 : n0 ≤ T6.heap.size := Nat.le_trans Z5 K6q.1
  have ne_b1_p6 : b1 ≠ p6 := Nat.ne_of_lt (Nat.lt_of_lt_of_le A5q.lt gz6)
  show Ends p e below _ T6 (mkF m 44 #[.val (.long i0), .second, .val (.long i1), .second, .val (.long i2), .second, .val (.long i3), .second, .val (.int i4), .val (.ref b1), .unset, .unset, .unset] [(.ref o6)])
  refine Ends.by (fun _ => XS.astore X6.here hx rfl (hb hby at_44) rfl rfl (l' := #[.val (.long i0), .second, .val (.long i1), .second, .val (.long i2), .second, .val (.long i3), .second, .val (.int i4), .val (.ref b1), .val (.ref o6), .unset, .unset]) rfl) ?_
  show Ends p e below _ T6 (mkF m 46 #[.val (.long i0), .second, .val (.long i1), .second, .val (.long i2), .second, .val (.long i3), .second, .val (.int i4), .val (.ref b1), .val (.ref o6), .unset, .unset] [])
  refine Ends.by (fun _ => XS.iload X6.here hx rfl (hb hby at_46) rfl) ?_
  show Ends p e below _ T6 (mkF m 48 #[.val (.long i0), .second, .val (.long i1), .second, .val (.long i2), .second, .val (.long i3), .second, .val (.int i4), .val (.ref b1), .val (.ref o6), .unset, .unset] [(.int i4)])
  refine Ends.by (fun _ => XS.bipush X6.here hx rfl (hb hby at_48)) ?_
  show Ends p e below _ T6 (mkF m 50 #[.val (.long i0), .second, .val (.long i1), .second, .val (.long i2), .second, .val (.long i3), .second, .val (.int i4), .val (.ref b1), .val (.ref o6), .unset, .unset] [(.int (31 : Int32)), (.int i4)])
  refine Ends.by (fun _ => XS.iand X6.here hx rfl (hb hby at_50) rfl) ?_
  show Ends p e below _ T6 (mkF m 51 #[.val (.long i0), .second, .val (.long i1), .second, .val (.long i2), .second, .val (.long i3), .second, .val (.int i4), .val (.ref b1), .val (.ref o6), .unset, .unset] [(.int (i4 &&& (31 : Int32)))])
  refine Ends.by (fun _ => XS.istore X6.here hx rfl (hb hby at_51) rfl (l' := #[.val (.long i0), .second, .val (.long i1), .second, .val (.long i2), .second, .val (.long i3), .second, .val (.int i4), .val (.ref b1), .val (.ref o6), .val (.int (i4 &&& (31 : Int32))), .unset]) rfl) ?_
  show Ends p e below _ T6 (mkF m 53 #[.val (.long i0), .second, .val (.long i1), .second, .val (.long i2), .second, .val (.long i3), .second, .val (.int i4), .val (.ref b1), .val (.ref o6), .val (.int (i4 &&& (31 : Int32))), .unset] [])
  obtain ⟨I, hI, hI2⟩ := own_i i4
  refine Ends.by (fun _ => XS.aload X6.here hx rfl (hb hby at_53) rfl rfl) ?_
  show Ends p e below _ T6 (mkF m 55 #[.val (.long i0), .second, .val (.long i1), .second, .val (.long i2), .second, .val (.long i3), .second, .val (.int i4), .val (.ref b1), .val (.ref o6), .val (.int (i4 &&& (31 : Int32))), .unset] [(.ref b1)])
  refine Ends.by (fun _ => XS.iload X6.here hx rfl (hb hby at_55) rfl) ?_
  show Ends p e below _ T6 (mkF m 57 #[.val (.long i0), .second, .val (.long i1), .second, .val (.long i2), .second, .val (.long i3), .second, .val (.int i4), .val (.ref b1), .val (.ref o6), .val (.int (i4 &&& (31 : Int32))), .unset] [(.int (i4 &&& (31 : Int32))), (.ref b1)])
  refine Ends.by (fun _ => XS.aload X6.here hx rfl (hb hby at_57) rfl rfl) ?_
  show Ends p e below _ T6 (mkF m 59 #[.val (.long i0), .second, .val (.long i1), .second, .val (.long i2), .second, .val (.long i3), .second, .val (.int i4), .val (.ref b1), .val (.ref o6), .val (.int (i4 &&& (31 : Int32))), .unset] [(.ref b1), (.int (i4 &&& (31 : Int32))), (.ref b1)])
  refine Ends.by (fun _ => XS.iload X6.here hx rfl (hb hby at_59) rfl) ?_
  show Ends p e below _ T6 (mkF m 61 #[.val (.long i0), .second, .val (.long i1), .second, .val (.long i2), .second, .val (.long i3), .second, .val (.int i4), .val (.ref b1), .val (.ref o6), .val (.int (i4 &&& (31 : Int32))), .unset] [(.int (i4 &&& (31 : Int32))), (.ref b1), (.int (i4 &&& (31 : Int32))), (.ref b1)])
  refine Ends.ldB X6 hx hZ rfl A_b1_6 (k := I) hI hI2 (v := (.int ((own_put (own_put (own_put (own_put (fun _ => (0 : Int32)) 0 i0) 8 i1) 16 i2) 24 i3) I))) rfl (hb hby at_61) ?_
  show Ends p e below _ T6 (mkF m 62 #[.val (.long i0), .second, .val (.long i1), .second, .val (.long i2), .second, .val (.long i3), .second, .val (.int i4), .val (.ref b1), .val (.ref o6), .val (.int (i4 &&& (31 : Int32))), .unset] [(.int ((own_put (own_put (own_put (own_put (fun _ => (0 : Int32)) 0 i0) 8 i1) 16 i2) 24 i3) I)), (.int (i4 &&& (31 : Int32))), (.ref b1)])
  refine Ends.by (fun _ => XS.iconst X6.here hx rfl (hb hby at_62)) ?_
  show Ends p e below _ T6 (mkF m 63 #[.val (.long i0), .second, .val (.long i1), .second, .val (.long i2), .second, .val (.long i3), .second, .val (.int i4), .val (.ref b1), .val (.ref o6), .val (.int (i4 &&& (31 : Int32))), .unset] [(.int (-1 : Int32)), (.int ((own_put (own_put (own_put (own_put (fun _ => (0 : Int32)) 0 i0) 8 i1) 16 i2) 24 i3) I)), (.int (i4 &&& (31 : Int32))), (.ref b1)])
  refine Ends.by (fun _ => XS.ixor X6.here hx rfl (hb hby at_63) rfl) ?_
  show Ends p e below _ T6 (mkF m 64 #[.val (.long i0), .second, .val (.long i1), .second, .val (.long i2), .second, .val (.long i3), .second, .val (.int i4), .val (.ref b1), .val (.ref o6), .val (.int (i4 &&& (31 : Int32))), .unset] [(.int (((own_put (own_put (own_put (own_put (fun _ => (0 : Int32)) 0 i0) 8 i1) 16 i2) 24 i3) I) ^^^ (-1 : Int32))), (.int (i4 &&& (31 : Int32))), (.ref b1)])
  refine Ends.by (fun _ => XS.i2b X6.here hx rfl (hb hby at_64) rfl) ?_
  show Ends p e below _ T6 (mkF m 65 #[.val (.long i0), .second, .val (.long i1), .second, .val (.long i2), .second, .val (.long i3), .second, .val (.int i4), .val (.ref b1), .val (.ref o6), .val (.int (i4 &&& (31 : Int32))), .unset] [(.int ((((own_put (own_put (own_put (own_put (fun _ => (0 : Int32)) 0 i0) 8 i1) 16 i2) 24 i3) I) ^^^ (-1 : Int32)).toInt8.toInt32)), (.int (i4 &&& (31 : Int32))), (.ref b1)])
  refine Ends.stB X6 hx hZ rfl N6 g_b1 A_b1_6 (k := I) hI hI2 (hb hby at_65) ?_
  intro T7 h7 L7 X7 e7 N7 W7 B7
  have C7 : Af Z h7 b1 .byte 32 (fun q => .int ((upd (own_put (own_put (own_put (own_put (fun _ => (0 : Int32)) 0 i0) 8 i1) 16 i2) 24 i3) I (((((own_put (own_put (own_put (own_put (fun _ => (0 : Int32)) 0 i0) 8 i1) 16 i2) 24 i3) I) ^^^ (-1 : Int32)).toInt8.toInt32)).toInt8.toInt32) q)) := B7.congr (fun q _ => own_updI (own_put (own_put (own_put (own_put (fun _ => (0 : Int32)) 0 i0) 8 i1) 16 i2) 24 i3) I _ q)
  have E_b1_7 : Exa Z h7 b1 "[B" := E_b1_6.wr W7
  have E_o6_7 : Exa Z h7 o6 "com/example/shoalkeep/shoalkeep/Identifier" := E6q.wr W7
  have F_o6_bytes_7 : Fld Z h7 o6 "com/example/shoalkeep/shoalkeep/Identifier" "bytes" "[B" (.ref p6) := F6q.other W7 (Or.inl (own_apart E6q A_b1_6 (hw _ (List.mem_of_getElem? (i := 10) rfl))))
  have A_p6_7 : Af Z h7 p6 .byte 32 (fun q => .int ((own_put (own_put (own_put (own_put (fun _ => (0 : Int32)) 0 i0) 8 i1) 16 i2) 24 i3) q)) := A6q.other W7 (Ne.symm ne_b1_p6)
  have E_p6_7 : Exa Z h7 p6 "[B" := Q6q.wr W7
  have Z7 : n0 ≤ h7.size := Nat.le_trans Z6 (Nat.le_of_eq W7.size.symm)
  show Ends p e below _ T7 (mkF m 66 #[.val (.long i0), .second, .val (.long i1), .second, .val (.long i2), .second, .val (.long i3), .second, .val (.int i4), .val (.ref b1), .val (.ref o6), .val (.int (i4 &&& (31 : Int32))), .unset] [])
  refine Ends.by (fun _ => XS.aload X7.here hx rfl (hb hby at_66) rfl rfl) ?_
  show Ends p e below _ T7 (mkF m 68 #[.val (.long i0), .second, .val (.long i1), .second, .val (.long i2), .second, .val (.long i3), .second, .val (.int i4), .val (.ref b1), .val (.ref o6), .val (.int (i4 &&& (31 : Int32))), .unset] [(.ref o6)])
  refine Ends.callV (a := o6) (argsL := []) (rest := []) X7 hx hZ hown (hw _ (List.mem_of_getElem? (i := 28) rfl)) (hw _ (List.mem_of_getElem? (i := 29) rfl)) (hw _ (List.mem_of_getElem? (i := 30) rfl)) (hw _ (List.mem_of_getElem? (i := 31) rfl)) (hw _ (List.mem_of_getElem? (i := 7) rfl)) (hw _ (List.mem_of_getElem? (i := 32) rfl)) (by decide) (con_5 l Z a0 hw o6 p6 (fun q => .int ((own_put (own_put (own_put (own_put (fun _ => (0 : Int32)) 0 i0) 8 i1) 16 i2) 24 i3) q)) h7 n0 Z7 F_o6_bytes_7 A_p6_7 E_p6_7) e7 E_o6_7 (by rw [hml]; rfl) (hb hby at_68) (lenOf pd_5 rfl) 0 (Nat.le_of_eq rfl) (by decide) (by decide) (by decide) (by decide) ?_
  intro v T8 L8 X8 hQ
  obtain ⟨o8, rfl, N8q, K8q, A8q, ga8⟩ := hQ
  have N8 := Fr.app N7 N8q
  have E_b1_8 : Exa Z T8.heap b1 "[B" := E_b1_7.keep K8q
  have E_o6_8 : Exa Z T8.heap o6 "com/example/shoalkeep/shoalkeep/Identifier" := E_o6_7.keep K8q
  have F_o6_bytes_8 : Fld Z T8.heap o6 "com/example/shoalkeep/shoalkeep/Identifier" "bytes" "[B" (.ref p6) := F_o6_bytes_7.keep K8q nin0
  have A_p6_8 : Af Z T8.heap p6 .byte 32 (fun q => .int ((own_put (own_put (own_put (own_put (fun _ => (0 : Int32)) 0 i0) 8 i1) 16 i2) 24 i3) q)) := A_p6_7.keep K8q nin0
  have E_p6_8 : Exa Z T8.heap p6 "[B" := E_p6_7.keep K8q
  have A_b1_8 : Af Z T8.heap b1 .byte 32 (fun q => .int ((upd (own_put (own_put (own_put (own_put (fun _ => (0 : Int32)) 0 i0) 8 i1) 16 i2) 24 i3) I (((((own_put (own_put (own_put (own_put (fun _ => (0 : Int32)) 0 i0) 8 i1) 16 i2) 24 i3) I) ^^^ (-1 : Int32)).toInt8.toInt32)).toInt8.toInt32) q)) := C7.keep K8q nin0
  have Z8 : n0 ≤ T8.heap.size := Nat.le_trans Z7 K8q.1
  show Ends p e below _ T8 (mkF m 71 #[.val (.long i0), .second, .val (.long i1), .second, .val (.long i2), .second, .val (.long i3), .second, .val (.int i4), .val (.ref b1), .val (.ref o6), .val (.int (i4 &&& (31 : Int32))), .unset] [(.ref o8)])
  refine Ends.by (fun _ => XS.astore X8.here hx rfl (hb hby at_71) rfl rfl (l' := #[.val (.long i0), .second, .val (.long i1), .second, .val (.long i2), .second, .val (.long i3), .second, .val (.int i4), .val (.ref b1), .val (.ref o6), .val (.int (i4 &&& (31 : Int32))), .val (.ref o8)]) rfl) ?_
  show Ends p e below _ T8 (mkF m 73 #[.val (.long i0), .second, .val (.long i1), .second, .val (.long i2), .second, .val (.long i3), .second, .val (.int i4), .val (.ref b1), .val (.ref o6), .val (.int (i4 &&& (31 : Int32))), .val (.ref o8)] [])
  refine Ends.by (fun _ => XS.aload X8.here hx rfl (hb hby at_73) rfl rfl) ?_
  show Ends p e below _ T8 (mkF m 75 #[.val (.long i0), .second, .val (.long i1), .second, .val (.long i2), .second, .val (.long i3), .second, .val (.int i4), .val (.ref b1), .val (.ref o6), .val (.int (i4 &&& (31 : Int32))), .val (.ref o8)] [(.ref o8)])
  refine Ends.len X8 hx hZ rfl A8q (z := (32 : Int32)) (by decide) (hb hby at_75) ?_
  show Ends p e below _ T8 (mkF m 76 #[.val (.long i0), .second, .val (.long i1), .second, .val (.long i2), .second, .val (.long i3), .second, .val (.int i4), .val (.ref b1), .val (.ref o6), .val (.int (i4 &&& (31 : Int32))), .val (.ref o8)] [(.int (32 : Int32))])
  refine Ends.by (fun _ => XS.bipush X8.here hx rfl (hb hby at_76)) ?_
  show Ends p e below _ T8 (mkF m 78 #[.val (.long i0), .second, .val (.long i1), .second, .val (.long i2), .second, .val (.long i3), .second, .val (.int i4), .val (.ref b1), .val (.ref o6), .val (.int (i4 &&& (31 : Int32))), .val (.ref o8)] [(.int (32 : Int32)), (.int (32 : Int32))])
  refine Ends.icmp X8 hx (hb hby at_78) 83 (by decide) (by decide) (fun q => ?_) (fun q => ?_)
  · have c78 : (32 : Int32) = (32 : Int32) := own_eq.1 q
    show Ends p e below _ T8 (mkF m 83 #[.val (.long i0), .second, .val (.long i1), .second, .val (.long i2), .second, .val (.long i3), .second, .val (.int i4), .val (.ref b1), .val (.ref o6), .val (.int (i4 &&& (31 : Int32))), .val (.ref o8)] [])
    refine Ends.by (fun _ => XS.aload X8.here hx rfl (hb hby at_83) rfl rfl) ?_
    show Ends p e below _ T8 (mkF m 85 #[.val (.long i0), .second, .val (.long i1), .second, .val (.long i2), .second, .val (.long i3), .second, .val (.int i4), .val (.ref b1), .val (.ref o6), .val (.int (i4 &&& (31 : Int32))), .val (.ref o8)] [(.ref o8)])
    refine Ends.by (fun _ => XS.iconst X8.here hx rfl (hb hby at_85)) ?_
    show Ends p e below _ T8 (mkF m 86 #[.val (.long i0), .second, .val (.long i1), .second, .val (.long i2), .second, .val (.long i3), .second, .val (.int i4), .val (.ref b1), .val (.ref o6), .val (.int (i4 &&& (31 : Int32))), .val (.ref o8)] [(.int (0 : Int32)), (.ref o8)])
    refine Ends.callS (argsL := [(.ref o8), (.int (0 : Int32))]) (rest := []) X8 hx hZ hown (hw _ (List.mem_of_getElem? (i := 33) rfl)) (hw _ (List.mem_of_getElem? (i := 34) rfl)) (hw _ (List.mem_of_getElem? (i := 3) rfl)) (hw _ (List.mem_of_getElem? (i := 35) rfl)) (by decide) (con_6 l Z a0 hw o8 (0 : Int32) 32 0 (own_put (own_put (own_put (own_put (fun _ => (0 : Int32)) 0 i0) 8 i1) 16 i2) 24 i3) T8.heap n0 Z8 A8q (by decide) (by decide) (by decide)) rfl (by rw [hml]; rfl) (hb hby at_86) (lenOf pd_6 rfl) 0 (Nat.le_of_eq rfl) (by decide) (by decide) (by decide) (by decide) ?_
    intro v T9 L9 X9 hQ
    obtain ⟨rfl, e9, rfl⟩ := hQ
    rw [List.append_nil] at X9
    show Ends p e below _ T9 (mkF m 89 #[.val (.long i0), .second, .val (.long i1), .second, .val (.long i2), .second, .val (.long i3), .second, .val (.int i4), .val (.ref b1), .val (.ref o6), .val (.int (i4 &&& (31 : Int32))), .val (.ref o8)] [(.long (own_get8 ((own_put (own_put (own_put (own_put (fun _ => (0 : Int32)) 0 i0) 8 i1) 16 i2) 24 i3) 0) ((own_put (own_put (own_put (own_put (fun _ => (0 : Int32)) 0 i0) 8 i1) 16 i2) 24 i3) (0 + 1)) ((own_put (own_put (own_put (own_put (fun _ => (0 : Int32)) 0 i0) 8 i1) 16 i2) 24 i3) (0 + 2)) ((own_put (own_put (own_put (own_put (fun _ => (0 : Int32)) 0 i0) 8 i1) 16 i2) 24 i3) (0 + 3)) ((own_put (own_put (own_put (own_put (fun _ => (0 : Int32)) 0 i0) 8 i1) 16 i2) 24 i3) (0 + 4)) ((own_put (own_put (own_put (own_put (fun _ => (0 : Int32)) 0 i0) 8 i1) 16 i2) 24 i3) (0 + 5)) ((own_put (own_put (own_put (own_put (fun _ => (0 : Int32)) 0 i0) 8 i1) 16 i2) 24 i3) (0 + 6)) ((own_put (own_put (own_put (own_put (fun _ => (0 : Int32)) 0 i0) 8 i1) 16 i2) 24 i3) (0 + 7))))])
    refine Ends.by (fun _ => XS.lloadN X9.here hx rfl (hb hby at_89) rfl) ?_
    show Ends p e below _ T9 (mkF m 90 #[.val (.long i0), .second, .val (.long i1), .second, .val (.long i2), .second, .val (.long i3), .second, .val (.int i4), .val (.ref b1), .val (.ref o6), .val (.int (i4 &&& (31 : Int32))), .val (.ref o8)] [(.long i0), (.long (own_get8 ((own_put (own_put (own_put (own_put (fun _ => (0 : Int32)) 0 i0) 8 i1) 16 i2) 24 i3) 0) ((own_put (own_put (own_put (own_put (fun _ => (0 : Int32)) 0 i0) 8 i1) 16 i2) 24 i3) (0 + 1)) ((own_put (own_put (own_put (own_put (fun _ => (0 : Int32)) 0 i0) 8 i1) 16 i2) 24 i3) (0 + 2)) ((own_put (own_put (own_put (own_put (fun _ => (0 : Int32)) 0 i0) 8 i1) 16 i2) 24 i3) (0 + 3)) ((own_put (own_put (own_put (own_put (fun _ => (0 : Int32)) 0 i0) 8 i1) 16 i2) 24 i3) (0 + 4)) ((own_put (own_put (own_put (own_put (fun _ => (0 : Int32)) 0 i0) 8 i1) 16 i2) 24 i3) (0 + 5)) ((own_put (own_put (own_put (own_put (fun _ => (0 : Int32)) 0 i0) 8 i1) 16 i2) 24 i3) (0 + 6)) ((own_put (own_put (own_put (own_put (fun _ => (0 : Int32)) 0 i0) 8 i1) 16 i2) 24 i3) (0 + 7))))])
    refine Ends.by (fun _ => XS.lcmp X9.here hx rfl (hb hby at_90) rfl) ?_
    show Ends p e below _ T9 (mkF m 91 #[.val (.long i0), .second, .val (.long i1), .second, .val (.long i2), .second, .val (.long i3), .second, .val (.int i4), .val (.ref b1), .val (.ref o6), .val (.int (i4 &&& (31 : Int32))), .val (.ref o8)] [(.int (lcmpW (own_get8 ((own_put (own_put (own_put (own_put (fun _ => (0 : Int32)) 0 i0) 8 i1) 16 i2) 24 i3) 0) ((own_put (own_put (own_put (own_put (fun _ => (0 : Int32)) 0 i0) 8 i1) 16 i2) 24 i3) (0 + 1)) ((own_put (own_put (own_put (own_put (fun _ => (0 : Int32)) 0 i0) 8 i1) 16 i2) 24 i3) (0 + 2)) ((own_put (own_put (own_put (own_put (fun _ => (0 : Int32)) 0 i0) 8 i1) 16 i2) 24 i3) (0 + 3)) ((own_put (own_put (own_put (own_put (fun _ => (0 : Int32)) 0 i0) 8 i1) 16 i2) 24 i3) (0 + 4)) ((own_put (own_put (own_put (own_put (fun _ => (0 : Int32)) 0 i0) 8 i1) 16 i2) 24 i3) (0 + 5)) ((own_put (own_put (own_put (own_put (fun _ => (0 : Int32)) 0 i0) 8 i1) 16 i2) 24 i3) (0 + 6)) ((own_put (own_put (own_put (own_put (fun _ => (0 : Int32)) 0 i0) 8 i1) 16 i2) 24 i3) (0 + 7))) i0))])
    refine Ends.ifc X9 hx (hb hby at_91) 136 (by decide) (by decide) (fun q => ?_) (fun q => ?_)
    · have c91 : ¬ ((lcmpW (own_get8 ((own_put (own_put (own_put (own_put (fun _ => (0 : Int32)) 0 i0) 8 i1) 16 i2) 24 i3) 0) ((own_put (own_put (own_put (own_put (fun _ => (0 : Int32)) 0 i0) 8 i1) 16 i2) 24 i3) (0 + 1)) ((own_put (own_put (own_put (own_put (fun _ => (0 : Int32)) 0 i0) 8 i1) 16 i2) 24 i3) (0 + 2)) ((own_put (own_put (own_put (own_put (fun _ => (0 : Int32)) 0 i0) 8 i1) 16 i2) 24 i3) (0 + 3)) ((own_put (own_put (own_put (own_put (fun _ => (0 : Int32)) 0 i0) 8 i1) 16 i2) 24 i3) (0 + 4)) ((own_put (own_put (own_put (own_put (fun _ => (0 : Int32)) 0 i0) 8 i1) 16 i2) 24 i3) (0 + 5)) ((own_put (own_put (own_put (own_put (fun _ => (0 : Int32)) 0 i0) 8 i1) 16 i2) 24 i3) (0 + 6)) ((own_put (own_put (own_put (own_put (fun _ => (0 : Int32)) 0 i0) 8 i1) 16 i2) 24 i3) (0 + 7))) i0) = (0 : Int32)) := own_ne.1 q
      exact absurd ((lw_eq _ _).mpr (own_g0 i0 i1 i2 i3)) c91
    · have c91 : (lcmpW (own_get8 ((own_put (own_put (own_put (own_put (fun _ => (0 : Int32)) 0 i0) 8 i1) 16 i2) 24 i3) 0) ((own_put (own_put (own_put (own_put (fun _ => (0 : Int32)) 0 i0) 8 i1) 16 i2) 24 i3) (0 + 1)) ((own_put (own_put (own_put (own_put (fun _ => (0 : Int32)) 0 i0) 8 i1) 16 i2) 24 i3) (0 + 2)) ((own_put (own_put (own_put (own_put (fun _ => (0 : Int32)) 0 i0) 8 i1) 16 i2) 24 i3) (0 + 3)) ((own_put (own_put (own_put (own_put (fun _ => (0 : Int32)) 0 i0) 8 i1) 16 i2) 24 i3) (0 + 4)) ((own_put (own_put (own_put (own_put (fun _ => (0 : Int32)) 0 i0) 8 i1) 16 i2) 24 i3) (0 + 5)) ((own_put (own_put (own_put (own_put (fun _ => (0 : Int32)) 0 i0) 8 i1) 16 i2) 24 i3) (0 + 6)) ((own_put (own_put (own_put (own_put (fun _ => (0 : Int32)) 0 i0) 8 i1) 16 i2) 24 i3) (0 + 7))) i0) = (0 : Int32) := own_ne.2 q
      show Ends p e below _ T9 (mkF m 94 #[.val (.long i0), .second, .val (.long i1), .second, .val (.long i2), .second, .val (.long i3), .second, .val (.int i4), .val (.ref b1), .val (.ref o6), .val (.int (i4 &&& (31 : Int32))), .val (.ref o8)] [])
      refine Ends.by (fun _ => XS.aload X9.here hx rfl (hb hby at_94) rfl rfl) ?_
      show Ends p e below _ T9 (mkF m 96 #[.val (.long i0), .second, .val (.long i1), .second, .val (.long i2), .second, .val (.long i3), .second, .val (.int i4), .val (.ref b1), .val (.ref o6), .val (.int (i4 &&& (31 : Int32))), .val (.ref o8)] [(.ref o8)])
      refine Ends.by (fun _ => XS.bipush X9.here hx rfl (hb hby at_96)) ?_
      show Ends p e below _ T9 (mkF m 98 #[.val (.long i0), .second, .val (.long i1), .second, .val (.long i2), .second, .val (.long i3), .second, .val (.int i4), .val (.ref b1), .val (.ref o6), .val (.int (i4 &&& (31 : Int32))), .val (.ref o8)] [(.int (8 : Int32)), (.ref o8)])
      refine Ends.callS (argsL := [(.ref o8), (.int (8 : Int32))]) (rest := []) X9 hx hZ hown (hw _ (List.mem_of_getElem? (i := 33) rfl)) (hw _ (List.mem_of_getElem? (i := 34) rfl)) (hw _ (List.mem_of_getElem? (i := 3) rfl)) (hw _ (List.mem_of_getElem? (i := 35) rfl)) (by decide) (con_6 l Z a0 hw o8 (8 : Int32) 32 8 (own_put (own_put (own_put (own_put (fun _ => (0 : Int32)) 0 i0) 8 i1) 16 i2) 24 i3) T8.heap n0 Z8 A8q (by decide) (by decide) (by decide)) e9 (by rw [hml]; rfl) (hb hby at_98) (lenOf pd_6 rfl) 0 (Nat.le_of_eq rfl) (by decide) (by decide) (by decide) (by decide) ?_
      intro v T10 L10 X10 hQ
      obtain ⟨rfl, e10, rfl⟩ := hQ
      rw [List.append_nil] at X10
      show Ends p e below _ T10 (mkF m 101 #[.val (.long i0), .second, .val (.long i1), .second, .val (.long i2), .second, .val (.long i3), .second, .val (.int i4), .val (.ref b1), .val (.ref o6), .val (.int (i4 &&& (31 : Int32))), .val (.ref o8)] [(.long (own_get8 ((own_put (own_put (own_put (own_put (fun _ => (0 : Int32)) 0 i0) 8 i1) 16 i2) 24 i3) 8) ((own_put (own_put (own_put (own_put (fun _ => (0 : Int32)) 0 i0) 8 i1) 16 i2) 24 i3) (8 + 1)) ((own_put (own_put (own_put (own_put (fun _ => (0 : Int32)) 0 i0) 8 i1) 16 i2) 24 i3) (8 + 2)) ((own_put (own_put (own_put (own_put (fun _ => (0 : Int32)) 0 i0) 8 i1) 16 i2) 24 i3) (8 + 3)) ((own_put (own_put (own_put (own_put (fun _ => (0 : Int32)) 0 i0) 8 i1) 16 i2) 24 i3) (8 + 4)) ((own_put (own_put (own_put (own_put (fun _ => (0 : Int32)) 0 i0) 8 i1) 16 i2) 24 i3) (8 + 5)) ((own_put (own_put (own_put (own_put (fun _ => (0 : Int32)) 0 i0) 8 i1) 16 i2) 24 i3) (8 + 6)) ((own_put (own_put (own_put (own_put (fun _ => (0 : Int32)) 0 i0) 8 i1) 16 i2) 24 i3) (8 + 7))))])
      refine Ends.by (fun _ => XS.lloadN X10.here hx rfl (hb hby at_101) rfl) ?_
      show Ends p e below _ T10 (mkF m 102 #[.val (.long i0), .second, .val (.long i1), .second, .val (.long i2), .second, .val (.long i3), .second, .val (.int i4), .val (.ref b1), .val (.ref o6), .val (.int (i4 &&& (31 : Int32))), .val (.ref o8)] [(.long i1), (.long (own_get8 ((own_put (own_put (own_put (own_put (fun _ => (0 : Int32)) 0 i0) 8 i1) 16 i2) 24 i3) 8) ((own_put (own_put (own_put (own_put (fun _ => (0 : Int32)) 0 i0) 8 i1) 16 i2) 24 i3) (8 + 1)) ((own_put (own_put (own_put (own_put (fun _ => (0 : Int32)) 0 i0) 8 i1) 16 i2) 24 i3) (8 + 2)) ((own_put (own_put (own_put (own_put (fun _ => (0 : Int32)) 0 i0) 8 i1) 16 i2) 24 i3) (8 + 3)) ((own_put (own_put (own_put (own_put (fun _ => (0 : Int32)) 0 i0) 8 i1) 16 i2) 24 i3) (8 + 4)) ((own_put (own_put (own_put (own_put (fun _ => (0 : Int32)) 0 i0) 8 i1) 16 i2) 24 i3) (8 + 5)) ((own_put (own_put (own_put (own_put (fun _ => (0 : Int32)) 0 i0) 8 i1) 16 i2) 24 i3) (8 + 6)) ((own_put (own_put (own_put (own_put (fun _ => (0 : Int32)) 0 i0) 8 i1) 16 i2) 24 i3) (8 + 7))))])
      refine Ends.by (fun _ => XS.lcmp X10.here hx rfl (hb hby at_102) rfl) ?_
      show Ends p e below _ T10 (mkF m 103 #[.val (.long i0), .second, .val (.long i1), .second, .val (.long i2), .second, .val (.long i3), .second, .val (.int i4), .val (.ref b1), .val (.ref o6), .val (.int (i4 &&& (31 : Int32))), .val (.ref o8)] [(.int (lcmpW (own_get8 ((own_put (own_put (own_put (own_put (fun _ => (0 : Int32)) 0 i0) 8 i1) 16 i2) 24 i3) 8) ((own_put (own_put (own_put (own_put (fun _ => (0 : Int32)) 0 i0) 8 i1) 16 i2) 24 i3) (8 + 1)) ((own_put (own_put (own_put (own_put (fun _ => (0 : Int32)) 0 i0) 8 i1) 16 i2) 24 i3) (8 + 2)) ((own_put (own_put (own_put (own_put (fun _ => (0 : Int32)) 0 i0) 8 i1) 16 i2) 24 i3) (8 + 3)) ((own_put (own_put (own_put (own_put (fun _ => (0 : Int32)) 0 i0) 8 i1) 16 i2) 24 i3) (8 + 4)) ((own_put (own_put (own_put (own_put (fun _ => (0 : Int32)) 0 i0) 8 i1) 16 i2) 24 i3) (8 + 5)) ((own_put (own_put (own_put (own_put (fun _ => (0 : Int32)) 0 i0) 8 i1) 16 i2) 24 i3) (8 + 6)) ((own_put (own_put (own_put (own_put (fun _ => (0 : Int32)) 0 i0) 8 i1) 16 i2) 24 i3) (8 + 7))) i1))])
      refine Ends.ifc X10 hx (hb hby at_103) 136 (by decide) (by decide) (fun q => ?_) (fun q => ?_)
      · have c103 : ¬ ((lcmpW (own_get8 ((own_put (own_put (own_put (own_put (fun _ => (0 : Int32)) 0 i0) 8 i1) 16 i2) 24 i3) 8) ((own_put (own_put (own_put (own_put (fun _ => (0 : Int32)) 0 i0) 8 i1) 16 i2) 24 i3) (8 + 1)) ((own_put (own_put (own_put (own_put (fun _ => (0 : Int32)) 0 i0) 8 i1) 16 i2) 24 i3) (8 + 2)) ((own_put (own_put (own_put (own_put (fun _ => (0 : Int32)) 0 i0) 8 i1) 16 i2) 24 i3) (8 + 3)) ((own_put (own_put (own_put (own_put (fun _ => (0 : Int32)) 0 i0) 8 i1) 16 i2) 24 i3) (8 + 4)) ((own_put (own_put (own_put (own_put (fun _ => (0 : Int32)) 0 i0) 8 i1) 16 i2) 24 i3) (8 + 5)) ((own_put (own_put (own_put (own_put (fun _ => (0 : Int32)) 0 i0) 8 i1) 16 i2) 24 i3) (8 + 6)) ((own_put (own_put (own_put (own_put (fun _ => (0 : Int32)) 0 i0) 8 i1) 16 i2) 24 i3) (8 + 7))) i1) = (0 : Int32)) := own_ne.1 q
        exact absurd ((lw_eq _ _).mpr (own_g8 i0 i1 i2 i3)) c103
      · have c103 : (lcmpW (own_get8 ((own_put (own_put (own_put (own_put (fun _ => (0 : Int32)) 0 i0) 8 i1) 16 i2) 24 i3) 8) ((own_put (own_put (own_put (own_put (fun _ => (0 : Int32)) 0 i0) 8 i1) 16 i2) 24 i3) (8 + 1)) ((own_put (own_put (own_put (own_put (fun _ => (0 : Int32)) 0 i0) 8 i1) 16 i2) 24 i3) (8 + 2)) ((own_put (own_put (own_put (own_put (fun _ => (0 : Int32)) 0 i0) 8 i1) 16 i2) 24 i3) (8 + 3)) ((own_put (own_put (own_put (own_put (fun _ => (0 : Int32)) 0 i0) 8 i1) 16 i2) 24 i3) (8 + 4)) ((own_put (own_put (own_put (own_put (fun _ => (0 : Int32)) 0 i0) 8 i1) 16 i2) 24 i3) (8 + 5)) ((own_put (own_put (own_put (own_put (fun _ => (0 : Int32)) 0 i0) 8 i1) 16 i2) 24 i3) (8 + 6)) ((own_put (own_put (own_put (own_put (fun _ => (0 : Int32)) 0 i0) 8 i1) 16 i2) 24 i3) (8 + 7))) i1) = (0 : Int32) := own_ne.2 q
        show Ends p e below _ T10 (mkF m 106 #[.val (.long i0), .second, .val (.long i1), .second, .val (.long i2), .second, .val (.long i3), .second, .val (.int i4), .val (.ref b1), .val (.ref o6), .val (.int (i4 &&& (31 : Int32))), .val (.ref o8)] [])
        refine Ends.by (fun _ => XS.aload X10.here hx rfl (hb hby at_106) rfl rfl) ?_
        show Ends p e below _ T10 (mkF m 108 #[.val (.long i0), .second, .val (.long i1), .second, .val (.long i2), .second, .val (.long i3), .second, .val (.int i4), .val (.ref b1), .val (.ref o6), .val (.int (i4 &&& (31 : Int32))), .val (.ref o8)] [(.ref o8)])
        refine Ends.by (fun _ => XS.bipush X10.here hx rfl (hb hby at_108)) ?_
        show Ends p e below _ T10 (mkF m 110 #[.val (.long i0), .second, .val (.long i1), .second, .val (.long i2), .second, .val (.long i3), .second, .val (.int i4), .val (.ref b1), .val (.ref o6), .val (.int (i4 &&& (31 : Int32))), .val (.ref o8)] [(.int (16 : Int32)), (.ref o8)])
        refine Ends.callS (argsL := [(.ref o8), (.int (16 : Int32))]) (rest := []) X10 hx hZ hown (hw _ (List.mem_of_getElem? (i := 33) rfl)) (hw _ (List.mem_of_getElem? (i := 34) rfl)) (hw _ (List.mem_of_getElem? (i := 3) rfl)) (hw _ (List.mem_of_getElem? (i := 35) rfl)) (by decide) (con_6 l Z a0 hw o8 (16 : Int32) 32 16 (own_put (own_put (own_put (own_put (fun _ => (0 : Int32)) 0 i0) 8 i1) 16 i2) 24 i3) T8.heap n0 Z8 A8q (by decide) (by decide) (by decide)) e10 (by rw [hml]; rfl) (hb hby at_110) (lenOf pd_6 rfl) 0 (Nat.le_of_eq rfl) (by decide) (by decide) (by decide) (by decide) ?_
        intro v T11 L11 X11 hQ
        obtain ⟨rfl, e11, rfl⟩ := hQ
        rw [List.append_nil] at X11
        show Ends p e below _ T11 (mkF m 113 #[.val (.long i0), .second, .val (.long i1), .second, .val (.long i2), .second, .val (.long i3), .second, .val (.int i4), .val (.ref b1), .val (.ref o6), .val (.int (i4 &&& (31 : Int32))), .val (.ref o8)] [(.long (own_get8 ((own_put (own_put (own_put (own_put (fun _ => (0 : Int32)) 0 i0) 8 i1) 16 i2) 24 i3) 16) ((own_put (own_put (own_put (own_put (fun _ => (0 : Int32)) 0 i0) 8 i1) 16 i2) 24 i3) (16 + 1)) ((own_put (own_put (own_put (own_put (fun _ => (0 : Int32)) 0 i0) 8 i1) 16 i2) 24 i3) (16 + 2)) ((own_put (own_put (own_put (own_put (fun _ => (0 : Int32)) 0 i0) 8 i1) 16 i2) 24 i3) (16 + 3)) ((own_put (own_put (own_put (own_put (fun _ => (0 : Int32)) 0 i0) 8 i1) 16 i2) 24 i3) (16 + 4)) ((own_put (own_put (own_put (own_put (fun _ => (0 : Int32)) 0 i0) 8 i1) 16 i2) 24 i3) (16 + 5)) ((own_put (own_put (own_put (own_put (fun _ => (0 : Int32)) 0 i0) 8 i1) 16 i2) 24 i3) (16 + 6)) ((own_put (own_put (own_put (own_put (fun _ => (0 : Int32)) 0 i0) 8 i1) 16 i2) 24 i3) (16 + 7))))])
        refine Ends.by (fun _ => XS.lload X11.here hx rfl (hb hby at_113) rfl) ?_
        show Ends p e below _ T11 (mkF m 115 #[.val (.long i0), .second, .val (.long i1), .second, .val (.long i2), .second, .val (.long i3), .second, .val (.int i4), .val (.ref b1), .val (.ref o6), .val (.int (i4 &&& (31 : Int32))), .val (.ref o8)] [(.long i2), (.long (own_get8 ((own_put (own_put (own_put (own_put (fun _ => (0 : Int32)) 0 i0) 8 i1) 16 i2) 24 i3) 16) ((own_put (own_put (own_put (own_put (fun _ => (0 : Int32)) 0 i0) 8 i1) 16 i2) 24 i3) (16 + 1)) ((own_put (own_put (own_put (own_put (fun _ => (0 : Int32)) 0 i0) 8 i1) 16 i2) 24 i3) (16 + 2)) ((own_put (own_put (own_put (own_put (fun _ => (0 : Int32)) 0 i0) 8 i1) 16 i2) 24 i3) (16 + 3)) ((own_put (own_put (own_put (own_put (fun _ => (0 : Int32)) 0 i0) 8 i1) 16 i2) 24 i3) (16 + 4)) ((own_put (own_put (own_put (own_put (fun _ => (0 : Int32)) 0 i0) 8 i1) 16 i2) 24 i3) (16 + 5)) ((own_put (own_put (own_put (own_put (fun _ => (0 : Int32)) 0 i0) 8 i1) 16 i2) 24 i3) (16 + 6)) ((own_put (own_put (own_put (own_put (fun _ => (0 : Int32)) 0 i0) 8 i1) 16 i2) 24 i3) (16 + 7))))])
        refine Ends.by (fun _ => XS.lcmp X11.here hx rfl (hb hby at_115) rfl) ?_
        show Ends p e below _ T11 (mkF m 116 #[.val (.long i0), .second, .val (.long i1), .second, .val (.long i2), .second, .val (.long i3), .second, .val (.int i4), .val (.ref b1), .val (.ref o6), .val (.int (i4 &&& (31 : Int32))), .val (.ref o8)] [(.int (lcmpW (own_get8 ((own_put (own_put (own_put (own_put (fun _ => (0 : Int32)) 0 i0) 8 i1) 16 i2) 24 i3) 16) ((own_put (own_put (own_put (own_put (fun _ => (0 : Int32)) 0 i0) 8 i1) 16 i2) 24 i3) (16 + 1)) ((own_put (own_put (own_put (own_put (fun _ => (0 : Int32)) 0 i0) 8 i1) 16 i2) 24 i3) (16 + 2)) ((own_put (own_put (own_put (own_put (fun _ => (0 : Int32)) 0 i0) 8 i1) 16 i2) 24 i3) (16 + 3)) ((own_put (own_put (own_put (own_put (fun _ => (0 : Int32)) 0 i0) 8 i1) 16 i2) 24 i3) (16 + 4)) ((own_put (own_put (own_put (own_put (fun _ => (0 : Int32)) 0 i0) 8 i1) 16 i2) 24 i3) (16 + 5)) ((own_put (own_put (own_put (own_put (fun _ => (0 : Int32)) 0 i0) 8 i1) 16 i2) 24 i3) (16 + 6)) ((own_put (own_put (own_put (own_put (fun _ => (0 : Int32)) 0 i0) 8 i1) 16 i2) 24 i3) (16 + 7))) i2))])
        refine Ends.ifc X11 hx (hb hby at_116) 136 (by decide) (by decide) (fun q => ?_) (fun q => ?_)
        · have c116 : ¬ ((lcmpW (own_get8 ((own_put (own_put (own_put (own_put (fun _ => (0 : Int32)) 0 i0) 8 i1) 16 i2) 24 i3) 16) ((own_put (own_put (own_put (own_put (fun _ => (0 : Int32)) 0 i0) 8 i1) 16 i2) 24 i3) (16 + 1)) ((own_put (own_put (own_put (own_put (fun _ => (0 : Int32)) 0 i0) 8 i1) 16 i2) 24 i3) (16 + 2)) ((own_put (own_put (own_put (own_put (fun _ => (0 : Int32)) 0 i0) 8 i1) 16 i2) 24 i3) (16 + 3)) ((own_put (own_put (own_put (own_put (fun _ => (0 : Int32)) 0 i0) 8 i1) 16 i2) 24 i3) (16 + 4)) ((own_put (own_put (own_put (own_put (fun _ => (0 : Int32)) 0 i0) 8 i1) 16 i2) 24 i3) (16 + 5)) ((own_put (own_put (own_put (own_put (fun _ => (0 : Int32)) 0 i0) 8 i1) 16 i2) 24 i3) (16 + 6)) ((own_put (own_put (own_put (own_put (fun _ => (0 : Int32)) 0 i0) 8 i1) 16 i2) 24 i3) (16 + 7))) i2) = (0 : Int32)) := own_ne.1 q
          exact absurd ((lw_eq _ _).mpr (own_g16 i0 i1 i2 i3)) c116
        · have c116 : (lcmpW (own_get8 ((own_put (own_put (own_put (own_put (fun _ => (0 : Int32)) 0 i0) 8 i1) 16 i2) 24 i3) 16) ((own_put (own_put (own_put (own_put (fun _ => (0 : Int32)) 0 i0) 8 i1) 16 i2) 24 i3) (16 + 1)) ((own_put (own_put (own_put (own_put (fun _ => (0 : Int32)) 0 i0) 8 i1) 16 i2) 24 i3) (16 + 2)) ((own_put (own_put (own_put (own_put (fun _ => (0 : Int32)) 0 i0) 8 i1) 16 i2) 24 i3) (16 + 3)) ((own_put (own_put (own_put (own_put (fun _ => (0 : Int32)) 0 i0) 8 i1) 16 i2) 24 i3) (16 + 4)) ((own_put (own_put (own_put (own_put (fun _ => (0 : Int32)) 0 i0) 8 i1) 16 i2) 24 i3) (16 + 5)) ((own_put (own_put (own_put (own_put (fun _ => (0 : Int32)) 0 i0) 8 i1) 16 i2) 24 i3) (16 + 6)) ((own_put (own_put (own_put (own_put (fun _ => (0 : Int32)) 0 i0) 8 i1) 16 i2) 24 i3) (16 + 7))) i2) = (0 : Int32) := own_ne.2 q
          show Ends p e below _ T11 (mkF m 119 #[.val (.long i0), .second, .val (.long i1), .second, .val (.long i2), .second, .val (.long i3), .second, .val (.int i4), .val (.ref b1), .val (.ref o6), .val (.int (i4 &&& (31 : Int32))), .val (.ref o8)] [])
          refine Ends.by (fun _ => XS.aload X11.here hx rfl (hb hby at_119) rfl rfl) ?_
          show Ends p e below _ T11 (mkF m 121 #[.val (.long i0), .second, .val (.long i1), .second, .val (.long i2), .second, .val (.long i3), .second, .val (.int i4), .val (.ref b1), .val (.ref o6), .val (.int (i4 &&& (31 : Int32))), .val (.ref o8)] [(.ref o8)])
          refine Ends.by (fun _ => XS.bipush X11.here hx rfl (hb hby at_121)) ?_
          show Ends p e below _ T11 (mkF m 123 #[.val (.long i0), .second, .val (.long i1), .second, .val (.long i2), .second, .val (.long i3), .second, .val (.int i4), .val (.ref b1), .val (.ref o6), .val (.int (i4 &&& (31 : Int32))), .val (.ref o8)] [(.int (24 : Int32)), (.ref o8)])
          refine Ends.callS (argsL := [(.ref o8), (.int (24 : Int32))]) (rest := []) X11 hx hZ hown (hw _ (List.mem_of_getElem? (i := 33) rfl)) (hw _ (List.mem_of_getElem? (i := 34) rfl)) (hw _ (List.mem_of_getElem? (i := 3) rfl)) (hw _ (List.mem_of_getElem? (i := 35) rfl)) (by decide) (con_6 l Z a0 hw o8 (24 : Int32) 32 24 (own_put (own_put (own_put (own_put (fun _ => (0 : Int32)) 0 i0) 8 i1) 16 i2) 24 i3) T8.heap n0 Z8 A8q (by decide) (by decide) (by decide)) e11 (by rw [hml]; rfl) (hb hby at_123) (lenOf pd_6 rfl) 0 (Nat.le_of_eq rfl) (by decide) (by decide) (by decide) (by decide) ?_
          intro v T12 L12 X12 hQ
          obtain ⟨rfl, e12, rfl⟩ := hQ
          rw [List.append_nil] at X12
          show Ends p e below _ T12 (mkF m 126 #[.val (.long i0), .second, .val (.long i1), .second, .val (.long i2), .second, .val (.long i3), .second, .val (.int i4), .val (.ref b1), .val (.ref o6), .val (.int (i4 &&& (31 : Int32))), .val (.ref o8)] [(.long (own_get8 ((own_put (own_put (own_put (own_put (fun _ => (0 : Int32)) 0 i0) 8 i1) 16 i2) 24 i3) 24) ((own_put (own_put (own_put (own_put (fun _ => (0 : Int32)) 0 i0) 8 i1) 16 i2) 24 i3) (24 + 1)) ((own_put (own_put (own_put (own_put (fun _ => (0 : Int32)) 0 i0) 8 i1) 16 i2) 24 i3) (24 + 2)) ((own_put (own_put (own_put (own_put (fun _ => (0 : Int32)) 0 i0) 8 i1) 16 i2) 24 i3) (24 + 3)) ((own_put (own_put (own_put (own_put (fun _ => (0 : Int32)) 0 i0) 8 i1) 16 i2) 24 i3) (24 + 4)) ((own_put (own_put (own_put (own_put (fun _ => (0 : Int32)) 0 i0) 8 i1) 16 i2) 24 i3) (24 + 5)) ((own_put (own_put (own_put (own_put (fun _ => (0 : Int32)) 0 i0) 8 i1) 16 i2) 24 i3) (24 + 6)) ((own_put (own_put (own_put (own_put (fun _ => (0 : Int32)) 0 i0) 8 i1) 16 i2) 24 i3) (24 + 7))))])
          refine Ends.by (fun _ => XS.lload X12.here hx rfl (hb hby at_126) rfl) ?_
          show Ends p e below _ T12 (mkF m 128 #[.val (.long i0), .second, .val (.long i1), .second, .val (.long i2), .second, .val (.long i3), .second, .val (.int i4), .val (.ref b1), .val (.ref o6), .val (.int (i4 &&& (31 : Int32))), .val (.ref o8)] [(.long i3), (.long (own_get8 ((own_put (own_put (own_put (own_put (fun _ => (0 : Int32)) 0 i0) 8 i1) 16 i2) 24 i3) 24) ((own_put (own_put (own_put (own_put (fun _ => (0 : Int32)) 0 i0) 8 i1) 16 i2) 24 i3) (24 + 1)) ((own_put (own_put (own_put (own_put (fun _ => (0 : Int32)) 0 i0) 8 i1) 16 i2) 24 i3) (24 + 2)) ((own_put (own_put (own_put (own_put (fun _ => (0 : Int32)) 0 i0) 8 i1) 16 i2) 24 i3) (24 + 3)) ((own_put (own_put (own_put (own_put (fun _ => (0 : Int32)) 0 i0) 8 i1) 16 i2) 24 i3) (24 + 4)) ((own_put (own_put (own_put (own_put (fun _ => (0 : Int32)) 0 i0) 8 i1) 16 i2) 24 i3) (24 + 5)) ((own_put (own_put (own_put (own_put (fun _ => (0 : Int32)) 0 i0) 8 i1) 16 i2) 24 i3) (24 + 6)) ((own_put (own_put (own_put (own_put (fun _ => (0 : Int32)) 0 i0) 8 i1) 16 i2) 24 i3) (24 + 7))))])
          refine Ends.by (fun _ => XS.lcmp X12.here hx rfl (hb hby at_128) rfl) ?_
          show Ends p e below _ T12 (mkF m 129 #[.val (.long i0), .second, .val (.long i1), .second, .val (.long i2), .second, .val (.long i3), .second, .val (.int i4), .val (.ref b1), .val (.ref o6), .val (.int (i4 &&& (31 : Int32))), .val (.ref o8)] [(.int (lcmpW (own_get8 ((own_put (own_put (own_put (own_put (fun _ => (0 : Int32)) 0 i0) 8 i1) 16 i2) 24 i3) 24) ((own_put (own_put (own_put (own_put (fun _ => (0 : Int32)) 0 i0) 8 i1) 16 i2) 24 i3) (24 + 1)) ((own_put (own_put (own_put (own_put (fun _ => (0 : Int32)) 0 i0) 8 i1) 16 i2) 24 i3) (24 + 2)) ((own_put (own_put (own_put (own_put (fun _ => (0 : Int32)) 0 i0) 8 i1) 16 i2) 24 i3) (24 + 3)) ((own_put (own_put (own_put (own_put (fun _ => (0 : Int32)) 0 i0) 8 i1) 16 i2) 24 i3) (24 + 4)) ((own_put (own_put (own_put (own_put (fun _ => (0 : Int32)) 0 i0) 8 i1) 16 i2) 24 i3) (24 + 5)) ((own_put (own_put (own_put (own_put (fun _ => (0 : Int32)) 0 i0) 8 i1) 16 i2) 24 i3) (24 + 6)) ((own_put (own_put (own_put (own_put (fun _ => (0 : Int32)) 0 i0) 8 i1) 16 i2) 24 i3) (24 + 7))) i3))])
          refine Ends.ifc X12 hx (hb hby at_129) 136 (by decide) (by decide) (fun q => ?_) (fun q => ?_)
          · have c129 : ¬ ((lcmpW (own_get8 ((own_put (own_put (own_put (own_put (fun _ => (0 : Int32)) 0 i0) 8 i1) 16 i2) 24 i3) 24) ((own_put (own_put (own_put (own_put (fun _ => (0 : Int32)) 0 i0) 8 i1) 16 i2) 24 i3) (24 + 1)) ((own_put (own_put (own_put (own_put (fun _ => (0 : Int32)) 0 i0) 8 i1) 16 i2) 24 i3) (24 + 2)) ((own_put (own_put (own_put (own_put (fun _ => (0 : Int32)) 0 i0) 8 i1) 16 i2) 24 i3) (24 + 3)) ((own_put (own_put (own_put (own_put (fun _ => (0 : Int32)) 0 i0) 8 i1) 16 i2) 24 i3) (24 + 4)) ((own_put (own_put (own_put (own_put (fun _ => (0 : Int32)) 0 i0) 8 i1) 16 i2) 24 i3) (24 + 5)) ((own_put (own_put (own_put (own_put (fun _ => (0 : Int32)) 0 i0) 8 i1) 16 i2) 24 i3) (24 + 6)) ((own_put (own_put (own_put (own_put (fun _ => (0 : Int32)) 0 i0) 8 i1) 16 i2) 24 i3) (24 + 7))) i3) = (0 : Int32)) := own_ne.1 q
            exact absurd ((lw_eq _ _).mpr (own_g24 i0 i1 i2 i3)) c129
          · have c129 : (lcmpW (own_get8 ((own_put (own_put (own_put (own_put (fun _ => (0 : Int32)) 0 i0) 8 i1) 16 i2) 24 i3) 24) ((own_put (own_put (own_put (own_put (fun _ => (0 : Int32)) 0 i0) 8 i1) 16 i2) 24 i3) (24 + 1)) ((own_put (own_put (own_put (own_put (fun _ => (0 : Int32)) 0 i0) 8 i1) 16 i2) 24 i3) (24 + 2)) ((own_put (own_put (own_put (own_put (fun _ => (0 : Int32)) 0 i0) 8 i1) 16 i2) 24 i3) (24 + 3)) ((own_put (own_put (own_put (own_put (fun _ => (0 : Int32)) 0 i0) 8 i1) 16 i2) 24 i3) (24 + 4)) ((own_put (own_put (own_put (own_put (fun _ => (0 : Int32)) 0 i0) 8 i1) 16 i2) 24 i3) (24 + 5)) ((own_put (own_put (own_put (own_put (fun _ => (0 : Int32)) 0 i0) 8 i1) 16 i2) 24 i3) (24 + 6)) ((own_put (own_put (own_put (own_put (fun _ => (0 : Int32)) 0 i0) 8 i1) 16 i2) 24 i3) (24 + 7))) i3) = (0 : Int32) := own_ne.2 q
            show Ends p e below _ T12 (mkF m 132 #[.val (.long i0), .second, .val (.long i1), .second, .val (.long i2), .second, .val (.long i3), .second, .val (.int i4), .val (.ref b1), .val (.ref o6), .val (.int (i4 &&& (31 : Int32))), .val (.ref o8)] [])
            refine Ends.by (fun _ => XS.iconst X12.here hx rfl (hb hby at_132)) ?_
            show Ends p e below _ T12 (mkF m 133 #[.val (.long i0), .second, .val (.long i1), .second, .val (.long i2), .second, .val (.long i3), .second, .val (.int i4), .val (.ref b1), .val (.ref o6), .val (.int (i4 &&& (31 : Int32))), .val (.ref o8)] [(.int (1 : Int32))])
            refine Ends.by (fun _ => XS.goto X12.here hx rfl (pc0 := 133) (pc' := 137) rfl (hb hby at_133) (by decide) (by decide)) ?_
            show Ends p e below _ T12 (mkF m 137 #[.val (.long i0), .second, .val (.long i1), .second, .val (.long i2), .second, .val (.long i3), .second, .val (.int i4), .val (.ref b1), .val (.ref o6), .val (.int (i4 &&& (31 : Int32))), .val (.ref o8)] [(.int (1 : Int32))])
            exact Ends.retZ X12 hx hlk hret (hb hby at_137) (by first | decide | (simp; done)) (by decide) (by decide) (⟨rfl, N8⟩)
  · have c78 : ¬ ((32 : Int32) = (32 : Int32)) := own_eq.2 q
    exact absurd c78 (by decide)
set_option maxRecDepth 65536 in
set_option maxHeartbeats 40000000 in
theorem comes_1 {Post : Tables → Env → Array Value → State → Outcome → State → Prop} (hpost : ∀ tb e args s v u, (limb_1_1.after args s (.returned v) u = true ∧ limb_1_2.after args s (.returned v) u = true) → FrameEnd s (.returned v) u (Jvm.fieldLocs frame_1_writes args s ++ Jvm.arrayLocs frame_1_arrays args s ++ Jvm.staticLocs frame_1_statics s) 16 320 → Post tb e args s (.returned v) u) :
    ArmFor flags0 classFile x code maxLocals ret World_1 tables_1 room_1 Calls_1 rest_1 Pre_1 Post := by
  intro l hfl _ _ p e ha hc hk s m args below hf hA hF happ hP
  obtain ⟨hcalls, hrest, hpre⟩ := hP
  obtain ⟨-, -, -, hnamed, -, -, -, hat⟩ := (Spec.applies_iff hf).mp happ
  obtain ⟨hg, hn⟩ := and_e (Cond.before_iff.mp (show (Jvm.Cond.and given_1 narrow_1).before args s = true from hpre))
  obtain ⟨hcount, g0⟩ := and_e hg
  obtain ⟨k0, g1⟩ := and_e g0
  obtain ⟨k1, g2⟩ := and_e g1
  obtain ⟨k2, g3⟩ := and_e g2
  obtain ⟨k3, g4⟩ := and_e g3
  obtain ⟨w0, w1, w2, w3, w4, rfl⟩ : ∃ w0 w1 w2 w3 w4 : Value, args = #[w0, w1, w2, w3, w4] := by
    have hs : args.size = 5 := by simpa [Cond.value, given_1] using hcount
    obtain ⟨L⟩ := args
    match L, hs with
    | [w0, w1, w2, w3, w4], _ => exact ⟨w0, w1, w2, w3, w4, rfl⟩
  have hw := fun d (hd : d ∈ tables_1) => atoms_spec (ws := Jvm.Cond.code x code maxLocals ret :: tables_1) hat d (List.mem_cons_of_mem _ hd)
  obtain ⟨i0, ei0⟩ := isL_v k0
  obtain rfl : w0 = (.long i0) := Option.some.inj ei0
  obtain ⟨i1, ei1⟩ := isL_v k1
  obtain rfl : w1 = (.long i1) := Option.some.inj ei1
  obtain ⟨i2, ei2⟩ := isL_v k2
  obtain rfl : w2 = (.long i2) := Option.some.inj ei2
  obtain ⟨i3, ei3⟩ := isL_v k3
  obtain rfl : w3 = (.long i3) := Option.some.inj ei3
  obtain ⟨i4, ei4⟩ := is_v g4
  obtain rfl : w4 = (.int i4) := Option.some.inj ei4
  obtain ⟨n, o, h1, h2, h3, _, L, rfl, ⟨rfl, N⟩, hq⟩ := con_0 l s _ hw i0 i1 i2 i3 i4 s.heap s.heap.size (Nat.le_refl _) tables_1 p e ha hc hk s m _ below hf ((Spec.applies_iff_loose hf).mp happ).1 ⟨rfl, State.Warmed39.refl s, rfl⟩ trivial
  refine ⟨n, _, h1, h2, h3, hpost _ _ _ _ _ _ ⟨Cond.after_iff.mpr rfl, Cond.after_iff.mpr (eq_i res_at (Term.int_eval (1)) rfl)⟩ ⟨hq.1, hq.2.1, (hq.2.2.sift fun y hy => Or.inr (N y hy)).mono (by decide) (by decide)⟩⟩
theorem main_1_1 : Claimed_1_1 := comes_1 fun _ _ _ _ _ _ h hF => ⟨h.1, hF⟩
theorem main_1_2 : Claimed_1_2 := comes_1 fun _ _ _ _ _ _ h hF => ⟨h.2, hF⟩
end Jvm.Pilot.@@N@@
namespace Jvm.Pilot.@@N@@
open Jvm Jvm.ClassFile Sem Op Lib Jvm.Free Jvm.Stand Jvm.Pilot.@@N@@.Jvm.D
/-! MADE BY PROGRAM (witnessworld.py) out of the Statement's table words and the real class files: 10 classes; the members and pool entries that the words name. The judged class is class 1, her method 1. -/
namespace start1
open Jvm.ClassFile
def u (s : String) : CpInfo := .utf8 (stringToUtf16 s)
/-- a pool by its gaps: so many unusable entries, then the entry; so many at the end -/
def gap : Nat → List CpInfo → List CpInfo
  | 0, r => r
  | n + 1, r => .unusable :: gap n r
def poolList (es : List (Nat × CpInfo)) (last : Nat) : List CpInfo := es.foldr (fun e r => gap e.1 (e.2 :: r)) (gap last [])
def pool (es : List (Nat × CpInfo)) (last : Nat) : Array CpInfo := ⟨poolList es last⟩
def fileOf (pool : Array CpInfo) (this : Nat) (attrs : Array Attribute := #[]) (ms : Array MethodInfo := #[]) (fl : Nat := 33) (sup : Nat := 0) (ifs : Array Nat := #[]) (fds : Array FieldInfo := #[]) : ClassFile where
  minorVersion := 0
  majorVersion := 65
  constantPool := pool
  accessFlags := fl
  thisClass := this
  superClass := sup
  interfaces := ifs
  fields := fds
  methods := ms
  attributes := attrs
def plain (name : String) (sup : Option ClassId) : Class where
  name := name
  kind := .ordinary
  loader := none
  accessFlags := 33
  super := sup
  interfaces := #[]
  cf := none
  fields := #[]
  methods := #[]
  instanceTypes := #[]
  staticTypes := #[]
  resolved := #[]
  callSites := []
  init := .initialized
  statics := none
  mirror := none

def pool0 : Array CpInfo := pool [(5, u "<init>"), (0, u "()V"), (1, .class_ 10), (1, u "java/lang/Object"), (85, u "clone"), (0, u "()Ljava/lang/Object;")] 26

def k0c0 : Code := { maxStack := 0, maxLocals := 1, code := object_method_1_code, exceptionTable := #[], attributes := #[] }
def k0m0 : Method := { name := "<init>", desc := "()V", sig := { parameters := [], returnType := none }, accessFlags := 1, code := some k0c0 }
def k0m1 : Method := { name := "clone", desc := "()Ljava/lang/Object;", sig := { parameters := [], returnType := some (.object "java/lang/Object") }, accessFlags := 260, code := none }
/-- java/lang/Object -/
def k0 : Class := { plain "java/lang/Object" none with
  accessFlags := 33
  interfaces := #[]
  cf := some (fileOf pool0 8 #[] #[{ accessFlags := 1, nameIndex := 5, descriptorIndex := 6, attributes := #[] }, { accessFlags := 260, nameIndex := 96, descriptorIndex := 97, attributes := #[] }] 33 0 #[] #[])
  fields := #[]
  methods := #[k0m0, k0m1]
  instanceTypes := #[]
  staticTypes := #[]
  resolved := Array.replicate 124 none
  statics := none }

def pool1 : Array CpInfo := pool [(2, .class_ 4), (1, u "java/lang/Object"), (0, u "<init>"), (0, u "()V"), (0, .methodref 8 9), (0, .class_ 10), (0, .nameAndType 11 12), (0, u "com/example/shoalkeep/shoalkeep/IdentifierOfPinLaw"), (0, u "put"), (0, u "([BIJ)V"), (0, .methodref 14 15), (0, .class_ 16), (0, .nameAndType 17 18), (0, u "com/example/shoalkeep/shoalkeep/Identifier"), (0, u "of"), (0, u "([B)Lcom/example/shoalkeep/shoalkeep/Identifier;"), (0, .methodref 14 20), (0, .nameAndType 21 22), (0, u "toBytes"), (0, u "()[B"), (0, .methodref 8 24), (0, .nameAndType 25 26), (0, u "get"), (0, u "([BI)J"), (0, .long 255), (3, u "law"), (0, u "(JJJJI)Z")] 5

def k1m0 : Method := { name := "<init>", desc := "()V", sig := { parameters := [], returnType := none }, accessFlags := 1, code := none }
def k1c1 : Code := { maxStack := 4, maxLocals := 13, code := code, exceptionTable := #[], attributes := #[] }
def k1m1 : Method := { name := "law", desc := "(JJJJI)Z", sig := { parameters := [.long, .long, .long, .long, .int], returnType := some .boolean }, accessFlags := 9, code := some k1c1 }
def k1c2 : Code := { maxStack := 5, maxLocals := 4, code := method_3_code, exceptionTable := #[], attributes := #[] }
def k1m2 : Method := { name := "put", desc := "([BIJ)V", sig := { parameters := [(.array .byte), .int, .long], returnType := none }, accessFlags := 10, code := some k1c2 }
def k1c3 : Code := { maxStack := 6, maxLocals := 2, code := method_4_code, exceptionTable := #[], attributes := #[] }
def k1m3 : Method := { name := "get", desc := "([BI)J", sig := { parameters := [(.array .byte), .int], returnType := some .long }, accessFlags := 10, code := some k1c3 }
/-- com/example/shoalkeep/shoalkeep/IdentifierOfPinLaw -/
def k1 : Class := { plain "com/example/shoalkeep/shoalkeep/IdentifierOfPinLaw" (some 0) with
  accessFlags := 49
  interfaces := #[]
  cf := some (fileOf pool1 8 #[] #[{ accessFlags := 1, nameIndex := 5, descriptorIndex := 6, attributes := #[] }, { accessFlags := 9, nameIndex := 31, descriptorIndex := 32, attributes := #[] }, { accessFlags := 10, nameIndex := 11, descriptorIndex := 12, attributes := #[] }, { accessFlags := 10, nameIndex := 25, descriptorIndex := 26, attributes := #[] }] 49 2 #[] #[])
  fields := #[]
  methods := #[k1m0, k1m1, k1m2, k1m3]
  instanceTypes := #[]
  staticTypes := #[]
  resolved := Array.replicate 38 none
  statics := none }

def pool2 : Array CpInfo := pool [(1, .class_ 2), (0, u "java/lang/Comparable"), (0, .class_ 4), (0, u "java/lang/Object")] 7

/-- java/lang/Comparable -/
def k2 : Class := { plain "java/lang/Comparable" (some 0) with
  accessFlags := 1537
  interfaces := #[]
  cf := some (fileOf pool2 1 #[] #[] 1537 3 #[] #[])
  fields := #[]
  methods := #[]
  instanceTypes := #[]
  staticTypes := #[]
  resolved := Array.replicate 12 none
  statics := none }

def pool3 : Array CpInfo := pool [(1, .methodref 2 3), (0, .class_ 4), (0, .nameAndType 5 6), (0, u "java/lang/Object"), (0, u "<init>"), (0, u "()V"), (0, .fieldref 8 9), (0, .class_ 10), (0, .nameAndType 11 12), (0, u "com/example/shoalkeep/shoalkeep/Identifier"), (0, u "bytes"), (0, u "[B"), (9, .methodref 23 24), (0, .class_ 12), (0, .nameAndType 25 26), (0, u "clone"), (0, u "()Ljava/lang/Object;"), (0, .methodref 8 28), (0, .nameAndType 5 29), (0, u "([B)V"), (57, u "CIRCLE"), (0, u "Ljava/math/BigInteger;"), (17, u "VALUES"), (2, u "DIGITS"), (0, u "[C"), (32, .class_ 144), (0, u "java/lang/Comparable"), (0, u "BYTES"), (0, u "I"), (4, u "of"), (0, u "([B)Lcom/example/shoalkeep/shoalkeep/Identifier;"), (9, u "toBytes"), (0, u "()[B")] 30

def k3c0 : Code := { maxStack := 2, maxLocals := 2, code := prog_36_method_1_code, exceptionTable := #[], attributes := #[] }
def k3m0 : Method := { name := "<init>", desc := "([B)V", sig := { parameters := [(.array .byte)], returnType := none }, accessFlags := 2, code := some k3c0 }
def k3c1 : Code := { maxStack := 3, maxLocals := 1, code := prog_36_method_2_code, exceptionTable := #[], attributes := #[] }
def k3m1 : Method := { name := "of", desc := "([B)Lcom/example/shoalkeep/shoalkeep/Identifier;", sig := { parameters := [(.array .byte)], returnType := some (.object "com/example/shoalkeep/shoalkeep/Identifier") }, accessFlags := 9, code := some k3c1 }
def k3c2 : Code := { maxStack := 1, maxLocals := 1, code := prog_36_method_7_code, exceptionTable := #[], attributes := #[] }
def k3m2 : Method := { name := "toBytes", desc := "()[B", sig := { parameters := [], returnType := some (.array .byte) }, accessFlags := 1, code := some k3c2 }
/-- com/example/shoalkeep/shoalkeep/Identifier -/
def k3 : Class := { plain "com/example/shoalkeep/shoalkeep/Identifier" (some 0) with
  accessFlags := 49
  interfaces := #[2]
  cf := some (fileOf pool3 8 #[] #[{ accessFlags := 2, nameIndex := 5, descriptorIndex := 29, attributes := #[] }, { accessFlags := 9, nameIndex := 151, descriptorIndex := 152, attributes := #[] }, { accessFlags := 1, nameIndex := 162, descriptorIndex := 163, attributes := #[] }] 49 2 #[143] #[{ accessFlags := 25, nameIndex := 145, descriptorIndex := 146, attributes := #[] }, { accessFlags := 26, nameIndex := 87, descriptorIndex := 88, attributes := #[] }, { accessFlags := 26, nameIndex := 109, descriptorIndex := 110, attributes := #[] }, { accessFlags := 26, nameIndex := 106, descriptorIndex := 12, attributes := #[] }, { accessFlags := 18, nameIndex := 11, descriptorIndex := 12, attributes := #[] }])
  fields := #[{ name := "BYTES", type := .int, accessFlags := 25, slot := 0, constantValue := 0 }, { name := "CIRCLE", type := (.object "java/math/BigInteger"), accessFlags := 26, slot := 1, constantValue := 0 }, { name := "DIGITS", type := (.array .char), accessFlags := 26, slot := 2, constantValue := 0 }, { name := "VALUES", type := (.array .byte), accessFlags := 26, slot := 3, constantValue := 0 }, { name := "bytes", type := (.array .byte), accessFlags := 18, slot := 0, constantValue := 0 }]
  methods := #[k3m0, k3m1, k3m2]
  instanceTypes := #[(.array .byte)]
  staticTypes := #[.int, (.object "java/math/BigInteger"), (.array .char), (.array .byte)]
  resolved := Array.replicate 194 none
  statics := none }

def pool4 : Array CpInfo := pool [(1, .class_ 2), (0, u "java/lang/Cloneable"), (0, .class_ 4), (0, u "java/lang/Object")] 2

/-- java/lang/Cloneable -/
def k4 : Class := { plain "java/lang/Cloneable" (some 0) with
  accessFlags := 1537
  interfaces := #[]
  cf := some (fileOf pool4 1 #[] #[] 1537 3 #[] #[])
  fields := #[]
  methods := #[]
  instanceTypes := #[]
  staticTypes := #[]
  resolved := Array.replicate 7 none
  statics := none }

def pool5 : Array CpInfo := pool [(1, u "java/io/Serializable"), (0, .class_ 1), (0, u "java/lang/Object"), (0, .class_ 3)] 3

/-- java/io/Serializable -/
def k5 : Class := { plain "java/io/Serializable" (some 0) with
  accessFlags := 1537
  interfaces := #[]
  cf := some (fileOf pool5 2 #[] #[] 1537 4 #[] #[])
  fields := #[]
  methods := #[]
  instanceTypes := #[]
  staticTypes := #[]
  resolved := Array.replicate 8 none
  statics := none }

/-- the primitive byte -/
def k6 : Class := { plain "byte" none with kind := .primitive 'B', accessFlags := 0x411 }
/-- [B -/
def k7 : Class := { plain "[B" (some 0) with kind := .array 6 .byte, interfaces := #[4, 5], accessFlags := 1041 }

/-- the primitive int -/
def k8 : Class := { plain "int" none with kind := .primitive 'I', accessFlags := 0x411 }
/-- [I -/
def k9 : Class := { plain "[I" (some 0) with kind := .array 8 .int, interfaces := #[4, 5], accessFlags := 1041 }

def heap : Heap := #[]
def classes : Array Class := #[k0, k1, k2, k3, k4, k5, k6, k7, k8, k9]
def interned : List (Array UInt16 × Addr) := []
def slotsUsed : Nat := 0
def theMethod : MethodId := ⟨1, 1⟩
def args0 : Array Value := #[.long 5, .long 7, .long 9, .long 9, .int 7]
def aboutOver (below : List Frame) : State where
  vm := { classes := classes, interned := interned.toArray }
  heap := heap
  slotsUsed := slotsUsed
  threads := #[{ frames := .invoking theMethod args0 :: below }]
def below0 : List Frame := [.native { method := ⟨0, 0⟩, args := #[] }]
def about1 : State := aboutOver below0
def p0 : Program := .bare "" "" ""
def e0 : Env := launch0.env 0 0 0
theorem w_frames : about1.frames = Frame.invoking theMethod args0 :: below0 := rfl
set_option maxRecDepth 65536 in
theorem w_args : argsFit about1.vm theMethod args0 = true := by decide +kernel
set_option maxRecDepth 65536 in
theorem w_heap : heapFits about1 = true := by decide +kernel
set_option maxRecDepth 65536 in
theorem w_runnable : about1.curStatus? = some .runnable := by decide +kernel
set_option maxRecDepth 65536 in
theorem w_alone : about1.alone = true := by decide +kernel
set_option maxRecDepth 65536 in
theorem w_named : about1.methodNamed? x = some theMethod := by decide +kernel
set_option maxRecDepth 65536 in
theorem w_hears : about1.hears theMethod below0 = true := by decide +kernel
set_option maxRecDepth 65536 in
theorem w_ripe : about1.ripe theMethod args0 below0 = true := by decide +kernel
theorem w_running : about1.status = .running := rfl
set_option maxRecDepth 65536 in
theorem w_room : about1.hasRoom e0.platform room_1 = true :=
  launch0.hasRoom_least _ room_1 (by decide +kernel) (by decide +kernel) (by decide +kernel) (by decide +kernel) (by decide +kernel) (by decide +kernel)
theorem allAtoms_all (ts : List Jvm.Cond) (a : Array Jvm.Value) (st : Jvm.State) : (allAtoms ts).before a st = ts.all (fun c => c.before a st) := by
  induction ts with
  | nil => rfl
  | cons c t ih =>
    show (Jvm.Cond.and c (allAtoms t)).before a st = _
    rw [Jvm.Cond.before_and, ih, List.all_cons]
def words1 : List Jvm.Cond := Jvm.Cond.code x code maxLocals ret :: tables_1
/-- a 'code' word, met by the world's own term for the bytes: nothing is compared byte by byte -/
theorem code_word {y : MethodName} {bytes : ByteArray} {mx : Nat} {rt : Option FieldType} {a : Array Value} {s : State} {m : MethodId} {meth : Method} {c : Code} (h1 : s.methodNamed? y = some m) (h2 : s.vm.method? m = some meth) (h3 : meth.code = some c) (h4 : c.code = bytes)
    (h5 : (c.maxLocals == mx && c.exceptionTable.isEmpty && decide (c.maxStack ≤ mostOperands) && decide (meth.sig.returnType = rt) && !meth.locks && decide (parseMethodDescriptor y.desc = some meth.sig)) = true) : (Jvm.Cond.code y bytes mx rt).before a s = true := by
  simp only [Bool.and_eq_true, beq_iff_eq, Bool.not_eq_true', decide_eq_true_eq] at h5
  obtain ⟨⟨⟨⟨⟨g1, g2⟩, g3⟩, g4⟩, g5⟩, g6⟩ := h5
  simp [Cond.before, Cond.holds, Cond.value, h1, h2, h3, h4, g1, g2, g3, g4, g5, g6]
def isCode : Jvm.Cond → Bool
  | .code _ _ _ _ => true
  | _ => false
theorem all_split {L : List Jvm.Cond} {P : Jvm.Cond → Bool} (h1 : L.all (fun c => isCode c || P c) = true) (h2 : ∀ c ∈ L.filter isCode, P c = true) : L.all P = true := by
  refine List.all_eq_true.mpr fun c hc => ?_
  have h := List.all_eq_true.mp h1 c hc
  rcases Bool.eq_false_or_eq_true (isCode c) with hi | hi
  · exact h2 c (List.mem_filter.mpr ⟨hc, hi⟩)
  · simpa [hi] using h
set_option maxRecDepth 65536 in
theorem w_c0 : (Jvm.Cond.code x code maxLocals ret).before args0 about1 = true := code_word (m := ⟨1, 1⟩) (meth := k1m1) (c := k1c1) (by decide +kernel) rfl rfl rfl (by decide +kernel)
set_option maxRecDepth 65536 in
theorem w_c1 : (Jvm.Cond.code ({ cls := "com/example/shoalkeep/shoalkeep/IdentifierOfPinLaw", name := "put", desc := "([BIJ)V" } : Jvm.MethodName) method_3_code (4 : Nat) (Option.none : Option Jvm.ClassFile.FieldType)).before args0 about1 = true := code_word (m := ⟨1, 2⟩) (meth := k1m2) (c := k1c2) (by decide +kernel) rfl rfl rfl (by decide +kernel)
set_option maxRecDepth 65536 in
theorem w_c2 : (Jvm.Cond.code ({ cls := "com/example/shoalkeep/shoalkeep/Identifier", name := "of", desc := "([B)Lcom/example/shoalkeep/shoalkeep/Identifier;" } : Jvm.MethodName) prog_36_method_2_code (1 : Nat) (Option.some (Jvm.ClassFile.FieldType.object "com/example/shoalkeep/shoalkeep/Identifier"))).before args0 about1 = true := code_word (m := ⟨3, 1⟩) (meth := k3m1) (c := k3c1) (by decide +kernel) rfl rfl rfl (by decide +kernel)
set_option maxRecDepth 65536 in
theorem w_c3 : (Jvm.Cond.code ({ cls := "com/example/shoalkeep/shoalkeep/Identifier", name := "<init>", desc := "([B)V" } : Jvm.MethodName) prog_36_method_1_code (2 : Nat) (Option.none : Option Jvm.ClassFile.FieldType)).before args0 about1 = true := code_word (m := ⟨3, 0⟩) (meth := k3m0) (c := k3c0) (by decide +kernel) rfl rfl rfl (by decide +kernel)
set_option maxRecDepth 65536 in
theorem w_c4 : (Jvm.Cond.code ({ cls := "java/lang/Object", name := "<init>", desc := "()V" } : Jvm.MethodName) object_method_1_code (1 : Nat) (Option.none : Option Jvm.ClassFile.FieldType)).before args0 about1 = true := code_word (m := ⟨0, 0⟩) (meth := k0m0) (c := k0c0) (by decide +kernel) rfl rfl rfl (by decide +kernel)
set_option maxRecDepth 65536 in
theorem w_c5 : (Jvm.Cond.code ({ cls := "com/example/shoalkeep/shoalkeep/Identifier", name := "toBytes", desc := "()[B" } : Jvm.MethodName) prog_36_method_7_code (1 : Nat) (Option.some (Jvm.ClassFile.FieldType.array Jvm.ClassFile.FieldType.byte))).before args0 about1 = true := code_word (m := ⟨3, 2⟩) (meth := k3m2) (c := k3c2) (by decide +kernel) rfl rfl rfl (by decide +kernel)
set_option maxRecDepth 65536 in
theorem w_c6 : (Jvm.Cond.code ({ cls := "com/example/shoalkeep/shoalkeep/IdentifierOfPinLaw", name := "get", desc := "([BI)J" } : Jvm.MethodName) method_4_code (2 : Nat) (Option.some Jvm.ClassFile.FieldType.long)).before args0 about1 = true := code_word (m := ⟨1, 3⟩) (meth := k1m3) (c := k1c3) (by decide +kernel) rfl rfl rfl (by decide +kernel)
def codes1 : List Jvm.Cond := [Jvm.Cond.code x code maxLocals ret, Jvm.Cond.code ({ cls := "com/example/shoalkeep/shoalkeep/IdentifierOfPinLaw", name := "put", desc := "([BIJ)V" } : Jvm.MethodName) method_3_code (4 : Nat) (Option.none : Option Jvm.ClassFile.FieldType), Jvm.Cond.code ({ cls := "com/example/shoalkeep/shoalkeep/Identifier", name := "of", desc := "([B)Lcom/example/shoalkeep/shoalkeep/Identifier;" } : Jvm.MethodName) prog_36_method_2_code (1 : Nat) (Option.some (Jvm.ClassFile.FieldType.object "com/example/shoalkeep/shoalkeep/Identifier")), Jvm.Cond.code ({ cls := "com/example/shoalkeep/shoalkeep/Identifier", name := "<init>", desc := "([B)V" } : Jvm.MethodName) prog_36_method_1_code (2 : Nat) (Option.none : Option Jvm.ClassFile.FieldType), Jvm.Cond.code ({ cls := "java/lang/Object", name := "<init>", desc := "()V" } : Jvm.MethodName) object_method_1_code (1 : Nat) (Option.none : Option Jvm.ClassFile.FieldType), Jvm.Cond.code ({ cls := "com/example/shoalkeep/shoalkeep/Identifier", name := "toBytes", desc := "()[B" } : Jvm.MethodName) prog_36_method_7_code (1 : Nat) (Option.some (Jvm.ClassFile.FieldType.array Jvm.ClassFile.FieldType.byte)), Jvm.Cond.code ({ cls := "com/example/shoalkeep/shoalkeep/IdentifierOfPinLaw", name := "get", desc := "([BI)J" } : Jvm.MethodName) method_4_code (2 : Nat) (Option.some Jvm.ClassFile.FieldType.long)]
set_option maxRecDepth 65536 in
theorem codes_eq : words1.filter isCode = codes1 := rfl
theorem w_codes : ∀ c ∈ words1.filter isCode, c.before args0 about1 = true := by
  rw [codes_eq]
  intro c hc
  simp only [codes1, List.mem_cons, List.not_mem_nil, or_false] at hc
  rcases hc with rfl | rfl | rfl | rfl | rfl | rfl | rfl
  · exact w_c0
  · exact w_c1
  · exact w_c2
  · exact w_c3
  · exact w_c4
  · exact w_c5
  · exact w_c6
set_option maxRecDepth 65536 in
theorem w_t1 : (words1.take 24).all (fun c => isCode c || c.before args0 about1) = true := by decide +kernel
set_option maxRecDepth 65536 in
theorem w_t2 : (words1.drop 24).all (fun c => isCode c || c.before args0 about1) = true := by decide +kernel
theorem w_tables : (allAtoms (Jvm.Cond.code x code maxLocals ret :: tables_1)).before args0 about1 = true := by
  rw [allAtoms_all]
  show words1.all (fun c => c.before args0 about1) = true
  refine all_split ?_ w_codes
  rw [← List.take_append_drop 24 words1, List.all_append, w_t1, w_t2]
  rfl
set_option maxRecDepth 65536 in
theorem w_case : (Jvm.Cond.and given_1 narrow_1).before args0 about1 = true := by decide +kernel
theorem w_applies : (headSpec (Jvm.Cond.code x code maxLocals ret :: tables_1) room_1).applies x e0.platform about1 = true :=
  (Spec.applies_iff w_frames).mpr ⟨w_running, w_runnable, w_alone, w_named, w_hears, w_ripe, w_room, w_tables⟩
theorem atStart : AtStart classFile x code maxLocals ret World_1 tables_1 room_1 Calls_1 rest_1 Pre_1 launch0 p0 e0 about1 theMethod args0 below0 :=
  ⟨lists_1, trivial, launch0.admits_env _ _ _, launch0.least_env, fairChoices_fair.cas, fairChoices_fair.clock, w_frames, w_args, w_heap, w_applies, trivial, trivial, w_case⟩
end start1
theorem witness_1 : WitnessClaimed_1 := ⟨start1.p0, start1.e0, start1.about1, start1.theMethod, start1.args0, start1.below0, start1.atStart⟩
end Jvm.Pilot.@@N@@
