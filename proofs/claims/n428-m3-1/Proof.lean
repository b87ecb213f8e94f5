import JvmDerived
import JvmDerived.Pilot.@@N@@Statement
import JvmDerived.Pilot.@@N@@Code
set_option linter.unusedVariables false
set_option linter.unusedSimpArgs false
namespace Jvm.Pilot.@@N@@
open Jvm Jvm.ClassFile Sem Op Lib Jvm.Free Jvm.Stand Jvm.LawKit Jvm.RoadKit Bundle Jvm.Pilot.@@N@@.Jvm.D
abbrev own_H (a0 : Array Value) (Z : State) : Prop := ∀ d ∈ tables_1, d.before a0 Z = true
def own_Fin (p : Program) (e : Env) (below : List Frame) (P : State → Outcome → Prop) (a : State) : Prop := ∃ t o, Steps p.tables e below a t ∧ t.status = .running ∧ Ended t below o ∧ P t o
theorem own_fin {p : Program} {e : Env} {below : List Frame} {P : State → Outcome → Prop} {a b : State} (k : ∀ t, Steps p.tables e below b t → Steps p.tables e below a t) (h : own_Fin p e below P b) : own_Fin p e below P a := by
  obtain ⟨t, o, s, r⟩ := h
  exact ⟨t, o, k t s, r⟩
theorem own_rw {T : State} {h : Heap} {a : Addr} {c : Cell} (e : T.heap = h) (q : h[a]? = some c) : T.heap[a]? = some c := by rw [e]; exact q
theorem own_StaKeep {Z : State} {h : Heap} {C n d : String} {v : Value} {n0 : Nat} (O : Old Z n0 h) (F : Sta Z Z.heap C n d v) : Sta Z h C n d v := F.ext O.2

theorem jk {Z : State} {a0 : Array Value} {d : Jvm.Cond} (hw : own_H a0 Z) (i : Nat) (h : tables_1[i]? = some d) : d.before a0 Z = true := hw d (List.mem_of_getElem? h)
theorem jm {Z s : State} {a0 args : Array Value} {d : Jvm.Cond} (hZ : Z.Warmed39 s.vm) (hw : own_H a0 Z) (i : Nat) (h : tables_1[i]? = some d) (hd : (d.onTables && d.keepsFace) = true := by first | rfl | simp [Cond.onTables, Cond.keepsFace, Cond.keeps, Cond.steady]) : d.before args s = true := mvT hZ (jk hw i h) hd
theorem jg {p : Program} {e : Env} {below : List Frame} {P : State → Outcome → Prop} {a : State} (T : State) (m : MethodId) (pc : Nat) (L : Array Slot) (S : List Value) (k : ∀ t, Steps p.tables e below (T.setTop (mkF m pc L S)) t → Steps p.tables e below a t) (h : own_Fin p e below P (T.setTop (mkF m pc L S))) : own_Fin p e below P a := own_fin k h
abbrev own_P (s : State) (R : Room) (Qq : Option Value → Heap → List Loc → Prop) : State → Outcome → Prop := fun tT oO => ∃ vV lA, oO = .returned vV ∧ Qq vV tT.heap lA ∧ FrameEnd s oO tT lA R.cells R.slots
section OwnR
variable {p : Program} {l : Launch} {e : Env} {R : Room} {s : State} {m : MethodId} {args : Array Value} {below : List Frame} {meth : Method} {c : Code} {T : State} {locs : List Loc} {cells slots : Nat} {h : Heap} {Qq : Option Value → Heap → List Loc → Prop} {pc : Nat} {L : Array Slot}
theorem own_rV (X : Stand p l e R s m args below meth c T locs cells slots) (hx : p.tables.exec = Jvm.exec) (hlk : meth.locks = false) (hret : meth.sig.returnType = none) (hd : decode c.code pc = .ok (.return_, 1)) (eT : T.heap = h) (hc : cells ≤ R.cells) (hs : slots ≤ R.slots) (q : Qq (none) h locs) : own_Fin p e below (own_P s R Qq) (T.setTop (mkF m pc L [])) := by
  obtain ⟨fs, hr, hrun, hended, hW, hsame⟩ := X.leave (v := none) (fun _ => rfl) hlk
  refine ⟨_, _, X.returnOut hx hret hd hr, hrun, hended, _, _, rfl, ?_, ⟨_, rfl⟩, hW, hsame.mono hc hs⟩
  show Qq _ T.heap locs
  rw [eT]; exact q
theorem own_rN (X : Stand p l e R s m args below meth c T locs cells slots) (hx : p.tables.exec = Jvm.exec) (hlk : meth.locks = false) {z : Int32} {t : FieldType} {rest : List Value} (hret : meth.sig.returnType = some t) (ht : t = .boolean ∨ t = .byte ∨ t = .char ∨ t = .short) (hd : decode c.code pc = .ok (.ireturn, 1)) (eT : T.heap = h) (hc : cells ≤ R.cells) (hs : slots ≤ R.slots) (q : Qq (some (.int (nar t z))) h locs) : own_Fin p e below (own_P s R Qq) (T.setTop (mkF m pc L (.int z :: rest))) := by
  obtain ⟨fs, hr, hrun, hended, hW, hsame⟩ := X.leave (v := some (.int (nar t z))) (fun q => by rw [hret] at q; cases q) hlk
  refine ⟨_, _, retN X hx hret ht hd hr, hrun, hended, _, _, rfl, ?_, ⟨_, rfl⟩, hW, hsame.mono hc hs⟩
  show Qq _ T.heap locs
  rw [eT]; exact q
theorem own_rr (X : Stand p l e R s m args below meth c T locs cells slots) (hx : p.tables.exec = Jvm.exec) (hlk : meth.locks = false) {w : Value} {t : FieldType} {i : Instr} {rest : List Value} (hret : meth.sig.returnType = some t) (hn : narrow t w = w) (hi : (i = .ireturn ∧ (t = .int ∨ t = .boolean ∨ t = .byte ∨ t = .char ∨ t = .short) ∧ ∃ z, w = .int z) ∨ (i = .lreturn ∧ t = .long ∧ ∃ z, w = .long z) ∨ (i = .dreturn ∧ t = .double ∧ ∃ z, w = .double z) ∨ (i = .freturn ∧ t = .float ∧ ∃ z, w = .float z) ∨ (i = .areturn ∧ t.isReference = true ∧ w.isRef = true)) (hd : decode c.code pc = .ok (i, 1)) (eT : T.heap = h) (hc : cells ≤ R.cells) (hs : slots ≤ R.slots) (q : Qq (some w) h locs) : own_Fin p e below (own_P s R Qq) (T.setTop (mkF m pc L (w :: rest))) := by
  obtain ⟨fs, hr, hrun, hended, hW, hsame⟩ := X.leave (v := some w) (fun q => by rw [hret] at q; cases q) hlk
  refine ⟨_, _, retOut X hx hret hn hi hd hr, hrun, hended, _, _, rfl, ?_, ⟨_, rfl⟩, hW, hsame.mono hc hs⟩
  show Qq _ T.heap locs
  rw [eT]; exact q
theorem own_rL (X : Stand p l e R s m args below meth c T locs cells slots) (hx : p.tables.exec = Jvm.exec) (hlk : meth.locks = false) {z : Int32} {t : FieldType} {rest : List Value} (hret : meth.sig.returnType = some t) (ht : t = .boolean ∨ t = .byte ∨ t = .char ∨ t = .short) (hd : decode c.code pc = .ok (.ireturn, 1)) {w : Value} (hv : Value.int (nar t z) = w) (eT : T.heap = h) (hc : cells ≤ R.cells) (hs : slots ≤ R.slots) (q : Qq (some w) h locs) : own_Fin p e below (own_P s R Qq) (T.setTop (mkF m pc L (.int z :: rest))) := by
  subst hv
  exact own_rN X hx hlk hret ht hd eT hc hs q
end OwnR
abbrev own_Met (lL : Launch) (y : MethodName) (cs : List Jvm.Cond) (R : Room) (A : Array Value) (Z : State) (h0 : Heap) (Qq : Option Value → Heap → List Loc → Prop) : Prop := MetFree lL y (head1 cs R) (fun aA uU => aA = A ∧ Z.Warmed39 uU.vm ∧ uU.heap = h0) (fun _ _ _ _ _ => True) (fun _ uU oO uU' => ∃ vV lA, oO = .returned vV ∧ Qq vV uU'.heap lA ∧ FrameEnd uU oO uU' lA R.cells R.slots)
theorem own_begin {lL : Launch} {Z : State} {y : MethodName} {bytes : ByteArray} {maxL : Nat} {ret : Option FieldType} {ws : List Jvm.Cond} {R : Room} {A : Array Value} {h0 : Heap} {Qq : Option Value → Heap → List Loc → Prop} {L : Array Slot} (pl : plainFor y = true) (ef : ∀ mM : MethodId, entryFrame mM A maxL = mkF mM 0 L [])
    (k : ∀ pP eE sS mM below meth cC s₁, pP.tables.exec = Jvm.exec → cC.code = bytes → cC.maxLocals = maxL → Z.Warmed39 sS.vm → sS.vm.findClass y.cls = some mM.cls → meth.name = y.name → meth.sig.returnType = ret → meth.locks = false → Stand pP lL eE R sS mM A below meth cC s₁ [] 0 0 → s₁.heap = h0 → own_Fin pP eE below (own_P sS R Qq) (s₁.setTop (mkF mM 0 L []))) : own_Met lL y (Jvm.Cond.code y bytes maxL ret :: ws) R A Z h0 Qq := by
  refine MetFree.of_bodySF pl hisR ?_
  intro pP eE sS mM args below meth cC s₁ Bd hml0 hP hK
  obtain ⟨rfl, hZ, hh⟩ := hP
  have e0 : s₁.heap = h0 := by rw [← hh, Bd.state]; rfl
  exact own_fin (fun tT kK => castTop (ef mM) kK) (k pP eE sS mM below meth cC s₁ Bd.exec Bd.bytes hml0 hZ (findClass_of_methodNamed Bd.named) (name_of_methodNamed Bd.named Bd.method).1 Bd.returns Bd.notSynchronized (Stand.of_body Bd) e0)
section OwnW
variable {p : Program} {l : Launch} {e : Env} {R : Room} {Z s : State} {a0 : Array Value} {m : MethodId} {args : Array Value} {below : List Frame} {meth : Method} {c : Code} {T : State} {locs : List Loc} {cells slots : Nat} {h : Heap} {P : State → Outcome → Prop}
theorem jf (X : Stand p l e R s m args below meth c T locs cells slots) (hx : p.tables.exec = Jvm.exec) (hZ : Z.Warmed39 s.vm) {own O n d : String} {index : Nat} (hown : s.vm.findClass own = some m.cls) (w : (Cond.fieldLink own index O n d).before a0 Z = true) (eT : T.heap = h) {a : Addr} {v : Value} (F : Fld Z h a O n d v) {pc : Nat} {L : Array Slot} {rest : List Value} (hd : decode c.code pc = .ok (.getfield index, 3)) (k : ∀ T', Stand p l e R s m args below meth c T' locs cells slots → T'.heap = h → own_Fin p e below P (T'.setTop (mkF m (pc + 3) L (v :: rest)))) : own_Fin p e below P (T.setTop (mkF m pc L (.ref a :: rest))) := by
  obtain ⟨T', X', e', st⟩ := getF (host := "") X hx hZ hown (Or.inl w) Via.refl eT F (g := mkF m pc L (.ref a :: rest)) rfl rfl hd
  exact own_fin st (k T' X' e')
theorem jn (X : Stand p l e R s m args below meth c T locs cells slots) (hx : p.tables.exec = Jvm.exec) (hZ : Z.Warmed39 s.vm) {own O n d host : String} {index : Nat} (hown : s.vm.findClass own = some m.cls) (w : (Cond.fieldLinkNest own index O n d host).before a0 Z = true) (eT : T.heap = h) {a : Addr} {v : Value} (F : Fld Z h a O n d v) {pc : Nat} {L : Array Slot} {rest : List Value} (hd : decode c.code pc = .ok (.getfield index, 3)) (k : ∀ T', Stand p l e R s m args below meth c T' locs cells slots → T'.heap = h → own_Fin p e below P (T'.setTop (mkF m (pc + 3) L (v :: rest)))) : own_Fin p e below P (T.setTop (mkF m pc L (.ref a :: rest))) := by
  obtain ⟨T', X', e', st⟩ := getF X hx hZ hown (Or.inr w) Via.refl eT F (g := mkF m pc L (.ref a :: rest)) rfl rfl hd
  exact own_fin st (k T' X' e')
theorem jq (X : Stand p l e R s m args below meth c T locs cells slots) (hx : p.tables.exec = Jvm.exec) (hZ : Z.Warmed39 s.vm) {own O n d C : String} {index kk : Nat} {ty : FieldType} (hown : s.vm.findClass own = some m.cls) (w : (Cond.fieldLink own index O n d).before a0 Z = true) (eT : T.heap = h) {a : Addr} {v old : Value} (F : Fld Z h a O n d old) (E : Exa Z h a C) (L0 : (Cond.lays C O n d).before a0 Z = true) (wi : (Cond.instantiable C kk).before a0 Z = true) (ht : parseFieldDescriptor d = some ty) (hn : narrow ty v = v) (hf : fits ty v = true) {pc : Nat} {L : Array Slot} {rest : List Value} (hd : decode c.code pc = .ok (.putfield index, 3)) {n0 : Nat} {h0 : Heap} {ws : List Addr} (K : Keep h0 h ws) (N : Fr n0 locs) (hm : a ∈ ws ∨ h0.size ≤ a) (ge : n0 ≤ a)
    (k : ∀ T' h', Stand p l e R s m args below meth c T' (locs ++ [⟨a, RoadKit.slotOf Z O n d⟩]) cells slots → T'.heap = h' → Wr h h' a (RoadKit.slotOf Z O n d) v → Fld Z h' a O n d v → Keep h0 h' ws → Fr n0 (locs ++ [⟨a, RoadKit.slotOf Z O n d⟩]) → own_Fin p e below P (T'.setTop (mkF m (pc + 3) L rest))) : own_Fin p e below P (T.setTop (mkF m pc L (v :: .ref a :: rest))) := by
  obtain ⟨T', h', X', e', W, st⟩ := putF (host := "") X hx hZ hown (Or.inl w) Via.refl eT F E (Or.inl L0) wi ht hn hf (g := mkF m pc L (v :: .ref a :: rest)) rfl rfl hd
  exact own_fin st (k T' h' X' e' W (F.same W) (K.wr W hm) (Fr.snoc X' N ge))
theorem jv (X : Stand p l e R s m args below meth c T locs cells slots) (hx : p.tables.exec = Jvm.exec) (hZ : Z.Warmed39 s.vm) {own C : String} {index : Nat} {y : MethodName} {bytes : ByteArray} {maxL : Nat} {ret : Option FieldType} {rm : Room} {A : Array Value} {Qq : Option Value → Heap → List Loc → Prop} (hown : s.vm.findClass own = some m.cls) (w1 : (Cond.methodLink own index y).before a0 Z = true) (w2 : (Cond.declares y).before a0 Z = true) (w3 : (Cond.selects C y y).before a0 Z = true) (w4 : (Cond.instanceMethod y).before a0 Z = true) (wc : (Cond.code y bytes maxL ret).before a0 Z = true) (wz : (Cond.initialized y.cls).before a0 Z = true) (con : own_Met l y [Cond.code y bytes maxL ret] rm A Z h Qq) {a : Addr} (E : Exa Z h a C) (eT : T.heap = h) {ps : List FieldType} {r : Option FieldType} (hd : parseMethodDescriptor y.desc = some ⟨ps, r⟩) {pc : Nat} {L : Array Slot} (argsL rest : List Value) (hdg : decode c.code pc = .ok (.invokevirtual index, 3)) (hA : (.ref a :: argsL).toArray = A) (hl : argsL.length = ps.length) (hsz : L.size = c.maxLocals) (hy : y.cls ≠ "java/lang/invoke/MethodHandle" ∧ y.cls ≠ "java/lang/invoke/VarHandle") (W : Nat) (hW : (rest.map fun v => v.category).sum ≤ W) (hf : rm.frames + 1 ≤ R.frames) (hlo : W + (maxL + 11) + rm.locals ≤ R.locals) (hc : cells + rm.cells ≤ R.cells) (hs : slots + rm.slots ≤ R.slots) (k : ∀ (v : Option Value) (T' : State) (L' : List Loc), Stand p l e R s m args below meth c T' (locs ++ L') (cells + rm.cells) (slots + rm.slots) → Qq v T'.heap L' → own_Fin p e below P (T'.setTop (mkF m (pc + 3) L (v.toList ++ rest)))) : own_Fin p e below P (T.setTop (mkF m pc L (argsL.reverse ++ .ref a :: rest))) := by
  obtain ⟨cB, kB, qa, qb, qc⟩ := isOf hZ eT E
  obtain ⟨v, vm₁, ⟨T', L', k', n'⟩, -, X', ⟨Lc, hQ, e1, e2, e3⟩, st⟩ := X.virtualBack hx (y := y) (z := y) hown (mvT hZ w1) (mvT hZ w2) (notFace_of_selects (args := #[]) (mvT hZ w3)) (mvT hZ w3) (mvT hZ w4) hy (backOf (W := W) con hZ wc wz hf hlo) qa qc (g := mkF m pc L (argsL.reverse ++ .ref a :: rest)) rfl hsz (Steps.refl _) (argsL := argsL) (rest := rest) (lenOf hd hl) rfl (by show 2 * 0 + _ ≤ _; omega) hdg (fun _ _ => ⟨hA, eT, hc, hs⟩)
  dsimp only [Pt.U, Pt.locs, Pt.cells, Pt.slots] at X' e1 e2 e3 st hQ
  subst e1 e2 e3
  exact own_fin (fun t q => st.trans q) (k v T' Lc X' hQ)
theorem jw (X : Stand p l e R s m args below meth c T locs cells slots) (hx : p.tables.exec = Jvm.exec) (hZ : Z.Warmed39 s.vm) {own C : String} {index : Nat} {y : MethodName} {bytes : ByteArray} {maxL : Nat} {ret : Option FieldType} {rm : Room} {A : Array Value} {Qq : Option Value → Heap → List Loc → Prop} (hown : s.vm.findClass own = some m.cls) (w1 : (Cond.methodLink own index y).before a0 Z = true) (w4 : (Cond.instanceMethod y).before a0 Z = true) (hsel : (Cond.selects y.cls y y).before args s = true) (wp : (Cond.privateMethod y).before a0 Z = true) (wc : (Cond.code y bytes maxL ret).before a0 Z = true) (wz : (Cond.initialized y.cls).before a0 Z = true) (con : own_Met l y [Cond.code y bytes maxL ret] rm A Z h Qq) {a : Addr} (E : Exa Z h a C) (eT : T.heap = h) {ps : List FieldType} {r : Option FieldType} (hd : parseMethodDescriptor y.desc = some ⟨ps, r⟩) {pc : Nat} {L : Array Slot} (argsL rest : List Value) (hdg : decode c.code pc = .ok (.invokevirtual index, 3)) (hA : (.ref a :: argsL).toArray = A) (hl : argsL.length = ps.length) (hsz : L.size = c.maxLocals) (hy : y.cls ≠ "java/lang/invoke/MethodHandle" ∧ y.cls ≠ "java/lang/invoke/VarHandle") (W : Nat) (hW : (rest.map fun v => v.category).sum ≤ W) (hf : rm.frames + 1 ≤ R.frames) (hlo : W + (maxL + 11) + rm.locals ≤ R.locals) (hc : cells + rm.cells ≤ R.cells) (hs : slots + rm.slots ≤ R.slots) (k : ∀ (v : Option Value) (T' : State) (L' : List Loc), Stand p l e R s m args below meth c T' (locs ++ L') (cells + rm.cells) (slots + rm.slots) → Qq v T'.heap L' → own_Fin p e below P (T'.setTop (mkF m (pc + 3) L (v.toList ++ rest)))) : own_Fin p e below P (T.setTop (mkF m pc L (argsL.reverse ++ .ref a :: rest))) := by
  obtain ⟨cq, q, q'⟩ := E.cell
  obtain ⟨v, vm₁, ⟨T', L', k', n'⟩, -, X', ⟨Lc, hQ, e1, e2, e3⟩, st⟩ := X.privateBack hx (y := y) hown (mvT hZ w1) (mvT hZ w4) hsel (Cond.privateMethod_at (mvP hZ wp (args := #[]))) (mvT hZ wc) hy (backOf (W := W) con hZ wc wz hf hlo) (g := mkF m pc L (argsL.reverse ++ .ref a :: rest)) rfl hsz (Steps.refl _) (a := a) (by rw [eT]; exact q) q' (argsL := argsL) (rest := rest) (lenOf hd hl) rfl (by show 2 * 0 + _ ≤ _; omega) hdg (fun _ _ => ⟨hA, eT, hc, hs⟩)
  dsimp only [Pt.U, Pt.locs, Pt.cells, Pt.slots] at X' e1 e2 e3 st hQ
  subst e1 e2 e3
  exact own_fin (fun t q => st.trans q) (k v T' Lc X' hQ)
theorem own_sb (X : Stand p l e R s m args below meth c T locs cells slots) (hx : p.tables.exec = Jvm.exec) (hZ : Z.Warmed39 s.vm) {own : String} {index : Nat} {y : MethodName} {bytes : ByteArray} {maxL : Nat} {rm : Room} {A : Array Value} {Qq : Option Value → Heap → List Loc → Prop} (hy1 : y.name = "<init>") (hown : s.vm.findClass own = some m.cls) (w1 : (Cond.methodLink own index y).before a0 Z = true) (w4 : (Cond.instanceMethod y).before a0 Z = true) (wc : (Cond.code y bytes maxL none).before a0 Z = true) (wz : (Cond.initialized y.cls).before a0 Z = true) (con : own_Met l y [Cond.code y bytes maxL none] rm A Z h Qq) {a : Addr} (eT : T.heap = h) {ps : List FieldType} {r : Option FieldType} (hd : parseMethodDescriptor y.desc = some ⟨ps, r⟩) {pc : Nat} {L : Array Slot} (argsL rest : List Value) (hdg : decode c.code pc = .ok (.invokespecial index, 3)) (hA : (.ref a :: argsL).toArray = A) (hl : argsL.length = ps.length) (hsz : L.size = c.maxLocals) (hy : y.cls ≠ "java/lang/invoke/MethodHandle" ∧ y.cls ≠ "java/lang/invoke/VarHandle") (W : Nat) (hW : (rest.map fun v => v.category).sum ≤ W) (hf : rm.frames + 1 ≤ R.frames) (hlo : W + (maxL + 11) + rm.locals ≤ R.locals) (hc : cells + rm.cells ≤ R.cells) (hs : slots + rm.slots ≤ R.slots) (k : ∀ (v : Option Value) (T' : State) (L' : List Loc), Stand p l e R s m args below meth c T' (locs ++ L') (cells + rm.cells) (slots + rm.slots) → Qq v T'.heap L' → own_Fin p e below P (T'.setTop (mkF m (pc + 3) L (v.toList ++ rest)))) : own_Fin p e below P (T.setTop (mkF m pc L (argsL.reverse ++ .ref a :: rest))) := by
  obtain ⟨v, vm₁, ⟨T', L', k', n'⟩, -, X', ⟨Lc, hQ, e1, e2, e3⟩, st⟩ := X.specialBack hx (y := y) hy1 hown (mvT hZ w1) (mvT hZ w4) (mvT hZ wc) hy (backOf (W := W) con hZ wc wz hf hlo) (g := mkF m pc L (argsL.reverse ++ .ref a :: rest)) rfl hsz (Steps.refl _) (a := a) (argsL := argsL) (rest := rest) (lenOf hd hl) rfl (by show 2 * 0 + _ ≤ _; omega) hdg (fun _ _ => ⟨hA, eT, hc, hs⟩)
  dsimp only [Pt.U, Pt.locs, Pt.cells, Pt.slots] at X' e1 e2 e3 st hQ
  subst e1 e2 e3
  exact own_fin (fun t q => st.trans q) (k v T' Lc X' hQ)
theorem jc (X : Stand p l e R s m args below meth c T locs cells slots) (hx : p.tables.exec = Jvm.exec) (hZ : Z.Warmed39 s.vm) {own : String} {index : Nat} {y : MethodName} {bytes : ByteArray} {maxL : Nat} {ret : Option FieldType} {rm : Room} {A : Array Value} {Qq : Option Value → Heap → List Loc → Prop} (hown : s.vm.findClass own = some m.cls) (w1 : (Cond.methodLink own index y).before a0 Z = true) (w2 : (Cond.static y).before a0 Z = true) (wz : (Cond.initialized y.cls).before a0 Z = true) (wc : (Cond.code y bytes maxL ret).before a0 Z = true) (con : own_Met l y [Cond.code y bytes maxL ret] rm A Z h Qq) (eT : T.heap = h) {ps : List FieldType} {r : Option FieldType} (hd : parseMethodDescriptor y.desc = some ⟨ps, r⟩) {pc : Nat} {L : Array Slot} (argsL rest : List Value) (hdg : decode c.code pc = .ok (.invokestatic index, 3)) (hA : argsL.toArray = A) (hl : argsL.length = ps.length) (hsz : L.size = c.maxLocals) (hy : y.cls ≠ "java/lang/invoke/MethodHandle" ∧ y.cls ≠ "java/lang/invoke/VarHandle") (W : Nat) (hW : (rest.map fun v => v.category).sum ≤ W) (hf : rm.frames + 1 ≤ R.frames) (hlo : W + (maxL + 11) + rm.locals ≤ R.locals) (hc : cells + rm.cells ≤ R.cells) (hs : slots + rm.slots ≤ R.slots) (k : ∀ (v : Option Value) (T' : State) (L' : List Loc), Stand p l e R s m args below meth c T' (locs ++ L') (cells + rm.cells) (slots + rm.slots) → Qq v T'.heap L' → own_Fin p e below P (T'.setTop (mkF m (pc + 3) L (v.toList ++ rest)))) : own_Fin p e below P (T.setTop (mkF m pc L (argsL.reverse ++ rest))) := by
  obtain ⟨v, vm₁, ⟨T', L', k', n'⟩, -, X', ⟨Lc, hQ, e1, e2, e3⟩, st⟩ := Jvm.LawKit.callS X hx hown (mvT hZ w1) (mvT hZ w2) (mvT hZ wz) (mvT hZ wc) hy (backOf (W := W) con hZ wc wz hf hlo) (g := mkF m pc L (argsL.reverse ++ rest)) rfl hsz (lenOf hd hl) rfl (by show 2 * 0 + _ ≤ _; omega) hdg (fun _ _ => ⟨hA, eT, hc, hs⟩)
  dsimp only [Pt.U, Pt.locs, Pt.cells, Pt.slots] at X' e1 e2 e3 st hQ
  subst e1 e2 e3
  exact own_fin (fun t q => st t q) (k v T' Lc X' hQ)
end OwnW
abbrev vU : Slot := .unset
abbrev vS : Slot := .second
abbrev vI (x : Int32) : Slot := .val (.int x)
abbrev vJ (x : Int64) : Slot := .val (.long x)
abbrev vR (x : Addr) : Slot := .val (.ref x)
abbrev vN : Slot := .val .null
abbrev jy0 : MethodName := (⟨"java/lang/String", "coder", "()B"⟩ : MethodName)
abbrev jy1 : MethodName := (⟨"java/lang/String", "length", "()I"⟩ : MethodName)
abbrev jy2 : MethodName := (⟨"jdk/internal/util/Preconditions", "checkIndex", "(IILjava/util/function/BiFunction;)I"⟩ : MethodName)
abbrev jy3 : MethodName := (⟨"java/lang/String", "checkIndex", "(II)V"⟩ : MethodName)
abbrev jy4 : MethodName := (⟨"java/lang/String", "isLatin1", "()Z"⟩ : MethodName)
abbrev jy5 : MethodName := (⟨"java/lang/StringLatin1", "charAt", "([BI)C"⟩ : MethodName)
abbrev jy6 : MethodName := (⟨"java/lang/String", "charAt", "(I)C"⟩ : MethodName)
abbrev jy7 : MethodName := (⟨"java/lang/StringUTF16", "compress", "([CI[BII)I"⟩ : MethodName)
abbrev jy8 : MethodName := (⟨"java/lang/StringUTF16", "compress", "([CII)[B"⟩ : MethodName)
abbrev jy9 : MethodName := (⟨"java/lang/StringUTF16", "coderFromArrayLen", "([BI)B"⟩ : MethodName)
abbrev jy10 : MethodName := (⟨"java/lang/String", "<init>", "([CIILjava/lang/Void;)V"⟩ : MethodName)
abbrev jy11 : MethodName := (⟨"java/lang/String", "<init>", "([C)V"⟩ : MethodName)
abbrev jy12 : MethodName := (⟨"java/lang/StringLatin1", "equals", "([B[B)Z"⟩ : MethodName)
abbrev jy13 : MethodName := (⟨"java/lang/String", "equals", "(Ljava/lang/Object;)Z"⟩ : MethodName)
abbrev jy14 : MethodName := (⟨"com/example/needlework/needlework/AlgorithmNamedPinLaw", "at", "(Ljava/lang/String;IJI)C"⟩ : MethodName)
abbrev jy15 : MethodName := (⟨"com/example/needlework/needlework/AlgorithmNamedPinLaw", "str", "(I[C)Ljava/lang/String;"⟩ : MethodName)
abbrev jy16 : MethodName := (⟨"java/util/Objects", "requireNonNull", "(Ljava/lang/Object;)Ljava/lang/Object;"⟩ : MethodName)
abbrev jy17 : MethodName := (⟨"java/util/Optional", "<init>", "(Ljava/lang/Object;)V"⟩ : MethodName)
abbrev jy18 : MethodName := (⟨"java/util/Optional", "of", "(Ljava/lang/Object;)Ljava/util/Optional;"⟩ : MethodName)
abbrev jy19 : MethodName := (⟨"java/util/Optional", "empty", "()Ljava/util/Optional;"⟩ : MethodName)
abbrev jy20 : MethodName := (⟨"java/util/Optional", "orElse", "(Ljava/lang/Object;)Ljava/lang/Object;"⟩ : MethodName)
abbrev jy21 : MethodName := (⟨"com/example/needlework/needlework/Algorithm", "values", "()[Lcom/example/needlework/needlework/Algorithm;"⟩ : MethodName)
abbrev jy22 : MethodName := (⟨"com/example/needlework/needlework/Algorithm", "named", "(Ljava/lang/String;)Ljava/util/Optional;"⟩ : MethodName)
abbrev jr0 : Room := ({ frames := 0, cells := 0, slots := 0, locals := 0 } : Room)
abbrev jr1 : Room := ({ frames := 1, cells := 0, slots := 0, locals := 13 } : Room)
abbrev jr2 : Room := ({ frames := 1, cells := 0, slots := 0, locals := 14 } : Room)
abbrev jr3 : Room := ({ frames := 2, cells := 0, slots := 0, locals := 27 } : Room)
abbrev jr4 : Room := ({ frames := 3, cells := 0, slots := 0, locals := 40 } : Room)
abbrev jr5 : Room := ({ frames := 1, cells := 1, slots := 8, locals := 18 } : Room)
abbrev jr6 : Room := ({ frames := 2, cells := 1, slots := 8, locals := 35 } : Room)
abbrev jr7 : Room := ({ frames := 3, cells := 1, slots := 8, locals := 52 } : Room)
abbrev jr8 : Room := ({ frames := 4, cells := 0, slots := 0, locals := 53 } : Room)
abbrev jr9 : Room := ({ frames := 1, cells := 4, slots := 8, locals := 12 } : Room)
abbrev jr10 : Room := ({ frames := 2, cells := 4, slots := 8, locals := 29 } : Room)
abbrev jr11 : Room := ({ frames := 4, cells := 6, slots := 20, locals := 66 } : Room)
abbrev jr12 : Room := ({ frames := 1, cells := 0, slots := 0, locals := 12 } : Room)
abbrev jr13 : Room := ({ frames := 2, cells := 1, slots := 1, locals := 26 } : Room)
abbrev jr14 : Room := ({ frames := 1, cells := 1, slots := 4, locals := 14 } : Room)
abbrev jr15 : Room := ({ frames := 3, cells := 2, slots := 5, locals := 38 } : Room)
abbrev jr16 : Room := ({ frames := 2, cells := 1, slots := 4, locals := 28 } : Room)
abbrev jF0 (Z : State) (h : Heap) (a : Addr) (v : Value) : Prop := Fld Z h a "java/lang/String" "coder" "B" v
abbrev jF1 (Z : State) (h : Heap) (a : Addr) (v : Value) : Prop := Fld Z h a "java/lang/String" "value" "[B" v
abbrev jF2 (Z : State) (h : Heap) (a : Addr) (v : Value) : Prop := Fld Z h a "java/util/Optional" "value" "Ljava/lang/Object;" v
abbrev jF3 (Z : State) (h : Heap) (a : Addr) (v : Value) : Prop := Fld Z h a "com/example/needlework/needlework/Algorithm" "shortName" "Ljava/lang/String;" v
abbrev jE0 (Z : State) (h : Heap) (a : Addr) : Prop := Exa Z h a "java/lang/String"
abbrev jE1 (Z : State) (h : Heap) (a : Addr) : Prop := Exa Z h a "java/util/Optional"
abbrev jE2 (Z : State) (h : Heap) (a : Addr) : Prop := Exa Z h a "[Lcom/example/needlework/needlework/Algorithm;"
abbrev jE3 (Z : State) (h : Heap) (a : Addr) : Prop := Exa Z h a "com/example/needlework/needlework/Algorithm"
abbrev jD0 (pc : Nat) (i : Jvm.ClassFile.Instr × Nat) : Prop := Jvm.ClassFile.decode jdk_42_method_152_code pc = .ok i
abbrev jD1 (pc : Nat) (i : Jvm.ClassFile.Instr × Nat) : Prop := Jvm.ClassFile.decode jdk_42_method_54_code pc = .ok i
abbrev jD2 (pc : Nat) (i : Jvm.ClassFile.Instr × Nat) : Prop := Jvm.ClassFile.decode jdk_41_method_11_code pc = .ok i
abbrev jD3 (pc : Nat) (i : Jvm.ClassFile.Instr × Nat) : Prop := Jvm.ClassFile.decode jdk_42_method_155_code pc = .ok i
abbrev jD4 (pc : Nat) (i : Jvm.ClassFile.Instr × Nat) : Prop := Jvm.ClassFile.decode jdk_42_method_154_code pc = .ok i
abbrev jD5 (pc : Nat) (i : Jvm.ClassFile.Instr × Nat) : Prop := Jvm.ClassFile.decode jdk_43_method_2_code pc = .ok i
abbrev jD6 (pc : Nat) (i : Jvm.ClassFile.Instr × Nat) : Prop := Jvm.ClassFile.decode jdk_42_method_56_code pc = .ok i
abbrev jD7 (pc : Nat) (i : Jvm.ClassFile.Instr × Nat) : Prop := Jvm.ClassFile.decode jdk_52_method_21_code pc = .ok i
abbrev jD8 (pc : Nat) (i : Jvm.ClassFile.Instr × Nat) : Prop := Jvm.ClassFile.decode jdk_52_method_16_code pc = .ok i
abbrev jD9 (pc : Nat) (i : Jvm.ClassFile.Instr × Nat) : Prop := Jvm.ClassFile.decode jdk_52_method_15_code pc = .ok i
abbrev jD10 (pc : Nat) (i : Jvm.ClassFile.Instr × Nat) : Prop := Jvm.ClassFile.decode jdk_42_method_149_code pc = .ok i
abbrev jD11 (pc : Nat) (i : Jvm.ClassFile.Instr × Nat) : Prop := Jvm.ClassFile.decode jdk_42_method_3_code pc = .ok i
abbrev jD12 (pc : Nat) (i : Jvm.ClassFile.Instr × Nat) : Prop := Jvm.ClassFile.decode jdk_43_method_13_code pc = .ok i
abbrev jD13 (pc : Nat) (i : Jvm.ClassFile.Instr × Nat) : Prop := Jvm.ClassFile.decode jdk_42_method_66_code pc = .ok i
abbrev jD14 (pc : Nat) (i : Jvm.ClassFile.Instr × Nat) : Prop := Jvm.ClassFile.decode method_3_code pc = .ok i
abbrev jD15 (pc : Nat) (i : Jvm.ClassFile.Instr × Nat) : Prop := Jvm.ClassFile.decode method_4_code pc = .ok i
abbrev jD16 (pc : Nat) (i : Jvm.ClassFile.Instr × Nat) : Prop := Jvm.ClassFile.decode jdk_31_method_10_code pc = .ok i
abbrev jD17 (pc : Nat) (i : Jvm.ClassFile.Instr × Nat) : Prop := Jvm.ClassFile.decode jdk_32_method_2_code pc = .ok i
abbrev jD18 (pc : Nat) (i : Jvm.ClassFile.Instr × Nat) : Prop := Jvm.ClassFile.decode jdk_32_method_3_code pc = .ok i
abbrev jD19 (pc : Nat) (i : Jvm.ClassFile.Instr × Nat) : Prop := Jvm.ClassFile.decode jdk_32_method_1_code pc = .ok i
abbrev jD20 (pc : Nat) (i : Jvm.ClassFile.Instr × Nat) : Prop := Jvm.ClassFile.decode jdk_32_method_15_code pc = .ok i
abbrev jD21 (pc : Nat) (i : Jvm.ClassFile.Instr × Nat) : Prop := Jvm.ClassFile.decode prog_1_method_1_code pc = .ok i
abbrev jD22 (pc : Nat) (i : Jvm.ClassFile.Instr × Nat) : Prop := Jvm.ClassFile.decode prog_1_method_4_code pc = .ok i
abbrev jQ0 (Z : State) : Nat := RoadKit.slotOf Z "java/lang/String" "value" "[B"
abbrev jQ1 (Z : State) : Nat := RoadKit.slotOf Z "java/lang/String" "coder" "B"
def own_T (Z : State) (h : Heap) (a : Addr) (ty : FieldType) (z : Int32) (f : Int32 → Int32) : Prop := ∃ c : Cell, Arr Z h a c ty ∧ c.slots.size = z.toNatClampNeg ∧ ¬ z < 0 ∧ ∀ j : Int32, ¬ (j < 0 ∨ c.slots.size ≤ j.toNatClampNeg) → c.slots[j.toNatClampNeg]? = some (.int (f j))
def own_up (f : Int32 → Int32) (j x : Int32) : Int32 → Int32 := fun i => if j = i then x else f i
section OwnT
variable {Z : State} {h h' : Heap} {a b : Addr} {ty : FieldType} {z : Int32} {f g : Int32 → Int32}
theorem own_T.lt (F : own_T Z h a ty z f) : a < h.size := by obtain ⟨c, A, -⟩ := F; exact A.lt
theorem own_T.ext (F : own_T Z h a ty z f) (E : Ext h h') : own_T Z h' a ty z f := by obtain ⟨c, A, r⟩ := F; exact ⟨c, A.ext E, r⟩
theorem own_T.other {sl : Nat} {v : Value} (F : own_T Z h a ty z f) (W : Wr h h' b sl v) (q : a ≠ b) : own_T Z h' a ty z f := by obtain ⟨c, A, r⟩ := F; exact ⟨c, A.other W q, r⟩
theorem own_T.keep {ws : List Addr} (F : own_T Z h a ty z f) (K : Keep h h' ws) (q : a ∉ ws) : own_T Z h' a ty z f := by obtain ⟨c, A, r⟩ := F; exact ⟨c, ⟨K.2.1 a c A.1 q, A.2⟩, r⟩
theorem own_T.congr (F : own_T Z h a ty z f) (q : ∀ j : Int32, ¬ j < 0 ∧ j < z → f j = g j) : own_T Z h a ty z g := by
  obtain ⟨c, A, S, N, H⟩ := F
  refine ⟨c, A, S, N, fun j hj => ?_⟩
  have h1 : ¬ j < 0 := fun y => hj (Or.inl y)
  have h2 : j < z := by
    have h3 : ¬ c.slots.size ≤ j.toNatClampNeg := fun y => hj (Or.inr y)
    rw [S] at h3
    have e1 := nat_of h1
    have e2 := nat_of N
    rw [Int32.lt_iff_toInt_lt]; omega
  rw [H j hj, q j ⟨h1, h2⟩]
theorem own_T.set {j x : Int32} (F : own_T Z h a ty z f) (W : Wr h h' a j.toNatClampNeg (.int x)) (q : ¬ j < 0 ∧ j < z) : own_T Z h' a ty z (own_up f j x) := by
  obtain ⟨c, A, S, N, H⟩ := F
  refine ⟨_, A.same W, by rw [sz_set]; exact S, N, fun i hi => ?_⟩
  rw [sz_set] at hi
  unfold own_up
  by_cases e : j = i
  · rw [if_pos e]; exact get_hit (inb_of S q) e.symm
  · rw [if_neg e, get_miss q.1 (fun y => hi (Or.inl y)) (Ne.symm e)]; exact H i hi
theorem own_T.new {k : ClassId} (A : Arr Z h a (newA k ty z) ty) (q : ¬ z < 0) (d : defaultValue ty = .int 0) : own_T Z h a ty z (fun _ => 0) :=
  ⟨_, A, sz_new _ _ _, q, fun j hj => by rw [← d]; exact get_new (by rw [sz_new] at hj; exact hj)⟩
end OwnT
theorem own_T.nn {Z : State} {h : Heap} {a : Addr} {ty : FieldType} {z : Int32} {f : Int32 → Int32} (F : own_T Z h a ty z f) : ¬ z < 0 := by obtain ⟨_, _, _, N, _⟩ := F; exact N
theorem own_bk {z : Int32} (h : ¬ z < 0) : Int32.ofNat z.toNatClampNeg = z := (back32 h).1
theorem own_nlt {z : Int32} (h : ¬ z < 0) : ¬ (Int32.ofNat z.toNatClampNeg < z) := by rw [own_bk h]; exact Int32.lt_irrefl (a := z)
theorem own_i32 {z : Int32} {i : Nat} (h : ¬ z < 0) (q : i < z.toNatClampNeg) : (Int32.ofNat i).toInt = i := by
  have := (back32 h).2
  exact Int32.toInt_ofNat_of_lt (by omega)
theorem own_ltz {z : Int32} {i : Nat} (h : ¬ z < 0) (q : i < z.toNatClampNeg) : Int32.ofNat i < z := by
  rw [Int32.lt_iff_toInt_lt, own_i32 h q, nat_of h]; omega
theorem own_nn {z : Int32} {i : Nat} (h : ¬ z < 0) (q : i < z.toNatClampNeg) : ¬ Int32.ofNat i < 0 := by
  rw [Int32.lt_iff_toInt_lt, own_i32 h q, show (0 : Int32).toInt = 0 from rfl]; omega
theorem own_cl {z : Int32} {i : Nat} (h : ¬ z < 0) (q : i < z.toNatClampNeg) : (Int32.ofNat i).toNatClampNeg = i := by
  rw [Int32.toNatClampNeg, own_i32 h q]; rfl
theorem own_one (i : Nat) : Int32.ofNat i + (1 : Int32) = Int32.ofNat (i + 1) := (Int32.ofNat_add i 1).symm
theorem own_jn {j z : Int32} (h1 : ¬ j < 0) (h0 : ¬ z < 0) (h2 : j < z) : j.toNatClampNeg < z.toNatClampNeg := by
  rw [Int32.lt_iff_toInt_lt, nat_of h1, nat_of h0] at h2; omega
theorem own_inz {z : Int32} {i : Nat} (h : ¬ z < 0) (q : i < z.toNatClampNeg) : ¬ Int32.ofNat i < 0 ∧ Int32.ofNat i < z := ⟨own_nn h q, own_ltz h q⟩
theorem own_upf {g q : Int32 → Int32} {z x : Int32} {i : Nat} (hz : ¬ z < 0) (hi : i < z.toNatClampNeg) (h : ∀ j : Int32, ¬ j < 0 → j.toNatClampNeg < i → g j = q j) (e : x = q (Int32.ofNat i)) : ∀ j : Int32, ¬ j < 0 → j.toNatClampNeg < i + 1 → own_up g (Int32.ofNat i) x j = q j := by
  intro j h1 h2
  unfold own_up
  by_cases c : Int32.ofNat i = j
  · rw [if_pos c, e, c]
  · rw [if_neg c]
    refine h j h1 (Nat.lt_of_le_of_ne (by omega) fun y => c ?_)
    apply Int32.toInt_inj.mp
    rw [own_i32 hz hi, nat_of h1, y]
def own_ch (b : Int32) : Int32 := b &&& (255 : Int32)
theorem own_shr0 (z : Int32) : (z >>> ((0 : Int32) &&& 31)) = z := by
  apply Int32.toInt_inj.mp
  rw [c_ishr z 0 0 rfl]; simp
theorem own_chb (x : Int32) : 0 ≤ (x &&& (255 : Int32)).toInt ∧ (x &&& (255 : Int32)).toInt ≤ 255 := by
  have m := c_mask x (255 : Int32) 8 (by decide) (by decide)
  rw [m]; omega
theorem own_i2c {x : Int32} (h0 : 0 ≤ x.toInt) (h1 : x.toInt ≤ 65535) : x.toUInt32.toUInt16.toUInt32.toInt32 = x := by
  apply Int32.toInt_inj.mp
  have := c_i2c x
  omega
theorem own_nch {x : Int32} (h0 : 0 ≤ x.toInt) (h1 : x.toInt ≤ 65535) : nar .char x = x := own_i2c h0 h1
theorem own_chr (x : Int32) : nar .char ((x &&& (255 : Int32)).toUInt32.toUInt16.toUInt32.toInt32) = own_ch x := by
  have b := own_chb x
  rw [own_i2c b.1 (by omega), own_nch b.1 (by omega)]; rfl
theorem own_cfa (z : Int32) : (((z - z).toUInt32 >>> ((31 : Int32) &&& 31).toUInt32).toInt32).toInt8.toInt32 = (0 : Int32) := by
  have e : z - z = (0 : Int32) := Int32.sub_self z
  rw [e]; decide
theorem own_i8 (x : Int32) : nar .byte (x.toInt8.toInt32) = x.toInt8.toInt32 := by
  show x.toInt8.toInt32.toInt8.toInt32 = x.toInt8.toInt32
  simp
theorem own_ltn {x : Int32} (h1 : x.toInt ≤ 255) : ¬ (255 : Int32) < x := by
  rw [Int32.lt_iff_toInt_lt, show (255 : Int32).toInt = 255 from rfl]; omega
theorem e3_0 : jD0 0 (.getstatic 38, 3) ∧ jD0 3 (.ifCond .eq 10, 3) ∧ jD0 6 (.aload_n 0, 1) ∧ jD0 7 (.getfield 15, 3) := by decide +kernel
theorem e3_10 : jD0 10 (.goto 4, 3) ∧ jD0 14 (.ireturn, 1) := by decide +kernel
theorem own_pn_java_lang_String : plainName "java/lang/String" = true := by first | (simp [plainName, overriddenIn]; done) | decide +kernel
theorem own_ef_rm_coder (mM : MethodId) (x0 : Addr) : entryFrame mM #[(.ref x0)] 1 = mkF mM 0 #[.val (.ref x0)] [] := by first | (simp [entryFrame, mkF, argsToLocals, Value.category]; done) | rfl
def Q_rm_coder (Z : State) (a : Addr) (cs : Int32) (h0 : Heap) (n0 : Nat) (vV : Option Value) (hH : Heap) (lA : List Loc) : Prop := vV = some (.int (0 : Int32)) ∧ Fr n0 lA ∧ (hH = h0)
set_option maxRecDepth 65536 in
set_option maxHeartbeats 40000000 in
theorem rm_coder (lL : Launch) (Z : State) (a0 : Array Value) (hw : own_H a0 Z) (ws : List Jvm.Cond) (a : Addr) (cs : Int32) (h0 : Heap) (n0 : Nat) (Z0 : n0 ≤ h0.size) (Oo : Old Z n0 h0) (Scs : Sta Z Z.heap "java/lang/String" "COMPACT_STRINGS" "Z" (.int cs)) (ncs : ¬ (cs = (0 : Int32))) (Fc : jF0 Z h0 a (.int (0 : Int32))) :
    own_Met lL jy0 (Jvm.Cond.code jy0 jdk_42_method_152_code 1 (some .byte) :: ws) jr0 #[(.ref a)] Z h0 (Q_rm_coder Z a cs h0 n0) := by
  refine own_begin (plainFor_of_name own_pn_java_lang_String) (fun mM => own_ef_rm_coder mM a) fun pP eE sS mM below meth cC s₁ hx hby hml hZ hown hnm hre hlk X0 e0 => ?_
  have hC := @Jvm.hb _ _ hby
  have N0 := Fr.nil n0
  have K0 := Keep.refl h0 ([] : List Addr)
  obtain ⟨T1_, X1_, e1_, st1_⟩ := getS2 X0 hx hZ hown (host := "") (Or.inl (jk hw 25 rfl)) Via.refl e0 (own_StaKeep Oo Scs) (g := (mkF mM 0 #[vR a] [])) rfl (hC e3_0.1)
  refine own_fin st1_ ?_
  refine jg T1_ mM 7 #[vR a] [(.ref a)] (fun tT kK => ?_) ?_
  · refine XS.ifNo X1_.here hx rfl (hC e3_0.2.1) rfl ((if0 _ _).trans (feq (ncs : ¬ (cs = (0 : Int32)))).1) ?_
    refine XS.aloadN X1_.here hx rfl (hC e3_0.2.2.1) rfl rfl ?_
    exact kK
  refine jf X1_ hx hZ hown (jk hw 26 rfl) e1_ Fc (hC e3_0.2.2.2) fun T2_ X2_ e2_ => ?_
  refine jg T2_ mM 14 #[vR a] [(.int (0 : Int32))] (fun tT kK => ?_) ?_
  · refine XS.goto X2_.here hx rfl (pc0 := 10) (pc' := 14) rfl (hC e3_10.1) (by decide) (by decide) ?_
    exact kK
  exact own_rL X2_ hx hlk hre (by simp) (hC e3_10.2) (w := (.int (0 : Int32))) rfl e2_ (by decide) (by decide) ⟨rfl, N0, rfl⟩
theorem e2_0 : jD1 0 (.aload_n 0, 1) ∧ jD1 1 (.getfield 9, 3) ∧ jD1 4 (.arraylength, 1) ∧ jD1 5 (.aload_n 0, 1) := by decide +kernel
theorem d2_6 : jD1 6 (.invokevirtual 335, 3) := by decide +kernel
theorem own_pd0 : parseMethodDescriptor "()B" = some ⟨[], some .byte⟩ := by decide +kernel
theorem e2_9 : jD1 9 (.ishr, 1) ∧ jD1 10 (.ireturn, 1) := by decide +kernel
theorem own_ef_rm_slen (mM : MethodId) (x0 : Addr) : entryFrame mM #[(.ref x0)] 1 = mkF mM 0 #[.val (.ref x0)] [] := by first | (simp [entryFrame, mkF, argsToLocals, Value.category]; done) | rfl
def Q_rm_slen (Z : State) (a : Addr) (t : Addr) (z : Int32) (f : Int32 → Int32) (cs : Int32) (h0 : Heap) (n0 : Nat) (vV : Option Value) (hH : Heap) (lA : List Loc) : Prop := vV = some (.int z) ∧ Fr n0 lA ∧ (hH = h0)
set_option maxRecDepth 65536 in
set_option maxHeartbeats 40000000 in
theorem rm_slen (lL : Launch) (Z : State) (a0 : Array Value) (hw : own_H a0 Z) (ws : List Jvm.Cond) (a : Addr) (t : Addr) (z : Int32) (f : Int32 → Int32) (cs : Int32) (h0 : Heap) (n0 : Nat) (Z0 : n0 ≤ h0.size) (Oo : Old Z n0 h0) (Scs : Sta Z Z.heap "java/lang/String" "COMPACT_STRINGS" "Z" (.int cs)) (ncs : ¬ (cs = (0 : Int32))) (Ea : jE0 Z h0 a) (Fv : jF1 Z h0 a (.ref t)) (Fc : jF0 Z h0 a (.int (0 : Int32))) (Tt : own_T Z h0 t .byte z f) :
    own_Met lL jy1 (Jvm.Cond.code jy1 jdk_42_method_54_code 1 (some .int) :: ws) jr1 #[(.ref a)] Z h0 (Q_rm_slen Z a t z f cs h0 n0) := by
  refine own_begin (plainFor_of_name own_pn_java_lang_String) (fun mM => own_ef_rm_slen mM a) fun pP eE sS mM below meth cC s₁ hx hby hml hZ hown hnm hre hlk X0 e0 => ?_
  have hC := @Jvm.hb _ _ hby
  have N0 := Fr.nil n0
  have K0 := Keep.refl h0 ([] : List Addr)
  refine jg s₁ mM 1 #[vR a] [(.ref a)] (fun tT kK => ?_) ?_
  · refine XS.aloadN X0.here hx rfl (hC e2_0.1) rfl rfl ?_
    exact kK
  refine jf X0 hx hZ hown (jk hw 19 rfl) e0 Fv (hC e2_0.2.1) fun T1_ X1_ e1_ => ?_
  obtain ⟨cl2_, Ar2_, Sz2_, Nn2_, -⟩ := id Tt
  refine jg T1_ mM 6 #[vR a] [(.ref a), (.int z)] (fun tT kK => ?_) ?_
  · refine X1_.arraylength hx (own_rw e1_ Ar2_.1) (State.isArrayOf_alike hZ.alike Ar2_.2.1) (g := (mkF mM 4 #[vR a] [(.ref t)])) rfl rfl (hC e2_0.2.2.1) _ ?_
    rw [len_of Sz2_ Nn2_]
    refine XS.aloadN X1_.here hx rfl (hC e2_0.2.2.2) rfl rfl ?_
    exact kK
  refine jv X1_ hx hZ (y := jy0) hown (jk hw 20 rfl) (jk hw 21 rfl) (jk hw 23 rfl) (jk hw 22 rfl) (jk hw 24 rfl) (jk hw 2 rfl) (rm_coder lL Z a0 hw [] a cs h0 n0 (Nat.le_trans Z0 K0.1) Oo Scs ncs Fc) Ea e1_ own_pd0 [] [(.int z)] (hC d2_6) rfl rfl (by rw [hml]; rfl) (by decide) 1 (Nat.le_of_eq rfl) (by decide) (by decide) (by decide : 0 + 0 ≤ _) (by decide : 0 + 0 ≤ _) fun vv3_ T3_ L3_ X3_ hQ3_ => ?_
  obtain ⟨rfl, N3_q, p3__0⟩ := hQ3_
  have N3_ := Fr.app N0 N3_q
  refine jg T3_ mM 10 #[vR a] [(.int (z >>> ((0 : Int32) &&& 31)))] (fun tT kK => ?_) ?_
  · refine XS.ishr X3_.here hx rfl (hC e2_9.1) rfl ?_
    exact kK
  exact own_rr X3_ hx hlk hre rfl (Or.inl ⟨rfl, Or.inl rfl, _, rfl⟩) (hC e2_9.2) p3__0 (by decide) (by decide) ⟨by rw [own_shr0], N3_, rfl⟩
theorem e8_0 : jD2 0 (.iload_n 0, 1) ∧ jD2 1 (.ifCond .lt 8, 3) ∧ jD2 4 (.iload_n 0, 1) ∧ jD2 5 (.iload_n 1, 1) := by decide +kernel
theorem e8_6 : jD2 6 (.if_icmp .lt 10, 3) ∧ jD2 16 (.iload_n 0, 1) ∧ jD2 17 (.ireturn, 1) := by decide +kernel
theorem own_pn_jdk_internal_util_Preconditions : plainName "jdk/internal/util/Preconditions" = true := by first | (simp [plainName, overriddenIn]; done) | decide +kernel
theorem own_ef_rm_pre (mM : MethodId) (x0 : Int32) (x1 : Int32) (x2 : Value) (hr2 : x2.isRef = true) : entryFrame mM #[(.int x0), (.int x1), x2] 3 = mkF mM 0 #[.val (.int x0), .val (.int x1), .val x2] [] := by
  cases x2 <;> first | rfl | (simp [Value.isRef] at *; done)
def Q_rm_pre (Z : State) (i1 : Int32) (n1 : Int32) (fv : Value) (h0 : Heap) (n0 : Nat) (vV : Option Value) (hH : Heap) (lA : List Loc) : Prop := vV = some (.int i1) ∧ Fr n0 lA ∧ (hH = h0)
set_option maxRecDepth 65536 in
set_option maxHeartbeats 40000000 in
theorem rm_pre (lL : Launch) (Z : State) (a0 : Array Value) (hw : own_H a0 Z) (ws : List Jvm.Cond) (i1 : Int32) (n1 : Int32) (fv : Value) (h0 : Heap) (n0 : Nat) (Z0 : n0 ≤ h0.size) (rfv : fv.isRef = true) (h1 : ¬ (i1 < (0 : Int32))) (h2 : i1 < n1) :
    own_Met lL jy2 (Jvm.Cond.code jy2 jdk_41_method_11_code 3 (some .int) :: ws) jr0 #[(.int i1), (.int n1), fv] Z h0 (Q_rm_pre Z i1 n1 fv h0 n0) := by
  refine own_begin (plainFor_of_name own_pn_jdk_internal_util_Preconditions) (fun mM => own_ef_rm_pre mM i1 n1 fv rfv) fun pP eE sS mM below meth cC s₁ hx hby hml hZ hown hnm hre hlk X0 e0 => ?_
  have hC := @Jvm.hb _ _ hby
  have N0 := Fr.nil n0
  have K0 := Keep.refl h0 ([] : List Addr)
  refine jg s₁ mM 17 #[vI i1, vI n1, .val fv] [(.int i1)] (fun tT kK => ?_) ?_
  · refine XS.iloadN X0.here hx rfl (hC e8_0.1) rfl ?_
    refine XS.ifNo X0.here hx rfl (hC e8_0.2.1) rfl ((if0 _ _).trans (flt (h1 : ¬ (i1 < (0 : Int32)))).1) ?_
    refine XS.iloadN X0.here hx rfl (hC e8_0.2.2.1) rfl ?_
    refine XS.iloadN X0.here hx rfl (hC e8_0.2.2.2) rfl ?_
    refine XS.icmpYes X0.here hx rfl (pc0 := 6) (pc' := 16) rfl (hC e8_6.1) rfl (tlt (h2 : i1 < n1)).1 (by decide) (by decide) ?_
    refine XS.iloadN X0.here hx rfl (hC e8_6.2.1) rfl ?_
    exact kK
  exact own_rr X0 hx hlk hre rfl (Or.inl ⟨rfl, Or.inl rfl, _, rfl⟩) (hC e8_6.2.2) e0 (by decide) (by decide) ⟨rfl, N0, rfl⟩
theorem e7_0 : jD3 0 (.iload_n 0, 1) ∧ jD3 1 (.iload_n 1, 1) ∧ jD3 2 (.getstatic 1053, 3) ∧ jD3 5 (.invokestatic 1059, 3) := by decide +kernel
theorem own_pd1 : parseMethodDescriptor "(IILjava/util/function/BiFunction;)I" = some ⟨[.int, .int, (.object "java/util/function/BiFunction")], some .int⟩ := by decide +kernel
theorem e7_8 : jD3 8 (.pop, 1) ∧ jD3 9 (.return_, 1) := by decide +kernel
theorem own_ef_rm_chk (mM : MethodId) (x0 : Int32) (x1 : Int32) : entryFrame mM #[(.int x0), (.int x1)] 2 = mkF mM 0 #[.val (.int x0), .val (.int x1)] [] := by first | (simp [entryFrame, mkF, argsToLocals, Value.category]; done) | rfl
def Q_rm_chk (Z : State) (i1 : Int32) (n1 : Int32) (fv : Value) (h0 : Heap) (n0 : Nat) (vV : Option Value) (hH : Heap) (lA : List Loc) : Prop := vV = none ∧ Fr n0 lA ∧ (hH = h0)
set_option maxRecDepth 65536 in
set_option maxHeartbeats 40000000 in
theorem rm_chk (lL : Launch) (Z : State) (a0 : Array Value) (hw : own_H a0 Z) (ws : List Jvm.Cond) (i1 : Int32) (n1 : Int32) (fv : Value) (h0 : Heap) (n0 : Nat) (Z0 : n0 ≤ h0.size) (Oo : Old Z n0 h0) (Sfv : Sta Z Z.heap "jdk/internal/util/Preconditions" "SIOOBE_FORMATTER" "Ljava/util/function/BiFunction;" fv) (rfv : fv.isRef = true) (h1 : ¬ (i1 < (0 : Int32))) (h2 : i1 < n1) :
    own_Met lL jy3 (Jvm.Cond.code jy3 jdk_42_method_155_code 2 none :: ws) jr2 #[(.int i1), (.int n1)] Z h0 (Q_rm_chk Z i1 n1 fv h0 n0) := by
  refine own_begin (plainFor_of_name own_pn_java_lang_String) (fun mM => own_ef_rm_chk mM i1 n1) fun pP eE sS mM below meth cC s₁ hx hby hml hZ hown hnm hre hlk X0 e0 => ?_
  have hC := @Jvm.hb _ _ hby
  have N0 := Fr.nil n0
  have K0 := Keep.refl h0 ([] : List Addr)
  refine jg s₁ mM 2 #[vI i1, vI n1] [(.int n1), (.int i1)] (fun tT kK => ?_) ?_
  · refine XS.iloadN X0.here hx rfl (hC e7_0.1) rfl ?_
    refine XS.iloadN X0.here hx rfl (hC e7_0.2.1) rfl ?_
    exact kK
  obtain ⟨T1_, X1_, e1_, st1_⟩ := getS2 X0 hx hZ hown (host := "") (Or.inl (jk hw 44 rfl)) Via.refl e0 (own_StaKeep Oo Sfv) (g := (mkF mM 2 #[vI i1, vI n1] [(.int n1), (.int i1)])) rfl (hC e7_0.2.2.1)
  refine own_fin st1_ ?_
  refine jc X1_ hx hZ (y := jy2) hown (jk hw 46 rfl) (jk hw 47 rfl) (jk hw 45 rfl) (jk hw 48 rfl) (rm_pre lL Z a0 hw [] i1 n1 fv h0 n0 (Nat.le_trans Z0 K0.1) rfv h1 h2) e1_ own_pd1 [(.int i1), (.int n1), fv] [] (hC e7_0.2.2.2) rfl rfl (by rw [hml]; rfl) (by decide) 0 (Nat.le_of_eq rfl) (by decide) (by decide) (by decide : 0 + 0 ≤ _) (by decide : 0 + 0 ≤ _) fun vv2_ T2_ L2_ X2_ hQ2_ => ?_
  obtain ⟨rfl, N2_q, p2__0⟩ := hQ2_
  have N2_ := Fr.app N0 N2_q
  refine jg T2_ mM 9 #[vI i1, vI n1] [] (fun tT kK => ?_) ?_
  · refine XS.pop X2_.here hx rfl (hC e7_8.1) rfl rfl ?_
    exact kK
  exact own_rV X2_ hx hlk hre (hC e7_8.2) p2__0 (by decide) (by decide) ⟨rfl, N2_, rfl⟩
theorem e5_0 : jD4 0 (.getstatic 38, 3) ∧ jD4 3 (.ifCond .eq 14, 3) ∧ jD4 6 (.aload_n 0, 1) ∧ jD4 7 (.getfield 15, 3) := by decide +kernel
theorem e5_10 : jD4 10 (.ifCond .ne 7, 3) ∧ jD4 13 (.iconst 1, 1) ∧ jD4 14 (.goto 4, 3) ∧ jD4 18 (.ireturn, 1) := by decide +kernel
theorem own_ef_rm_isl (mM : MethodId) (x0 : Addr) : entryFrame mM #[(.ref x0)] 1 = mkF mM 0 #[.val (.ref x0)] [] := by first | (simp [entryFrame, mkF, argsToLocals, Value.category]; done) | rfl
def Q_rm_isl (Z : State) (a : Addr) (cs : Int32) (h0 : Heap) (n0 : Nat) (vV : Option Value) (hH : Heap) (lA : List Loc) : Prop := vV = some (.int (1 : Int32)) ∧ Fr n0 lA ∧ (hH = h0)
set_option maxRecDepth 65536 in
set_option maxHeartbeats 40000000 in
theorem rm_isl (lL : Launch) (Z : State) (a0 : Array Value) (hw : own_H a0 Z) (ws : List Jvm.Cond) (a : Addr) (cs : Int32) (h0 : Heap) (n0 : Nat) (Z0 : n0 ≤ h0.size) (Oo : Old Z n0 h0) (Scs : Sta Z Z.heap "java/lang/String" "COMPACT_STRINGS" "Z" (.int cs)) (ncs : ¬ (cs = (0 : Int32))) (Fc : jF0 Z h0 a (.int (0 : Int32))) :
    own_Met lL jy4 (Jvm.Cond.code jy4 jdk_42_method_154_code 1 (some .boolean) :: ws) jr0 #[(.ref a)] Z h0 (Q_rm_isl Z a cs h0 n0) := by
  refine own_begin (plainFor_of_name own_pn_java_lang_String) (fun mM => own_ef_rm_isl mM a) fun pP eE sS mM below meth cC s₁ hx hby hml hZ hown hnm hre hlk X0 e0 => ?_
  have hC := @Jvm.hb _ _ hby
  have N0 := Fr.nil n0
  have K0 := Keep.refl h0 ([] : List Addr)
  obtain ⟨T1_, X1_, e1_, st1_⟩ := getS2 X0 hx hZ hown (host := "") (Or.inl (jk hw 25 rfl)) Via.refl e0 (own_StaKeep Oo Scs) (g := (mkF mM 0 #[vR a] [])) rfl (hC e5_0.1)
  refine own_fin st1_ ?_
  refine jg T1_ mM 7 #[vR a] [(.ref a)] (fun tT kK => ?_) ?_
  · refine XS.ifNo X1_.here hx rfl (hC e5_0.2.1) rfl ((if0 _ _).trans (feq (ncs : ¬ (cs = (0 : Int32)))).1) ?_
    refine XS.aloadN X1_.here hx rfl (hC e5_0.2.2.1) rfl rfl ?_
    exact kK
  refine jf X1_ hx hZ hown (jk hw 26 rfl) e1_ Fc (hC e5_0.2.2.2) fun T2_ X2_ e2_ => ?_
  refine jg T2_ mM 18 #[vR a] [(.int (1 : Int32))] (fun tT kK => ?_) ?_
  · refine XS.ifNo X2_.here hx rfl (hC e5_10.1) rfl ((if0 _ _).trans (teq ((by decide) : (0 : Int32) = (0 : Int32))).2) ?_
    refine XS.iconst X2_.here hx rfl (hC e5_10.2.1) ?_
    refine XS.goto X2_.here hx rfl (pc0 := 14) (pc' := 18) rfl (hC e5_10.2.2.1) (by decide) (by decide) ?_
    exact kK
  exact own_rL X2_ hx hlk hre (by simp) (hC e5_10.2.2.2) (w := (.int (1 : Int32))) rfl e2_ (by decide) (by decide) ⟨rfl, N0, rfl⟩
theorem e6_0 : jD5 0 (.iload_n 1, 1) ∧ jD5 1 (.aload_n 0, 1) ∧ jD5 2 (.arraylength, 1) ∧ jD5 3 (.invokestatic 9, 3) := by decide +kernel
theorem own_pd2 : parseMethodDescriptor "(II)V" = some ⟨[.int, .int], none⟩ := by decide +kernel
theorem e6_6 : jD5 6 (.aload_n 0, 1) ∧ jD5 7 (.iload_n 1, 1) ∧ jD5 8 (.baload, 1) ∧ jD5 9 (.sipush 255, 3) := by decide +kernel
theorem e6_12 : jD5 12 (.iand, 1) ∧ jD5 13 (.i2c, 1) ∧ jD5 14 (.ireturn, 1) := by decide +kernel
theorem own_pn_java_lang_StringLatin1 : plainName "java/lang/StringLatin1" = true := by first | (simp [plainName, overriddenIn]; done) | decide +kernel
theorem own_ef_rm_l1ch (mM : MethodId) (x0 : Addr) (x1 : Int32) : entryFrame mM #[(.ref x0), (.int x1)] 2 = mkF mM 0 #[.val (.ref x0), .val (.int x1)] [] := by first | (simp [entryFrame, mkF, argsToLocals, Value.category]; done) | rfl
def Q_rm_l1ch (Z : State) (t : Addr) (i1 : Int32) (z : Int32) (f : Int32 → Int32) (fv : Value) (h0 : Heap) (n0 : Nat) (vV : Option Value) (hH : Heap) (lA : List Loc) : Prop := vV = some (.int (own_ch (f i1))) ∧ Fr n0 lA ∧ (hH = h0)
set_option maxRecDepth 65536 in
set_option maxHeartbeats 40000000 in
theorem rm_l1ch (lL : Launch) (Z : State) (a0 : Array Value) (hw : own_H a0 Z) (ws : List Jvm.Cond) (t : Addr) (i1 : Int32) (z : Int32) (f : Int32 → Int32) (fv : Value) (h0 : Heap) (n0 : Nat) (Z0 : n0 ≤ h0.size) (Oo : Old Z n0 h0) (Sfv : Sta Z Z.heap "jdk/internal/util/Preconditions" "SIOOBE_FORMATTER" "Ljava/util/function/BiFunction;" fv) (rfv : fv.isRef = true) (Tt : own_T Z h0 t .byte z f) (h1 : ¬ (i1 < (0 : Int32))) (h2 : i1 < z) :
    own_Met lL jy5 (Jvm.Cond.code jy5 jdk_43_method_2_code 2 (some .char) :: ws) jr3 #[(.ref t), (.int i1)] Z h0 (Q_rm_l1ch Z t i1 z f fv h0 n0) := by
  refine own_begin (plainFor_of_name own_pn_java_lang_StringLatin1) (fun mM => own_ef_rm_l1ch mM t i1) fun pP eE sS mM below meth cC s₁ hx hby hml hZ hown hnm hre hlk X0 e0 => ?_
  have hC := @Jvm.hb _ _ hby
  have N0 := Fr.nil n0
  have K0 := Keep.refl h0 ([] : List Addr)
  refine jg s₁ mM 2 #[vR t, vI i1] [(.ref t), (.int i1)] (fun tT kK => ?_) ?_
  · refine XS.iloadN X0.here hx rfl (hC e6_0.1) rfl ?_
    refine XS.aloadN X0.here hx rfl (hC e6_0.2.1) rfl rfl ?_
    exact kK
  obtain ⟨cl1_, Ar1_, Sz1_, Nn1_, -⟩ := id Tt
  refine jg s₁ mM 3 #[vR t, vI i1] [(.int z), (.int i1)] (fun tT kK => ?_) ?_
  · refine X0.arraylength hx (own_rw e0 Ar1_.1) (State.isArrayOf_alike hZ.alike Ar1_.2.1) (g := (mkF mM 2 #[vR t, vI i1] [(.ref t), (.int i1)])) rfl rfl (hC e6_0.2.2.1) _ ?_
    rw [len_of Sz1_ Nn1_]
    exact kK
  refine jc X0 hx hZ (y := jy3) hown (jk hw 41 rfl) (jk hw 42 rfl) (jk hw 2 rfl) (jk hw 43 rfl) (rm_chk lL Z a0 hw [] i1 z fv h0 n0 (Nat.le_trans Z0 K0.1) Oo Sfv rfv h1 h2) e0 own_pd2 [(.int i1), (.int z)] [] (hC e6_0.2.2.2) rfl rfl (by rw [hml]; rfl) (by decide) 0 (Nat.le_of_eq rfl) (by decide) (by decide) (by decide : 0 + 0 ≤ _) (by decide : 0 + 0 ≤ _) fun vv2_ T2_ L2_ X2_ hQ2_ => ?_
  obtain ⟨rfl, N2_q, p2__0⟩ := hQ2_
  have N2_ := Fr.app N0 N2_q
  refine jg T2_ mM 8 #[vR t, vI i1] [(.int i1), (.ref t)] (fun tT kK => ?_) ?_
  · refine XS.aloadN X2_.here hx rfl (hC e6_6.1) rfl rfl ?_
    refine XS.iloadN X2_.here hx rfl (hC e6_6.2.1) rfl ?_
    exact kK
  obtain ⟨cl3_, Ar3_, Sz3_, Nn3_, Hh3_⟩ := id Tt
  have hin3_ : ¬ (i1 < 0 ∨ cl3_.slots.size ≤ (i1).toNatClampNeg) := inb_of Sz3_ ⟨h1, h2⟩
  have hat3_ : cl3_.slots[(i1).toNatClampNeg]? = some (.int (f i1)) := Hh3_ _ hin3_
  refine jg T2_ mM 14 #[vR t, vI i1] [(.int (((f i1) &&& (255 : Int32)).toUInt32.toUInt16.toUInt32.toInt32))] (fun tT kK => ?_) ?_
  · refine X2_.baloadBytes hx (j := i1) (v := (.int (f i1))) (own_rw p2__0 Ar3_.1) (State.isArrayOf_alike hZ.alike Ar3_.2.1) Ar3_.2.2 hin3_ hat3_ (g := (mkF mM 8 #[vR t, vI i1] [(.int i1), (.ref t)])) rfl rfl (hC e6_6.2.2.1) _ ?_
    refine XS.sipush X2_.here hx rfl (hC e6_6.2.2.2) ?_
    refine XS.iand X2_.here hx rfl (hC e6_12.1) rfl ?_
    refine XS.i2c X2_.here hx rfl (hC e6_12.2.1) rfl ?_
    exact kK
  exact own_rN X2_ hx hlk hre (by simp) (hC e6_12.2.2) p2__0 (by decide) (by decide) ⟨by rw [own_chr], N2_, rfl⟩
theorem e4_0 : jD6 0 (.aload_n 0, 1) ∧ jD6 1 (.invokevirtual 492, 3) := by decide +kernel
theorem own_pd3 : parseMethodDescriptor "()Z" = some ⟨[], some .boolean⟩ := by decide +kernel
theorem e4_4 : jD6 4 (.ifCond .eq 12, 3) ∧ jD6 7 (.aload_n 0, 1) ∧ jD6 8 (.getfield 9, 3) ∧ jD6 11 (.iload_n 1, 1) := by decide +kernel
theorem d4_12 : jD6 12 (.invokestatic 495, 3) := by decide +kernel
theorem own_pd4 : parseMethodDescriptor "([BI)C" = some ⟨[(.array .byte), .int], some .char⟩ := by decide +kernel
theorem d4_15 : jD6 15 (.ireturn, 1) := by decide +kernel
theorem own_ef_rm_char (mM : MethodId) (x0 : Addr) (x1 : Int32) : entryFrame mM #[(.ref x0), (.int x1)] 2 = mkF mM 0 #[.val (.ref x0), .val (.int x1)] [] := by first | (simp [entryFrame, mkF, argsToLocals, Value.category]; done) | rfl
def Q_rm_char (Z : State) (a : Addr) (i1 : Int32) (t : Addr) (z : Int32) (f : Int32 → Int32) (cs : Int32) (fv : Value) (h0 : Heap) (n0 : Nat) (vV : Option Value) (hH : Heap) (lA : List Loc) : Prop := vV = some (.int (own_ch (f i1))) ∧ Fr n0 lA ∧ (hH = h0)
set_option maxRecDepth 65536 in
set_option maxHeartbeats 40000000 in
theorem rm_char (lL : Launch) (Z : State) (a0 : Array Value) (hw : own_H a0 Z) (ws : List Jvm.Cond) (a : Addr) (i1 : Int32) (t : Addr) (z : Int32) (f : Int32 → Int32) (cs : Int32) (fv : Value) (h0 : Heap) (n0 : Nat) (Z0 : n0 ≤ h0.size) (Oo : Old Z n0 h0) (Scs : Sta Z Z.heap "java/lang/String" "COMPACT_STRINGS" "Z" (.int cs)) (ncs : ¬ (cs = (0 : Int32))) (Sfv : Sta Z Z.heap "jdk/internal/util/Preconditions" "SIOOBE_FORMATTER" "Ljava/util/function/BiFunction;" fv) (rfv : fv.isRef = true) (Ea : jE0 Z h0 a) (Fv : jF1 Z h0 a (.ref t)) (Fc : jF0 Z h0 a (.int (0 : Int32))) (Tt : own_T Z h0 t .byte z f) (h1 : ¬ (i1 < (0 : Int32))) (h2 : i1 < z) :
    own_Met lL jy6 (Jvm.Cond.code jy6 jdk_42_method_56_code 2 (some .char) :: ws) jr4 #[(.ref a), (.int i1)] Z h0 (Q_rm_char Z a i1 t z f cs fv h0 n0) := by
  refine own_begin (plainFor_of_name own_pn_java_lang_String) (fun mM => own_ef_rm_char mM a i1) fun pP eE sS mM below meth cC s₁ hx hby hml hZ hown hnm hre hlk X0 e0 => ?_
  have hC := @Jvm.hb _ _ hby
  have N0 := Fr.nil n0
  have K0 := Keep.refl h0 ([] : List Addr)
  refine jg s₁ mM 1 #[vR a, vI i1] [(.ref a)] (fun tT kK => ?_) ?_
  · refine XS.aloadN X0.here hx rfl (hC e4_0.1) rfl rfl ?_
    exact kK
  refine jv X0 hx hZ (y := jy4) hown (jk hw 32 rfl) (jk hw 33 rfl) (jk hw 35 rfl) (jk hw 34 rfl) (jk hw 36 rfl) (jk hw 2 rfl) (rm_isl lL Z a0 hw [] a cs h0 n0 (Nat.le_trans Z0 K0.1) Oo Scs ncs Fc) Ea e0 own_pd3 [] [] (hC e4_0.2) rfl rfl (by rw [hml]; rfl) (by decide) 0 (Nat.le_of_eq rfl) (by decide) (by decide) (by decide : 0 + 0 ≤ _) (by decide : 0 + 0 ≤ _) fun vv1_ T1_ L1_ X1_ hQ1_ => ?_
  obtain ⟨rfl, N1_q, p1__0⟩ := hQ1_
  have N1_ := Fr.app N0 N1_q
  refine jg T1_ mM 8 #[vR a, vI i1] [(.ref a)] (fun tT kK => ?_) ?_
  · refine XS.ifNo X1_.here hx rfl (hC e4_4.1) rfl ((if0 _ _).trans (feq ((by decide) : ¬ ((1 : Int32) = (0 : Int32)))).1) ?_
    refine XS.aloadN X1_.here hx rfl (hC e4_4.2.1) rfl rfl ?_
    exact kK
  refine jf X1_ hx hZ hown (jk hw 19 rfl) p1__0 Fv (hC e4_4.2.2.1) fun T2_ X2_ e2_ => ?_
  refine jg T2_ mM 12 #[vR a, vI i1] [(.int i1), (.ref t)] (fun tT kK => ?_) ?_
  · refine XS.iloadN X2_.here hx rfl (hC e4_4.2.2.2) rfl ?_
    exact kK
  refine jc X2_ hx hZ (y := jy5) hown (jk hw 37 rfl) (jk hw 38 rfl) (jk hw 39 rfl) (jk hw 40 rfl) (rm_l1ch lL Z a0 hw [] t i1 z f fv h0 n0 (Nat.le_trans Z0 K0.1) Oo Sfv rfv Tt h1 h2) e2_ own_pd4 [(.ref t), (.int i1)] [] (hC d4_12) rfl rfl (by rw [hml]; rfl) (by decide) 0 (Nat.le_of_eq rfl) (by decide) (by decide) (by decide : 0 + 0 ≤ _) (by decide : 0 + 0 ≤ _) fun vv3_ T3_ L3_ X3_ hQ3_ => ?_
  obtain ⟨rfl, N3_q, p3__0⟩ := hQ3_
  have N3_ := Fr.app N1_ N3_q
  exact own_rN X3_ hx hlk hre (by simp) (hC d4_15) p3__0 (by decide) (by decide) ⟨by rw [own_nch (x := own_ch (f i1)) (own_chb (f i1)).1 (by have := (own_chb (f i1)).2; show (f i1 &&& (255 : Int32)).toInt ≤ 65535; omega)], N3_, rfl⟩
theorem e20_3 : jD7 3 (.iload 5, 2) ∧ jD7 5 (.iload 4, 2) ∧ jD7 7 (.if_icmp .ge 37, 3) ∧ jD7 10 (.aload_n 0, 1) := by decide +kernel
theorem e20_11 : jD7 11 (.iload_n 1, 1) ∧ jD7 12 (.caload, 1) ∧ jD7 13 (.istore 6, 2) := by decide +kernel
theorem own_os0 {z0 : Value} {z1 : Value} {z2 : Value} {z3 : Value} {z4 : Value} {z5 : Value} {s6 : Slot} {v : Int32} (h : One s6) : storeLocals #[.val z0, .val z1, .val z2, .val z3, .val z4, .val z5, s6] 6 (.int v) = some #[.val z0, .val z1, .val z2, .val z3, .val z4, .val z5, .val (.int v)] := by
  rcases h with rfl | ⟨w, rfl, hw⟩
  · first | rfl | (simp [Value.category, Value.isRef] at *; done)
  · cases w <;> first | rfl | (simp [Value.category, Value.isRef] at *; done)
theorem e20_15 : jD7 15 (.iload 6, 2) ∧ jD7 17 (.sipush 255, 3) ∧ jD7 20 (.if_icmp .le 6, 3) ∧ jD7 26 (.aload_n 2, 1) := by decide +kernel
theorem e20_27 : jD7 27 (.iload_n 3, 1) ∧ jD7 28 (.iload 6, 2) ∧ jD7 30 (.i2b, 1) ∧ jD7 31 (.bastore, 1) := by decide +kernel
theorem e20_32 : jD7 32 (.iinc 1 1, 3) ∧ jD7 35 (.iinc 3 1, 3) ∧ jD7 38 (.iinc 5 1, 3) ∧ jD7 41 (.goto (-38), 3) := by decide +kernel
set_option maxRecDepth 65536 in
set_option maxHeartbeats 40000000 in
theorem own_lpc {pP : Program} {lL : Launch} {eE : Env} {R : Room} {sS : State} {mM : MethodId} {args : Array Value} {below : List Frame} {meth : Method} {cC : Code} {cells slots : Nat} {PP : State → Outcome → Prop} (Z : State) (a0 : Array Value) (hw : own_H a0 Z) (a : Addr) (b : Addr) (z : Int32) (f : Int32 → Int32) (g0 : Int32 → Int32) (h0 : Heap) (n0 : Nat) (Z0 : n0 ≤ h0.size) (gb : n0 ≤ b) (nab : a ≠ b) (hp : ∀ j : Int32, ¬ j < 0 ∧ j < z → 0 ≤ (f j).toInt ∧ (f j).toInt ≤ 255) (hx : pP.tables.exec = Jvm.exec) (hZ : Z.Warmed39 sS.vm) (hby : cC.code = jdk_52_method_21_code) (hml : cC.maxLocals = 7) (hown : sS.vm.findClass "java/lang/StringUTF16" = some mM.cls)
    (kont0 : ∀ (s6 : Slot) (Th : State) (hh : Heap) (Lh : List Loc), Stand pP lL eE R sS mM args below meth cC Th Lh cells slots → Th.heap = hh → Fr n0 Lh → Keep h0 hh [b] → (own_T Z hh b .byte z (fun j => (f j).toInt8.toInt32)) → own_Fin pP eE below PP (Th.setTop (mkF mM 44 #[.val (.ref a), .val (.int (Int32.ofNat z.toNatClampNeg)), .val (.ref b), .val (.int (Int32.ofNat z.toNatClampNeg)), .val (.int z), .val (.int (Int32.ofNat z.toNatClampNeg)), s6] []))) :
    ∀ (k i : Nat) (g : Int32 → Int32) (s6 : Slot) (Th : State) (hh : Heap) (Lh : List Loc), i + k = z.toNatClampNeg → Stand pP lL eE R sS mM args below meth cC Th Lh cells slots → Th.heap = hh → Fr n0 Lh → Keep h0 hh [b] → (own_T Z hh a .char z f) → (own_T Z hh b .byte z g) → (∀ j : Int32, ¬ j < 0 → j.toNatClampNeg < i → g j = (fun j => (f j).toInt8.toInt32) j) → (One s6) → own_Fin pP eE below PP (Th.setTop (mkF mM 3 #[.val (.ref a), .val (.int (Int32.ofNat i)), .val (.ref b), .val (.int (Int32.ofNat i)), .val (.int z), .val (.int (Int32.ofNat i)), s6] [])) := by
  have hC := @Jvm.hb _ _ hby
  intro k
  induction k with
  | zero =>
      intro i g s6 Th hh Lh hik Xh eh Nh Kh Ti Tg Pg hs6
      have hz := Tg.nn
      obtain rfl : i = z.toNatClampNeg := by omega
      let ll1 : Array Slot := #[vR a, vI (Int32.ofNat z.toNatClampNeg), vR b, vI (Int32.ofNat z.toNatClampNeg), vI z, vI (Int32.ofNat z.toNatClampNeg), s6]
      refine jg Th mM 44 ll1 [] (fun tT kK => ?_) ?_
      · refine XS.iload Xh.here hx rfl (hC e20_3.1) rfl ?_
        refine XS.iload Xh.here hx rfl (hC e20_3.2.1) rfl ?_
        refine XS.icmpYes Xh.here hx rfl (pc0 := 7) (pc' := 44) rfl (hC e20_3.2.2.1) rfl (flt (own_nlt hz : ¬ ((Int32.ofNat z.toNatClampNeg) < z))).2.1 (by decide) (by decide) ?_
        exact kK
      exact kont0 _ _ _ _ Xh eh Nh Kh (Tg.congr fun j hj => Pg j hj.1 (own_jn hj.1 hz hj.2))
  | succ k ih =>
      intro i g s6 Th hh Lh hik Xh eh Nh Kh Ti Tg Pg hs6
      have hz := Tg.nn
      have hi : i < z.toNatClampNeg := by omega
      have hc := hp _ (own_inz hz hi)
      let ll2 : Array Slot := #[vR a, vI (Int32.ofNat i), vR b, vI (Int32.ofNat i), vI z, vI (Int32.ofNat i), s6]
      refine jg Th mM 12 ll2 [(.int (Int32.ofNat i)), (.ref a)] (fun tT kK => ?_) ?_
      · refine XS.iload Xh.here hx rfl (hC e20_3.1) rfl ?_
        refine XS.iload Xh.here hx rfl (hC e20_3.2.1) rfl ?_
        refine XS.icmpNo Xh.here hx rfl (hC e20_3.2.2.1) rfl (tlt (own_ltz hz hi : (Int32.ofNat i) < z)).2.1 ?_
        refine XS.aloadN Xh.here hx rfl (hC e20_3.2.2.2) rfl rfl ?_
        refine XS.iloadN Xh.here hx rfl (hC e20_11.1) rfl ?_
        exact kK
      obtain ⟨cl1_, Ar1_, Sz1_, Nn1_, Hh1_⟩ := id Ti
      have hin1_ : ¬ ((Int32.ofNat i) < 0 ∨ cl1_.slots.size ≤ ((Int32.ofNat i)).toNatClampNeg) := inb_of Sz1_ (own_inz hz hi)
      have hat1_ : cl1_.slots[((Int32.ofNat i)).toNatClampNeg]? = some (.int (f (Int32.ofNat i))) := Hh1_ _ hin1_
      let ll3 : Array Slot := #[vR a, vI (Int32.ofNat i), vR b, vI (Int32.ofNat i), vI z, vI (Int32.ofNat i), vI (f (Int32.ofNat i))]
      refine jg Th mM 31 ll3 [(.int ((f (Int32.ofNat i)).toInt8.toInt32)), (.int (Int32.ofNat i)), (.ref b)] (fun tT kK => ?_) ?_
      · refine Xh.caload hx (j := (Int32.ofNat i)) (v := (.int (f (Int32.ofNat i)))) (own_rw eh Ar1_.1) (State.isArrayOf_alike hZ.alike Ar1_.2.1) Ar1_.2.2 hin1_ hat1_ (g := (mkF mM 12 ll2 [(.int (Int32.ofNat i)), (.ref a)])) rfl rfl (hC e20_11.2.1) _ ?_
        refine XS.istore Xh.here hx rfl (hC e20_11.2.2) rfl (l' := ll3) (own_os0 hs6) ?_
        refine XS.iload Xh.here hx rfl (hC e20_15.1) rfl ?_
        refine XS.sipush Xh.here hx rfl (hC e20_15.2.1) ?_
        refine XS.icmpYes Xh.here hx rfl (pc0 := 20) (pc' := 26) rfl (hC e20_15.2.2.1) rfl (flt (own_ltn hc.2 : ¬ ((255 : Int32) < (f (Int32.ofNat i))))).2.2.2 (by decide) (by decide) ?_
        refine XS.aloadN Xh.here hx rfl (hC e20_15.2.2.2) rfl rfl ?_
        refine XS.iloadN Xh.here hx rfl (hC e20_27.1) rfl ?_
        refine XS.iload Xh.here hx rfl (hC e20_27.2.1) rfl ?_
        refine XS.i2b Xh.here hx rfl (hC e20_27.2.2.1) rfl ?_
        exact kK
      obtain ⟨cl2_, Ar2_, Sz2_, Nn2_, Hh2_⟩ := id Tg
      have hin2_ : ¬ ((Int32.ofNat i) < 0 ∨ cl2_.slots.size ≤ ((Int32.ofNat i)).toNatClampNeg) := inb_of Sz2_ (own_inz hz hi)
      obtain ⟨T2_, h2_, X2_, e2_, W2_, st2_⟩ := stB Xh hx hZ eh Ar2_ (j := (Int32.ofNat i)) hin2_ (g := (mkF mM 31 ll3 [(.int ((f (Int32.ofNat i)).toInt8.toInt32)), (.int (Int32.ofNat i)), (.ref b)])) rfl rfl (hC e20_27.2.2.2)
      have U2_ : own_T Z h2_ b .byte z (own_up g (Int32.ofNat i) (nar .byte ((f (Int32.ofNat i)).toInt8.toInt32))) := own_T.set ⟨cl2_, Ar2_, Sz2_, Nn2_, Hh2_⟩ W2_ (own_inz hz hi)
      have fc3_ := Ti.other W2_ nab
      have K2_ := Kh.wr W2_ (Or.inl (List.mem_of_getElem? (i := 0) rfl))
      have N2_ := Fr.snoc X2_ Nh gb
      refine own_fin st2_ ?_
      let ll4 : Array Slot := #[vR a, vI ((Int32.ofNat i) + (1 : Int32)), vR b, vI ((Int32.ofNat i) + (1 : Int32)), vI z, vI ((Int32.ofNat i) + (1 : Int32)), vI (f (Int32.ofNat i))]
      refine jg T2_ mM 3 ll4 [] (fun tT kK => ?_) ?_
      · let ll5 : Array Slot := #[vR a, vI ((Int32.ofNat i) + (1 : Int32)), vR b, vI (Int32.ofNat i), vI z, vI (Int32.ofNat i), vI (f (Int32.ofNat i))]
        refine XS.iinc X2_.here hx rfl (hC e20_32.1) rfl (l' := ll5) rfl ?_
        let ll6 : Array Slot := #[vR a, vI ((Int32.ofNat i) + (1 : Int32)), vR b, vI ((Int32.ofNat i) + (1 : Int32)), vI z, vI (Int32.ofNat i), vI (f (Int32.ofNat i))]
        refine XS.iinc X2_.here hx rfl (hC e20_32.2.1) rfl (l' := ll6) rfl ?_
        refine XS.iinc X2_.here hx rfl (hC e20_32.2.2.1) rfl (l' := ll4) rfl ?_
        refine XS.goto X2_.here hx rfl (pc0 := 41) (pc' := 3) rfl (hC e20_32.2.2.2) (by decide) (by decide) ?_
        exact kK
      show own_Fin pP eE below _ (T2_.setTop (mkF mM 3 #[.val (.ref a), .val (.int ((Int32.ofNat i) + (1 : Int32))), .val (.ref b), .val (.int ((Int32.ofNat i) + (1 : Int32))), .val (.int z), .val (.int ((Int32.ofNat i) + (1 : Int32))), .val (.int (f (Int32.ofNat i)))] []))
      rw [own_one i]
      exact ih (i + 1) _ _ _ _ _ (by omega) X2_ e2_ N2_ K2_ fc3_ U2_ (own_upf hz hi Pg (own_i8 _)) (One.val rfl)
theorem e20_0 : jD7 0 (.iconst 0, 1) ∧ jD7 1 (.istore 5, 2) ∧ jD7 44 (.iload 4, 2) ∧ jD7 46 (.ireturn, 1) := by decide +kernel
theorem own_pn_java_lang_StringUTF16 : plainName "java/lang/StringUTF16" = true := by first | (simp [plainName, overriddenIn]; done) | decide +kernel
theorem own_ef_rm_cmp1 (mM : MethodId) (x0 : Addr) (x1 : Int32) (x2 : Addr) (x3 : Int32) (x4 : Int32) : entryFrame mM #[(.ref x0), (.int x1), (.ref x2), (.int x3), (.int x4)] 7 = mkF mM 0 #[.val (.ref x0), .val (.int x1), .val (.ref x2), .val (.int x3), .val (.int x4), .unset, .unset] [] := by first | (simp [entryFrame, mkF, argsToLocals, Value.category]; done) | rfl
def Q_rm_cmp1 (Z : State) (a : Addr) (b : Addr) (z : Int32) (f : Int32 → Int32) (g0 : Int32 → Int32) (h0 : Heap) (n0 : Nat) (vV : Option Value) (hH : Heap) (lA : List Loc) : Prop := vV = some (.int z) ∧ Fr n0 lA ∧ (Keep h0 hH [b]) ∧ (own_T Z hH b .byte z (fun j => (f j).toInt8.toInt32))
set_option maxRecDepth 65536 in
set_option maxHeartbeats 40000000 in
theorem rm_cmp1 (lL : Launch) (Z : State) (a0 : Array Value) (hw : own_H a0 Z) (ws : List Jvm.Cond) (a : Addr) (b : Addr) (z : Int32) (f : Int32 → Int32) (g0 : Int32 → Int32) (h0 : Heap) (n0 : Nat) (Z0 : n0 ≤ h0.size) (Ta : own_T Z h0 a .char z f) (Tb : own_T Z h0 b .byte z g0) (gb : n0 ≤ b) (nab : a ≠ b) (hp : ∀ j : Int32, ¬ j < 0 ∧ j < z → 0 ≤ (f j).toInt ∧ (f j).toInt ≤ 255) :
    own_Met lL jy7 (Jvm.Cond.code jy7 jdk_52_method_21_code 7 (some .int) :: ws) jr0 #[(.ref a), (.int (0 : Int32)), (.ref b), (.int (0 : Int32)), (.int z)] Z h0 (Q_rm_cmp1 Z a b z f g0 h0 n0) := by
  refine own_begin (plainFor_of_name own_pn_java_lang_StringUTF16) (fun mM => own_ef_rm_cmp1 mM a (0 : Int32) b (0 : Int32) z) fun pP eE sS mM below meth cC s₁ hx hby hml hZ hown hnm hre hlk X0 e0 => ?_
  have hC := @Jvm.hb _ _ hby
  have N0 := Fr.nil n0
  have K0 := Keep.refl h0 [b]
  let ll1 : Array Slot := #[vR a, vI 0, vR b, vI 0, vI z, vI 0, vU]
  refine jg s₁ mM 3 ll1 [] (fun tT kK => ?_) ?_
  · refine XS.iconst X0.here hx rfl (hC e20_0.1) ?_
    refine XS.istore X0.here hx rfl (hC e20_0.2.1) rfl (l' := ll1) rfl ?_
    exact kK
  refine own_lpc Z a0 hw a b z f g0 h0 n0 Z0 gb nab hp hx hZ hby hml hown ?_ z.toNatClampNeg 0 g0 _ _ _ _ (by omega) X0 e0 N0 K0 Ta Tb (fun j h1 h2 => absurd h2 (Nat.not_lt_zero _)) One.u
  intro s6_1_ T1_ h1_ L1_ X1_ e1_ N1_ K1_ p1__0
  let ll2 : Array Slot := #[vR a, vI (Int32.ofNat z.toNatClampNeg), vR b, vI (Int32.ofNat z.toNatClampNeg), vI z, vI (Int32.ofNat z.toNatClampNeg), s6_1_]
  refine jg T1_ mM 46 ll2 [(.int z)] (fun tT kK => ?_) ?_
  · refine XS.iload X1_.here hx rfl (hC e20_0.2.2.1) rfl ?_
    exact kK
  exact own_rr X1_ hx hlk hre rfl (Or.inl ⟨rfl, Or.inl rfl, _, rfl⟩) (hC e20_0.2.2.2) e1_ (by decide) (by decide) ⟨rfl, N1_, K1_, p1__0⟩
theorem e19_0 : jD8 0 (.iload_n 2, 1) ∧ jD8 1 (.newarray .byte, 2) ∧ jD8 3 (.astore_n 3, 1) ∧ jD8 4 (.aload_n 0, 1) := by decide +kernel
theorem e19_5 : jD8 5 (.iload_n 1, 1) ∧ jD8 6 (.aload_n 3, 1) ∧ jD8 7 (.iconst 0, 1) ∧ jD8 8 (.iload_n 2, 1) := by decide +kernel
theorem d19_9 : jD8 9 (.invokestatic 115, 3) := by decide +kernel
theorem own_pd5 : parseMethodDescriptor "([CI[BII)I" = some ⟨[(.array .char), .int, (.array .byte), .int, .int], some .int⟩ := by decide +kernel
theorem e19_12 : jD8 12 (.istore 4, 2) ∧ jD8 14 (.iload 4, 2) ∧ jD8 16 (.iload_n 2, 1) ∧ jD8 17 (.if_icmp .eq 40, 3) := by decide +kernel
theorem e19_57 : jD8 57 (.aload_n 3, 1) ∧ jD8 58 (.areturn, 1) := by decide +kernel
theorem own_ef_rm_cmp2 (mM : MethodId) (x0 : Addr) (x1 : Int32) (x2 : Int32) : entryFrame mM #[(.ref x0), (.int x1), (.int x2)] 6 = mkF mM 0 #[.val (.ref x0), .val (.int x1), .val (.int x2), .unset, .unset, .unset] [] := by first | (simp [entryFrame, mkF, argsToLocals, Value.category]; done) | rfl
def Q_rm_cmp2 (Z : State) (a : Addr) (z : Int32) (f : Int32 → Int32) (h0 : Heap) (n0 : Nat) (vV : Option Value) (hH : Heap) (lA : List Loc) : Prop := ∃ b : Addr, vV = some (.ref b) ∧ Fr n0 lA ∧ (Keep h0 hH []) ∧ (h0.size ≤ b) ∧ (own_T Z hH b .byte z (fun j => (f j).toInt8.toInt32))
set_option maxRecDepth 65536 in
set_option maxHeartbeats 40000000 in
theorem rm_cmp2 (lL : Launch) (Z : State) (a0 : Array Value) (hw : own_H a0 Z) (ws : List Jvm.Cond) (a : Addr) (z : Int32) (f : Int32 → Int32) (h0 : Heap) (n0 : Nat) (Z0 : n0 ≤ h0.size) (Ta : own_T Z h0 a .char z f) (hp : ∀ j : Int32, ¬ j < 0 ∧ j < z → 0 ≤ (f j).toInt ∧ (f j).toInt ≤ 255) (hcap : z.toNatClampNeg ≤ 8) :
    own_Met lL jy8 (Jvm.Cond.code jy8 jdk_52_method_16_code 6 (some (.array .byte)) :: ws) jr5 #[(.ref a), (.int (0 : Int32)), (.int z)] Z h0 (Q_rm_cmp2 Z a z f h0 n0) := by
  refine own_begin (plainFor_of_name own_pn_java_lang_StringUTF16) (fun mM => own_ef_rm_cmp2 mM a (0 : Int32) z) fun pP eE sS mM below meth cC s₁ hx hby hml hZ hown hnm hre hlk X0 e0 => ?_
  have hC := @Jvm.hb _ _ hby
  have N0 := Fr.nil n0
  have K0 := Keep.refl h0 ([] : List Addr)
  have hz := Ta.nn
  let ll1 : Array Slot := #[vR a, vI 0, vI z, vU, vU, vU]
  refine jg s₁ mM 1 ll1 [(.int z)] (fun tT kK => ?_) ?_
  · refine XS.iloadN X0.here hx rfl (hC e19_0.1) rfl ?_
    exact kK
  obtain ⟨T1_, h1_, k1_, X1_, e1_, E1_, A1_, st1_⟩ := newP X0 hx hZ (jk hw 4 rfl) e0 (g := (mkF mM 1 ll1 [(.int z)])) rfl (hC e19_0.2.1) rfl hz (cap := 8) hcap (by decide) (by decide) (by decide)
  obtain ⟨b1_, g1_⟩ : ∃ z, z = h0.size := ⟨_, rfl⟩
  rw [← g1_] at A1_ st1_
  have sz_b1_ : h0.size ≤ b1_ := Nat.le_trans K0.1 (Nat.le_of_eq g1_.symm)
  have ge_b1_ : n0 ≤ b1_ := Nat.le_trans Z0 sz_b1_
  have ne2_ : a ≠ b1_ := Nat.ne_of_lt (Nat.lt_of_lt_of_le Ta.lt (Nat.le_of_eq g1_.symm))
  have fc3_ := Ta.ext E1_
  have K1_ := K0.ext E1_
  refine own_fin st1_ ?_
  have Tb : own_T Z h1_ b1_ .byte z (fun _ => 0) := own_T.new A1_ hz rfl
  let ll2 : Array Slot := #[vR a, vI 0, vI z, vR b1_, vU, vU]
  refine jg T1_ mM 9 ll2 [(.int z), (.int (0 : Int32)), (.ref b1_), (.int (0 : Int32)), (.ref a)] (fun tT kK => ?_) ?_
  · refine XS.astoreN X1_.here hx rfl (hC e19_0.2.2.1) rfl rfl (l' := ll2) rfl ?_
    refine XS.aloadN X1_.here hx rfl (hC e19_0.2.2.2) rfl rfl ?_
    refine XS.iloadN X1_.here hx rfl (hC e19_5.1) rfl ?_
    refine XS.aloadN X1_.here hx rfl (hC e19_5.2.1) rfl rfl ?_
    refine XS.iconst X1_.here hx rfl (hC e19_5.2.2.1) ?_
    refine XS.iloadN X1_.here hx rfl (hC e19_5.2.2.2) rfl ?_
    exact kK
  refine jc X1_ hx hZ (y := jy7) hown (jk hw 119 rfl) (jk hw 120 rfl) (jk hw 117 rfl) (jk hw 121 rfl) (rm_cmp1 lL Z a0 hw [] a b1_ z f (fun _ => 0) h1_ n0 (Nat.le_trans Z0 K1_.1) fc3_ Tb ge_b1_ ne2_ hp) e1_ own_pd5 [(.ref a), (.int (0 : Int32)), (.ref b1_), (.int (0 : Int32)), (.int z)] [] (hC d19_9) rfl rfl (by rw [hml]; rfl) (by decide) 0 (Nat.le_of_eq rfl) (by decide) (by decide) (by decide : 1 + 0 ≤ _) (by decide : 8 + 0 ≤ _) fun vv4_ T4_ L4_ X4_ hQ4_ => ?_
  obtain ⟨rfl, N4_q, p4__0, p4__1⟩ := hQ4_
  have N4_ := Fr.app N0 N4_q
  have K4_ := K1_.trans p4__0 (allS (Or.inr sz_b1_) all0)
  let ll3 : Array Slot := #[vR a, vI 0, vI z, vR b1_, vI z, vU]
  refine jg T4_ mM 58 ll3 [(.ref b1_)] (fun tT kK => ?_) ?_
  · refine XS.istore X4_.here hx rfl (hC e19_12.1) rfl (l' := ll3) rfl ?_
    refine XS.iload X4_.here hx rfl (hC e19_12.2.1) rfl ?_
    refine XS.iloadN X4_.here hx rfl (hC e19_12.2.2.1) rfl ?_
    refine XS.icmpYes X4_.here hx rfl (pc0 := 17) (pc' := 57) rfl (hC e19_12.2.2.2) rfl (teq (rfl : z = z)).1 (by decide) (by decide) ?_
    refine XS.aloadN X4_.here hx rfl (hC e19_57.1) rfl rfl ?_
    exact kK
  exact own_rr X4_ hx hlk hre rfl (Or.inr (Or.inr (Or.inr (Or.inr ⟨rfl, rfl, rfl⟩)))) (hC e19_57.2) rfl (by decide) (by decide) ⟨b1_, rfl, N4_, K4_, sz_b1_, p4__1⟩
theorem e21_0 : jD9 0 (.iload_n 1, 1) ∧ jD9 1 (.aload_n 0, 1) ∧ jD9 2 (.arraylength, 1) ∧ jD9 3 (.isub, 1) := by decide +kernel
theorem e21_4 : jD9 4 (.bipush 31, 2) ∧ jD9 6 (.iushr, 1) ∧ jD9 7 (.i2b, 1) ∧ jD9 8 (.ireturn, 1) := by decide +kernel
theorem own_ef_rm_cfa (mM : MethodId) (x0 : Addr) (x1 : Int32) : entryFrame mM #[(.ref x0), (.int x1)] 2 = mkF mM 0 #[.val (.ref x0), .val (.int x1)] [] := by first | (simp [entryFrame, mkF, argsToLocals, Value.category]; done) | rfl
def Q_rm_cfa (Z : State) (a : Addr) (z : Int32) (f : Int32 → Int32) (h0 : Heap) (n0 : Nat) (vV : Option Value) (hH : Heap) (lA : List Loc) : Prop := vV = some (.int (0 : Int32)) ∧ Fr n0 lA ∧ (hH = h0)
set_option maxRecDepth 65536 in
set_option maxHeartbeats 40000000 in
theorem rm_cfa (lL : Launch) (Z : State) (a0 : Array Value) (hw : own_H a0 Z) (ws : List Jvm.Cond) (a : Addr) (z : Int32) (f : Int32 → Int32) (h0 : Heap) (n0 : Nat) (Z0 : n0 ≤ h0.size) (Ta : own_T Z h0 a .byte z f) :
    own_Met lL jy9 (Jvm.Cond.code jy9 jdk_52_method_15_code 2 (some .byte) :: ws) jr0 #[(.ref a), (.int z)] Z h0 (Q_rm_cfa Z a z f h0 n0) := by
  refine own_begin (plainFor_of_name own_pn_java_lang_StringUTF16) (fun mM => own_ef_rm_cfa mM a z) fun pP eE sS mM below meth cC s₁ hx hby hml hZ hown hnm hre hlk X0 e0 => ?_
  have hC := @Jvm.hb _ _ hby
  have N0 := Fr.nil n0
  have K0 := Keep.refl h0 ([] : List Addr)
  refine jg s₁ mM 2 #[vR a, vI z] [(.ref a), (.int z)] (fun tT kK => ?_) ?_
  · refine XS.iloadN X0.here hx rfl (hC e21_0.1) rfl ?_
    refine XS.aloadN X0.here hx rfl (hC e21_0.2.1) rfl rfl ?_
    exact kK
  obtain ⟨cl1_, Ar1_, Sz1_, Nn1_, -⟩ := id Ta
  refine jg s₁ mM 8 #[vR a, vI z] [(.int ((((z - z).toUInt32 >>> ((31 : Int32) &&& 31).toUInt32).toInt32).toInt8.toInt32))] (fun tT kK => ?_) ?_
  · refine X0.arraylength hx (own_rw e0 Ar1_.1) (State.isArrayOf_alike hZ.alike Ar1_.2.1) (g := (mkF mM 2 #[vR a, vI z] [(.ref a), (.int z)])) rfl rfl (hC e21_0.2.2.1) _ ?_
    rw [len_of Sz1_ Nn1_]
    refine XS.isub X0.here hx rfl (hC e21_0.2.2.2) rfl ?_
    refine XS.bipush X0.here hx rfl (hC e21_4.1) ?_
    refine XS.iushr X0.here hx rfl (hC e21_4.2.1) rfl ?_
    refine XS.i2b X0.here hx rfl (hC e21_4.2.2.1) rfl ?_
    exact kK
  exact own_rN X0 hx hlk hre (by simp) (hC e21_4.2.2.2) e0 (by decide) (by decide) ⟨by rw [own_cfa]; rfl, N0, rfl⟩
theorem e11_0 : jD10 0 (.aload_n 0, 1) ∧ jD10 1 (.invokespecial 1, 3) ∧ jD10 4 (.iload_n 3, 1) ∧ jD10 5 (.ifCond .ne 22, 3) := by decide +kernel
theorem e11_27 : jD10 27 (.getstatic 38, 3) ∧ jD10 30 (.ifCond .eq 28, 3) ∧ jD10 33 (.aload_n 1, 1) ∧ jD10 34 (.iload_n 2, 1) := by decide +kernel
theorem e11_35 : jD10 35 (.iload_n 3, 1) ∧ jD10 36 (.invokestatic 177, 3) := by decide +kernel
theorem own_pd6 : parseMethodDescriptor "([CII)[B" = some ⟨[(.array .char), .int, .int], some (.array .byte)⟩ := by decide +kernel
theorem e11_39 : jD10 39 (.astore 5, 2) ∧ jD10 41 (.aload_n 0, 1) ∧ jD10 42 (.aload 5, 2) ∧ jD10 44 (.iload_n 3, 1) := by decide +kernel
theorem d11_45 : jD10 45 (.invokestatic 47, 3) := by decide +kernel
theorem own_pd7 : parseMethodDescriptor "([BI)B" = some ⟨[(.array .byte), .int], some .byte⟩ := by decide +kernel
theorem d11_48 : jD10 48 (.putfield 15, 3) := by decide +kernel
theorem js0 {Z : State} {a0 : Array Value} (hw : own_H a0 Z) : jQ0 Z ≠ jQ1 Z := slot_ne (Or.inr (jk hw 5 rfl)) (Or.inr (jk hw 6 rfl)) (by decide) (t := (.array .byte)) (t' := .byte) (by decide) (by decide)
theorem e11_51 : jD10 51 (.aload_n 0, 1) ∧ jD10 52 (.aload 5, 2) ∧ jD10 54 (.putfield 9, 3) ∧ jD10 57 (.return_, 1) := by decide +kernel
theorem own_ef_rm_str4 (mM : MethodId) (x0 : Addr) (x1 : Addr) (x2 : Int32) (x3 : Int32) : entryFrame mM #[(.ref x0), (.ref x1), (.int x2), (.int x3), .null] 6 = mkF mM 0 #[.val (.ref x0), .val (.ref x1), .val (.int x2), .val (.int x3), .val .null, .unset] [] := by first | (simp [entryFrame, mkF, argsToLocals, Value.category]; done) | rfl
def Q_rm_str4 (Z : State) (a : Addr) (c : Addr) (z : Int32) (f : Int32 → Int32) (cs : Int32) (h0 : Heap) (n0 : Nat) (vV : Option Value) (hH : Heap) (lA : List Loc) : Prop := ∃ b : Addr, vV = none ∧ Fr n0 lA ∧ (Keep h0 hH [a]) ∧ (h0.size ≤ b) ∧ (jE0 Z hH a) ∧ (jF1 Z hH a (.ref b)) ∧ (jF0 Z hH a (.int (0 : Int32))) ∧ (own_T Z hH b .byte z (fun j => (f j).toInt8.toInt32))
set_option maxRecDepth 65536 in
set_option maxHeartbeats 40000000 in
theorem rm_str4 (lL : Launch) (Z : State) (a0 : Array Value) (hw : own_H a0 Z) (ws : List Jvm.Cond) (a : Addr) (c : Addr) (z : Int32) (f : Int32 → Int32) (cs : Int32) (h0 : Heap) (n0 : Nat) (Z0 : n0 ≤ h0.size) (Oo : Old Z n0 h0) (Scs : Sta Z Z.heap "java/lang/String" "COMPACT_STRINGS" "Z" (.int cs)) (ncs : ¬ (cs = (0 : Int32))) (Ea : jE0 Z h0 a) (Fv : jF1 Z h0 a .null) (Fc : jF0 Z h0 a (.int (0 : Int32))) (ga : n0 ≤ a) (Tc : own_T Z h0 c .char z f) (hp : ∀ j : Int32, ¬ j < 0 ∧ j < z → 0 ≤ (f j).toInt ∧ (f j).toInt ≤ 255) (hcap : z.toNatClampNeg ≤ 8) (hnz : ¬ (z = (0 : Int32))) (nca : c ≠ a) :
    own_Met lL jy10 (Jvm.Cond.code jy10 jdk_42_method_149_code 6 none :: ws) jr6 #[(.ref a), (.ref c), (.int (0 : Int32)), (.int z), .null] Z h0 (Q_rm_str4 Z a c z f cs h0 n0) := by
  refine own_begin (plainFor_of_name own_pn_java_lang_String) (fun mM => own_ef_rm_str4 mM a c (0 : Int32) z) fun pP eE sS mM below meth cC s₁ hx hby hml hZ hown hnm hre hlk X0 e0 => ?_
  have hC := @Jvm.hb _ _ hby
  have N0 := Fr.nil n0
  have K0 := Keep.refl h0 [a]
  let ll1 : Array Slot := #[vR a, vR c, vI 0, vI z, vN, vU]
  refine jg s₁ mM 1 ll1 [(.ref a)] (fun tT kK => ?_) ?_
  · refine XS.aloadN X0.here hx rfl (hC e11_0.1) rfl rfl ?_
    exact kK
  obtain ⟨T1_, X1_, e1_, st1_⟩ := initO X0 hx hZ hown (jk hw 61 rfl) (jk hw 62 rfl) (jk hw 63 rfl) e0 (g := (mkF mM 1 ll1 [(.ref a)])) rfl (by rw [hml]; rfl) rfl (hC e11_0.2.1) (by decide) (W := 0) (by show 2 * 0 + _ ≤ _; exact Nat.le_of_eq rfl) (by decide)
  refine own_fin st1_ ?_
  refine jg T1_ mM 27 ll1 [] (fun tT kK => ?_) ?_
  · refine XS.iloadN X1_.here hx rfl (hC e11_0.2.2.1) rfl ?_
    refine XS.ifYes X1_.here hx rfl (pc0 := 5) (pc' := 27) rfl (hC e11_0.2.2.2) rfl ((if0 _ _).trans (feq (hnz : ¬ (z = (0 : Int32)))).2) (by decide) (by decide) ?_
    exact kK
  obtain ⟨T2_, X2_, e2_, st2_⟩ := getS2 X1_ hx hZ hown (host := "") (Or.inl (jk hw 25 rfl)) Via.refl e1_ (own_StaKeep Oo Scs) (g := (mkF mM 27 ll1 [])) rfl (hC e11_27.1)
  refine own_fin st2_ ?_
  refine jg T2_ mM 36 ll1 [(.int z), (.int (0 : Int32)), (.ref c)] (fun tT kK => ?_) ?_
  · refine XS.ifNo X2_.here hx rfl (hC e11_27.2.1) rfl ((if0 _ _).trans (feq (ncs : ¬ (cs = (0 : Int32)))).1) ?_
    refine XS.aloadN X2_.here hx rfl (hC e11_27.2.2.1) rfl rfl ?_
    refine XS.iloadN X2_.here hx rfl (hC e11_27.2.2.2) rfl ?_
    refine XS.iloadN X2_.here hx rfl (hC e11_35.1) rfl ?_
    exact kK
  refine jc X2_ hx hZ (y := jy8) hown (jk hw 115 rfl) (jk hw 116 rfl) (jk hw 117 rfl) (jk hw 118 rfl) (rm_cmp2 lL Z a0 hw [] c z f h0 n0 (Nat.le_trans Z0 K0.1) Tc hp hcap) e2_ own_pd6 [(.ref c), (.int (0 : Int32)), (.int z)] [] (hC e11_35.2) rfl rfl (by rw [hml]; rfl) (by decide) 0 (Nat.le_of_eq rfl) (by decide) (by decide) (by decide : 0 + 1 ≤ _) (by decide : 0 + 8 ≤ _) fun vv3_ T3_ L3_ X3_ hQ3_ => ?_
  obtain ⟨b_3_, rfl, N3_q, p3__0, p3__1, p3__2⟩ := hQ3_
  have N3_ := Fr.app N0 N3_q
  have sz_b_3_ : h0.size ≤ b_3_ := Nat.le_trans K0.1 p3__1
  have ne4_ : a ≠ b_3_ := Nat.ne_of_lt (Nat.lt_of_lt_of_le Ea.lt p3__1)
  have fc7_ := Ea.keep p3__0
  have fc8_ := Fv.keep p3__0 nin0
  have fc9_ := Fc.keep p3__0 nin0
  have K3_ := K0.trans p3__0 all0
  let ll2 : Array Slot := #[vR a, vR c, vI 0, vI z, vN, vR b_3_]
  refine jg T3_ mM 45 ll2 [(.int z), (.ref b_3_), (.ref a)] (fun tT kK => ?_) ?_
  · refine XS.astore X3_.here hx rfl (hC e11_39.1) rfl rfl (l' := ll2) rfl ?_
    refine XS.aloadN X3_.here hx rfl (hC e11_39.2.1) rfl rfl ?_
    refine XS.aload X3_.here hx rfl (hC e11_39.2.2.1) rfl rfl ?_
    refine XS.iloadN X3_.here hx rfl (hC e11_39.2.2.2) rfl ?_
    exact kK
  refine jc X3_ hx hZ (y := jy9) hown (jk hw 122 rfl) (jk hw 123 rfl) (jk hw 117 rfl) (jk hw 124 rfl) (rm_cfa lL Z a0 hw [] b_3_ z (fun j => (f j).toInt8.toInt32) T3_.heap n0 (Nat.le_trans Z0 K3_.1) p3__2) rfl own_pd7 [(.ref b_3_), (.int z)] [(.ref a)] (hC d11_45) rfl rfl (by rw [hml]; rfl) (by decide) 1 (Nat.le_of_eq rfl) (by decide) (by decide) (by decide : 1 + 0 ≤ _) (by decide : 8 + 0 ≤ _) fun vv11_ T11_ L11_ X11_ hQ11_ => ?_
  obtain ⟨rfl, N11_q, p11__0⟩ := hQ11_
  have N11_ := Fr.app N3_ N11_q
  obtain ⟨T12_, h12_, X12_, e12_, W12_, st12_⟩ := putFN X11_ hx hZ hown (jk hw 26 rfl) Via.refl p11__0 fc9_ fc7_ (Or.inr ⟨(jk hw 6 rfl), rfl, hnm⟩) (jk hw 3 rfl) (ty := .byte) (v' := (.int (0 : Int32))) (by decide) rfl (by first | exact fits_nar_byte _ | rfl) (g := (mkF mM 48 ll2 [(.int (0 : Int32)), (.ref a)])) rfl rfl (hC d11_48)
  have Fw12_ := fc9_.same W12_
  have fc14_ := fc7_.wr W12_
  have fc15_ := fc8_.other W12_ (Or.inr (js0 hw))
  have fc17_ := p3__2.other W12_ (Ne.symm ne4_)
  have K12_ := K3_.wr W12_ (Or.inl (List.mem_of_getElem? (i := 0) rfl))
  have N12_ := Fr.snoc X12_ N11_ ga
  refine own_fin st12_ ?_
  refine jg T12_ mM 54 ll2 [(.ref b_3_), (.ref a)] (fun tT kK => ?_) ?_
  · refine XS.aloadN X12_.here hx rfl (hC e11_51.1) rfl rfl ?_
    refine XS.aload X12_.here hx rfl (hC e11_51.2.1) rfl rfl ?_
    exact kK
  obtain ⟨T18_, h18_, X18_, e18_, W18_, st18_⟩ := putF X12_ hx hZ hown (host := "") (Or.inl (jk hw 19 rfl)) Via.refl e12_ fc15_ fc14_ (Or.inr ⟨(jk hw 5 rfl), rfl, hnm⟩) (jk hw 3 rfl) (ty := (.array .byte)) (by decide) rfl rfl (g := (mkF mM 54 ll2 [(.ref b_3_), (.ref a)])) rfl rfl (hC e11_51.2.2.1)
  have Fw18_ := fc15_.same W18_
  have fc20_ := fc14_.wr W18_
  have fc21_ := Fw12_.other W18_ (Or.inr (js0 hw).symm)
  have fc23_ := fc17_.other W18_ (Ne.symm ne4_)
  have K18_ := K12_.wr W18_ (Or.inl (List.mem_of_getElem? (i := 0) rfl))
  have N18_ := Fr.snoc X18_ N12_ ga
  refine own_fin st18_ ?_
  exact own_rV X18_ hx hlk hre (hC e11_51.2.2.2) e18_ (by decide) (by decide) ⟨b_3_, rfl, N18_, K18_, sz_b_3_, fc20_, Fw18_, fc21_, fc23_⟩
theorem e10_0 : jD11 0 (.aload_n 0, 1) ∧ jD11 1 (.aload_n 1, 1) ∧ jD11 2 (.iconst 0, 1) ∧ jD11 3 (.aload_n 1, 1) := by decide +kernel
theorem e10_4 : jD11 4 (.arraylength, 1) ∧ jD11 5 (.aconst_null, 1) ∧ jD11 6 (.invokespecial 27, 3) := by decide +kernel
theorem own_pd8 : parseMethodDescriptor "([CIILjava/lang/Void;)V" = some ⟨[(.array .char), .int, .int, (.object "java/lang/Void")], none⟩ := by decide +kernel
theorem d10_9 : jD11 9 (.return_, 1) := by decide +kernel
theorem own_ef_rm_str (mM : MethodId) (x0 : Addr) (x1 : Addr) : entryFrame mM #[(.ref x0), (.ref x1)] 2 = mkF mM 0 #[.val (.ref x0), .val (.ref x1)] [] := by first | (simp [entryFrame, mkF, argsToLocals, Value.category]; done) | rfl
def Q_rm_str (Z : State) (a : Addr) (c : Addr) (z : Int32) (f : Int32 → Int32) (cs : Int32) (h0 : Heap) (n0 : Nat) (vV : Option Value) (hH : Heap) (lA : List Loc) : Prop := ∃ b : Addr, vV = none ∧ Fr n0 lA ∧ (Keep h0 hH [a]) ∧ (h0.size ≤ b) ∧ (jE0 Z hH a) ∧ (jF1 Z hH a (.ref b)) ∧ (jF0 Z hH a (.int (0 : Int32))) ∧ (own_T Z hH b .byte z (fun j => (f j).toInt8.toInt32))
set_option maxRecDepth 65536 in
set_option maxHeartbeats 40000000 in
theorem rm_str (lL : Launch) (Z : State) (a0 : Array Value) (hw : own_H a0 Z) (ws : List Jvm.Cond) (a : Addr) (c : Addr) (z : Int32) (f : Int32 → Int32) (cs : Int32) (h0 : Heap) (n0 : Nat) (Z0 : n0 ≤ h0.size) (Oo : Old Z n0 h0) (Scs : Sta Z Z.heap "java/lang/String" "COMPACT_STRINGS" "Z" (.int cs)) (ncs : ¬ (cs = (0 : Int32))) (Ea : jE0 Z h0 a) (Fv : jF1 Z h0 a .null) (Fc : jF0 Z h0 a (.int (0 : Int32))) (ga : n0 ≤ a) (Tc : own_T Z h0 c .char z f) (hp : ∀ j : Int32, ¬ j < 0 ∧ j < z → 0 ≤ (f j).toInt ∧ (f j).toInt ≤ 255) (hcap : z.toNatClampNeg ≤ 8) (hnz : ¬ (z = (0 : Int32))) (nca : c ≠ a) :
    own_Met lL jy11 (Jvm.Cond.code jy11 jdk_42_method_3_code 2 none :: ws) jr7 #[(.ref a), (.ref c)] Z h0 (Q_rm_str Z a c z f cs h0 n0) := by
  refine own_begin (plainFor_of_name own_pn_java_lang_String) (fun mM => own_ef_rm_str mM a c) fun pP eE sS mM below meth cC s₁ hx hby hml hZ hown hnm hre hlk X0 e0 => ?_
  have hC := @Jvm.hb _ _ hby
  have N0 := Fr.nil n0
  have K0 := Keep.refl h0 [a]
  refine jg s₁ mM 4 #[vR a, vR c] [(.ref c), (.int (0 : Int32)), (.ref c), (.ref a)] (fun tT kK => ?_) ?_
  · refine XS.aloadN X0.here hx rfl (hC e10_0.1) rfl rfl ?_
    refine XS.aloadN X0.here hx rfl (hC e10_0.2.1) rfl rfl ?_
    refine XS.iconst X0.here hx rfl (hC e10_0.2.2.1) ?_
    refine XS.aloadN X0.here hx rfl (hC e10_0.2.2.2) rfl rfl ?_
    exact kK
  obtain ⟨cl1_, Ar1_, Sz1_, Nn1_, -⟩ := id Tc
  refine jg s₁ mM 6 #[vR a, vR c] [.null, (.int z), (.int (0 : Int32)), (.ref c), (.ref a)] (fun tT kK => ?_) ?_
  · refine X0.arraylength hx (own_rw e0 Ar1_.1) (State.isArrayOf_alike hZ.alike Ar1_.2.1) (g := (mkF mM 4 #[vR a, vR c] [(.ref c), (.int (0 : Int32)), (.ref c), (.ref a)])) rfl rfl (hC e10_4.1) _ ?_
    rw [len_of Sz1_ Nn1_]
    refine XS.aconstNull X0.here hx rfl (hC e10_4.2.1) ?_
    exact kK
  refine own_sb X0 hx hZ (y := jy10) rfl hown (jk hw 57 rfl) (jk hw 58 rfl) (jk hw 60 rfl) (jk hw 2 rfl) (rm_str4 lL Z a0 hw [] a c z f cs h0 n0 (Nat.le_trans Z0 K0.1) Oo Scs ncs Ea Fv Fc ga Tc hp hcap hnz nca) (a := a) e0 own_pd8 [(.ref c), (.int (0 : Int32)), (.int z), .null] [] (hC e10_4.2.2) rfl rfl (by rw [hml]; rfl) (by decide) 0 (Nat.le_of_eq rfl) (by decide) (by decide) (by decide : 0 + 1 ≤ _) (by decide : 0 + 8 ≤ _) fun vv2_ T2_ L2_ X2_ hQ2_ => ?_
  obtain ⟨b_2_, rfl, N2_q, p2__0, p2__1, p2__2, p2__3, p2__4, p2__5⟩ := hQ2_
  have N2_ := Fr.app N0 N2_q
  have sz_b_2_ : h0.size ≤ b_2_ := Nat.le_trans K0.1 p2__1
  have K2_ := K0.trans p2__0 (allS (Or.inl (List.mem_of_getElem? (i := 0) rfl)) all0)
  exact own_rV X2_ hx hlk hre (hC d10_9) rfl (by decide) (by decide) ⟨b_2_, rfl, N2_, K2_, sz_b_2_, p2__2, p2__3, p2__4, p2__5⟩
def own_li (xs : List Int32) : Int32 → Int32 := fun j => xs.getD j.toNatClampNeg 0
theorem own_at_T {Z : State} {h : Heap} {b : Addr} {k : ClassId} {z : Int32} {xs : List Int32} (F : Arv Z h b k .byte z (xs.map Value.int) (.int (0 : Int32))) : own_T Z h b .byte z (own_li xs) := by
  obtain ⟨c, A, -, S, N, H, -⟩ := F
  refine ⟨c, A, S, N, fun j hj => ?_⟩
  have q := H j.toNatClampNeg (Nat.lt_of_not_le fun y => hj (Or.inr y))
  rw [q]
  simp only [own_li, List.getD_eq_getElem?_getD, List.getElem?_map]
  cases xs[j.toNatClampNeg]? <;> rfl
theorem own_T.safe {Z : State} {h : Heap} {a : Addr} {ty : FieldType} {z : Int32} {f : Int32 → Int32} {EL : List (String × Nat)} {vm : Vm} (hal : Z.vm.Alike vm) (F : own_T Z h a ty z f) (ht : ty ≠ .byte) : Safe Z EL vm h a := by
  obtain ⟨c, A, -⟩ := F
  exact Safe.arr hal A ht
theorem own_backSY {pP : Program} {lL : Launch} {eE : Env} {R : Room} {sS : State} {args : Array Value} {below : List Frame} {Z : State} {a0 : Array Value} {EL : List (String × Nat)} {h : Heap} {vm0 : Vm} {y : MethodName} {bytes : ByteArray} {maxL : Nat} {ret : Option FieldType} {rm : Room} {len W : Nat} {as' : Array Value} {Q : Option Value → Heap → List Loc → Prop} {ys : List Addr}
    (hM : MetFree lL y (head1 [Jvm.Cond.code y bytes maxL ret] rm) (fun a U => a = as' ∧ Z.Warmed39 U.vm ∧ U.heap = h ∧ CHv Z EL U.vm h ∧ ∀ x ∈ ys, Safe Z EL U.vm h x) (fun _ _ _ _ _ => True) (fun _ U o U' => ∃ v L, o = .returned v ∧ Q v U'.heap L ∧ CHr Z EL U.vm U.heap U'.vm U'.heap ∧ ReturnedEndW U o U' L rm.cells rm.slots))
    (hZ : Z.Warmed39 vm0) (wc : (Jvm.Cond.code y bytes maxL ret).before a0 Z = true) (wz : (Jvm.Cond.initialized y.cls).before a0 Z = true) (hf : rm.frames + 1 ≤ R.frames) (hl : W + (maxL + 11) + rm.locals ≤ R.locals) (hEL : EW Z a0 EL) (H : CHv Z EL vm0 h) (hy : ∀ x ∈ ys, x < h.size ∧ Safe Z EL vm0 h x) :
    BackS lL R pP eE below (sS.setVm vm0) args y len W (fun A a => a = as' ∧ A.U.heap = h ∧ A.cells + rm.cells ≤ R.cells ∧ A.slots + rm.slots ≤ R.slots)
      (fun A _ v B => ∃ L, Q v B.U.heap L ∧ B.locs = A.locs ++ L ∧ B.cells = A.cells + rm.cells ∧ B.slots = A.slots + rm.slots ∧ CHr Z EL vm0 h B.U.vm B.U.heap) :=
  BackS.of_freeW (bytes := bytes) (maxL := maxL) (ret := ret) (E := fun _ first o t L k n => k = rm.cells ∧ n = rm.slots ∧ (∃ v, o = .returned v ∧ Q v t.heap L) ∧ CHr Z EL first.vm first.heap t.vm t.heap) hM hf hl
    (fun m meth c A a Y hp => have hU : Z.Warmed39 A.U.vm := wtrans (s := sS.setVm vm0) hZ Y.warmed
      ⟨by show (Cond.and _ .tt).before a A.U = true; rw [Cond.before_and, mv hU wc]; rfl, mv hU wc, mv hU wz, hp.2.2.1, hp.2.2.2⟩)
    (fun m meth c A a g mk Y hp => ⟨hp.1, wtrans (s := sS.setVm vm0) hZ Y.warmed, hp.2.1, (CHv.at Y hZ hEL H).1, fun x hx => (CHv.at Y hZ hEL H).safe (hy x hx).1 (hy x hx).2⟩) (fun _ _ _ _ _ _ _ _ _ => trivial)
    (fun _ _ _ _ ⟨v, L, h1, h2, h3, h4⟩ => ⟨L, _, _, h4, rfl, rfl, ⟨v, h1, h2⟩, h3⟩)
    (fun m meth c A a g mk v t L k n Y hp _ _ ⟨e1, e2, ⟨v', e3, e4⟩, e5⟩ => by
      cases e3; subst e1 e2
      refine ⟨L, e4, rfl, rfl, rfl, (CHv.at Y hZ hEL H).trans ?_⟩
      rw [← hp.2.1]; exact e5)
theorem own_y0 {h : Heap} {P : Addr → Prop} : ∀ x ∈ ([] : List Addr), x < h.size ∧ P x := fun _ q => nomatch q
theorem own_yS {h : Heap} {P : Addr → Prop} {a : Addr} {ws : List Addr} (h1 : a < h.size) (h2 : P a) (r : ∀ x ∈ ws, x < h.size ∧ P x) : ∀ x ∈ a :: ws, x < h.size ∧ P x := fun x q => by
  rcases List.mem_cons.mp q with rfl | q
  · exact ⟨h1, h2⟩
  · exact r x q
theorem own_hk {T : State} {h : Heap} {k : Nat} (e : T.heap = h) (q : k ≤ h.size) : k ≤ T.heap.size := by rw [e]; exact q
theorem own_CHe {Z : State} {EL : List (String × Nat)} {vm vm1 : Vm} {g h : Heap} {S T : State} (e1 : S.heap = g) (e2 : T.heap = h) (C : CHr Z EL vm g vm1 h) : CHr Z EL vm S.heap vm1 T.heap := by rw [e1, e2]; exact C
def own_EL : List (String × Nat) := [("com/example/needlework/needlework/AlgorithmNamedPinLaw", 8), ("java/lang/String", 7), ("com/example/needlework/needlework/AlgorithmNamedPinLaw", 10), ("com/example/needlework/needlework/AlgorithmNamedPinLaw", 12), ("com/example/needlework/needlework/AlgorithmNamedPinLaw", 14)]
set_option maxRecDepth 65536 in
theorem own_EW {Z : State} {a0 : Array Value} (hw : own_H a0 Z) : EW Z a0 own_EL := (EW.cons (text := "brute") (jk hw 1 rfl) (by decide) (EW.cons (text := "") (jk hw 64 rfl) (by decide) (EW.cons (text := "kmp") (jk hw 74 rfl) (by decide) (EW.cons (text := "bm") (jk hw 75 rfl) (by decide) (EW.cons (text := "two-way") (jk hw 76 rfl) (by decide) EW.nil)))))
theorem own_wS {Z : State} {a0 : Array Value} (hw : own_H a0 Z) : ∀ a ∈ Bundle.stringAtoms, a.before a0 Z = true := by
  intro a ha
  simp only [Bundle.stringAtoms, List.mem_cons, List.not_mem_nil, or_false] at ha
  rcases ha with rfl | rfl | rfl | rfl | rfl | rfl | rfl
  · exact (jk hw 2 rfl)
  · exact (jk hw 3 rfl)
  · exact (jk hw 4 rfl)
  · exact (jk hw 5 rfl)
  · exact (jk hw 6 rfl)
  · exact (jk hw 7 rfl)
  · exact (jk hw 8 rfl)
def own_eqn (f g : Int32 → Int32) : Nat → Nat → Int32
  | 0, _ => 1
  | k + 1, i => if f (Int32.ofNat i) = g (Int32.ofNat i) then own_eqn f g k (i + 1) else 0
def own_eq (z : Int32) (f : Int32 → Int32) (z' : Int32) (g : Int32 → Int32) : Int32 := if z = z' then own_eqn f g z.toNatClampNeg 0 else 0
theorem own_eqns (f g : Int32 → Int32) : ∀ k i, own_eqn f g k i = own_eqn g f k i
  | 0, _ => rfl
  | k + 1, i => by
    unfold own_eqn
    by_cases h : f (Int32.ofNat i) = g (Int32.ofNat i)
    · rw [if_pos h, if_pos h.symm]; exact own_eqns f g k (i + 1)
    · rw [if_neg h, if_neg (fun q => h q.symm)]
theorem own_eqs (z : Int32) (f : Int32 → Int32) (z' : Int32) (g : Int32 → Int32) : own_eq z f z' g = own_eq z' g z f := by
  unfold own_eq
  by_cases h : z = z'
  · rw [if_pos h, if_pos h.symm, h]; exact own_eqns f g _ _
  · rw [if_neg h, if_neg (fun q => h q.symm)]
theorem own_eqy {f g : Int32 → Int32} {r : Int32} {k i : Nat} (h : own_eqn f g (k + 1) i = r) (e : f (Int32.ofNat i) = g (Int32.ofNat i)) : own_eqn f g k (i + 1) = r := by rw [← h]; exact (if_pos e).symm
theorem own_eqx {f g : Int32 → Int32} {r : Int32} {k i : Nat} (h : own_eqn f g (k + 1) i = r) (e : ¬ f (Int32.ofNat i) = g (Int32.ofNat i)) : r = 0 := by rw [← h]; exact if_neg e
theorem own_eq01 (z : Int32) (f : Int32 → Int32) (z' : Int32) (g : Int32 → Int32) : own_eq z f z' g = 0 ∨ own_eq z f z' g = 1 := by
  unfold own_eq
  by_cases h : z = z'
  · rw [if_pos h]
    have : ∀ k i, own_eqn f g k i = 0 ∨ own_eqn f g k i = 1 := by
      intro k
      induction k with
      | zero => intro i; exact Or.inr rfl
      | succ k ih =>
        intro i
        unfold own_eqn
        by_cases q : f (Int32.ofNat i) = g (Int32.ofNat i)
        · rw [if_pos q]; exact ih _
        · rw [if_neg q]; exact Or.inl rfl
    exact this _ _
  · rw [if_neg h]; exact Or.inl rfl
theorem own_eqself {Z : State} {h : Heap} {a b t t2 : Addr} {z z2 : Int32} {f g : Int32 → Int32} (hab : a = b) (F1 : jF1 Z h a (.ref t)) (F2 : jF1 Z h b (.ref t2)) (T1 : own_T Z h t .byte z f) (T2 : own_T Z h t2 .byte z2 g) : own_eq z f z2 g = 1 := by
  subst hab
  obtain ⟨c1, _, _, _, _, h1, h2, -, -, -, -, h7⟩ := F1
  obtain ⟨c2, _, _, _, _, g1, g2, -, -, -, -, g7⟩ := F2
  cases h1.symm.trans g1
  cases h2.symm.trans g2
  have e := Value.ref.inj (Option.some.inj (h7.symm.trans g7))
  subst e
  obtain ⟨c, A, S, N, H⟩ := T1
  obtain ⟨c', A', S', N', H'⟩ := T2
  cases A.1.symm.trans A'.1
  have ez : z = z2 := by
    apply Int32.toInt_inj.mp
    rw [nat_of N, nat_of N', ← S, ← S']
  subst ez
  unfold own_eq
  rw [if_pos rfl]
  have key : ∀ k i, i + k ≤ z.toNatClampNeg → own_eqn f g k i = 1 := by
    intro k
    induction k with
    | zero => intro i _; rfl
    | succ k ih =>
      intro i hi
      have hin : ¬ (Int32.ofNat i < 0 ∨ c.slots.size ≤ (Int32.ofNat i).toNatClampNeg) := inb_of S (own_inz N (by omega))
      have e : f (Int32.ofNat i) = g (Int32.ofNat i) := Value.int.inj (Option.some.inj ((H _ hin).symm.trans (H' _ hin)))
      unfold own_eqn
      rw [if_pos e]
      exact ih (i + 1) (by omega)
  exact key _ 0 (by omega)
theorem own_upB {f : Int32 → Int32} {i x : Int32} (hf : ∀ j, 0 ≤ (f j).toInt ∧ (f j).toInt ≤ 255) (hx : 0 ≤ x.toInt ∧ x.toInt ≤ 255) : ∀ j, 0 ≤ (own_up f i x j).toInt ∧ (own_up f i x j).toInt ≤ 255 := fun j => by
  unfold own_up; split
  · exact hx
  · exact hf j
theorem own_z0 : ∀ j : Int32, 0 ≤ ((fun _ => (0 : Int32)) j : Int32).toInt ∧ ((fun _ => (0 : Int32)) j : Int32).toInt ≤ 255 := fun _ => (by decide : 0 ≤ (0 : Int32).toInt ∧ (0 : Int32).toInt ≤ 255)
theorem own_ncb {x : Int32} (h : 0 ≤ x.toInt ∧ x.toInt ≤ 255) : 0 ≤ (nar .char x).toInt ∧ (nar .char x).toInt ≤ 255 := by rw [own_nch h.1 (by omega)]; exact h
theorem own_lch (x : Int64) : 0 ≤ (((x &&& (255 : Int64)).toInt32).toUInt32.toUInt16.toUInt32.toInt32).toInt ∧ (((x &&& (255 : Int64)).toInt32).toUInt32.toUInt16.toUInt32.toInt32).toInt ≤ 255 := by
  have m := c_maskL x (255 : Int64) 8 (by decide) (by decide)
  have a := c_l2i (x &&& (255 : Int64))
  have r := rng32 ((x &&& (255 : Int64)).toInt32)
  have e : ((x &&& (255 : Int64)).toInt32).toInt = x.toInt % 256 := by
    have m2 : (x &&& (255 : Int64)).toInt = x.toInt % 256 := m
    omega
  rw [own_i2c (by omega) (by omega)]
  omega
theorem own_chb2 (x : Int32) : 0 ≤ (own_ch x).toInt ∧ (own_ch x).toInt ≤ 255 := own_chb x
theorem own_cloneV {p : Program} {l : Launch} {e : Env} {R : Room} {s : State} {m : MethodId} {args : Array Value} {below : List Frame} {meth : Method} {c : Code} {T : State} {locs : List Loc} {cells slots : Nat} {Z : State} {h : Heap} {a : Addr} {ty : FieldType} (X : Stand p l e R s m args below meth c T locs cells slots) (hx : p.tables.exec = Jvm.exec) (hZ : Z.Warmed39 s.vm) {a0 : Array Value} {own ad : String} {index : Nat} (hown : s.vm.findClass own = some m.cls)
    (w1 : (Jvm.Cond.methodLink own index ⟨ad, "clone", "()Ljava/lang/Object;"⟩).before a0 Z = true) (w2 : (Jvm.Cond.sameMethod ad "java/lang/Object" "clone" "()Ljava/lang/Object;").before a0 Z = true) (w3 : (Jvm.Cond.native ⟨"java/lang/Object", "clone", "()Ljava/lang/Object;"⟩).before a0 Z = true)
    (w4 : (Jvm.Cond.instanceMethod ⟨"java/lang/Object", "clone", "()Ljava/lang/Object;"⟩).before a0 Z = true) (w5 : (Jvm.Cond.selects ad ⟨ad, "clone", "()Ljava/lang/Object;"⟩ ⟨"java/lang/Object", "clone", "()Ljava/lang/Object;"⟩).before a0 Z = true) (w6 : (Jvm.Cond.castable ad "java/lang/Cloneable").before a0 Z = true)
    (eT : T.heap = h) {k : ClassId} {z : Int32} {vs : List Value} {dv : Value} (F : Arv Z h a k ty z vs dv) (E : Exa Z h a ad) {g : JFrame} (hg : g.method = m) (hsize : g.locals.size = c.maxLocals) {rest : List Value} (hst : g.stack = .ref a :: rest) (hd : decode c.code g.pc = .ok (.invokevirtual index, 3))
    (hf : 1 ≤ R.frames) {W cap : Nat} (hW : 2 * g.monitorRoom + (rest.map fun v => v.category).sum ≤ W) (hl : W + 14 ≤ R.locals) (hcap : z.toNatClampNeg ≤ cap) (hc : cells + 1 ≤ R.cells) (hsl : slots + cap ≤ R.slots) :
    ∃ T' h', Stand p l e R s m args below meth c T' locs (cells + 1) (slots + cap) ∧ T'.heap = h' ∧ Ext h h' ∧ Arv Z h' h.size k ty z vs dv ∧ Exa Z h' h.size ad ∧
      ∀ target, Steps p.tables e below (T'.setTop { g with pc := g.pc + 3, stack := .ref h.size :: rest }) target → Steps p.tables e below (T.setTop g) target := by
  obtain ⟨cl, A, q1, S, q3, H, G⟩ := F
  have FC : FitC Z cl := fitC_of A fun i hi v hv => by rw [H i hi] at hv; cases hv; exact G i hi
  obtain ⟨T', h', X', e', ex, A', E', st⟩ := cloneA X hx hZ hown w1 w2 w3 w4 w5 w6 eT A E FC hg hsize hst hd hf hW hl (by rw [S]; exact hcap) hc hsl
  exact ⟨T', h', X', e', ex, ⟨cloneOf cl, A', q1, S, q3, H, G⟩, E', st⟩
theorem e14_9 : jD12 9 (.iload_n 2, 1) ∧ jD12 10 (.aload_n 0, 1) ∧ jD12 11 (.arraylength, 1) ∧ jD12 12 (.if_icmp .ge 20, 3) := by decide +kernel
theorem e14_15 : jD12 15 (.aload_n 0, 1) ∧ jD12 16 (.iload_n 2, 1) ∧ jD12 17 (.baload, 1) ∧ jD12 18 (.aload_n 1, 1) := by decide +kernel
theorem e14_19 : jD12 19 (.iload_n 2, 1) ∧ jD12 20 (.baload, 1) ∧ jD12 21 (.if_icmp .eq 5, 3) ∧ jD12 26 (.iinc 2 1, 3) := by decide +kernel
theorem d14_29 : jD12 29 (.goto (-20), 3) := by decide +kernel
set_option maxRecDepth 65536 in
set_option maxHeartbeats 40000000 in
theorem own_lpe {pP : Program} {lL : Launch} {eE : Env} {R : Room} {sS : State} {mM : MethodId} {args : Array Value} {below : List Frame} {meth : Method} {cC : Code} {cells slots : Nat} {PP : State → Outcome → Prop} (Z : State) (a0 : Array Value) (hw : own_H a0 Z) (t : Addr) (t2 : Addr) (z : Int32) (f : Int32 → Int32) (z2 : Int32) (g : Int32 → Int32) (r : Int32) (h0 : Heap) (n0 : Nat) (Z0 : n0 ≤ h0.size) (Tt : own_T Z h0 t .byte z f) (T2 : own_T Z h0 t2 .byte z2 g) (hzz : z = z2) (hx : pP.tables.exec = Jvm.exec) (hZ : Z.Warmed39 sS.vm) (hby : cC.code = jdk_43_method_13_code) (hml : cC.maxLocals = 3) (hown : sS.vm.findClass "java/lang/StringLatin1" = some mM.cls)
    (kont0 : ∀ (Th : State) (hh : Heap) (Lh : List Loc), Stand pP lL eE R sS mM args below meth cC Th Lh cells slots → Th.heap = hh → Fr n0 Lh → Keep h0 hh ([] : List Addr) → (hh = h0) → (r = (1 : Int32)) → own_Fin pP eE below PP (Th.setTop (mkF mM 32 #[.val (.ref t), .val (.ref t2), .val (.int (Int32.ofNat z.toNatClampNeg))] [])))
    (kont1 : ∀ (j : Nat) (Th : State) (hh : Heap) (Lh : List Loc), Stand pP lL eE R sS mM args below meth cC Th Lh cells slots → Th.heap = hh → Fr n0 Lh → Keep h0 hh ([] : List Addr) → (hh = h0) → (r = (0 : Int32)) → own_Fin pP eE below PP (Th.setTop (mkF mM 24 #[.val (.ref t), .val (.ref t2), .val (.int (Int32.ofNat j))] []))) :
    ∀ (k i : Nat) (Th : State) (hh : Heap) (Lh : List Loc), i + k = z.toNatClampNeg → Stand pP lL eE R sS mM args below meth cC Th Lh cells slots → Th.heap = hh → Fr n0 Lh → Keep h0 hh ([] : List Addr) → (hh = h0) → (own_eqn f g k i = r) → own_Fin pP eE below PP (Th.setTop (mkF mM 9 #[.val (.ref t), .val (.ref t2), .val (.int (Int32.ofNat i))] [])) := by
  have hC := @Jvm.hb _ _ hby
  intro k
  induction k with
  | zero =>
      intro i  Th hh Lh hik Xh eh Nh Kh Ph Pi
      rw [Ph] at eh Kh
      have hz := Tt.nn
      obtain rfl : i = z.toNatClampNeg := by omega
      let ll1 : Array Slot := #[vR t, vR t2, vI (Int32.ofNat z.toNatClampNeg)]
      refine jg Th mM 11 ll1 [(.ref t), (.int (Int32.ofNat z.toNatClampNeg))] (fun tT kK => ?_) ?_
      · refine XS.iloadN Xh.here hx rfl (hC e14_9.1) rfl ?_
        refine XS.aloadN Xh.here hx rfl (hC e14_9.2.1) rfl rfl ?_
        exact kK
      obtain ⟨cl1_, Ar1_, Sz1_, Nn1_, -⟩ := id Tt
      refine jg Th mM 32 ll1 [] (fun tT kK => ?_) ?_
      · refine Xh.arraylength hx (own_rw eh Ar1_.1) (State.isArrayOf_alike hZ.alike Ar1_.2.1) (g := (mkF mM 11 ll1 [(.ref t), (.int (Int32.ofNat z.toNatClampNeg))])) rfl rfl (hC e14_9.2.2.1) _ ?_
        rw [len_of Sz1_ Nn1_]
        refine XS.icmpYes Xh.here hx rfl (pc0 := 12) (pc' := 32) rfl (hC e14_9.2.2.2) rfl (flt (own_nlt hz : ¬ ((Int32.ofNat z.toNatClampNeg) < z))).2.1 (by decide) (by decide) ?_
        exact kK
      exact kont0  _ _ _ Xh eh Nh Kh rfl Pi.symm
  | succ k ih =>
      intro i  Th hh Lh hik Xh eh Nh Kh Ph Pi
      rw [Ph] at eh Kh
      have hz := Tt.nn
      have hi : i < z.toNatClampNeg := by omega
      let ll2 : Array Slot := #[vR t, vR t2, vI (Int32.ofNat i)]
      refine jg Th mM 11 ll2 [(.ref t), (.int (Int32.ofNat i))] (fun tT kK => ?_) ?_
      · refine XS.iloadN Xh.here hx rfl (hC e14_9.1) rfl ?_
        refine XS.aloadN Xh.here hx rfl (hC e14_9.2.1) rfl rfl ?_
        exact kK
      obtain ⟨cl2_, Ar2_, Sz2_, Nn2_, -⟩ := id Tt
      refine jg Th mM 17 ll2 [(.int (Int32.ofNat i)), (.ref t)] (fun tT kK => ?_) ?_
      · refine Xh.arraylength hx (own_rw eh Ar2_.1) (State.isArrayOf_alike hZ.alike Ar2_.2.1) (g := (mkF mM 11 ll2 [(.ref t), (.int (Int32.ofNat i))])) rfl rfl (hC e14_9.2.2.1) _ ?_
        rw [len_of Sz2_ Nn2_]
        refine XS.icmpNo Xh.here hx rfl (hC e14_9.2.2.2) rfl (tlt (own_ltz hz hi : (Int32.ofNat i) < z)).2.1 ?_
        refine XS.aloadN Xh.here hx rfl (hC e14_15.1) rfl rfl ?_
        refine XS.iloadN Xh.here hx rfl (hC e14_15.2.1) rfl ?_
        exact kK
      obtain ⟨cl3_, Ar3_, Sz3_, Nn3_, Hh3_⟩ := id Tt
      have hin3_ : ¬ ((Int32.ofNat i) < 0 ∨ cl3_.slots.size ≤ ((Int32.ofNat i)).toNatClampNeg) := inb_of Sz3_ (by first | exact own_inz hz hi | (rw [← hzz]; exact own_inz hz hi))
      have hat3_ : cl3_.slots[((Int32.ofNat i)).toNatClampNeg]? = some (.int (f (Int32.ofNat i))) := Hh3_ _ hin3_
      refine jg Th mM 20 ll2 [(.int (Int32.ofNat i)), (.ref t2), (.int (f (Int32.ofNat i)))] (fun tT kK => ?_) ?_
      · refine Xh.baloadBytes hx (j := (Int32.ofNat i)) (v := (.int (f (Int32.ofNat i)))) (own_rw eh Ar3_.1) (State.isArrayOf_alike hZ.alike Ar3_.2.1) Ar3_.2.2 hin3_ hat3_ (g := (mkF mM 17 ll2 [(.int (Int32.ofNat i)), (.ref t)])) rfl rfl (hC e14_15.2.2.1) _ ?_
        refine XS.aloadN Xh.here hx rfl (hC e14_15.2.2.2) rfl rfl ?_
        refine XS.iloadN Xh.here hx rfl (hC e14_19.1) rfl ?_
        exact kK
      obtain ⟨cl4_, Ar4_, Sz4_, Nn4_, Hh4_⟩ := id T2
      have hin4_ : ¬ ((Int32.ofNat i) < 0 ∨ cl4_.slots.size ≤ ((Int32.ofNat i)).toNatClampNeg) := inb_of Sz4_ (by first | exact own_inz hz hi | (rw [← hzz]; exact own_inz hz hi))
      have hat4_ : cl4_.slots[((Int32.ofNat i)).toNatClampNeg]? = some (.int (g (Int32.ofNat i))) := Hh4_ _ hin4_
      refine jg Th mM 21 ll2 [(.int (g (Int32.ofNat i))), (.int (f (Int32.ofNat i)))] (fun tT kK => ?_) ?_
      · refine Xh.baloadBytes hx (j := (Int32.ofNat i)) (v := (.int (g (Int32.ofNat i)))) (own_rw eh Ar4_.1) (State.isArrayOf_alike hZ.alike Ar4_.2.1) Ar4_.2.2 hin4_ hat4_ (g := (mkF mM 20 ll2 [(.int (Int32.ofNat i)), (.ref t2), (.int (f (Int32.ofNat i)))])) rfl rfl (hC e14_19.2.1) _ ?_
        exact kK
      by_cases hc21_5_ : (f (Int32.ofNat i)) = (g (Int32.ofNat i))
      · let ll3 : Array Slot := #[vR t, vR t2, vI ((Int32.ofNat i) + (1 : Int32))]
        refine jg Th mM 9 ll3 [] (fun tT kK => ?_) ?_
        · refine XS.icmpYes Xh.here hx rfl (pc0 := 21) (pc' := 26) rfl (hC e14_19.2.2.1) rfl (teq (hc21_5_ : (f (Int32.ofNat i)) = (g (Int32.ofNat i)))).1 (by decide) (by decide) ?_
          refine XS.iinc Xh.here hx rfl (hC e14_19.2.2.2) rfl (l' := ll3) rfl ?_
          refine XS.goto Xh.here hx rfl (pc0 := 29) (pc' := 9) rfl (hC d14_29) (by decide) (by decide) ?_
          exact kK
        show own_Fin pP eE below _ (Th.setTop (mkF mM 9 #[.val (.ref t), .val (.ref t2), .val (.int ((Int32.ofNat i) + (1 : Int32)))] []))
        rw [own_one i]
        exact ih (i + 1)  _ _ _ (by omega) Xh eh Nh Kh rfl (own_eqy Pi hc21_5_)
      · refine jg Th mM 24 ll2 [] (fun tT kK => ?_) ?_
        · refine XS.icmpNo Xh.here hx rfl (hC e14_19.2.2.1) rfl (feq (hc21_5_ : ¬ ((f (Int32.ofNat i)) = (g (Int32.ofNat i))))).1 ?_
          exact kK
        exact kont1 i _ _ _ Xh eh Nh Kh rfl (own_eqx Pi hc21_5_)
theorem e14_0 : jD12 0 (.aload_n 0, 1) ∧ jD12 1 (.arraylength, 1) ∧ jD12 2 (.aload_n 1, 1) ∧ jD12 3 (.arraylength, 1) := by decide +kernel
theorem e14_4 : jD12 4 (.if_icmp .ne 30, 3) ∧ jD12 7 (.iconst 0, 1) ∧ jD12 8 (.istore_n 2, 1) ∧ jD12 32 (.iconst 1, 1) := by decide +kernel
theorem e14_33 : jD12 33 (.ireturn, 1) ∧ jD12 24 (.iconst 0, 1) ∧ jD12 25 (.ireturn, 1) ∧ jD12 34 (.iconst 0, 1) := by decide +kernel
theorem d14_35 : jD12 35 (.ireturn, 1) := by decide +kernel
theorem own_ef_rm_leq (mM : MethodId) (x0 : Addr) (x1 : Addr) : entryFrame mM #[(.ref x0), (.ref x1)] 3 = mkF mM 0 #[.val (.ref x0), .val (.ref x1), .unset] [] := by first | (simp [entryFrame, mkF, argsToLocals, Value.category]; done) | rfl
def Q_rm_leq (Z : State) (t : Addr) (t2 : Addr) (z : Int32) (f : Int32 → Int32) (z2 : Int32) (g : Int32 → Int32) (h0 : Heap) (n0 : Nat) (vV : Option Value) (hH : Heap) (lA : List Loc) : Prop := vV = some (.int (own_eq z f z2 g)) ∧ Fr n0 lA ∧ (hH = h0)
set_option maxRecDepth 65536 in
set_option maxHeartbeats 40000000 in
theorem rm_leq (lL : Launch) (Z : State) (a0 : Array Value) (hw : own_H a0 Z) (ws : List Jvm.Cond) (t : Addr) (t2 : Addr) (z : Int32) (f : Int32 → Int32) (z2 : Int32) (g : Int32 → Int32) (h0 : Heap) (n0 : Nat) (Z0 : n0 ≤ h0.size) (Tt : own_T Z h0 t .byte z f) (T2 : own_T Z h0 t2 .byte z2 g) :
    own_Met lL jy12 (Jvm.Cond.code jy12 jdk_43_method_13_code 3 (some .boolean) :: ws) jr0 #[(.ref t), (.ref t2)] Z h0 (Q_rm_leq Z t t2 z f z2 g h0 n0) := by
  refine own_begin (plainFor_of_name own_pn_java_lang_StringLatin1) (fun mM => own_ef_rm_leq mM t t2) fun pP eE sS mM below meth cC s₁ hx hby hml hZ hown hnm hre hlk X0 e0 => ?_
  have hC := @Jvm.hb _ _ hby
  have N0 := Fr.nil n0
  have K0 := Keep.refl h0 ([] : List Addr)
  refine jg s₁ mM 1 #[vR t, vR t2, vU] [(.ref t)] (fun tT kK => ?_) ?_
  · refine XS.aloadN X0.here hx rfl (hC e14_0.1) rfl rfl ?_
    exact kK
  obtain ⟨cl1_, Ar1_, Sz1_, Nn1_, -⟩ := id Tt
  refine jg s₁ mM 3 #[vR t, vR t2, vU] [(.ref t2), (.int z)] (fun tT kK => ?_) ?_
  · refine X0.arraylength hx (own_rw e0 Ar1_.1) (State.isArrayOf_alike hZ.alike Ar1_.2.1) (g := (mkF mM 1 #[vR t, vR t2, vU] [(.ref t)])) rfl rfl (hC e14_0.2.1) _ ?_
    rw [len_of Sz1_ Nn1_]
    refine XS.aloadN X0.here hx rfl (hC e14_0.2.2.1) rfl rfl ?_
    exact kK
  obtain ⟨cl2_, Ar2_, Sz2_, Nn2_, -⟩ := id T2
  refine jg s₁ mM 4 #[vR t, vR t2, vU] [(.int z2), (.int z)] (fun tT kK => ?_) ?_
  · refine X0.arraylength hx (own_rw e0 Ar2_.1) (State.isArrayOf_alike hZ.alike Ar2_.2.1) (g := (mkF mM 3 #[vR t, vR t2, vU] [(.ref t2), (.int z)])) rfl rfl (hC e14_0.2.2.2) _ ?_
    rw [len_of Sz2_ Nn2_]
    exact kK
  by_cases hc4_3_ : z = z2
  · let ll1 : Array Slot := #[vR t, vR t2, vI 0]
    refine jg s₁ mM 9 ll1 [] (fun tT kK => ?_) ?_
    · refine XS.icmpNo X0.here hx rfl (hC e14_4.1) rfl (teq (hc4_3_ : z = z2)).2 ?_
      refine XS.iconst X0.here hx rfl (hC e14_4.2.1) ?_
      refine XS.istoreN X0.here hx rfl (hC e14_4.2.2.1) rfl (l' := ll1) rfl ?_
      exact kK
    refine own_lpe Z a0 hw t t2 z f z2 g (own_eqn f g z.toNatClampNeg 0) h0 n0 Z0 Tt T2 hc4_3_ hx hZ hby hml hown ?_ ?_ z.toNatClampNeg 0  _ _ _ (by omega) X0 e0 N0 K0 rfl rfl
    · intro  T4_ h4_ L4_ X4_ e4_ N4_ K4_ p4__0 p4__1
      let ll2 : Array Slot := #[vR t, vR t2, vI (Int32.ofNat z.toNatClampNeg)]
      refine jg T4_ mM 33 ll2 [(.int (1 : Int32))] (fun tT kK => ?_) ?_
      · refine XS.iconst X4_.here hx rfl (hC e14_4.2.2.2) ?_
        exact kK
      exact own_rL X4_ hx hlk hre (by simp) (hC e14_33.1) (w := (.int (1 : Int32))) rfl (e4_.trans p4__0) (by decide) (by decide) ⟨by unfold own_eq; rw [if_pos hc4_3_, p4__1], N4_, rfl⟩
    · intro j_5_ T5_ h5_ L5_ X5_ e5_ N5_ K5_ p5__0 p5__1
      let ll3 : Array Slot := #[vR t, vR t2, vI (Int32.ofNat j_5_)]
      refine jg T5_ mM 25 ll3 [(.int (0 : Int32))] (fun tT kK => ?_) ?_
      · refine XS.iconst X5_.here hx rfl (hC e14_33.2.1) ?_
        exact kK
      exact own_rL X5_ hx hlk hre (by simp) (hC e14_33.2.2.1) (w := (.int (0 : Int32))) rfl (e5_.trans p5__0) (by decide) (by decide) ⟨by unfold own_eq; rw [if_pos hc4_3_, p5__1], N5_, rfl⟩
  · refine jg s₁ mM 35 #[vR t, vR t2, vU] [(.int (0 : Int32))] (fun tT kK => ?_) ?_
    · refine XS.icmpYes X0.here hx rfl (pc0 := 4) (pc' := 34) rfl (hC e14_4.1) rfl (feq (hc4_3_ : ¬ (z = z2))).2 (by decide) (by decide) ?_
      refine XS.iconst X0.here hx rfl (hC e14_33.2.2.2) ?_
      exact kK
    exact own_rL X0 hx hlk hre (by simp) (hC d14_35) (w := (.int (0 : Int32))) rfl e0 (by decide) (by decide) ⟨by unfold own_eq; rw [if_neg hc4_3_], N0, rfl⟩
theorem e13_0 : jD13 0 (.aload_n 0, 1) ∧ jD13 1 (.aload_n 1, 1) ∧ jD13 2 (.if_acmp .ne 5, 3) ∧ jD13 5 (.iconst 1, 1) := by decide +kernel
theorem e13_6 : jD13 6 (.ireturn, 1) ∧ jD13 7 (.aload_n 1, 1) ∧ jD13 8 (.instanceof 10, 3) ∧ jD13 11 (.ifCond .eq 43, 3) := by decide +kernel
theorem e13_14 : jD13 14 (.aload_n 1, 1) ∧ jD13 15 (.checkcast 10, 3) ∧ jD13 18 (.astore_n 2, 1) ∧ jD13 19 (.getstatic 38, 3) := by decide +kernel
theorem e13_22 : jD13 22 (.ifCond .eq 14, 3) ∧ jD13 25 (.aload_n 0, 1) ∧ jD13 26 (.getfield 15, 3) ∧ jD13 29 (.aload_n 2, 1) := by decide +kernel
theorem e13_30 : jD13 30 (.getfield 15, 3) ∧ jD13 33 (.if_icmp .ne 21, 3) ∧ jD13 36 (.aload_n 0, 1) ∧ jD13 37 (.getfield 9, 3) := by decide +kernel
theorem e13_40 : jD13 40 (.aload_n 2, 1) ∧ jD13 41 (.getfield 9, 3) ∧ jD13 44 (.invokestatic 541, 3) := by decide +kernel
theorem own_pd9 : parseMethodDescriptor "([B[B)Z" = some ⟨[(.array .byte), (.array .byte)], some .boolean⟩ := by decide +kernel
theorem e13_47 : jD13 47 (.ifCond .eq 7, 3) ∧ jD13 54 (.iconst 0, 1) ∧ jD13 55 (.ireturn, 1) ∧ jD13 50 (.iconst 1, 1) := by decide +kernel
theorem d13_51 : jD13 51 (.goto 4, 3) := by decide +kernel
theorem own_ef_rm_eq (mM : MethodId) (x0 : Addr) (x1 : Addr) : entryFrame mM #[(.ref x0), (.ref x1)] 3 = mkF mM 0 #[.val (.ref x0), .val (.ref x1), .unset] [] := by first | (simp [entryFrame, mkF, argsToLocals, Value.category]; done) | rfl
def Q_rm_eq (Z : State) (a : Addr) (b : Addr) (t : Addr) (t2 : Addr) (z : Int32) (f : Int32 → Int32) (z2 : Int32) (g : Int32 → Int32) (cs : Int32) (h0 : Heap) (n0 : Nat) (vV : Option Value) (hH : Heap) (lA : List Loc) : Prop := vV = some (.int (own_eq z f z2 g)) ∧ Fr n0 lA ∧ (hH = h0)
set_option maxRecDepth 65536 in
set_option maxHeartbeats 40000000 in
theorem rm_eq (lL : Launch) (Z : State) (a0 : Array Value) (hw : own_H a0 Z) (ws : List Jvm.Cond) (a : Addr) (b : Addr) (t : Addr) (t2 : Addr) (z : Int32) (f : Int32 → Int32) (z2 : Int32) (g : Int32 → Int32) (cs : Int32) (h0 : Heap) (n0 : Nat) (Z0 : n0 ≤ h0.size) (Oo : Old Z n0 h0) (Scs : Sta Z Z.heap "java/lang/String" "COMPACT_STRINGS" "Z" (.int cs)) (ncs : ¬ (cs = (0 : Int32))) (E1 : jE0 Z h0 a) (Fv1 : jF1 Z h0 a (.ref t)) (Fc1 : jF0 Z h0 a (.int (0 : Int32))) (Tt1 : own_T Z h0 t .byte z f) (E2 : jE0 Z h0 b) (Fv2 : jF1 Z h0 b (.ref t2)) (Fc2 : jF0 Z h0 b (.int (0 : Int32))) (Tt2 : own_T Z h0 t2 .byte z2 g) :
    own_Met lL jy13 (Jvm.Cond.code jy13 jdk_42_method_66_code 3 (some .boolean) :: ws) jr2 #[(.ref a), (.ref b)] Z h0 (Q_rm_eq Z a b t t2 z f z2 g cs h0 n0) := by
  refine own_begin (plainFor_of_name own_pn_java_lang_String) (fun mM => own_ef_rm_eq mM a b) fun pP eE sS mM below meth cC s₁ hx hby hml hZ hown hnm hre hlk X0 e0 => ?_
  have hC := @Jvm.hb _ _ hby
  have N0 := Fr.nil n0
  have K0 := Keep.refl h0 ([] : List Addr)
  refine jg s₁ mM 2 #[vR a, vR b, vU] [(.ref b), (.ref a)] (fun tT kK => ?_) ?_
  · refine XS.aloadN X0.here hx rfl (hC e13_0.1) rfl rfl ?_
    refine XS.aloadN X0.here hx rfl (hC e13_0.2.1) rfl rfl ?_
    exact kK
  by_cases hc1_ : a = b
  · refine jg s₁ mM 6 #[vR a, vR b, vU] [(.int (1 : Int32))] (fun tT kK => ?_) ?_
    · refine Jvm.RoadKit.acmp (g := (mkF mM 2 #[vR a, vR b, vU] [(.ref b), (.ref a)])) X0 hx rfl rfl rfl (pc0 := 2) (pc' := 5) (same := true) rfl (hC e13_0.2.2.1) rfl (decide_eq_true (congrArg Value.ref hc1_)) (by decide) (by decide) ?_
      refine XS.iconst X0.here hx rfl (hC e13_0.2.2.2) ?_
      exact kK
    exact own_rL X0 hx hlk hre (by simp) (hC e13_6.1) (w := (.int (1 : Int32))) rfl e0 (by decide) (by decide) ⟨congrArg (fun q => some (Value.int q)) (own_eqself hc1_ Fv1 Fv2 Tt1 Tt2).symm, N0, rfl⟩
  · refine jg s₁ mM 8 #[vR a, vR b, vU] [(.ref b)] (fun tT kK => ?_) ?_
    · refine Jvm.RoadKit.acmp (g := (mkF mM 2 #[vR a, vR b, vU] [(.ref b), (.ref a)])) X0 hx rfl rfl rfl (pc0 := 2) (pc' := 7) (same := false) rfl (hC e13_0.2.2.1) rfl (decide_eq_false fun q => hc1_ (Value.ref.inj q)) (by decide) (by decide) ?_
      refine XS.aloadN X0.here hx rfl (hC e13_6.2.1) rfl rfl ?_
      exact kK
    obtain ⟨T2_, X2_, e2_, st2_⟩ := instY X0 hx hZ hown (jk hw 70 rfl) e0 (Ins.self E2) (g := (mkF mM 8 #[vR a, vR b, vU] [(.ref b)])) rfl rfl (hC e13_6.2.2.1)
    refine own_fin st2_ ?_
    refine jg T2_ mM 15 #[vR a, vR b, vU] [(.ref b)] (fun tT kK => ?_) ?_
    · refine XS.ifNo X2_.here hx rfl (hC e13_6.2.2.2) rfl ((if0 _ _).trans (feq ((by decide) : ¬ ((1 : Int32) = (0 : Int32)))).1) ?_
      refine XS.aloadN X2_.here hx rfl (hC e13_14.1) rfl rfl ?_
      exact kK
    obtain ⟨T3_, X3_, e3_, st3_⟩ := castY X2_ hx hZ hown (jk hw 70 rfl) e2_ (Ins.self E2) (g := (mkF mM 15 #[vR a, vR b, vU] [(.ref b)])) rfl rfl (hC e13_14.2.1)
    refine own_fin st3_ ?_
    refine jg T3_ mM 19 #[vR a, vR b, vR b] [] (fun tT kK => ?_) ?_
    · refine XS.astoreN X3_.here hx rfl (hC e13_14.2.2.1) rfl rfl (l' := #[vR a, vR b, vR b]) rfl ?_
      exact kK
    obtain ⟨T4_, X4_, e4_, st4_⟩ := getS2 X3_ hx hZ hown (host := "") (Or.inl (jk hw 25 rfl)) Via.refl e3_ (own_StaKeep Oo Scs) (g := (mkF mM 19 #[vR a, vR b, vR b] [])) rfl (hC e13_14.2.2.2)
    refine own_fin st4_ ?_
    refine jg T4_ mM 26 #[vR a, vR b, vR b] [(.ref a)] (fun tT kK => ?_) ?_
    · refine XS.ifNo X4_.here hx rfl (hC e13_22.1) rfl ((if0 _ _).trans (feq (ncs : ¬ (cs = (0 : Int32)))).1) ?_
      refine XS.aloadN X4_.here hx rfl (hC e13_22.2.1) rfl rfl ?_
      exact kK
    refine jf X4_ hx hZ hown (jk hw 26 rfl) e4_ Fc1 (hC e13_22.2.2.1) fun T5_ X5_ e5_ => ?_
    refine jg T5_ mM 30 #[vR a, vR b, vR b] [(.ref b), (.int (0 : Int32))] (fun tT kK => ?_) ?_
    · refine XS.aloadN X5_.here hx rfl (hC e13_22.2.2.2) rfl rfl ?_
      exact kK
    refine jf X5_ hx hZ hown (jk hw 26 rfl) e5_ Fc2 (hC e13_30.1) fun T6_ X6_ e6_ => ?_
    refine jg T6_ mM 37 #[vR a, vR b, vR b] [(.ref a)] (fun tT kK => ?_) ?_
    · refine XS.icmpNo X6_.here hx rfl (hC e13_30.2.1) rfl (teq ((by decide) : (0 : Int32) = (0 : Int32))).2 ?_
      refine XS.aloadN X6_.here hx rfl (hC e13_30.2.2.1) rfl rfl ?_
      exact kK
    refine jf X6_ hx hZ hown (jk hw 19 rfl) e6_ Fv1 (hC e13_30.2.2.2) fun T7_ X7_ e7_ => ?_
    refine jg T7_ mM 41 #[vR a, vR b, vR b] [(.ref b), (.ref t)] (fun tT kK => ?_) ?_
    · refine XS.aloadN X7_.here hx rfl (hC e13_40.1) rfl rfl ?_
      exact kK
    refine jf X7_ hx hZ hown (jk hw 19 rfl) e7_ Fv2 (hC e13_40.2.1) fun T8_ X8_ e8_ => ?_
    refine jc X8_ hx hZ (y := jy12) hown (jk hw 71 rfl) (jk hw 72 rfl) (jk hw 39 rfl) (jk hw 73 rfl) (rm_leq lL Z a0 hw [] t t2 z f z2 g h0 n0 (Nat.le_trans Z0 K0.1) Tt1 Tt2) e8_ own_pd9 [(.ref t), (.ref t2)] [] (hC e13_40.2.2) rfl rfl (by rw [hml]; rfl) (by decide) 0 (Nat.le_of_eq rfl) (by decide) (by decide) (by decide : 0 + 0 ≤ _) (by decide : 0 + 0 ≤ _) fun vv9_ T9_ L9_ X9_ hQ9_ => ?_
    obtain ⟨rfl, N9_q, p9__0⟩ := hQ9_
    have N9_ := Fr.app N0 N9_q
    by_cases hc47_10_ : (own_eq z f z2 g) = (0 : Int32)
    · refine jg T9_ mM 55 #[vR a, vR b, vR b] [(.int (0 : Int32))] (fun tT kK => ?_) ?_
      · refine XS.ifYes X9_.here hx rfl (pc0 := 47) (pc' := 54) rfl (hC e13_47.1) rfl ((if0 _ _).trans (teq (hc47_10_ : (own_eq z f z2 g) = (0 : Int32))).1) (by decide) (by decide) ?_
        refine XS.iconst X9_.here hx rfl (hC e13_47.2.1) ?_
        exact kK
      exact own_rL X9_ hx hlk hre (by simp) (hC e13_47.2.2.1) (w := (.int (0 : Int32))) rfl p9__0 (by decide) (by decide) ⟨congrArg (fun q => some (Value.int q)) (hc47_10_).symm, N9_, rfl⟩
    · refine jg T9_ mM 55 #[vR a, vR b, vR b] [(.int (1 : Int32))] (fun tT kK => ?_) ?_
      · refine XS.ifNo X9_.here hx rfl (hC e13_47.1) rfl ((if0 _ _).trans (feq (hc47_10_ : ¬ ((own_eq z f z2 g) = (0 : Int32)))).1) ?_
        refine XS.iconst X9_.here hx rfl (hC e13_47.2.2.2) ?_
        refine XS.goto X9_.here hx rfl (pc0 := 51) (pc' := 55) rfl (hC d13_51) (by decide) (by decide) ?_
        exact kK
      exact own_rL X9_ hx hlk hre (by simp) (hC e13_47.2.2.1) (w := (.int (1 : Int32))) rfl p9__0 (by decide) (by decide) ⟨congrArg (fun q => some (Value.int q)) ((own_eq01 _ _ _ _).resolve_left hc47_10_).symm, N9_, rfl⟩
theorem e1_0 : jD14 0 (.iload 4, 2) ∧ jD14 2 (.iload_n 1, 1) ∧ jD14 3 (.iushr, 1) ∧ jD14 4 (.iconst 1, 1) := by decide +kernel
theorem e1_5 : jD14 5 (.iand, 1) ∧ jD14 6 (.ifCond .ne 11, 3) ∧ jD14 9 (.iload_n 1, 1) ∧ jD14 10 (.aload_n 0, 1) := by decide +kernel
theorem d1_11 : jD14 11 (.invokevirtual 22, 3) := by decide +kernel
theorem own_pd10 : parseMethodDescriptor "()I" = some ⟨[], some .int⟩ := by decide +kernel
theorem e1_14 : jD14 14 (.if_icmp .lt 16, 3) ∧ jD14 30 (.aload_n 0, 1) ∧ jD14 31 (.iload_n 1, 1) ∧ jD14 32 (.invokevirtual 63, 3) := by decide +kernel
theorem own_pd11 : parseMethodDescriptor "(I)C" = some ⟨[.int], some .char⟩ := by decide +kernel
theorem e1_35 : jD14 35 (.ireturn, 1) ∧ jD14 17 (.lload_n 2, 1) ∧ jD14 18 (.bipush 8, 2) ∧ jD14 20 (.iload_n 1, 1) := by decide +kernel
theorem e1_21 : jD14 21 (.imul, 1) ∧ jD14 22 (.lushr, 1) ∧ jD14 23 (.ldc2_w 61, 3) ∧ jD14 26 (.land, 1) := by decide +kernel
theorem e1_27 : jD14 27 (.l2i, 1) ∧ jD14 28 (.i2c, 1) ∧ jD14 29 (.ireturn, 1) := by decide +kernel
theorem own_pn_com_example_needlework_needlework_AlgorithmNamedPinLaw : plainName "com/example/needlework/needlework/AlgorithmNamedPinLaw" = true := by first | (simp [plainName, overriddenIn]; done) | decide +kernel
theorem own_ef_rm_at (mM : MethodId) (x0 : Addr) (x1 : Int32) (x2 : Int64) (x3 : Int32) : entryFrame mM #[(.ref x0), (.int x1), (.long x2), (.int x3)] 5 = mkF mM 0 #[.val (.ref x0), .val (.int x1), .val (.long x2), .second, .val (.int x3)] [] := by first | (simp [entryFrame, mkF, argsToLocals, Value.category]; done) | rfl
def Q_rm_at (Z : State) (a : Addr) (t : Addr) (i1 : Int32) (q : Int64) (p : Int32) (z : Int32) (f : Int32 → Int32) (cs : Int32) (fv : Value) (h0 : Heap) (n0 : Nat) (vV : Option Value) (hH : Heap) (lA : List Loc) : Prop := ∃ x : Int32, vV = some (.int x) ∧ Fr n0 lA ∧ (hH = h0) ∧ (0 ≤ x.toInt ∧ x.toInt ≤ 255)
set_option maxRecDepth 65536 in
set_option maxHeartbeats 40000000 in
theorem rm_at (lL : Launch) (Z : State) (a0 : Array Value) (hw : own_H a0 Z) (ws : List Jvm.Cond) (a : Addr) (t : Addr) (i1 : Int32) (q : Int64) (p : Int32) (z : Int32) (f : Int32 → Int32) (cs : Int32) (fv : Value) (h0 : Heap) (n0 : Nat) (Z0 : n0 ≤ h0.size) (Oo : Old Z n0 h0) (Scs : Sta Z Z.heap "java/lang/String" "COMPACT_STRINGS" "Z" (.int cs)) (ncs : ¬ (cs = (0 : Int32))) (Sfv : Sta Z Z.heap "jdk/internal/util/Preconditions" "SIOOBE_FORMATTER" "Ljava/util/function/BiFunction;" fv) (rfv : fv.isRef = true) (Ea : jE0 Z h0 a) (Fv : jF1 Z h0 a (.ref t)) (Fc : jF0 Z h0 a (.int (0 : Int32))) (Tt : own_T Z h0 t .byte z f) (h1 : ¬ (i1 < (0 : Int32))) :
    own_Met lL jy14 (Jvm.Cond.code jy14 method_3_code 5 (some .char) :: ws) jr8 #[(.ref a), (.int i1), (.long q), (.int p)] Z h0 (Q_rm_at Z a t i1 q p z f cs fv h0 n0) := by
  refine own_begin (plainFor_of_name own_pn_com_example_needlework_needlework_AlgorithmNamedPinLaw) (fun mM => own_ef_rm_at mM a i1 q p) fun pP eE sS mM below meth cC s₁ hx hby hml hZ hown hnm hre hlk X0 e0 => ?_
  have hC := @Jvm.hb _ _ hby
  have N0 := Fr.nil n0
  have K0 := Keep.refl h0 ([] : List Addr)
  let ll1 : Array Slot := #[vR a, vI i1, vJ q, vS, vI p]
  refine jg s₁ mM 6 ll1 [(.int (((p.toUInt32 >>> (i1 &&& 31).toUInt32).toInt32) &&& (1 : Int32)))] (fun tT kK => ?_) ?_
  · refine XS.iload X0.here hx rfl (hC e1_0.1) rfl ?_
    refine XS.iloadN X0.here hx rfl (hC e1_0.2.1) rfl ?_
    refine XS.iushr X0.here hx rfl (hC e1_0.2.2.1) rfl ?_
    refine XS.iconst X0.here hx rfl (hC e1_0.2.2.2) ?_
    refine XS.iand X0.here hx rfl (hC e1_5.1) rfl ?_
    exact kK
  by_cases hc6_1_ : (((p.toUInt32 >>> (i1 &&& 31).toUInt32).toInt32) &&& (1 : Int32)) = (0 : Int32)
  · refine jg s₁ mM 11 ll1 [(.ref a), (.int i1)] (fun tT kK => ?_) ?_
    · refine XS.ifNo X0.here hx rfl (hC e1_5.2.1) rfl ((if0 _ _).trans (teq (hc6_1_ : (((p.toUInt32 >>> (i1 &&& 31).toUInt32).toInt32) &&& (1 : Int32)) = (0 : Int32))).2) ?_
      refine XS.iloadN X0.here hx rfl (hC e1_5.2.2.1) rfl ?_
      refine XS.aloadN X0.here hx rfl (hC e1_5.2.2.2) rfl rfl ?_
      exact kK
    refine jv X0 hx hZ (y := jy1) hown (jk hw 14 rfl) (jk hw 15 rfl) (jk hw 17 rfl) (jk hw 16 rfl) (jk hw 18 rfl) (jk hw 2 rfl) (rm_slen lL Z a0 hw [] a t z f cs h0 n0 (Nat.le_trans Z0 K0.1) Oo Scs ncs Ea Fv Fc Tt) Ea e0 own_pd10 [] [(.int i1)] (hC d1_11) rfl rfl (by rw [hml]; rfl) (by decide) 1 (Nat.le_of_eq rfl) (by decide) (by decide) (by decide : 0 + 0 ≤ _) (by decide : 0 + 0 ≤ _) fun vv2_ T2_ L2_ X2_ hQ2_ => ?_
    obtain ⟨rfl, N2_q, p2__0⟩ := hQ2_
    have N2_ := Fr.app N0 N2_q
    by_cases hc14_3_ : i1 < z
    · refine jg T2_ mM 32 ll1 [(.int i1), (.ref a)] (fun tT kK => ?_) ?_
      · refine XS.icmpYes X2_.here hx rfl (pc0 := 14) (pc' := 30) rfl (hC e1_14.1) rfl (tlt (hc14_3_ : i1 < z)).1 (by decide) (by decide) ?_
        refine XS.aloadN X2_.here hx rfl (hC e1_14.2.1) rfl rfl ?_
        refine XS.iloadN X2_.here hx rfl (hC e1_14.2.2.1) rfl ?_
        exact kK
      refine jv X2_ hx hZ (y := jy6) hown (jk hw 27 rfl) (jk hw 28 rfl) (jk hw 30 rfl) (jk hw 29 rfl) (jk hw 31 rfl) (jk hw 2 rfl) (rm_char lL Z a0 hw [] a i1 t z f cs fv h0 n0 (Nat.le_trans Z0 K0.1) Oo Scs ncs Sfv rfv Ea Fv Fc Tt h1 hc14_3_) Ea p2__0 own_pd11 [(.int i1)] [] (hC e1_14.2.2.2) rfl rfl (by rw [hml]; rfl) (by decide) 0 (Nat.le_of_eq rfl) (by decide) (by decide) (by decide : 0 + 0 ≤ _) (by decide : 0 + 0 ≤ _) fun vv4_ T4_ L4_ X4_ hQ4_ => ?_
      obtain ⟨rfl, N4_q, p4__0⟩ := hQ4_
      have N4_ := Fr.app N2_ N4_q
      exact own_rN X4_ hx hlk hre (by simp) (hC e1_35.1) p4__0 (by decide) (by decide) ⟨(nar .char (own_ch (f i1))), rfl, N4_, rfl, own_ncb (own_chb2 _)⟩
    · refine jg T2_ mM 29 ll1 [(.int (((((q.toUInt64 >>> (((8 : Int32) * i1) &&& 0x3f).toInt64.toUInt64).toInt64) &&& (255 : Int64)).toInt32).toUInt32.toUInt16.toUInt32.toInt32))] (fun tT kK => ?_) ?_
      · refine XS.icmpNo X2_.here hx rfl (hC e1_14.1) rfl (flt (hc14_3_ : ¬ (i1 < z))).1 ?_
        refine XS.lloadN X2_.here hx rfl (hC e1_35.2.1) rfl ?_
        refine XS.bipush X2_.here hx rfl (hC e1_35.2.2.1) ?_
        refine XS.iloadN X2_.here hx rfl (hC e1_35.2.2.2) rfl ?_
        refine XS.imul X2_.here hx rfl (hC e1_21.1) rfl ?_
        refine XS.lushr X2_.here hx rfl (hC e1_21.2.1) rfl ?_
        refine X2_.ldc2Long hx hown (jm hZ hw 49 rfl) (g := (mkF mM 23 ll1 [(.long ((q.toUInt64 >>> (((8 : Int32) * i1) &&& 0x3f).toInt64.toUInt64).toInt64))])) rfl (hC e1_21.2.2.1) _ ?_
        refine XS.land X2_.here hx rfl (hC e1_21.2.2.2) rfl ?_
        refine XS.l2i X2_.here hx rfl (hC e1_27.1) rfl ?_
        refine XS.i2c X2_.here hx rfl (hC e1_27.2.1) rfl ?_
        exact kK
      exact own_rN X2_ hx hlk hre (by simp) (hC e1_27.2.2) p2__0 (by decide) (by decide) ⟨(nar .char (((((q.toUInt64 >>> (((8 : Int32) * i1) &&& 0x3f).toInt64.toUInt64).toInt64) &&& (255 : Int64)).toInt32).toUInt32.toUInt16.toUInt32.toInt32)), rfl, N2_, rfl, own_ncb (own_lch _)⟩
  · refine jg s₁ mM 29 ll1 [(.int (((((q.toUInt64 >>> (((8 : Int32) * i1) &&& 0x3f).toInt64.toUInt64).toInt64) &&& (255 : Int64)).toInt32).toUInt32.toUInt16.toUInt32.toInt32))] (fun tT kK => ?_) ?_
    · refine XS.ifYes X0.here hx rfl (pc0 := 6) (pc' := 17) rfl (hC e1_5.2.1) rfl ((if0 _ _).trans (feq (hc6_1_ : ¬ ((((p.toUInt32 >>> (i1 &&& 31).toUInt32).toInt32) &&& (1 : Int32)) = (0 : Int32)))).2) (by decide) (by decide) ?_
      refine XS.lloadN X0.here hx rfl (hC e1_35.2.1) rfl ?_
      refine XS.bipush X0.here hx rfl (hC e1_35.2.2.1) ?_
      refine XS.iloadN X0.here hx rfl (hC e1_35.2.2.2) rfl ?_
      refine XS.imul X0.here hx rfl (hC e1_21.1) rfl ?_
      refine XS.lushr X0.here hx rfl (hC e1_21.2.1) rfl ?_
      refine X0.ldc2Long hx hown (jm hZ hw 49 rfl) (g := (mkF mM 23 ll1 [(.long ((q.toUInt64 >>> (((8 : Int32) * i1) &&& 0x3f).toInt64.toUInt64).toInt64))])) rfl (hC e1_21.2.2.1) _ ?_
      refine XS.land X0.here hx rfl (hC e1_21.2.2.2) rfl ?_
      refine XS.l2i X0.here hx rfl (hC e1_27.1) rfl ?_
      refine XS.i2c X0.here hx rfl (hC e1_27.2.1) rfl ?_
      exact kK
    exact own_rN X0 hx hlk hre (by simp) (hC e1_27.2.2) e0 (by decide) (by decide) ⟨(nar .char (((((q.toUInt64 >>> (((8 : Int32) * i1) &&& 0x3f).toInt64.toUInt64).toInt64) &&& (255 : Int64)).toInt32).toUInt32.toUInt16.toUInt32.toInt32)), rfl, N0, rfl, own_ncb (own_lch _)⟩
theorem e11_8 : jD10 8 (.aload_n 0, 1) ∧ jD10 9 (.ldc 7, 2) ∧ jD10 11 (.getfield 9, 3) ∧ jD10 14 (.putfield 9, 3) := by decide +kernel
theorem e11_17 : jD10 17 (.aload_n 0, 1) ∧ jD10 18 (.ldc 7, 2) ∧ jD10 20 (.getfield 15, 3) ∧ jD10 23 (.putfield 15, 3) := by decide +kernel
theorem d11_26 : jD10 26 (.return_, 1) := by decide +kernel
theorem own_ef_rm_e4 (mM : MethodId) (x0 : Addr) (x1 : Addr) (x2 : Int32) (x3 : Int32) : entryFrame mM #[(.ref x0), (.ref x1), (.int x2), (.int x3), .null] 6 = mkF mM 0 #[.val (.ref x0), .val (.ref x1), .val (.int x2), .val (.int x3), .val .null, .unset] [] := by first | (simp [entryFrame, mkF, argsToLocals, Value.category]; done) | rfl
def Q_rm_e4 (Z : State) (a : Addr) (c : Addr) (h0 : Heap) (n0 : Nat) (vV : Option Value) (hH : Heap) (lA : List Loc) : Prop := ∃ t' : Addr, vV = none ∧ Fr n0 lA ∧ (Keep h0 hH [a]) ∧ (jE0 Z hH a) ∧ (jF1 Z hH a (.ref t')) ∧ (jF0 Z hH a (.int (0 : Int32))) ∧ (own_T Z hH t' .byte (0 : Int32) (own_li []))
set_option maxRecDepth 65536 in
set_option maxHeartbeats 40000000 in
theorem rm_e4 (lL : Launch) (Z : State) (a0 : Array Value) (hw : own_H a0 Z) (ws : List Jvm.Cond) (a : Addr) (c : Addr) (h0 : Heap) (n0 : Nat) (Z0 : n0 ≤ h0.size) (Ea : jE0 Z h0 a) (Fv : jF1 Z h0 a .null) (Fc : jF0 Z h0 a (.int (0 : Int32))) (ga : n0 ≤ a) :
    MetFree lL jy10 (head1 (Jvm.Cond.code jy10 jdk_42_method_149_code 6 none :: ws) jr9) (fun aA uU => aA = #[(.ref a), (.ref c), (.int (0 : Int32)), (.int (0 : Int32)), .null] ∧ Z.Warmed39 uU.vm ∧ uU.heap = h0 ∧ CHv Z own_EL uU.vm h0 ∧ ∀ x ∈ ([a] : List Addr), Safe Z own_EL uU.vm h0 x) (fun _ _ _ _ _ => True) (fun _ uU oO uU' => ∃ vV lA, oO = .returned vV ∧ Q_rm_e4 Z a c h0 n0 vV uU'.heap lA ∧ CHr Z own_EL uU.vm uU.heap uU'.vm uU'.heap ∧ ReturnedEndW uU oO uU' lA jr9.cells jr9.slots) := by
  refine MetFree.of_bodySF (plainFor_of_name own_pn_java_lang_String) hisR ?_
  intro pP eE sS mM args below meth cC s₁ Bd hml0 hP hK
  obtain ⟨rfl, hZ, hh, hC0, hY0⟩ := hP
  have sY0 := hY0 a (List.mem_of_getElem? (i := 0) rfl)
  have hx := Bd.exec
  have hby := Bd.bytes
  have hC := @Jvm.hb _ _ hby
  have hml : cC.maxLocals = 6 := hml0
  have hown : sS.vm.findClass "java/lang/String" = some mM.cls := findClass_of_methodNamed Bd.named
  have hnm := (name_of_methodNamed Bd.named Bd.method).1
  have X0 : Stand pP lL eE jr9 (sS.setVm sS.vm) mM #[(.ref a), (.ref c), (.int (0 : Int32)), (.int (0 : Int32)), .null] below meth cC s₁ [] 0 0 := Stand.of_body Bd
  have hS0 : sS.Since sS.vm 0 := (State.WarmedH.refl sS).since 0
  have hk0 : 0 ≤ h0.size := Nat.zero_le _
  have CH0 : CHr Z own_EL sS.vm h0 sS.vm h0 := CHr.refl hC0
  have e0 : s₁.heap = h0 := by rw [← hh, Bd.state]; rfl
  have N0 := Fr.nil n0
  have K0 := Keep.refl h0 [a]
  show own_Fin pP eE below (fun tT oO => ∃ vV lA, oO = .returned vV ∧ Q_rm_e4 Z a c h0 n0 vV tT.heap lA ∧ CHr Z own_EL sS.vm sS.heap tT.vm tT.heap ∧ ReturnedEndW sS oO tT lA jr9.cells jr9.slots) (s₁.setTop (entryFrame mM #[(.ref a), (.ref c), (.int (0 : Int32)), (.int (0 : Int32)), .null] 6))
  refine own_fin (b := s₁.setTop (mkF mM 0 #[.val (.ref a), .val (.ref c), .val (.int (0 : Int32)), .val (.int (0 : Int32)), .val .null, .unset] [])) (fun tT kK => castTop (own_ef_rm_e4 mM a c (0 : Int32) (0 : Int32)) kK) ?_
  let ll1 : Array Slot := #[vR a, vR c, vI 0, vI 0, vN, vU]
  refine jg s₁ mM 1 ll1 [(.ref a)] (fun tT kK => ?_) ?_
  · refine XS.aloadN X0.here hx rfl (hC e11_0.1) rfl rfl ?_
    exact kK
  obtain ⟨T1_, X1_, e1_, st1_⟩ := initO X0 hx hZ hown (jk hw 61 rfl) (jk hw 62 rfl) (jk hw 63 rfl) e0 (g := (mkF mM 1 ll1 [(.ref a)])) rfl (by rw [hml]; rfl) rfl (hC e11_0.2.1) (by decide) (W := 0) (by show 2 * 0 + _ ≤ _; exact Nat.le_of_eq rfl) (by decide)
  refine own_fin st1_ ?_
  refine jg T1_ mM 9 ll1 [(.ref a)] (fun tT kK => ?_) ?_
  · refine XS.iloadN X1_.here hx rfl (hC e11_0.2.2.1) rfl ?_
    refine XS.ifNo X1_.here hx rfl (hC e11_0.2.2.2) rfl ((if0 _ _).trans (teq ((by decide) : (0 : Int32) = (0 : Int32))).2) ?_
    refine XS.aloadN X1_.here hx rfl (hC e11_8.1) rfl rfl ?_
    exact kK
  obtain ⟨a2_, T2_, h2_, k12_, b2_, kc2_, X2_, e2_, E2_, hS2_, hk2_, hZ, hown, Ea2_, Fc2_, Fv2_, Vb2_, la2_, lb2_, Cr2_, -, sfn2_, st2_⟩ := ldcCH X1_ hx hZ hown (jk hw 64 rfl) (own_wS hw) e1_ hS0 hk0 (own_EW hw) (EL := own_EL) (List.mem_of_getElem? (i := 1) rfl) CH0.1 (vs := []) (z := (0 : Int32)) ⟨by decide, by rfl⟩ (by decide) (by decide) (g := (mkF mM 9 ll1 [(.ref a)])) rfl (hC e11_8.2.1) (n := 0) (by decide) (by decide) (by decide) (by decide)
  have sf3_ := Cr2_.safe Ea.lt sY0
  have fc4_ := Ea.ext E2_
  have fc5_ := Fv.ext E2_
  have fc6_ := Fc.ext E2_
  have K2_ := K0.ext E2_
  have CH2_ := CH0.trans Cr2_
  have ne8_ := (sfn2_ a sf3_).2
  have Tb2_ : own_T Z h2_ b2_ .byte (0 : Int32) (own_li []) := own_at_T (xs := []) Vb2_
  refine own_fin st2_ ?_
  refine jf X2_ hx hZ hown (jk hw 19 rfl) e2_ Fv2_ (hC e11_8.2.2.1) fun T9_ X9_ e9_ => ?_
  obtain ⟨T10_, h10_, X10_, e10_, W10_, st10_⟩ := putF X9_ hx hZ hown (host := "") (Or.inl (jk hw 19 rfl)) Via.refl e9_ fc5_ fc4_ (Or.inr ⟨(jk hw 5 rfl), rfl, hnm⟩) (jk hw 3 rfl) (ty := (.array .byte)) (by decide) rfl rfl (g := (mkF mM 14 ll1 [(.ref b2_), (.ref a)])) rfl rfl (hC e11_8.2.2.2)
  have Fw10_ := fc5_.same W10_
  have fc11_ := fc4_.wr W10_
  have fc12_ := fc6_.other W10_ (Or.inr (js0 hw).symm)
  have fc16_ := Tb2_.other W10_ (Ne.symm ne8_)
  have sw10_ : Safe Z own_EL T2_.vm h2_ a := sf3_
  have Cs10_ : CHr Z own_EL T2_.vm h2_ T2_.vm h10_ := CHr.wr W10_ sw10_ CH2_.1
  have sf17_ := Safe.wr W10_ sw10_ CH2_.1 sf3_
  have CH10_ := CH2_.trans Cs10_
  have hk10_ := Nat.le_trans hk2_ Cs10_.2.1
  have K10_ := K2_.wr W10_ (Or.inl (List.mem_of_getElem? (i := 0) rfl))
  have N10_ := Fr.snoc X10_ N0 ga
  refine own_fin st10_ ?_
  refine jg T10_ mM 18 ll1 [(.ref a)] (fun tT kK => ?_) ?_
  · refine XS.aloadN X10_.here hx rfl (hC e11_17.1) rfl rfl ?_
    exact kK
  obtain ⟨a18_, T18_, h18_, k118_, b18_, kc18_, X18_, e18_, E18_, hS18_, hk18_, hZ, hown, Ea18_, Fc18_, Fv18_, Vb18_, la18_, lb18_, Cr18_, -, sfn18_, st18_⟩ := ldcCH X10_ hx hZ hown (jk hw 64 rfl) (own_wS hw) e10_ hS2_ hk10_ (own_EW hw) (EL := own_EL) (List.mem_of_getElem? (i := 1) rfl) CH10_.1 (vs := []) (z := (0 : Int32)) ⟨by decide, by rfl⟩ (by decide) (by decide) (g := (mkF mM 18 ll1 [(.ref a)])) rfl (hC e11_17.2.1) (n := 0) (by decide) (by decide) (by decide) (by decide)
  have sf19_ := Cr18_.safe fc11_.lt sf17_
  have fc20_ := fc11_.ext E18_
  have fc21_ := Fw10_.ext E18_
  have fc22_ := fc12_.ext E18_
  have fc26_ := fc16_.ext E18_
  have K18_ := K10_.ext E18_
  have CH18_ := CH10_.trans Cr18_
  have Tb18_ : own_T Z h18_ b18_ .byte (0 : Int32) (own_li []) := own_at_T (xs := []) Vb18_
  refine own_fin st18_ ?_
  refine jf X18_ hx hZ hown (jk hw 26 rfl) e18_ Fc18_ (hC e11_17.2.2.1) fun T29_ X29_ e29_ => ?_
  obtain ⟨T30_, h30_, X30_, e30_, W30_, st30_⟩ := putFN X29_ hx hZ hown (jk hw 26 rfl) Via.refl e29_ fc22_ fc20_ (Or.inr ⟨(jk hw 6 rfl), rfl, hnm⟩) (jk hw 3 rfl) (ty := .byte) (v' := (.int (0 : Int32))) (by decide) rfl (by first | exact fits_nar_byte _ | rfl) (g := (mkF mM 23 ll1 [(.int (0 : Int32)), (.ref a)])) rfl rfl (hC e11_17.2.2.2)
  have Fw30_ := fc22_.same W30_
  have fc31_ := fc20_.wr W30_
  have fc32_ := fc21_.other W30_ (Or.inr (js0 hw))
  have fc36_ := fc26_.other W30_ (Ne.symm ne8_)
  have sw30_ : Safe Z own_EL T18_.vm h18_ a := sf19_
  have Cs30_ : CHr Z own_EL T18_.vm h18_ T18_.vm h30_ := CHr.wr W30_ sw30_ CH18_.1
  have sf41_ := Safe.wr W30_ sw30_ CH18_.1 sf19_
  have CH30_ := CH18_.trans Cs30_
  have hk30_ := Nat.le_trans hk18_ Cs30_.2.1
  have K30_ := K18_.wr W30_ (Or.inl (List.mem_of_getElem? (i := 0) rfl))
  have N30_ := Fr.snoc X30_ N10_ ga
  refine own_fin st30_ ?_
  obtain ⟨fs, hr, hrun, hended, hE1, hE2, hE3, hE4⟩ := X30_.leaveW hS18_ (own_hk e30_ hk30_) (v := none) (fun _ => rfl)
  refine ⟨_, _, ?_, hrun, hended, _, _, rfl, ?_, own_CHe (T := T30_) (vm1 := T30_.vm) hh e30_ (CH30_.trans (CHv.at X30_ hZ (own_EW hw) CH30_.1)), hE1, hE2, hE3, hE4.mono (by decide) (by decide)⟩
  · show Steps pP.tables eE below (T30_.setTop (mkF mM 26 ll1 [])) _
    exact X30_.returnOut hx Bd.returns (hC d11_26) hr
  · show Q_rm_e4 Z a c h0 n0 _ T30_.heap _
    rw [e30_]
    exact ⟨b2_, rfl, N30_, K30_, fc31_, fc32_, Fw30_, fc36_⟩
theorem own_ef_rm_e0 (mM : MethodId) (x0 : Addr) (x1 : Addr) : entryFrame mM #[(.ref x0), (.ref x1)] 2 = mkF mM 0 #[.val (.ref x0), .val (.ref x1)] [] := by first | (simp [entryFrame, mkF, argsToLocals, Value.category]; done) | rfl
def Q_rm_e0 (Z : State) (a : Addr) (c : Addr) (f : Int32 → Int32) (h0 : Heap) (n0 : Nat) (vV : Option Value) (hH : Heap) (lA : List Loc) : Prop := ∃ t' : Addr, vV = none ∧ Fr n0 lA ∧ (Keep h0 hH [a]) ∧ (jE0 Z hH a) ∧ (jF1 Z hH a (.ref t')) ∧ (jF0 Z hH a (.int (0 : Int32))) ∧ (own_T Z hH t' .byte (0 : Int32) (own_li []))
set_option maxRecDepth 65536 in
set_option maxHeartbeats 40000000 in
theorem rm_e0 (lL : Launch) (Z : State) (a0 : Array Value) (hw : own_H a0 Z) (ws : List Jvm.Cond) (a : Addr) (c : Addr) (f : Int32 → Int32) (h0 : Heap) (n0 : Nat) (Z0 : n0 ≤ h0.size) (Ea : jE0 Z h0 a) (Fv : jF1 Z h0 a .null) (Fc : jF0 Z h0 a (.int (0 : Int32))) (ga : n0 ≤ a) (Tc : own_T Z h0 c .char (0 : Int32) f) (nca : c ≠ a) :
    MetFree lL jy11 (head1 (Jvm.Cond.code jy11 jdk_42_method_3_code 2 none :: ws) jr10) (fun aA uU => aA = #[(.ref a), (.ref c)] ∧ Z.Warmed39 uU.vm ∧ uU.heap = h0 ∧ CHv Z own_EL uU.vm h0 ∧ ∀ x ∈ ([a] : List Addr), Safe Z own_EL uU.vm h0 x) (fun _ _ _ _ _ => True) (fun _ uU oO uU' => ∃ vV lA, oO = .returned vV ∧ Q_rm_e0 Z a c f h0 n0 vV uU'.heap lA ∧ CHr Z own_EL uU.vm uU.heap uU'.vm uU'.heap ∧ ReturnedEndW uU oO uU' lA jr10.cells jr10.slots) := by
  refine MetFree.of_bodySF (plainFor_of_name own_pn_java_lang_String) hisR ?_
  intro pP eE sS mM args below meth cC s₁ Bd hml0 hP hK
  obtain ⟨rfl, hZ, hh, hC0, hY0⟩ := hP
  have sY0 := hY0 a (List.mem_of_getElem? (i := 0) rfl)
  have hx := Bd.exec
  have hby := Bd.bytes
  have hC := @Jvm.hb _ _ hby
  have hml : cC.maxLocals = 2 := hml0
  have hown : sS.vm.findClass "java/lang/String" = some mM.cls := findClass_of_methodNamed Bd.named
  have hnm := (name_of_methodNamed Bd.named Bd.method).1
  have X0 : Stand pP lL eE jr10 (sS.setVm sS.vm) mM #[(.ref a), (.ref c)] below meth cC s₁ [] 0 0 := Stand.of_body Bd
  have hS0 : sS.Since sS.vm 0 := (State.WarmedH.refl sS).since 0
  have hk0 : 0 ≤ h0.size := Nat.zero_le _
  have CH0 : CHr Z own_EL sS.vm h0 sS.vm h0 := CHr.refl hC0
  have e0 : s₁.heap = h0 := by rw [← hh, Bd.state]; rfl
  have N0 := Fr.nil n0
  have K0 := Keep.refl h0 [a]
  show own_Fin pP eE below (fun tT oO => ∃ vV lA, oO = .returned vV ∧ Q_rm_e0 Z a c f h0 n0 vV tT.heap lA ∧ CHr Z own_EL sS.vm sS.heap tT.vm tT.heap ∧ ReturnedEndW sS oO tT lA jr10.cells jr10.slots) (s₁.setTop (entryFrame mM #[(.ref a), (.ref c)] 2))
  refine own_fin (b := s₁.setTop (mkF mM 0 #[.val (.ref a), .val (.ref c)] [])) (fun tT kK => castTop (own_ef_rm_e0 mM a c) kK) ?_
  refine jg s₁ mM 4 #[vR a, vR c] [(.ref c), (.int (0 : Int32)), (.ref c), (.ref a)] (fun tT kK => ?_) ?_
  · refine XS.aloadN X0.here hx rfl (hC e10_0.1) rfl rfl ?_
    refine XS.aloadN X0.here hx rfl (hC e10_0.2.1) rfl rfl ?_
    refine XS.iconst X0.here hx rfl (hC e10_0.2.2.1) ?_
    refine XS.aloadN X0.here hx rfl (hC e10_0.2.2.2) rfl rfl ?_
    exact kK
  obtain ⟨cl1_, Ar1_, Sz1_, Nn1_, -⟩ := id Tc
  refine jg s₁ mM 6 #[vR a, vR c] [.null, (.int (0 : Int32)), (.int (0 : Int32)), (.ref c), (.ref a)] (fun tT kK => ?_) ?_
  · refine X0.arraylength hx (own_rw e0 Ar1_.1) (State.isArrayOf_alike hZ.alike Ar1_.2.1) (g := (mkF mM 4 #[vR a, vR c] [(.ref c), (.int (0 : Int32)), (.ref c), (.ref a)])) rfl rfl (hC e10_4.1) _ ?_
    rw [len_of Sz1_ Nn1_]
    refine XS.aconstNull X0.here hx rfl (hC e10_4.2.1) ?_
    exact kK
  obtain ⟨_, _, ⟨T2_, L2_, k2_, n2_⟩, -, Xa2_, hSa2_, hga2_, ⟨Lc2_, hQ2_, l2_, y2_, z2_, hC2_⟩, st2_⟩ := X0.specialBackS hx (y := jy10) rfl hown (jm hZ hw 57 rfl) (jm hZ hw 58 rfl) (jm hZ hw 60 rfl) (by decide) (own_backSY (W := 0) (rm_e4 lL Z a0 hw [] a c h0 n0 (Nat.le_trans Z0 K0.1) Ea Fv Fc ga) hZ (jk hw 60 rfl) (jk hw 2 rfl) (by decide) (by decide) (own_EW hw) CH0.1 (own_yS Ea.lt sY0 own_y0)) (g := (mkF mM 6 #[vR a, vR c] [.null, (.int (0 : Int32)), (.int (0 : Int32)), (.ref c), (.ref a)])) rfl (by rw [hml]; rfl) (Steps.refl _) (a := a) (argsL := [(.ref c), (.int (0 : Int32)), (.int (0 : Int32)), .null]) (rest := []) (lenOf own_pd8 rfl) rfl (by show 2 * 0 + _ ≤ _; exact Nat.le_of_eq rfl) (hC e10_4.2.2) (fun _ _ => ⟨rfl, e0, (by decide : 0 + 4 ≤ _), (by decide : 0 + 8 ≤ _)⟩)
  dsimp only [Pt.U, Pt.locs, Pt.cells, Pt.slots] at Xa2_ hSa2_ hga2_ l2_ y2_ z2_ st2_ hQ2_ hC2_
  subst l2_ y2_ z2_
  obtain ⟨X2_, hS2_, hZ, hown⟩ := rebS hS0 (own_hk e0 hk0) Xa2_ hSa2_ hga2_ hZ hown
  obtain ⟨t'_2_, rfl, N2_q, p2__0, p2__1, p2__2, p2__3, p2__4⟩ := hQ2_
  have N2_ := Fr.app N0 N2_q
  have sf3_ := hC2_.safe Ea.lt sY0
  have K2_ := K0.trans p2__0 (allS (Or.inl (List.mem_of_getElem? (i := 0) rfl)) all0)
  have CH2_ := CH0.trans hC2_
  have hk2_ : T2_.heap.size ≤ T2_.heap.size := Nat.le_refl _
  refine own_fin (fun tT kK => st2_.trans kK) ?_
  obtain ⟨fs, hr, hrun, hended, hE1, hE2, hE3, hE4⟩ := X2_.leaveW hS2_ (own_hk rfl hk2_) (v := none) (fun _ => rfl)
  refine ⟨_, _, ?_, hrun, hended, _, _, rfl, ?_, own_CHe (T := T2_) (vm1 := T2_.vm) hh rfl (CH2_.trans (CHv.at X2_ hZ (own_EW hw) CH2_.1)), hE1, hE2, hE3, hE4.mono (by decide) (by decide)⟩
  · show Steps pP.tables eE below (T2_.setTop (mkF mM 9 #[vR a, vR c] [])) _
    exact X2_.returnOut hx Bd.returns (hC d10_9) hr
  · show Q_rm_e0 Z a c f h0 n0 _ T2_.heap _
    exact ⟨t'_2_, rfl, N2_, K2_, p2__1, p2__2, p2__3, p2__4⟩
theorem e9_0 : jD15 0 (.iload_n 0, 1) ∧ jD15 1 (.ifCond .gt 14, 3) ∧ jD15 15 (.iload_n 0, 1) ∧ jD15 16 (.iconst 1, 1) := by decide +kernel
theorem e9_17 : jD15 17 (.if_icmp .ne 20, 3) ∧ jD15 20 (.new 23, 3) ∧ jD15 23 (.dup, 1) ∧ jD15 24 (.iconst 1, 1) := by decide +kernel
theorem e9_25 : jD15 25 (.newarray .char, 2) ∧ jD15 27 (.dup, 1) ∧ jD15 28 (.iconst 0, 1) ∧ jD15 29 (.aload_n 1, 1) := by decide +kernel
theorem e9_30 : jD15 30 (.iconst 0, 1) ∧ jD15 31 (.caload, 1) ∧ jD15 32 (.castore, 1) ∧ jD15 33 (.invokespecial 67, 3) := by decide +kernel
theorem own_pd12 : parseMethodDescriptor "([C)V" = some ⟨[(.array .char)], none⟩ := by decide +kernel
theorem e9_36 : jD15 36 (.areturn, 1) ∧ jD15 37 (.iload_n 0, 1) ∧ jD15 38 (.iconst 2, 1) ∧ jD15 39 (.if_icmp .ne 26, 3) := by decide +kernel
theorem e9_42 : jD15 42 (.new 23, 3) ∧ jD15 45 (.dup, 1) ∧ jD15 46 (.iconst 2, 1) ∧ jD15 47 (.newarray .char, 2) := by decide +kernel
theorem e9_49 : jD15 49 (.dup, 1) ∧ jD15 50 (.iconst 0, 1) ∧ jD15 51 (.aload_n 1, 1) ∧ jD15 52 (.iconst 0, 1) := by decide +kernel
theorem e9_53 : jD15 53 (.caload, 1) ∧ jD15 54 (.castore, 1) ∧ jD15 55 (.dup, 1) ∧ jD15 56 (.iconst 1, 1) := by decide +kernel
theorem e9_57 : jD15 57 (.aload_n 1, 1) ∧ jD15 58 (.iconst 1, 1) ∧ jD15 59 (.caload, 1) ∧ jD15 60 (.castore, 1) := by decide +kernel
theorem e9_61 : jD15 61 (.invokespecial 67, 3) ∧ jD15 64 (.areturn, 1) ∧ jD15 65 (.iload_n 0, 1) ∧ jD15 66 (.iconst 3, 1) := by decide +kernel
theorem e9_67 : jD15 67 (.if_icmp .ne 32, 3) ∧ jD15 70 (.new 23, 3) ∧ jD15 73 (.dup, 1) ∧ jD15 74 (.iconst 3, 1) := by decide +kernel
theorem e9_75 : jD15 75 (.newarray .char, 2) ∧ jD15 77 (.dup, 1) ∧ jD15 78 (.iconst 0, 1) ∧ jD15 79 (.aload_n 1, 1) := by decide +kernel
theorem e9_80 : jD15 80 (.iconst 0, 1) ∧ jD15 81 (.caload, 1) ∧ jD15 82 (.castore, 1) ∧ jD15 83 (.dup, 1) := by decide +kernel
theorem e9_84 : jD15 84 (.iconst 1, 1) ∧ jD15 85 (.aload_n 1, 1) ∧ jD15 86 (.iconst 1, 1) ∧ jD15 87 (.caload, 1) := by decide +kernel
theorem e9_88 : jD15 88 (.castore, 1) ∧ jD15 89 (.dup, 1) ∧ jD15 90 (.iconst 2, 1) ∧ jD15 91 (.aload_n 1, 1) := by decide +kernel
theorem e9_92 : jD15 92 (.iconst 2, 1) ∧ jD15 93 (.caload, 1) ∧ jD15 94 (.castore, 1) ∧ jD15 95 (.invokespecial 67, 3) := by decide +kernel
theorem e9_98 : jD15 98 (.areturn, 1) ∧ jD15 99 (.iload_n 0, 1) ∧ jD15 100 (.iconst 4, 1) ∧ jD15 101 (.if_icmp .ne 38, 3) := by decide +kernel
theorem e9_104 : jD15 104 (.new 23, 3) ∧ jD15 107 (.dup, 1) ∧ jD15 108 (.iconst 4, 1) ∧ jD15 109 (.newarray .char, 2) := by decide +kernel
theorem e9_111 : jD15 111 (.dup, 1) ∧ jD15 112 (.iconst 0, 1) ∧ jD15 113 (.aload_n 1, 1) ∧ jD15 114 (.iconst 0, 1) := by decide +kernel
theorem e9_115 : jD15 115 (.caload, 1) ∧ jD15 116 (.castore, 1) ∧ jD15 117 (.dup, 1) ∧ jD15 118 (.iconst 1, 1) := by decide +kernel
theorem e9_119 : jD15 119 (.aload_n 1, 1) ∧ jD15 120 (.iconst 1, 1) ∧ jD15 121 (.caload, 1) ∧ jD15 122 (.castore, 1) := by decide +kernel
theorem e9_123 : jD15 123 (.dup, 1) ∧ jD15 124 (.iconst 2, 1) ∧ jD15 125 (.aload_n 1, 1) ∧ jD15 126 (.iconst 2, 1) := by decide +kernel
theorem e9_127 : jD15 127 (.caload, 1) ∧ jD15 128 (.castore, 1) ∧ jD15 129 (.dup, 1) ∧ jD15 130 (.iconst 3, 1) := by decide +kernel
theorem e9_131 : jD15 131 (.aload_n 1, 1) ∧ jD15 132 (.iconst 3, 1) ∧ jD15 133 (.caload, 1) ∧ jD15 134 (.castore, 1) := by decide +kernel
theorem e9_135 : jD15 135 (.invokespecial 67, 3) ∧ jD15 138 (.areturn, 1) ∧ jD15 139 (.iload_n 0, 1) ∧ jD15 140 (.iconst 5, 1) := by decide +kernel
theorem e9_141 : jD15 141 (.if_icmp .ne 44, 3) ∧ jD15 144 (.new 23, 3) ∧ jD15 147 (.dup, 1) ∧ jD15 148 (.iconst 5, 1) := by decide +kernel
theorem e9_149 : jD15 149 (.newarray .char, 2) ∧ jD15 151 (.dup, 1) ∧ jD15 152 (.iconst 0, 1) ∧ jD15 153 (.aload_n 1, 1) := by decide +kernel
theorem e9_154 : jD15 154 (.iconst 0, 1) ∧ jD15 155 (.caload, 1) ∧ jD15 156 (.castore, 1) ∧ jD15 157 (.dup, 1) := by decide +kernel
theorem e9_158 : jD15 158 (.iconst 1, 1) ∧ jD15 159 (.aload_n 1, 1) ∧ jD15 160 (.iconst 1, 1) ∧ jD15 161 (.caload, 1) := by decide +kernel
theorem e9_162 : jD15 162 (.castore, 1) ∧ jD15 163 (.dup, 1) ∧ jD15 164 (.iconst 2, 1) ∧ jD15 165 (.aload_n 1, 1) := by decide +kernel
theorem e9_166 : jD15 166 (.iconst 2, 1) ∧ jD15 167 (.caload, 1) ∧ jD15 168 (.castore, 1) ∧ jD15 169 (.dup, 1) := by decide +kernel
theorem e9_170 : jD15 170 (.iconst 3, 1) ∧ jD15 171 (.aload_n 1, 1) ∧ jD15 172 (.iconst 3, 1) ∧ jD15 173 (.caload, 1) := by decide +kernel
theorem e9_174 : jD15 174 (.castore, 1) ∧ jD15 175 (.dup, 1) ∧ jD15 176 (.iconst 4, 1) ∧ jD15 177 (.aload_n 1, 1) := by decide +kernel
theorem e9_178 : jD15 178 (.iconst 4, 1) ∧ jD15 179 (.caload, 1) ∧ jD15 180 (.castore, 1) ∧ jD15 181 (.invokespecial 67, 3) := by decide +kernel
theorem e9_184 : jD15 184 (.areturn, 1) ∧ jD15 185 (.iload_n 0, 1) ∧ jD15 186 (.bipush 6, 2) ∧ jD15 188 (.if_icmp .ne 51, 3) := by decide +kernel
theorem e9_191 : jD15 191 (.new 23, 3) ∧ jD15 194 (.dup, 1) ∧ jD15 195 (.bipush 6, 2) ∧ jD15 197 (.newarray .char, 2) := by decide +kernel
theorem e9_199 : jD15 199 (.dup, 1) ∧ jD15 200 (.iconst 0, 1) ∧ jD15 201 (.aload_n 1, 1) ∧ jD15 202 (.iconst 0, 1) := by decide +kernel
theorem e9_203 : jD15 203 (.caload, 1) ∧ jD15 204 (.castore, 1) ∧ jD15 205 (.dup, 1) ∧ jD15 206 (.iconst 1, 1) := by decide +kernel
theorem e9_207 : jD15 207 (.aload_n 1, 1) ∧ jD15 208 (.iconst 1, 1) ∧ jD15 209 (.caload, 1) ∧ jD15 210 (.castore, 1) := by decide +kernel
theorem e9_211 : jD15 211 (.dup, 1) ∧ jD15 212 (.iconst 2, 1) ∧ jD15 213 (.aload_n 1, 1) ∧ jD15 214 (.iconst 2, 1) := by decide +kernel
theorem e9_215 : jD15 215 (.caload, 1) ∧ jD15 216 (.castore, 1) ∧ jD15 217 (.dup, 1) ∧ jD15 218 (.iconst 3, 1) := by decide +kernel
theorem e9_219 : jD15 219 (.aload_n 1, 1) ∧ jD15 220 (.iconst 3, 1) ∧ jD15 221 (.caload, 1) ∧ jD15 222 (.castore, 1) := by decide +kernel
theorem e9_223 : jD15 223 (.dup, 1) ∧ jD15 224 (.iconst 4, 1) ∧ jD15 225 (.aload_n 1, 1) ∧ jD15 226 (.iconst 4, 1) := by decide +kernel
theorem e9_227 : jD15 227 (.caload, 1) ∧ jD15 228 (.castore, 1) ∧ jD15 229 (.dup, 1) ∧ jD15 230 (.iconst 5, 1) := by decide +kernel
theorem e9_231 : jD15 231 (.aload_n 1, 1) ∧ jD15 232 (.iconst 5, 1) ∧ jD15 233 (.caload, 1) ∧ jD15 234 (.castore, 1) := by decide +kernel
theorem e9_235 : jD15 235 (.invokespecial 67, 3) ∧ jD15 238 (.areturn, 1) ∧ jD15 239 (.iload_n 0, 1) ∧ jD15 240 (.bipush 7, 2) := by decide +kernel
theorem e9_242 : jD15 242 (.if_icmp .ne 59, 3) ∧ jD15 245 (.new 23, 3) ∧ jD15 248 (.dup, 1) ∧ jD15 249 (.bipush 7, 2) := by decide +kernel
theorem e9_251 : jD15 251 (.newarray .char, 2) ∧ jD15 253 (.dup, 1) ∧ jD15 254 (.iconst 0, 1) ∧ jD15 255 (.aload_n 1, 1) := by decide +kernel
theorem e9_256 : jD15 256 (.iconst 0, 1) ∧ jD15 257 (.caload, 1) ∧ jD15 258 (.castore, 1) ∧ jD15 259 (.dup, 1) := by decide +kernel
theorem e9_260 : jD15 260 (.iconst 1, 1) ∧ jD15 261 (.aload_n 1, 1) ∧ jD15 262 (.iconst 1, 1) ∧ jD15 263 (.caload, 1) := by decide +kernel
theorem e9_264 : jD15 264 (.castore, 1) ∧ jD15 265 (.dup, 1) ∧ jD15 266 (.iconst 2, 1) ∧ jD15 267 (.aload_n 1, 1) := by decide +kernel
theorem e9_268 : jD15 268 (.iconst 2, 1) ∧ jD15 269 (.caload, 1) ∧ jD15 270 (.castore, 1) ∧ jD15 271 (.dup, 1) := by decide +kernel
theorem e9_272 : jD15 272 (.iconst 3, 1) ∧ jD15 273 (.aload_n 1, 1) ∧ jD15 274 (.iconst 3, 1) ∧ jD15 275 (.caload, 1) := by decide +kernel
theorem e9_276 : jD15 276 (.castore, 1) ∧ jD15 277 (.dup, 1) ∧ jD15 278 (.iconst 4, 1) ∧ jD15 279 (.aload_n 1, 1) := by decide +kernel
theorem e9_280 : jD15 280 (.iconst 4, 1) ∧ jD15 281 (.caload, 1) ∧ jD15 282 (.castore, 1) ∧ jD15 283 (.dup, 1) := by decide +kernel
theorem e9_284 : jD15 284 (.iconst 5, 1) ∧ jD15 285 (.aload_n 1, 1) ∧ jD15 286 (.iconst 5, 1) ∧ jD15 287 (.caload, 1) := by decide +kernel
theorem e9_288 : jD15 288 (.castore, 1) ∧ jD15 289 (.dup, 1) ∧ jD15 290 (.bipush 6, 2) ∧ jD15 292 (.aload_n 1, 1) := by decide +kernel
theorem e9_293 : jD15 293 (.bipush 6, 2) ∧ jD15 295 (.caload, 1) ∧ jD15 296 (.castore, 1) ∧ jD15 297 (.invokespecial 67, 3) := by decide +kernel
theorem e9_300 : jD15 300 (.areturn, 1) ∧ jD15 301 (.new 23, 3) ∧ jD15 304 (.dup, 1) ∧ jD15 305 (.bipush 8, 2) := by decide +kernel
theorem e9_307 : jD15 307 (.newarray .char, 2) ∧ jD15 309 (.dup, 1) ∧ jD15 310 (.iconst 0, 1) ∧ jD15 311 (.aload_n 1, 1) := by decide +kernel
theorem e9_312 : jD15 312 (.iconst 0, 1) ∧ jD15 313 (.caload, 1) ∧ jD15 314 (.castore, 1) ∧ jD15 315 (.dup, 1) := by decide +kernel
theorem e9_316 : jD15 316 (.iconst 1, 1) ∧ jD15 317 (.aload_n 1, 1) ∧ jD15 318 (.iconst 1, 1) ∧ jD15 319 (.caload, 1) := by decide +kernel
theorem e9_320 : jD15 320 (.castore, 1) ∧ jD15 321 (.dup, 1) ∧ jD15 322 (.iconst 2, 1) ∧ jD15 323 (.aload_n 1, 1) := by decide +kernel
theorem e9_324 : jD15 324 (.iconst 2, 1) ∧ jD15 325 (.caload, 1) ∧ jD15 326 (.castore, 1) ∧ jD15 327 (.dup, 1) := by decide +kernel
theorem e9_328 : jD15 328 (.iconst 3, 1) ∧ jD15 329 (.aload_n 1, 1) ∧ jD15 330 (.iconst 3, 1) ∧ jD15 331 (.caload, 1) := by decide +kernel
theorem e9_332 : jD15 332 (.castore, 1) ∧ jD15 333 (.dup, 1) ∧ jD15 334 (.iconst 4, 1) ∧ jD15 335 (.aload_n 1, 1) := by decide +kernel
theorem e9_336 : jD15 336 (.iconst 4, 1) ∧ jD15 337 (.caload, 1) ∧ jD15 338 (.castore, 1) ∧ jD15 339 (.dup, 1) := by decide +kernel
theorem e9_340 : jD15 340 (.iconst 5, 1) ∧ jD15 341 (.aload_n 1, 1) ∧ jD15 342 (.iconst 5, 1) ∧ jD15 343 (.caload, 1) := by decide +kernel
theorem e9_344 : jD15 344 (.castore, 1) ∧ jD15 345 (.dup, 1) ∧ jD15 346 (.bipush 6, 2) ∧ jD15 348 (.aload_n 1, 1) := by decide +kernel
theorem e9_349 : jD15 349 (.bipush 6, 2) ∧ jD15 351 (.caload, 1) ∧ jD15 352 (.castore, 1) ∧ jD15 353 (.dup, 1) := by decide +kernel
theorem e9_354 : jD15 354 (.bipush 7, 2) ∧ jD15 356 (.aload_n 1, 1) ∧ jD15 357 (.bipush 7, 2) ∧ jD15 359 (.caload, 1) := by decide +kernel
theorem e9_360 : jD15 360 (.castore, 1) ∧ jD15 361 (.invokespecial 67, 3) ∧ jD15 364 (.areturn, 1) ∧ jD15 4 (.new 23, 3) := by decide +kernel
theorem e9_7 : jD15 7 (.dup, 1) ∧ jD15 8 (.iconst 0, 1) ∧ jD15 9 (.newarray .char, 2) ∧ jD15 11 (.invokespecial 67, 3) := by decide +kernel
theorem d9_14 : jD15 14 (.areturn, 1) := by decide +kernel
theorem own_ef_rm_strn (mM : MethodId) (x0 : Int32) (x1 : Addr) : entryFrame mM #[(.int x0), (.ref x1)] 2 = mkF mM 0 #[.val (.int x0), .val (.ref x1)] [] := by first | (simp [entryFrame, mkF, argsToLocals, Value.category]; done) | rfl
def Q_rm_strn (Z : State) (c : Addr) (nn : Int32) (fc : Int32 → Int32) (cs : Int32) (h0 : Heap) (n0 : Nat) (vV : Option Value) (hH : Heap) (lA : List Loc) : Prop := ∃ s' : Addr, ∃ t' : Addr, ∃ z' : Int32, ∃ f' : Int32 → Int32, vV = some (.ref s') ∧ Fr n0 lA ∧ (Keep h0 hH []) ∧ (h0.size ≤ s') ∧ (jE0 Z hH s') ∧ (jF1 Z hH s' (.ref t')) ∧ (jF0 Z hH s' (.int (0 : Int32))) ∧ (own_T Z hH t' .byte z' f')
set_option maxRecDepth 65536 in
set_option maxHeartbeats 40000000 in
theorem rm_strn (lL : Launch) (Z : State) (a0 : Array Value) (hw : own_H a0 Z) (ws : List Jvm.Cond) (c : Addr) (nn : Int32) (fc : Int32 → Int32) (cs : Int32) (h0 : Heap) (n0 : Nat) (Z0 : n0 ≤ h0.size) (Oo : Old Z n0 h0) (Scs : Sta Z Z.heap "java/lang/String" "COMPACT_STRINGS" "Z" (.int cs)) (ncs : ¬ (cs = (0 : Int32))) (Tc : own_T Z h0 c .char (8 : Int32) fc) (hb : ∀ j : Int32, 0 ≤ (fc j).toInt ∧ (fc j).toInt ≤ 255) :
    MetFree lL jy15 (head1 (Jvm.Cond.code jy15 method_4_code 2 (some (.object "java/lang/String")) :: ws) jr11) (fun aA uU => aA = #[(.int nn), (.ref c)] ∧ Z.Warmed39 uU.vm ∧ uU.heap = h0 ∧ CHv Z own_EL uU.vm h0 ∧ ∀ x ∈ ([] : List Addr), Safe Z own_EL uU.vm h0 x) (fun _ _ _ _ _ => True) (fun _ uU oO uU' => ∃ vV lA, oO = .returned vV ∧ Q_rm_strn Z c nn fc cs h0 n0 vV uU'.heap lA ∧ CHr Z own_EL uU.vm uU.heap uU'.vm uU'.heap ∧ ReturnedEndW uU oO uU' lA jr11.cells jr11.slots) := by
  refine MetFree.of_bodySF (plainFor_of_name own_pn_com_example_needlework_needlework_AlgorithmNamedPinLaw) hisR ?_
  intro pP eE sS mM args below meth cC s₁ Bd hml0 hP hK
  obtain ⟨rfl, hZ, hh, hC0, hY0⟩ := hP
  have hx := Bd.exec
  have hby := Bd.bytes
  have hC := @Jvm.hb _ _ hby
  have hml : cC.maxLocals = 2 := hml0
  have hown : sS.vm.findClass "com/example/needlework/needlework/AlgorithmNamedPinLaw" = some mM.cls := findClass_of_methodNamed Bd.named
  have hnm := (name_of_methodNamed Bd.named Bd.method).1
  have X0 : Stand pP lL eE jr11 (sS.setVm sS.vm) mM #[(.int nn), (.ref c)] below meth cC s₁ [] 0 0 := Stand.of_body Bd
  have hS0 : sS.Since sS.vm 0 := (State.WarmedH.refl sS).since 0
  have hk0 : 0 ≤ h0.size := Nat.zero_le _
  have CH0 : CHr Z own_EL sS.vm h0 sS.vm h0 := CHr.refl hC0
  have e0 : s₁.heap = h0 := by rw [← hh, Bd.state]; rfl
  have N0 := Fr.nil n0
  have K0 := Keep.refl h0 ([] : List Addr)
  show own_Fin pP eE below (fun tT oO => ∃ vV lA, oO = .returned vV ∧ Q_rm_strn Z c nn fc cs h0 n0 vV tT.heap lA ∧ CHr Z own_EL sS.vm sS.heap tT.vm tT.heap ∧ ReturnedEndW sS oO tT lA jr11.cells jr11.slots) (s₁.setTop (entryFrame mM #[(.int nn), (.ref c)] 2))
  refine own_fin (b := s₁.setTop (mkF mM 0 #[.val (.int nn), .val (.ref c)] [])) (fun tT kK => castTop (own_ef_rm_strn mM nn c) kK) ?_
  refine jg s₁ mM 1 #[vI nn, vR c] [(.int nn)] (fun tT kK => ?_) ?_
  · refine XS.iloadN X0.here hx rfl (hC e9_0.1) rfl ?_
    exact kK
  by_cases hc1_1_ : (0 : Int32) < nn
  · refine jg s₁ mM 17 #[vI nn, vR c] [(.int (1 : Int32)), (.int nn)] (fun tT kK => ?_) ?_
    · refine XS.ifYes X0.here hx rfl (pc0 := 1) (pc' := 15) rfl (hC e9_0.2.1) rfl ((if0 _ _).trans (tlt (hc1_1_ : (0 : Int32) < nn)).2.2.1) (by decide) (by decide) ?_
      refine XS.iloadN X0.here hx rfl (hC e9_0.2.2.1) rfl ?_
      refine XS.iconst X0.here hx rfl (hC e9_0.2.2.2) ?_
      exact kK
    by_cases hc17_2_ : nn = (1 : Int32)
    · refine jg s₁ mM 20 #[vI nn, vR c] [] (fun tT kK => ?_) ?_
      · refine XS.icmpNo X0.here hx rfl (hC e9_17.1) rfl (teq (hc17_2_ : nn = (1 : Int32))).2 ?_
        exact kK
      obtain ⟨T3_, h3_, X3_, e3_, E3_, A3_, D3_, -, st3_⟩ := newO X0 hx hZ hown (jk hw 53 rfl) (jk hw 3 rfl) (jk hw 2 rfl) e0 (g := (mkF mM 20 #[vI nn, vR c] [])) rfl (hC e9_17.2.1) (by decide) (by decide)
      obtain ⟨b3_, g3_⟩ : ∃ z, z = h0.size := ⟨_, rfl⟩
      rw [← g3_] at A3_ D3_ st3_
      have sz_b3_ : h0.size ≤ b3_ := Nat.le_trans K0.1 (Nat.le_of_eq g3_.symm)
      have ge_b3_ : n0 ≤ b3_ := Nat.le_trans Z0 sz_b3_
      have fc5_ := Oo.ext E3_
      have fc6_ := Tc.ext E3_
      have Cs3_ : CHr Z own_EL sS.vm h0 sS.vm h3_ := CHr.ext E3_ CH0.1
      have CH3_ := CH0.trans Cs3_
      have hk3_ := Nat.le_trans hk0 Cs3_.2.1
      have K3_ := K0.ext E3_
      have sf3_ : Safe Z own_EL sS.vm h3_ b3_ := Safe.ext E3_ CH0.1 (Safe.new (Nat.le_of_eq g3_.symm))
      have F3__value : jF1 Z h3_ b3_ .null := D3_ (Or.inr (jk hw 5 rfl)) (ty := (.array .byte)) (by decide)
      have F3__coder : jF0 Z h3_ b3_ (.int (0 : Int32)) := D3_ (Or.inr (jk hw 6 rfl)) (ty := .byte) (by decide)
      refine own_fin st3_ ?_
      refine jg T3_ mM 25 #[vI nn, vR c] [(.int (1 : Int32)), (.ref b3_), (.ref b3_)] (fun tT kK => ?_) ?_
      · refine XS.dup X3_.here hx rfl (hC e9_17.2.2.1) rfl rfl ?_
        refine XS.iconst X3_.here hx rfl (hC e9_17.2.2.2) ?_
        exact kK
      obtain ⟨T7_, h7_, k7_, X7_, e7_, E7_, A7_, st7_⟩ := newP X3_ hx hZ (jk hw 9 rfl) e3_ (g := (mkF mM 25 #[vI nn, vR c] [(.int (1 : Int32)), (.ref b3_), (.ref b3_)])) rfl (hC e9_25.1) rfl (by decide) (cap := 1) (by decide) (by decide) (by decide) (by decide)
      obtain ⟨b7_, g7_⟩ : ∃ z, z = h3_.size := ⟨_, rfl⟩
      rw [← g7_] at A7_ st7_
      have sz_b7_ : h0.size ≤ b7_ := Nat.le_trans K3_.1 (Nat.le_of_eq g7_.symm)
      have ge_b7_ : n0 ≤ b7_ := Nat.le_trans Z0 sz_b7_
      have ne9_ : b3_ ≠ b7_ := Nat.ne_of_lt (Nat.lt_of_lt_of_le A3_.lt (Nat.le_of_eq g7_.symm))
      have fc10_ := fc5_.ext E7_
      have fc11_ := fc6_.ext E7_
      have fc12_ := A3_.ext E7_
      have fc13_ := F3__value.ext E7_
      have fc14_ := F3__coder.ext E7_
      have Cs7_ : CHr Z own_EL sS.vm h3_ sS.vm h7_ := CHr.ext E7_ CH3_.1
      have sf15_ := Safe.ext E7_ CH3_.1 sf3_
      have CH7_ := CH3_.trans Cs7_
      have hk7_ := Nat.le_trans hk3_ Cs7_.2.1
      have K7_ := K3_.ext E7_
      have V7_ : own_T Z h7_ b7_ .char (1 : Int32) (fun _ => (0 : Int32)) := own_T.new A7_ (by decide) rfl
      refine own_fin st7_ ?_
      refine jg T7_ mM 31 #[vI nn, vR c] [(.int (0 : Int32)), (.ref c), (.int (0 : Int32)), (.ref b7_), (.ref b7_), (.ref b3_), (.ref b3_)] (fun tT kK => ?_) ?_
      · refine XS.dup X7_.here hx rfl (hC e9_25.2.1) rfl rfl ?_
        refine XS.iconst X7_.here hx rfl (hC e9_25.2.2.1) ?_
        refine XS.aloadN X7_.here hx rfl (hC e9_25.2.2.2) rfl rfl ?_
        refine XS.iconst X7_.here hx rfl (hC e9_30.1) ?_
        exact kK
      obtain ⟨cl16_, Ar16_, Sz16_, Nn16_, Hh16_⟩ := id fc11_
      have hin16_ : ¬ ((0 : Int32) < 0 ∨ cl16_.slots.size ≤ ((0 : Int32)).toNatClampNeg) := inb_of Sz16_ ⟨by decide, by decide⟩
      have hat16_ : cl16_.slots[((0 : Int32)).toNatClampNeg]? = some (.int (fc (0 : Int32))) := Hh16_ _ hin16_
      refine jg T7_ mM 32 #[vI nn, vR c] [(.int (fc (0 : Int32))), (.int (0 : Int32)), (.ref b7_), (.ref b7_), (.ref b3_), (.ref b3_)] (fun tT kK => ?_) ?_
      · refine X7_.caload hx (j := (0 : Int32)) (v := (.int (fc (0 : Int32)))) (own_rw e7_ Ar16_.1) (State.isArrayOf_alike hZ.alike Ar16_.2.1) Ar16_.2.2 hin16_ hat16_ (g := (mkF mM 31 #[vI nn, vR c] [(.int (0 : Int32)), (.ref c), (.int (0 : Int32)), (.ref b7_), (.ref b7_), (.ref b3_), (.ref b3_)])) rfl rfl (hC e9_30.2.1) _ ?_
        exact kK
      obtain ⟨cl17_, Ar17_, Sz17_, Nn17_, Hh17_⟩ := id V7_
      have hin17_ : ¬ ((0 : Int32) < 0 ∨ cl17_.slots.size ≤ ((0 : Int32)).toNatClampNeg) := inb_of Sz17_ ⟨by decide, by decide⟩
      obtain ⟨T17_, h17_, X17_, e17_, W17_, st17_⟩ := stC X7_ hx hZ e7_ Ar17_ (j := (0 : Int32)) hin17_ (g := (mkF mM 32 #[vI nn, vR c] [(.int (fc (0 : Int32))), (.int (0 : Int32)), (.ref b7_), (.ref b7_), (.ref b3_), (.ref b3_)])) rfl rfl (hC e9_30.2.2.1)
      have U17_ : own_T Z h17_ b7_ .char (1 : Int32) (own_up (fun _ => (0 : Int32)) (0 : Int32) (nar .char (fc (0 : Int32)))) := own_T.set ⟨cl17_, Ar17_, Sz17_, Nn17_, Hh17_⟩ W17_ ⟨by decide, by decide⟩
      have fc18_ := fc10_.wr W17_ ge_b7_
      have fc20_ := fc12_.wr W17_
      have fc21_ := fc13_.other W17_ (Or.inl ne9_)
      have fc22_ := fc14_.other W17_ (Or.inl ne9_)
      have sw17_ : Safe Z own_EL sS.vm h7_ b7_ := (own_T.safe (EL := own_EL) hZ.alike V7_ (by decide))
      have Cs17_ : CHr Z own_EL sS.vm h7_ sS.vm h17_ := CHr.wr W17_ sw17_ CH7_.1
      have sf23_ := Safe.wr W17_ sw17_ CH7_.1 sf15_
      have CH17_ := CH7_.trans Cs17_
      have hk17_ := Nat.le_trans hk7_ Cs17_.2.1
      have K17_ := K7_.wr W17_ (Or.inr sz_b7_)
      have N17_ := Fr.snoc X17_ N0 ge_b7_
      refine own_fin st17_ ?_
      have sk24_ : ∀ x ∈ ([b3_] : List Addr), Safe Z own_EL sS.vm h17_ x := (sfS sf23_ sf0)
      refine own_sb X17_ hx hZ (y := jy11) rfl hown (jk hw 54 rfl) (jk hw 55 rfl) (jk hw 56 rfl) (jk hw 2 rfl) (rm_str lL Z a0 hw [] b3_ b7_ (1 : Int32) (own_up (fun _ => (0 : Int32)) (0 : Int32) (nar .char (fc (0 : Int32)))) cs h17_ n0 (Nat.le_trans Z0 K17_.1) fc18_ Scs ncs fc20_ fc21_ fc22_ ge_b3_ U17_ (fun j _ => (own_upB own_z0 (own_ncb (hb _))) j) (by decide) (by decide) (Ne.symm ne9_)) (a := b3_) e17_ own_pd12 [(.ref b7_)] [(.ref b3_)] (hC e9_30.2.2.2) rfl rfl (by rw [hml]; rfl) (by decide) 1 (Nat.le_of_eq rfl) (by decide) (by decide) (by decide : 2 + 1 ≤ _) (by decide : 5 + 8 ≤ _) fun vv25_ T25_ L25_ X25_ hQ25_ => ?_
      obtain ⟨b_25_, rfl, N25_q, p25__0, p25__1, p25__2, p25__3, p25__4, p25__5⟩ := hQ25_
      have N25_ := Fr.app N17_ N25_q
      have K25_ := K17_.trans p25__0 (allS (Or.inr sz_b3_) all0)
      have Cs25_ : CHr Z own_EL sS.vm h17_ sS.vm T25_.heap := CHr.keep p25__0 sk24_ CH17_.1
      have sf33_ := Safe.keep p25__0 sk24_ CH17_.1 sf23_
      have CH25_ := CH17_.trans Cs25_
      have hk25_ := Nat.le_trans hk17_ Cs25_.2.1
      obtain ⟨fs, hr, hrun, hended, hE1, hE2, hE3, hE4⟩ := X25_.leaveW hS0 (own_hk rfl hk25_) (v := some (.ref b3_)) (fun h => by rw [Bd.returns] at h; cases h)
      refine ⟨_, _, ?_, hrun, hended, _, _, rfl, ?_, own_CHe (T := T25_) (vm1 := T25_.vm) hh rfl (CH25_.trans (CHv.at X25_ hZ (own_EW hw) CH25_.1)), hE1, hE2, hE3, hE4.mono (by decide) (by decide)⟩
      · show Steps pP.tables eE below (T25_.setTop (mkF mM 36 #[vI nn, vR c] [(.ref b3_)])) _
        exact retOut X25_ hx Bd.returns rfl (Or.inr (Or.inr (Or.inr (Or.inr ⟨rfl, rfl, rfl⟩)))) (hC e9_36.1) hr
      · show Q_rm_strn Z c nn fc cs h0 n0 _ T25_.heap _
        exact ⟨b3_, b_25_, (1 : Int32), (fun j => ((own_up (fun _ => (0 : Int32)) (0 : Int32) (nar .char (fc (0 : Int32)))) j).toInt8.toInt32), rfl, N25_, K25_, sz_b3_, p25__2, p25__3, p25__4, p25__5⟩
    · refine jg s₁ mM 39 #[vI nn, vR c] [(.int (2 : Int32)), (.int nn)] (fun tT kK => ?_) ?_
      · refine XS.icmpYes X0.here hx rfl (pc0 := 17) (pc' := 37) rfl (hC e9_17.1) rfl (feq (hc17_2_ : ¬ (nn = (1 : Int32)))).2 (by decide) (by decide) ?_
        refine XS.iloadN X0.here hx rfl (hC e9_36.2.1) rfl ?_
        refine XS.iconst X0.here hx rfl (hC e9_36.2.2.1) ?_
        exact kK
      by_cases hc39_34_ : nn = (2 : Int32)
      · refine jg s₁ mM 42 #[vI nn, vR c] [] (fun tT kK => ?_) ?_
        · refine XS.icmpNo X0.here hx rfl (hC e9_36.2.2.2) rfl (teq (hc39_34_ : nn = (2 : Int32))).2 ?_
          exact kK
        obtain ⟨T35_, h35_, X35_, e35_, E35_, A35_, D35_, -, st35_⟩ := newO X0 hx hZ hown (jk hw 53 rfl) (jk hw 3 rfl) (jk hw 2 rfl) e0 (g := (mkF mM 42 #[vI nn, vR c] [])) rfl (hC e9_42.1) (by decide) (by decide)
        obtain ⟨b35_, g35_⟩ : ∃ z, z = h0.size := ⟨_, rfl⟩
        rw [← g35_] at A35_ D35_ st35_
        have sz_b35_ : h0.size ≤ b35_ := Nat.le_trans K0.1 (Nat.le_of_eq g35_.symm)
        have ge_b35_ : n0 ≤ b35_ := Nat.le_trans Z0 sz_b35_
        have fc37_ := Oo.ext E35_
        have fc38_ := Tc.ext E35_
        have Cs35_ : CHr Z own_EL sS.vm h0 sS.vm h35_ := CHr.ext E35_ CH0.1
        have CH35_ := CH0.trans Cs35_
        have hk35_ := Nat.le_trans hk0 Cs35_.2.1
        have K35_ := K0.ext E35_
        have sf35_ : Safe Z own_EL sS.vm h35_ b35_ := Safe.ext E35_ CH0.1 (Safe.new (Nat.le_of_eq g35_.symm))
        have F35__value : jF1 Z h35_ b35_ .null := D35_ (Or.inr (jk hw 5 rfl)) (ty := (.array .byte)) (by decide)
        have F35__coder : jF0 Z h35_ b35_ (.int (0 : Int32)) := D35_ (Or.inr (jk hw 6 rfl)) (ty := .byte) (by decide)
        refine own_fin st35_ ?_
        refine jg T35_ mM 47 #[vI nn, vR c] [(.int (2 : Int32)), (.ref b35_), (.ref b35_)] (fun tT kK => ?_) ?_
        · refine XS.dup X35_.here hx rfl (hC e9_42.2.1) rfl rfl ?_
          refine XS.iconst X35_.here hx rfl (hC e9_42.2.2.1) ?_
          exact kK
        obtain ⟨T39_, h39_, k39_, X39_, e39_, E39_, A39_, st39_⟩ := newP X35_ hx hZ (jk hw 9 rfl) e35_ (g := (mkF mM 47 #[vI nn, vR c] [(.int (2 : Int32)), (.ref b35_), (.ref b35_)])) rfl (hC e9_42.2.2.2) rfl (by decide) (cap := 2) (by decide) (by decide) (by decide) (by decide)
        obtain ⟨b39_, g39_⟩ : ∃ z, z = h35_.size := ⟨_, rfl⟩
        rw [← g39_] at A39_ st39_
        have sz_b39_ : h0.size ≤ b39_ := Nat.le_trans K35_.1 (Nat.le_of_eq g39_.symm)
        have ge_b39_ : n0 ≤ b39_ := Nat.le_trans Z0 sz_b39_
        have ne40_ : c ≠ b39_ := Nat.ne_of_lt (Nat.lt_of_lt_of_le fc38_.lt (Nat.le_of_eq g39_.symm))
        have ne41_ : b35_ ≠ b39_ := Nat.ne_of_lt (Nat.lt_of_lt_of_le A35_.lt (Nat.le_of_eq g39_.symm))
        have fc42_ := fc37_.ext E39_
        have fc43_ := fc38_.ext E39_
        have fc44_ := A35_.ext E39_
        have fc45_ := F35__value.ext E39_
        have fc46_ := F35__coder.ext E39_
        have Cs39_ : CHr Z own_EL sS.vm h35_ sS.vm h39_ := CHr.ext E39_ CH35_.1
        have sf47_ := Safe.ext E39_ CH35_.1 sf35_
        have CH39_ := CH35_.trans Cs39_
        have hk39_ := Nat.le_trans hk35_ Cs39_.2.1
        have K39_ := K35_.ext E39_
        have V39_ : own_T Z h39_ b39_ .char (2 : Int32) (fun _ => (0 : Int32)) := own_T.new A39_ (by decide) rfl
        refine own_fin st39_ ?_
        refine jg T39_ mM 53 #[vI nn, vR c] [(.int (0 : Int32)), (.ref c), (.int (0 : Int32)), (.ref b39_), (.ref b39_), (.ref b35_), (.ref b35_)] (fun tT kK => ?_) ?_
        · refine XS.dup X39_.here hx rfl (hC e9_49.1) rfl rfl ?_
          refine XS.iconst X39_.here hx rfl (hC e9_49.2.1) ?_
          refine XS.aloadN X39_.here hx rfl (hC e9_49.2.2.1) rfl rfl ?_
          refine XS.iconst X39_.here hx rfl (hC e9_49.2.2.2) ?_
          exact kK
        obtain ⟨cl48_, Ar48_, Sz48_, Nn48_, Hh48_⟩ := id fc43_
        have hin48_ : ¬ ((0 : Int32) < 0 ∨ cl48_.slots.size ≤ ((0 : Int32)).toNatClampNeg) := inb_of Sz48_ ⟨by decide, by decide⟩
        have hat48_ : cl48_.slots[((0 : Int32)).toNatClampNeg]? = some (.int (fc (0 : Int32))) := Hh48_ _ hin48_
        refine jg T39_ mM 54 #[vI nn, vR c] [(.int (fc (0 : Int32))), (.int (0 : Int32)), (.ref b39_), (.ref b39_), (.ref b35_), (.ref b35_)] (fun tT kK => ?_) ?_
        · refine X39_.caload hx (j := (0 : Int32)) (v := (.int (fc (0 : Int32)))) (own_rw e39_ Ar48_.1) (State.isArrayOf_alike hZ.alike Ar48_.2.1) Ar48_.2.2 hin48_ hat48_ (g := (mkF mM 53 #[vI nn, vR c] [(.int (0 : Int32)), (.ref c), (.int (0 : Int32)), (.ref b39_), (.ref b39_), (.ref b35_), (.ref b35_)])) rfl rfl (hC e9_53.1) _ ?_
          exact kK
        obtain ⟨cl49_, Ar49_, Sz49_, Nn49_, Hh49_⟩ := id V39_
        have hin49_ : ¬ ((0 : Int32) < 0 ∨ cl49_.slots.size ≤ ((0 : Int32)).toNatClampNeg) := inb_of Sz49_ ⟨by decide, by decide⟩
        obtain ⟨T49_, h49_, X49_, e49_, W49_, st49_⟩ := stC X39_ hx hZ e39_ Ar49_ (j := (0 : Int32)) hin49_ (g := (mkF mM 54 #[vI nn, vR c] [(.int (fc (0 : Int32))), (.int (0 : Int32)), (.ref b39_), (.ref b39_), (.ref b35_), (.ref b35_)])) rfl rfl (hC e9_53.2.1)
        have U49_ : own_T Z h49_ b39_ .char (2 : Int32) (own_up (fun _ => (0 : Int32)) (0 : Int32) (nar .char (fc (0 : Int32)))) := own_T.set ⟨cl49_, Ar49_, Sz49_, Nn49_, Hh49_⟩ W49_ ⟨by decide, by decide⟩
        have fc50_ := fc42_.wr W49_ ge_b39_
        have fc51_ := fc43_.other W49_ ne40_
        have fc52_ := fc44_.wr W49_
        have fc53_ := fc45_.other W49_ (Or.inl ne41_)
        have fc54_ := fc46_.other W49_ (Or.inl ne41_)
        have sw49_ : Safe Z own_EL sS.vm h39_ b39_ := (own_T.safe (EL := own_EL) hZ.alike V39_ (by decide))
        have Cs49_ : CHr Z own_EL sS.vm h39_ sS.vm h49_ := CHr.wr W49_ sw49_ CH39_.1
        have sf55_ := Safe.wr W49_ sw49_ CH39_.1 sf47_
        have CH49_ := CH39_.trans Cs49_
        have hk49_ := Nat.le_trans hk39_ Cs49_.2.1
        have K49_ := K39_.wr W49_ (Or.inr sz_b39_)
        have N49_ := Fr.snoc X49_ N0 ge_b39_
        refine own_fin st49_ ?_
        refine jg T49_ mM 59 #[vI nn, vR c] [(.int (1 : Int32)), (.ref c), (.int (1 : Int32)), (.ref b39_), (.ref b39_), (.ref b35_), (.ref b35_)] (fun tT kK => ?_) ?_
        · refine XS.dup X49_.here hx rfl (hC e9_53.2.2.1) rfl rfl ?_
          refine XS.iconst X49_.here hx rfl (hC e9_53.2.2.2) ?_
          refine XS.aloadN X49_.here hx rfl (hC e9_57.1) rfl rfl ?_
          refine XS.iconst X49_.here hx rfl (hC e9_57.2.1) ?_
          exact kK
        obtain ⟨cl56_, Ar56_, Sz56_, Nn56_, Hh56_⟩ := id fc51_
        have hin56_ : ¬ ((1 : Int32) < 0 ∨ cl56_.slots.size ≤ ((1 : Int32)).toNatClampNeg) := inb_of Sz56_ ⟨by decide, by decide⟩
        have hat56_ : cl56_.slots[((1 : Int32)).toNatClampNeg]? = some (.int (fc (1 : Int32))) := Hh56_ _ hin56_
        refine jg T49_ mM 60 #[vI nn, vR c] [(.int (fc (1 : Int32))), (.int (1 : Int32)), (.ref b39_), (.ref b39_), (.ref b35_), (.ref b35_)] (fun tT kK => ?_) ?_
        · refine X49_.caload hx (j := (1 : Int32)) (v := (.int (fc (1 : Int32)))) (own_rw e49_ Ar56_.1) (State.isArrayOf_alike hZ.alike Ar56_.2.1) Ar56_.2.2 hin56_ hat56_ (g := (mkF mM 59 #[vI nn, vR c] [(.int (1 : Int32)), (.ref c), (.int (1 : Int32)), (.ref b39_), (.ref b39_), (.ref b35_), (.ref b35_)])) rfl rfl (hC e9_57.2.2.1) _ ?_
          exact kK
        obtain ⟨cl57_, Ar57_, Sz57_, Nn57_, Hh57_⟩ := id U49_
        have hin57_ : ¬ ((1 : Int32) < 0 ∨ cl57_.slots.size ≤ ((1 : Int32)).toNatClampNeg) := inb_of Sz57_ ⟨by decide, by decide⟩
        obtain ⟨T57_, h57_, X57_, e57_, W57_, st57_⟩ := stC X49_ hx hZ e49_ Ar57_ (j := (1 : Int32)) hin57_ (g := (mkF mM 60 #[vI nn, vR c] [(.int (fc (1 : Int32))), (.int (1 : Int32)), (.ref b39_), (.ref b39_), (.ref b35_), (.ref b35_)])) rfl rfl (hC e9_57.2.2.2)
        have U57_ : own_T Z h57_ b39_ .char (2 : Int32) (own_up (own_up (fun _ => (0 : Int32)) (0 : Int32) (nar .char (fc (0 : Int32)))) (1 : Int32) (nar .char (fc (1 : Int32)))) := own_T.set ⟨cl57_, Ar57_, Sz57_, Nn57_, Hh57_⟩ W57_ ⟨by decide, by decide⟩
        have fc58_ := fc50_.wr W57_ ge_b39_
        have fc60_ := fc52_.wr W57_
        have fc61_ := fc53_.other W57_ (Or.inl ne41_)
        have fc62_ := fc54_.other W57_ (Or.inl ne41_)
        have sw57_ : Safe Z own_EL sS.vm h49_ b39_ := (own_T.safe (EL := own_EL) hZ.alike U49_ (by decide))
        have Cs57_ : CHr Z own_EL sS.vm h49_ sS.vm h57_ := CHr.wr W57_ sw57_ CH49_.1
        have sf63_ := Safe.wr W57_ sw57_ CH49_.1 sf55_
        have CH57_ := CH49_.trans Cs57_
        have hk57_ := Nat.le_trans hk49_ Cs57_.2.1
        have K57_ := K49_.wr W57_ (Or.inr sz_b39_)
        have N57_ := Fr.snoc X57_ N49_ ge_b39_
        refine own_fin st57_ ?_
        have sk64_ : ∀ x ∈ ([b35_] : List Addr), Safe Z own_EL sS.vm h57_ x := (sfS sf63_ sf0)
        refine own_sb X57_ hx hZ (y := jy11) rfl hown (jk hw 54 rfl) (jk hw 55 rfl) (jk hw 56 rfl) (jk hw 2 rfl) (rm_str lL Z a0 hw [] b35_ b39_ (2 : Int32) (own_up (own_up (fun _ => (0 : Int32)) (0 : Int32) (nar .char (fc (0 : Int32)))) (1 : Int32) (nar .char (fc (1 : Int32)))) cs h57_ n0 (Nat.le_trans Z0 K57_.1) fc58_ Scs ncs fc60_ fc61_ fc62_ ge_b35_ U57_ (fun j _ => (own_upB (own_upB own_z0 (own_ncb (hb _))) (own_ncb (hb _))) j) (by decide) (by decide) (Ne.symm ne41_)) (a := b35_) e57_ own_pd12 [(.ref b39_)] [(.ref b35_)] (hC e9_61.1) rfl rfl (by rw [hml]; rfl) (by decide) 1 (Nat.le_of_eq rfl) (by decide) (by decide) (by decide : 2 + 1 ≤ _) (by decide : 6 + 8 ≤ _) fun vv65_ T65_ L65_ X65_ hQ65_ => ?_
        obtain ⟨b_65_, rfl, N65_q, p65__0, p65__1, p65__2, p65__3, p65__4, p65__5⟩ := hQ65_
        have N65_ := Fr.app N57_ N65_q
        have K65_ := K57_.trans p65__0 (allS (Or.inr sz_b35_) all0)
        have Cs65_ : CHr Z own_EL sS.vm h57_ sS.vm T65_.heap := CHr.keep p65__0 sk64_ CH57_.1
        have sf73_ := Safe.keep p65__0 sk64_ CH57_.1 sf63_
        have CH65_ := CH57_.trans Cs65_
        have hk65_ := Nat.le_trans hk57_ Cs65_.2.1
        obtain ⟨fs, hr, hrun, hended, hE1, hE2, hE3, hE4⟩ := X65_.leaveW hS0 (own_hk rfl hk65_) (v := some (.ref b35_)) (fun h => by rw [Bd.returns] at h; cases h)
        refine ⟨_, _, ?_, hrun, hended, _, _, rfl, ?_, own_CHe (T := T65_) (vm1 := T65_.vm) hh rfl (CH65_.trans (CHv.at X65_ hZ (own_EW hw) CH65_.1)), hE1, hE2, hE3, hE4.mono (by decide) (by decide)⟩
        · show Steps pP.tables eE below (T65_.setTop (mkF mM 64 #[vI nn, vR c] [(.ref b35_)])) _
          exact retOut X65_ hx Bd.returns rfl (Or.inr (Or.inr (Or.inr (Or.inr ⟨rfl, rfl, rfl⟩)))) (hC e9_61.2.1) hr
        · show Q_rm_strn Z c nn fc cs h0 n0 _ T65_.heap _
          exact ⟨b35_, b_65_, (2 : Int32), (fun j => ((own_up (own_up (fun _ => (0 : Int32)) (0 : Int32) (nar .char (fc (0 : Int32)))) (1 : Int32) (nar .char (fc (1 : Int32)))) j).toInt8.toInt32), rfl, N65_, K65_, sz_b35_, p65__2, p65__3, p65__4, p65__5⟩
      · refine jg s₁ mM 67 #[vI nn, vR c] [(.int (3 : Int32)), (.int nn)] (fun tT kK => ?_) ?_
        · refine XS.icmpYes X0.here hx rfl (pc0 := 39) (pc' := 65) rfl (hC e9_36.2.2.2) rfl (feq (hc39_34_ : ¬ (nn = (2 : Int32)))).2 (by decide) (by decide) ?_
          refine XS.iloadN X0.here hx rfl (hC e9_61.2.2.1) rfl ?_
          refine XS.iconst X0.here hx rfl (hC e9_61.2.2.2) ?_
          exact kK
        by_cases hc67_74_ : nn = (3 : Int32)
        · refine jg s₁ mM 70 #[vI nn, vR c] [] (fun tT kK => ?_) ?_
          · refine XS.icmpNo X0.here hx rfl (hC e9_67.1) rfl (teq (hc67_74_ : nn = (3 : Int32))).2 ?_
            exact kK
          obtain ⟨T75_, h75_, X75_, e75_, E75_, A75_, D75_, -, st75_⟩ := newO X0 hx hZ hown (jk hw 53 rfl) (jk hw 3 rfl) (jk hw 2 rfl) e0 (g := (mkF mM 70 #[vI nn, vR c] [])) rfl (hC e9_67.2.1) (by decide) (by decide)
          obtain ⟨b75_, g75_⟩ : ∃ z, z = h0.size := ⟨_, rfl⟩
          rw [← g75_] at A75_ D75_ st75_
          have sz_b75_ : h0.size ≤ b75_ := Nat.le_trans K0.1 (Nat.le_of_eq g75_.symm)
          have ge_b75_ : n0 ≤ b75_ := Nat.le_trans Z0 sz_b75_
          have fc77_ := Oo.ext E75_
          have fc78_ := Tc.ext E75_
          have Cs75_ : CHr Z own_EL sS.vm h0 sS.vm h75_ := CHr.ext E75_ CH0.1
          have CH75_ := CH0.trans Cs75_
          have hk75_ := Nat.le_trans hk0 Cs75_.2.1
          have K75_ := K0.ext E75_
          have sf75_ : Safe Z own_EL sS.vm h75_ b75_ := Safe.ext E75_ CH0.1 (Safe.new (Nat.le_of_eq g75_.symm))
          have F75__value : jF1 Z h75_ b75_ .null := D75_ (Or.inr (jk hw 5 rfl)) (ty := (.array .byte)) (by decide)
          have F75__coder : jF0 Z h75_ b75_ (.int (0 : Int32)) := D75_ (Or.inr (jk hw 6 rfl)) (ty := .byte) (by decide)
          refine own_fin st75_ ?_
          refine jg T75_ mM 75 #[vI nn, vR c] [(.int (3 : Int32)), (.ref b75_), (.ref b75_)] (fun tT kK => ?_) ?_
          · refine XS.dup X75_.here hx rfl (hC e9_67.2.2.1) rfl rfl ?_
            refine XS.iconst X75_.here hx rfl (hC e9_67.2.2.2) ?_
            exact kK
          obtain ⟨T79_, h79_, k79_, X79_, e79_, E79_, A79_, st79_⟩ := newP X75_ hx hZ (jk hw 9 rfl) e75_ (g := (mkF mM 75 #[vI nn, vR c] [(.int (3 : Int32)), (.ref b75_), (.ref b75_)])) rfl (hC e9_75.1) rfl (by decide) (cap := 3) (by decide) (by decide) (by decide) (by decide)
          obtain ⟨b79_, g79_⟩ : ∃ z, z = h75_.size := ⟨_, rfl⟩
          rw [← g79_] at A79_ st79_
          have sz_b79_ : h0.size ≤ b79_ := Nat.le_trans K75_.1 (Nat.le_of_eq g79_.symm)
          have ge_b79_ : n0 ≤ b79_ := Nat.le_trans Z0 sz_b79_
          have ne80_ : c ≠ b79_ := Nat.ne_of_lt (Nat.lt_of_lt_of_le fc78_.lt (Nat.le_of_eq g79_.symm))
          have ne81_ : b75_ ≠ b79_ := Nat.ne_of_lt (Nat.lt_of_lt_of_le A75_.lt (Nat.le_of_eq g79_.symm))
          have fc82_ := fc77_.ext E79_
          have fc83_ := fc78_.ext E79_
          have fc84_ := A75_.ext E79_
          have fc85_ := F75__value.ext E79_
          have fc86_ := F75__coder.ext E79_
          have Cs79_ : CHr Z own_EL sS.vm h75_ sS.vm h79_ := CHr.ext E79_ CH75_.1
          have sf87_ := Safe.ext E79_ CH75_.1 sf75_
          have CH79_ := CH75_.trans Cs79_
          have hk79_ := Nat.le_trans hk75_ Cs79_.2.1
          have K79_ := K75_.ext E79_
          have V79_ : own_T Z h79_ b79_ .char (3 : Int32) (fun _ => (0 : Int32)) := own_T.new A79_ (by decide) rfl
          refine own_fin st79_ ?_
          refine jg T79_ mM 81 #[vI nn, vR c] [(.int (0 : Int32)), (.ref c), (.int (0 : Int32)), (.ref b79_), (.ref b79_), (.ref b75_), (.ref b75_)] (fun tT kK => ?_) ?_
          · refine XS.dup X79_.here hx rfl (hC e9_75.2.1) rfl rfl ?_
            refine XS.iconst X79_.here hx rfl (hC e9_75.2.2.1) ?_
            refine XS.aloadN X79_.here hx rfl (hC e9_75.2.2.2) rfl rfl ?_
            refine XS.iconst X79_.here hx rfl (hC e9_80.1) ?_
            exact kK
          obtain ⟨cl88_, Ar88_, Sz88_, Nn88_, Hh88_⟩ := id fc83_
          have hin88_ : ¬ ((0 : Int32) < 0 ∨ cl88_.slots.size ≤ ((0 : Int32)).toNatClampNeg) := inb_of Sz88_ ⟨by decide, by decide⟩
          have hat88_ : cl88_.slots[((0 : Int32)).toNatClampNeg]? = some (.int (fc (0 : Int32))) := Hh88_ _ hin88_
          refine jg T79_ mM 82 #[vI nn, vR c] [(.int (fc (0 : Int32))), (.int (0 : Int32)), (.ref b79_), (.ref b79_), (.ref b75_), (.ref b75_)] (fun tT kK => ?_) ?_
          · refine X79_.caload hx (j := (0 : Int32)) (v := (.int (fc (0 : Int32)))) (own_rw e79_ Ar88_.1) (State.isArrayOf_alike hZ.alike Ar88_.2.1) Ar88_.2.2 hin88_ hat88_ (g := (mkF mM 81 #[vI nn, vR c] [(.int (0 : Int32)), (.ref c), (.int (0 : Int32)), (.ref b79_), (.ref b79_), (.ref b75_), (.ref b75_)])) rfl rfl (hC e9_80.2.1) _ ?_
            exact kK
          obtain ⟨cl89_, Ar89_, Sz89_, Nn89_, Hh89_⟩ := id V79_
          have hin89_ : ¬ ((0 : Int32) < 0 ∨ cl89_.slots.size ≤ ((0 : Int32)).toNatClampNeg) := inb_of Sz89_ ⟨by decide, by decide⟩
          obtain ⟨T89_, h89_, X89_, e89_, W89_, st89_⟩ := stC X79_ hx hZ e79_ Ar89_ (j := (0 : Int32)) hin89_ (g := (mkF mM 82 #[vI nn, vR c] [(.int (fc (0 : Int32))), (.int (0 : Int32)), (.ref b79_), (.ref b79_), (.ref b75_), (.ref b75_)])) rfl rfl (hC e9_80.2.2.1)
          have U89_ : own_T Z h89_ b79_ .char (3 : Int32) (own_up (fun _ => (0 : Int32)) (0 : Int32) (nar .char (fc (0 : Int32)))) := own_T.set ⟨cl89_, Ar89_, Sz89_, Nn89_, Hh89_⟩ W89_ ⟨by decide, by decide⟩
          have fc90_ := fc82_.wr W89_ ge_b79_
          have fc91_ := fc83_.other W89_ ne80_
          have fc92_ := fc84_.wr W89_
          have fc93_ := fc85_.other W89_ (Or.inl ne81_)
          have fc94_ := fc86_.other W89_ (Or.inl ne81_)
          have sw89_ : Safe Z own_EL sS.vm h79_ b79_ := (own_T.safe (EL := own_EL) hZ.alike V79_ (by decide))
          have Cs89_ : CHr Z own_EL sS.vm h79_ sS.vm h89_ := CHr.wr W89_ sw89_ CH79_.1
          have sf95_ := Safe.wr W89_ sw89_ CH79_.1 sf87_
          have CH89_ := CH79_.trans Cs89_
          have hk89_ := Nat.le_trans hk79_ Cs89_.2.1
          have K89_ := K79_.wr W89_ (Or.inr sz_b79_)
          have N89_ := Fr.snoc X89_ N0 ge_b79_
          refine own_fin st89_ ?_
          refine jg T89_ mM 87 #[vI nn, vR c] [(.int (1 : Int32)), (.ref c), (.int (1 : Int32)), (.ref b79_), (.ref b79_), (.ref b75_), (.ref b75_)] (fun tT kK => ?_) ?_
          · refine XS.dup X89_.here hx rfl (hC e9_80.2.2.2) rfl rfl ?_
            refine XS.iconst X89_.here hx rfl (hC e9_84.1) ?_
            refine XS.aloadN X89_.here hx rfl (hC e9_84.2.1) rfl rfl ?_
            refine XS.iconst X89_.here hx rfl (hC e9_84.2.2.1) ?_
            exact kK
          obtain ⟨cl96_, Ar96_, Sz96_, Nn96_, Hh96_⟩ := id fc91_
          have hin96_ : ¬ ((1 : Int32) < 0 ∨ cl96_.slots.size ≤ ((1 : Int32)).toNatClampNeg) := inb_of Sz96_ ⟨by decide, by decide⟩
          have hat96_ : cl96_.slots[((1 : Int32)).toNatClampNeg]? = some (.int (fc (1 : Int32))) := Hh96_ _ hin96_
          refine jg T89_ mM 88 #[vI nn, vR c] [(.int (fc (1 : Int32))), (.int (1 : Int32)), (.ref b79_), (.ref b79_), (.ref b75_), (.ref b75_)] (fun tT kK => ?_) ?_
          · refine X89_.caload hx (j := (1 : Int32)) (v := (.int (fc (1 : Int32)))) (own_rw e89_ Ar96_.1) (State.isArrayOf_alike hZ.alike Ar96_.2.1) Ar96_.2.2 hin96_ hat96_ (g := (mkF mM 87 #[vI nn, vR c] [(.int (1 : Int32)), (.ref c), (.int (1 : Int32)), (.ref b79_), (.ref b79_), (.ref b75_), (.ref b75_)])) rfl rfl (hC e9_84.2.2.2) _ ?_
            exact kK
          obtain ⟨cl97_, Ar97_, Sz97_, Nn97_, Hh97_⟩ := id U89_
          have hin97_ : ¬ ((1 : Int32) < 0 ∨ cl97_.slots.size ≤ ((1 : Int32)).toNatClampNeg) := inb_of Sz97_ ⟨by decide, by decide⟩
          obtain ⟨T97_, h97_, X97_, e97_, W97_, st97_⟩ := stC X89_ hx hZ e89_ Ar97_ (j := (1 : Int32)) hin97_ (g := (mkF mM 88 #[vI nn, vR c] [(.int (fc (1 : Int32))), (.int (1 : Int32)), (.ref b79_), (.ref b79_), (.ref b75_), (.ref b75_)])) rfl rfl (hC e9_88.1)
          have U97_ : own_T Z h97_ b79_ .char (3 : Int32) (own_up (own_up (fun _ => (0 : Int32)) (0 : Int32) (nar .char (fc (0 : Int32)))) (1 : Int32) (nar .char (fc (1 : Int32)))) := own_T.set ⟨cl97_, Ar97_, Sz97_, Nn97_, Hh97_⟩ W97_ ⟨by decide, by decide⟩
          have fc98_ := fc90_.wr W97_ ge_b79_
          have fc99_ := fc91_.other W97_ ne80_
          have fc100_ := fc92_.wr W97_
          have fc101_ := fc93_.other W97_ (Or.inl ne81_)
          have fc102_ := fc94_.other W97_ (Or.inl ne81_)
          have sw97_ : Safe Z own_EL sS.vm h89_ b79_ := (own_T.safe (EL := own_EL) hZ.alike U89_ (by decide))
          have Cs97_ : CHr Z own_EL sS.vm h89_ sS.vm h97_ := CHr.wr W97_ sw97_ CH89_.1
          have sf103_ := Safe.wr W97_ sw97_ CH89_.1 sf95_
          have CH97_ := CH89_.trans Cs97_
          have hk97_ := Nat.le_trans hk89_ Cs97_.2.1
          have K97_ := K89_.wr W97_ (Or.inr sz_b79_)
          have N97_ := Fr.snoc X97_ N89_ ge_b79_
          refine own_fin st97_ ?_
          refine jg T97_ mM 93 #[vI nn, vR c] [(.int (2 : Int32)), (.ref c), (.int (2 : Int32)), (.ref b79_), (.ref b79_), (.ref b75_), (.ref b75_)] (fun tT kK => ?_) ?_
          · refine XS.dup X97_.here hx rfl (hC e9_88.2.1) rfl rfl ?_
            refine XS.iconst X97_.here hx rfl (hC e9_88.2.2.1) ?_
            refine XS.aloadN X97_.here hx rfl (hC e9_88.2.2.2) rfl rfl ?_
            refine XS.iconst X97_.here hx rfl (hC e9_92.1) ?_
            exact kK
          obtain ⟨cl104_, Ar104_, Sz104_, Nn104_, Hh104_⟩ := id fc99_
          have hin104_ : ¬ ((2 : Int32) < 0 ∨ cl104_.slots.size ≤ ((2 : Int32)).toNatClampNeg) := inb_of Sz104_ ⟨by decide, by decide⟩
          have hat104_ : cl104_.slots[((2 : Int32)).toNatClampNeg]? = some (.int (fc (2 : Int32))) := Hh104_ _ hin104_
          refine jg T97_ mM 94 #[vI nn, vR c] [(.int (fc (2 : Int32))), (.int (2 : Int32)), (.ref b79_), (.ref b79_), (.ref b75_), (.ref b75_)] (fun tT kK => ?_) ?_
          · refine X97_.caload hx (j := (2 : Int32)) (v := (.int (fc (2 : Int32)))) (own_rw e97_ Ar104_.1) (State.isArrayOf_alike hZ.alike Ar104_.2.1) Ar104_.2.2 hin104_ hat104_ (g := (mkF mM 93 #[vI nn, vR c] [(.int (2 : Int32)), (.ref c), (.int (2 : Int32)), (.ref b79_), (.ref b79_), (.ref b75_), (.ref b75_)])) rfl rfl (hC e9_92.2.1) _ ?_
            exact kK
          obtain ⟨cl105_, Ar105_, Sz105_, Nn105_, Hh105_⟩ := id U97_
          have hin105_ : ¬ ((2 : Int32) < 0 ∨ cl105_.slots.size ≤ ((2 : Int32)).toNatClampNeg) := inb_of Sz105_ ⟨by decide, by decide⟩
          obtain ⟨T105_, h105_, X105_, e105_, W105_, st105_⟩ := stC X97_ hx hZ e97_ Ar105_ (j := (2 : Int32)) hin105_ (g := (mkF mM 94 #[vI nn, vR c] [(.int (fc (2 : Int32))), (.int (2 : Int32)), (.ref b79_), (.ref b79_), (.ref b75_), (.ref b75_)])) rfl rfl (hC e9_92.2.2.1)
          have U105_ : own_T Z h105_ b79_ .char (3 : Int32) (own_up (own_up (own_up (fun _ => (0 : Int32)) (0 : Int32) (nar .char (fc (0 : Int32)))) (1 : Int32) (nar .char (fc (1 : Int32)))) (2 : Int32) (nar .char (fc (2 : Int32)))) := own_T.set ⟨cl105_, Ar105_, Sz105_, Nn105_, Hh105_⟩ W105_ ⟨by decide, by decide⟩
          have fc106_ := fc98_.wr W105_ ge_b79_
          have fc108_ := fc100_.wr W105_
          have fc109_ := fc101_.other W105_ (Or.inl ne81_)
          have fc110_ := fc102_.other W105_ (Or.inl ne81_)
          have sw105_ : Safe Z own_EL sS.vm h97_ b79_ := (own_T.safe (EL := own_EL) hZ.alike U97_ (by decide))
          have Cs105_ : CHr Z own_EL sS.vm h97_ sS.vm h105_ := CHr.wr W105_ sw105_ CH97_.1
          have sf111_ := Safe.wr W105_ sw105_ CH97_.1 sf103_
          have CH105_ := CH97_.trans Cs105_
          have hk105_ := Nat.le_trans hk97_ Cs105_.2.1
          have K105_ := K97_.wr W105_ (Or.inr sz_b79_)
          have N105_ := Fr.snoc X105_ N97_ ge_b79_
          refine own_fin st105_ ?_
          have sk112_ : ∀ x ∈ ([b75_] : List Addr), Safe Z own_EL sS.vm h105_ x := (sfS sf111_ sf0)
          refine own_sb X105_ hx hZ (y := jy11) rfl hown (jk hw 54 rfl) (jk hw 55 rfl) (jk hw 56 rfl) (jk hw 2 rfl) (rm_str lL Z a0 hw [] b75_ b79_ (3 : Int32) (own_up (own_up (own_up (fun _ => (0 : Int32)) (0 : Int32) (nar .char (fc (0 : Int32)))) (1 : Int32) (nar .char (fc (1 : Int32)))) (2 : Int32) (nar .char (fc (2 : Int32)))) cs h105_ n0 (Nat.le_trans Z0 K105_.1) fc106_ Scs ncs fc108_ fc109_ fc110_ ge_b75_ U105_ (fun j _ => (own_upB (own_upB (own_upB own_z0 (own_ncb (hb _))) (own_ncb (hb _))) (own_ncb (hb _))) j) (by decide) (by decide) (Ne.symm ne81_)) (a := b75_) e105_ own_pd12 [(.ref b79_)] [(.ref b75_)] (hC e9_92.2.2.2) rfl rfl (by rw [hml]; rfl) (by decide) 1 (Nat.le_of_eq rfl) (by decide) (by decide) (by decide : 2 + 1 ≤ _) (by decide : 7 + 8 ≤ _) fun vv113_ T113_ L113_ X113_ hQ113_ => ?_
          obtain ⟨b_113_, rfl, N113_q, p113__0, p113__1, p113__2, p113__3, p113__4, p113__5⟩ := hQ113_
          have N113_ := Fr.app N105_ N113_q
          have K113_ := K105_.trans p113__0 (allS (Or.inr sz_b75_) all0)
          have Cs113_ : CHr Z own_EL sS.vm h105_ sS.vm T113_.heap := CHr.keep p113__0 sk112_ CH105_.1
          have sf121_ := Safe.keep p113__0 sk112_ CH105_.1 sf111_
          have CH113_ := CH105_.trans Cs113_
          have hk113_ := Nat.le_trans hk105_ Cs113_.2.1
          obtain ⟨fs, hr, hrun, hended, hE1, hE2, hE3, hE4⟩ := X113_.leaveW hS0 (own_hk rfl hk113_) (v := some (.ref b75_)) (fun h => by rw [Bd.returns] at h; cases h)
          refine ⟨_, _, ?_, hrun, hended, _, _, rfl, ?_, own_CHe (T := T113_) (vm1 := T113_.vm) hh rfl (CH113_.trans (CHv.at X113_ hZ (own_EW hw) CH113_.1)), hE1, hE2, hE3, hE4.mono (by decide) (by decide)⟩
          · show Steps pP.tables eE below (T113_.setTop (mkF mM 98 #[vI nn, vR c] [(.ref b75_)])) _
            exact retOut X113_ hx Bd.returns rfl (Or.inr (Or.inr (Or.inr (Or.inr ⟨rfl, rfl, rfl⟩)))) (hC e9_98.1) hr
          · show Q_rm_strn Z c nn fc cs h0 n0 _ T113_.heap _
            exact ⟨b75_, b_113_, (3 : Int32), (fun j => ((own_up (own_up (own_up (fun _ => (0 : Int32)) (0 : Int32) (nar .char (fc (0 : Int32)))) (1 : Int32) (nar .char (fc (1 : Int32)))) (2 : Int32) (nar .char (fc (2 : Int32)))) j).toInt8.toInt32), rfl, N113_, K113_, sz_b75_, p113__2, p113__3, p113__4, p113__5⟩
        · refine jg s₁ mM 101 #[vI nn, vR c] [(.int (4 : Int32)), (.int nn)] (fun tT kK => ?_) ?_
          · refine XS.icmpYes X0.here hx rfl (pc0 := 67) (pc' := 99) rfl (hC e9_67.1) rfl (feq (hc67_74_ : ¬ (nn = (3 : Int32)))).2 (by decide) (by decide) ?_
            refine XS.iloadN X0.here hx rfl (hC e9_98.2.1) rfl ?_
            refine XS.iconst X0.here hx rfl (hC e9_98.2.2.1) ?_
            exact kK
          by_cases hc101_122_ : nn = (4 : Int32)
          · refine jg s₁ mM 104 #[vI nn, vR c] [] (fun tT kK => ?_) ?_
            · refine XS.icmpNo X0.here hx rfl (hC e9_98.2.2.2) rfl (teq (hc101_122_ : nn = (4 : Int32))).2 ?_
              exact kK
            obtain ⟨T123_, h123_, X123_, e123_, E123_, A123_, D123_, -, st123_⟩ := newO X0 hx hZ hown (jk hw 53 rfl) (jk hw 3 rfl) (jk hw 2 rfl) e0 (g := (mkF mM 104 #[vI nn, vR c] [])) rfl (hC e9_104.1) (by decide) (by decide)
            obtain ⟨b123_, g123_⟩ : ∃ z, z = h0.size := ⟨_, rfl⟩
            rw [← g123_] at A123_ D123_ st123_
            have sz_b123_ : h0.size ≤ b123_ := Nat.le_trans K0.1 (Nat.le_of_eq g123_.symm)
            have ge_b123_ : n0 ≤ b123_ := Nat.le_trans Z0 sz_b123_
            have fc125_ := Oo.ext E123_
            have fc126_ := Tc.ext E123_
            have Cs123_ : CHr Z own_EL sS.vm h0 sS.vm h123_ := CHr.ext E123_ CH0.1
            have CH123_ := CH0.trans Cs123_
            have hk123_ := Nat.le_trans hk0 Cs123_.2.1
            have K123_ := K0.ext E123_
            have sf123_ : Safe Z own_EL sS.vm h123_ b123_ := Safe.ext E123_ CH0.1 (Safe.new (Nat.le_of_eq g123_.symm))
            have F123__value : jF1 Z h123_ b123_ .null := D123_ (Or.inr (jk hw 5 rfl)) (ty := (.array .byte)) (by decide)
            have F123__coder : jF0 Z h123_ b123_ (.int (0 : Int32)) := D123_ (Or.inr (jk hw 6 rfl)) (ty := .byte) (by decide)
            refine own_fin st123_ ?_
            refine jg T123_ mM 109 #[vI nn, vR c] [(.int (4 : Int32)), (.ref b123_), (.ref b123_)] (fun tT kK => ?_) ?_
            · refine XS.dup X123_.here hx rfl (hC e9_104.2.1) rfl rfl ?_
              refine XS.iconst X123_.here hx rfl (hC e9_104.2.2.1) ?_
              exact kK
            obtain ⟨T127_, h127_, k127_, X127_, e127_, E127_, A127_, st127_⟩ := newP X123_ hx hZ (jk hw 9 rfl) e123_ (g := (mkF mM 109 #[vI nn, vR c] [(.int (4 : Int32)), (.ref b123_), (.ref b123_)])) rfl (hC e9_104.2.2.2) rfl (by decide) (cap := 4) (by decide) (by decide) (by decide) (by decide)
            obtain ⟨b127_, g127_⟩ : ∃ z, z = h123_.size := ⟨_, rfl⟩
            rw [← g127_] at A127_ st127_
            have sz_b127_ : h0.size ≤ b127_ := Nat.le_trans K123_.1 (Nat.le_of_eq g127_.symm)
            have ge_b127_ : n0 ≤ b127_ := Nat.le_trans Z0 sz_b127_
            have ne128_ : c ≠ b127_ := Nat.ne_of_lt (Nat.lt_of_lt_of_le fc126_.lt (Nat.le_of_eq g127_.symm))
            have ne129_ : b123_ ≠ b127_ := Nat.ne_of_lt (Nat.lt_of_lt_of_le A123_.lt (Nat.le_of_eq g127_.symm))
            have fc130_ := fc125_.ext E127_
            have fc131_ := fc126_.ext E127_
            have fc132_ := A123_.ext E127_
            have fc133_ := F123__value.ext E127_
            have fc134_ := F123__coder.ext E127_
            have Cs127_ : CHr Z own_EL sS.vm h123_ sS.vm h127_ := CHr.ext E127_ CH123_.1
            have sf135_ := Safe.ext E127_ CH123_.1 sf123_
            have CH127_ := CH123_.trans Cs127_
            have hk127_ := Nat.le_trans hk123_ Cs127_.2.1
            have K127_ := K123_.ext E127_
            have V127_ : own_T Z h127_ b127_ .char (4 : Int32) (fun _ => (0 : Int32)) := own_T.new A127_ (by decide) rfl
            refine own_fin st127_ ?_
            refine jg T127_ mM 115 #[vI nn, vR c] [(.int (0 : Int32)), (.ref c), (.int (0 : Int32)), (.ref b127_), (.ref b127_), (.ref b123_), (.ref b123_)] (fun tT kK => ?_) ?_
            · refine XS.dup X127_.here hx rfl (hC e9_111.1) rfl rfl ?_
              refine XS.iconst X127_.here hx rfl (hC e9_111.2.1) ?_
              refine XS.aloadN X127_.here hx rfl (hC e9_111.2.2.1) rfl rfl ?_
              refine XS.iconst X127_.here hx rfl (hC e9_111.2.2.2) ?_
              exact kK
            obtain ⟨cl136_, Ar136_, Sz136_, Nn136_, Hh136_⟩ := id fc131_
            have hin136_ : ¬ ((0 : Int32) < 0 ∨ cl136_.slots.size ≤ ((0 : Int32)).toNatClampNeg) := inb_of Sz136_ ⟨by decide, by decide⟩
            have hat136_ : cl136_.slots[((0 : Int32)).toNatClampNeg]? = some (.int (fc (0 : Int32))) := Hh136_ _ hin136_
            refine jg T127_ mM 116 #[vI nn, vR c] [(.int (fc (0 : Int32))), (.int (0 : Int32)), (.ref b127_), (.ref b127_), (.ref b123_), (.ref b123_)] (fun tT kK => ?_) ?_
            · refine X127_.caload hx (j := (0 : Int32)) (v := (.int (fc (0 : Int32)))) (own_rw e127_ Ar136_.1) (State.isArrayOf_alike hZ.alike Ar136_.2.1) Ar136_.2.2 hin136_ hat136_ (g := (mkF mM 115 #[vI nn, vR c] [(.int (0 : Int32)), (.ref c), (.int (0 : Int32)), (.ref b127_), (.ref b127_), (.ref b123_), (.ref b123_)])) rfl rfl (hC e9_115.1) _ ?_
              exact kK
            obtain ⟨cl137_, Ar137_, Sz137_, Nn137_, Hh137_⟩ := id V127_
            have hin137_ : ¬ ((0 : Int32) < 0 ∨ cl137_.slots.size ≤ ((0 : Int32)).toNatClampNeg) := inb_of Sz137_ ⟨by decide, by decide⟩
            obtain ⟨T137_, h137_, X137_, e137_, W137_, st137_⟩ := stC X127_ hx hZ e127_ Ar137_ (j := (0 : Int32)) hin137_ (g := (mkF mM 116 #[vI nn, vR c] [(.int (fc (0 : Int32))), (.int (0 : Int32)), (.ref b127_), (.ref b127_), (.ref b123_), (.ref b123_)])) rfl rfl (hC e9_115.2.1)
            have U137_ : own_T Z h137_ b127_ .char (4 : Int32) (own_up (fun _ => (0 : Int32)) (0 : Int32) (nar .char (fc (0 : Int32)))) := own_T.set ⟨cl137_, Ar137_, Sz137_, Nn137_, Hh137_⟩ W137_ ⟨by decide, by decide⟩
            have fc138_ := fc130_.wr W137_ ge_b127_
            have fc139_ := fc131_.other W137_ ne128_
            have fc140_ := fc132_.wr W137_
            have fc141_ := fc133_.other W137_ (Or.inl ne129_)
            have fc142_ := fc134_.other W137_ (Or.inl ne129_)
            have sw137_ : Safe Z own_EL sS.vm h127_ b127_ := (own_T.safe (EL := own_EL) hZ.alike V127_ (by decide))
            have Cs137_ : CHr Z own_EL sS.vm h127_ sS.vm h137_ := CHr.wr W137_ sw137_ CH127_.1
            have sf143_ := Safe.wr W137_ sw137_ CH127_.1 sf135_
            have CH137_ := CH127_.trans Cs137_
            have hk137_ := Nat.le_trans hk127_ Cs137_.2.1
            have K137_ := K127_.wr W137_ (Or.inr sz_b127_)
            have N137_ := Fr.snoc X137_ N0 ge_b127_
            refine own_fin st137_ ?_
            refine jg T137_ mM 121 #[vI nn, vR c] [(.int (1 : Int32)), (.ref c), (.int (1 : Int32)), (.ref b127_), (.ref b127_), (.ref b123_), (.ref b123_)] (fun tT kK => ?_) ?_
            · refine XS.dup X137_.here hx rfl (hC e9_115.2.2.1) rfl rfl ?_
              refine XS.iconst X137_.here hx rfl (hC e9_115.2.2.2) ?_
              refine XS.aloadN X137_.here hx rfl (hC e9_119.1) rfl rfl ?_
              refine XS.iconst X137_.here hx rfl (hC e9_119.2.1) ?_
              exact kK
            obtain ⟨cl144_, Ar144_, Sz144_, Nn144_, Hh144_⟩ := id fc139_
            have hin144_ : ¬ ((1 : Int32) < 0 ∨ cl144_.slots.size ≤ ((1 : Int32)).toNatClampNeg) := inb_of Sz144_ ⟨by decide, by decide⟩
            have hat144_ : cl144_.slots[((1 : Int32)).toNatClampNeg]? = some (.int (fc (1 : Int32))) := Hh144_ _ hin144_
            refine jg T137_ mM 122 #[vI nn, vR c] [(.int (fc (1 : Int32))), (.int (1 : Int32)), (.ref b127_), (.ref b127_), (.ref b123_), (.ref b123_)] (fun tT kK => ?_) ?_
            · refine X137_.caload hx (j := (1 : Int32)) (v := (.int (fc (1 : Int32)))) (own_rw e137_ Ar144_.1) (State.isArrayOf_alike hZ.alike Ar144_.2.1) Ar144_.2.2 hin144_ hat144_ (g := (mkF mM 121 #[vI nn, vR c] [(.int (1 : Int32)), (.ref c), (.int (1 : Int32)), (.ref b127_), (.ref b127_), (.ref b123_), (.ref b123_)])) rfl rfl (hC e9_119.2.2.1) _ ?_
              exact kK
            obtain ⟨cl145_, Ar145_, Sz145_, Nn145_, Hh145_⟩ := id U137_
            have hin145_ : ¬ ((1 : Int32) < 0 ∨ cl145_.slots.size ≤ ((1 : Int32)).toNatClampNeg) := inb_of Sz145_ ⟨by decide, by decide⟩
            obtain ⟨T145_, h145_, X145_, e145_, W145_, st145_⟩ := stC X137_ hx hZ e137_ Ar145_ (j := (1 : Int32)) hin145_ (g := (mkF mM 122 #[vI nn, vR c] [(.int (fc (1 : Int32))), (.int (1 : Int32)), (.ref b127_), (.ref b127_), (.ref b123_), (.ref b123_)])) rfl rfl (hC e9_119.2.2.2)
            have U145_ : own_T Z h145_ b127_ .char (4 : Int32) (own_up (own_up (fun _ => (0 : Int32)) (0 : Int32) (nar .char (fc (0 : Int32)))) (1 : Int32) (nar .char (fc (1 : Int32)))) := own_T.set ⟨cl145_, Ar145_, Sz145_, Nn145_, Hh145_⟩ W145_ ⟨by decide, by decide⟩
            have fc146_ := fc138_.wr W145_ ge_b127_
            have fc147_ := fc139_.other W145_ ne128_
            have fc148_ := fc140_.wr W145_
            have fc149_ := fc141_.other W145_ (Or.inl ne129_)
            have fc150_ := fc142_.other W145_ (Or.inl ne129_)
            have sw145_ : Safe Z own_EL sS.vm h137_ b127_ := (own_T.safe (EL := own_EL) hZ.alike U137_ (by decide))
            have Cs145_ : CHr Z own_EL sS.vm h137_ sS.vm h145_ := CHr.wr W145_ sw145_ CH137_.1
            have sf151_ := Safe.wr W145_ sw145_ CH137_.1 sf143_
            have CH145_ := CH137_.trans Cs145_
            have hk145_ := Nat.le_trans hk137_ Cs145_.2.1
            have K145_ := K137_.wr W145_ (Or.inr sz_b127_)
            have N145_ := Fr.snoc X145_ N137_ ge_b127_
            refine own_fin st145_ ?_
            refine jg T145_ mM 127 #[vI nn, vR c] [(.int (2 : Int32)), (.ref c), (.int (2 : Int32)), (.ref b127_), (.ref b127_), (.ref b123_), (.ref b123_)] (fun tT kK => ?_) ?_
            · refine XS.dup X145_.here hx rfl (hC e9_123.1) rfl rfl ?_
              refine XS.iconst X145_.here hx rfl (hC e9_123.2.1) ?_
              refine XS.aloadN X145_.here hx rfl (hC e9_123.2.2.1) rfl rfl ?_
              refine XS.iconst X145_.here hx rfl (hC e9_123.2.2.2) ?_
              exact kK
            obtain ⟨cl152_, Ar152_, Sz152_, Nn152_, Hh152_⟩ := id fc147_
            have hin152_ : ¬ ((2 : Int32) < 0 ∨ cl152_.slots.size ≤ ((2 : Int32)).toNatClampNeg) := inb_of Sz152_ ⟨by decide, by decide⟩
            have hat152_ : cl152_.slots[((2 : Int32)).toNatClampNeg]? = some (.int (fc (2 : Int32))) := Hh152_ _ hin152_
            refine jg T145_ mM 128 #[vI nn, vR c] [(.int (fc (2 : Int32))), (.int (2 : Int32)), (.ref b127_), (.ref b127_), (.ref b123_), (.ref b123_)] (fun tT kK => ?_) ?_
            · refine X145_.caload hx (j := (2 : Int32)) (v := (.int (fc (2 : Int32)))) (own_rw e145_ Ar152_.1) (State.isArrayOf_alike hZ.alike Ar152_.2.1) Ar152_.2.2 hin152_ hat152_ (g := (mkF mM 127 #[vI nn, vR c] [(.int (2 : Int32)), (.ref c), (.int (2 : Int32)), (.ref b127_), (.ref b127_), (.ref b123_), (.ref b123_)])) rfl rfl (hC e9_127.1) _ ?_
              exact kK
            obtain ⟨cl153_, Ar153_, Sz153_, Nn153_, Hh153_⟩ := id U145_
            have hin153_ : ¬ ((2 : Int32) < 0 ∨ cl153_.slots.size ≤ ((2 : Int32)).toNatClampNeg) := inb_of Sz153_ ⟨by decide, by decide⟩
            obtain ⟨T153_, h153_, X153_, e153_, W153_, st153_⟩ := stC X145_ hx hZ e145_ Ar153_ (j := (2 : Int32)) hin153_ (g := (mkF mM 128 #[vI nn, vR c] [(.int (fc (2 : Int32))), (.int (2 : Int32)), (.ref b127_), (.ref b127_), (.ref b123_), (.ref b123_)])) rfl rfl (hC e9_127.2.1)
            have U153_ : own_T Z h153_ b127_ .char (4 : Int32) (own_up (own_up (own_up (fun _ => (0 : Int32)) (0 : Int32) (nar .char (fc (0 : Int32)))) (1 : Int32) (nar .char (fc (1 : Int32)))) (2 : Int32) (nar .char (fc (2 : Int32)))) := own_T.set ⟨cl153_, Ar153_, Sz153_, Nn153_, Hh153_⟩ W153_ ⟨by decide, by decide⟩
            have fc154_ := fc146_.wr W153_ ge_b127_
            have fc155_ := fc147_.other W153_ ne128_
            have fc156_ := fc148_.wr W153_
            have fc157_ := fc149_.other W153_ (Or.inl ne129_)
            have fc158_ := fc150_.other W153_ (Or.inl ne129_)
            have sw153_ : Safe Z own_EL sS.vm h145_ b127_ := (own_T.safe (EL := own_EL) hZ.alike U145_ (by decide))
            have Cs153_ : CHr Z own_EL sS.vm h145_ sS.vm h153_ := CHr.wr W153_ sw153_ CH145_.1
            have sf159_ := Safe.wr W153_ sw153_ CH145_.1 sf151_
            have CH153_ := CH145_.trans Cs153_
            have hk153_ := Nat.le_trans hk145_ Cs153_.2.1
            have K153_ := K145_.wr W153_ (Or.inr sz_b127_)
            have N153_ := Fr.snoc X153_ N145_ ge_b127_
            refine own_fin st153_ ?_
            refine jg T153_ mM 133 #[vI nn, vR c] [(.int (3 : Int32)), (.ref c), (.int (3 : Int32)), (.ref b127_), (.ref b127_), (.ref b123_), (.ref b123_)] (fun tT kK => ?_) ?_
            · refine XS.dup X153_.here hx rfl (hC e9_127.2.2.1) rfl rfl ?_
              refine XS.iconst X153_.here hx rfl (hC e9_127.2.2.2) ?_
              refine XS.aloadN X153_.here hx rfl (hC e9_131.1) rfl rfl ?_
              refine XS.iconst X153_.here hx rfl (hC e9_131.2.1) ?_
              exact kK
            obtain ⟨cl160_, Ar160_, Sz160_, Nn160_, Hh160_⟩ := id fc155_
            have hin160_ : ¬ ((3 : Int32) < 0 ∨ cl160_.slots.size ≤ ((3 : Int32)).toNatClampNeg) := inb_of Sz160_ ⟨by decide, by decide⟩
            have hat160_ : cl160_.slots[((3 : Int32)).toNatClampNeg]? = some (.int (fc (3 : Int32))) := Hh160_ _ hin160_
            refine jg T153_ mM 134 #[vI nn, vR c] [(.int (fc (3 : Int32))), (.int (3 : Int32)), (.ref b127_), (.ref b127_), (.ref b123_), (.ref b123_)] (fun tT kK => ?_) ?_
            · refine X153_.caload hx (j := (3 : Int32)) (v := (.int (fc (3 : Int32)))) (own_rw e153_ Ar160_.1) (State.isArrayOf_alike hZ.alike Ar160_.2.1) Ar160_.2.2 hin160_ hat160_ (g := (mkF mM 133 #[vI nn, vR c] [(.int (3 : Int32)), (.ref c), (.int (3 : Int32)), (.ref b127_), (.ref b127_), (.ref b123_), (.ref b123_)])) rfl rfl (hC e9_131.2.2.1) _ ?_
              exact kK
            obtain ⟨cl161_, Ar161_, Sz161_, Nn161_, Hh161_⟩ := id U153_
            have hin161_ : ¬ ((3 : Int32) < 0 ∨ cl161_.slots.size ≤ ((3 : Int32)).toNatClampNeg) := inb_of Sz161_ ⟨by decide, by decide⟩
            obtain ⟨T161_, h161_, X161_, e161_, W161_, st161_⟩ := stC X153_ hx hZ e153_ Ar161_ (j := (3 : Int32)) hin161_ (g := (mkF mM 134 #[vI nn, vR c] [(.int (fc (3 : Int32))), (.int (3 : Int32)), (.ref b127_), (.ref b127_), (.ref b123_), (.ref b123_)])) rfl rfl (hC e9_131.2.2.2)
            have U161_ : own_T Z h161_ b127_ .char (4 : Int32) (own_up (own_up (own_up (own_up (fun _ => (0 : Int32)) (0 : Int32) (nar .char (fc (0 : Int32)))) (1 : Int32) (nar .char (fc (1 : Int32)))) (2 : Int32) (nar .char (fc (2 : Int32)))) (3 : Int32) (nar .char (fc (3 : Int32)))) := own_T.set ⟨cl161_, Ar161_, Sz161_, Nn161_, Hh161_⟩ W161_ ⟨by decide, by decide⟩
            have fc162_ := fc154_.wr W161_ ge_b127_
            have fc164_ := fc156_.wr W161_
            have fc165_ := fc157_.other W161_ (Or.inl ne129_)
            have fc166_ := fc158_.other W161_ (Or.inl ne129_)
            have sw161_ : Safe Z own_EL sS.vm h153_ b127_ := (own_T.safe (EL := own_EL) hZ.alike U153_ (by decide))
            have Cs161_ : CHr Z own_EL sS.vm h153_ sS.vm h161_ := CHr.wr W161_ sw161_ CH153_.1
            have sf167_ := Safe.wr W161_ sw161_ CH153_.1 sf159_
            have CH161_ := CH153_.trans Cs161_
            have hk161_ := Nat.le_trans hk153_ Cs161_.2.1
            have K161_ := K153_.wr W161_ (Or.inr sz_b127_)
            have N161_ := Fr.snoc X161_ N153_ ge_b127_
            refine own_fin st161_ ?_
            have sk168_ : ∀ x ∈ ([b123_] : List Addr), Safe Z own_EL sS.vm h161_ x := (sfS sf167_ sf0)
            refine own_sb X161_ hx hZ (y := jy11) rfl hown (jk hw 54 rfl) (jk hw 55 rfl) (jk hw 56 rfl) (jk hw 2 rfl) (rm_str lL Z a0 hw [] b123_ b127_ (4 : Int32) (own_up (own_up (own_up (own_up (fun _ => (0 : Int32)) (0 : Int32) (nar .char (fc (0 : Int32)))) (1 : Int32) (nar .char (fc (1 : Int32)))) (2 : Int32) (nar .char (fc (2 : Int32)))) (3 : Int32) (nar .char (fc (3 : Int32)))) cs h161_ n0 (Nat.le_trans Z0 K161_.1) fc162_ Scs ncs fc164_ fc165_ fc166_ ge_b123_ U161_ (fun j _ => (own_upB (own_upB (own_upB (own_upB own_z0 (own_ncb (hb _))) (own_ncb (hb _))) (own_ncb (hb _))) (own_ncb (hb _))) j) (by decide) (by decide) (Ne.symm ne129_)) (a := b123_) e161_ own_pd12 [(.ref b127_)] [(.ref b123_)] (hC e9_135.1) rfl rfl (by rw [hml]; rfl) (by decide) 1 (Nat.le_of_eq rfl) (by decide) (by decide) (by decide : 2 + 1 ≤ _) (by decide : 8 + 8 ≤ _) fun vv169_ T169_ L169_ X169_ hQ169_ => ?_
            obtain ⟨b_169_, rfl, N169_q, p169__0, p169__1, p169__2, p169__3, p169__4, p169__5⟩ := hQ169_
            have N169_ := Fr.app N161_ N169_q
            have K169_ := K161_.trans p169__0 (allS (Or.inr sz_b123_) all0)
            have Cs169_ : CHr Z own_EL sS.vm h161_ sS.vm T169_.heap := CHr.keep p169__0 sk168_ CH161_.1
            have sf177_ := Safe.keep p169__0 sk168_ CH161_.1 sf167_
            have CH169_ := CH161_.trans Cs169_
            have hk169_ := Nat.le_trans hk161_ Cs169_.2.1
            obtain ⟨fs, hr, hrun, hended, hE1, hE2, hE3, hE4⟩ := X169_.leaveW hS0 (own_hk rfl hk169_) (v := some (.ref b123_)) (fun h => by rw [Bd.returns] at h; cases h)
            refine ⟨_, _, ?_, hrun, hended, _, _, rfl, ?_, own_CHe (T := T169_) (vm1 := T169_.vm) hh rfl (CH169_.trans (CHv.at X169_ hZ (own_EW hw) CH169_.1)), hE1, hE2, hE3, hE4.mono (by decide) (by decide)⟩
            · show Steps pP.tables eE below (T169_.setTop (mkF mM 138 #[vI nn, vR c] [(.ref b123_)])) _
              exact retOut X169_ hx Bd.returns rfl (Or.inr (Or.inr (Or.inr (Or.inr ⟨rfl, rfl, rfl⟩)))) (hC e9_135.2.1) hr
            · show Q_rm_strn Z c nn fc cs h0 n0 _ T169_.heap _
              exact ⟨b123_, b_169_, (4 : Int32), (fun j => ((own_up (own_up (own_up (own_up (fun _ => (0 : Int32)) (0 : Int32) (nar .char (fc (0 : Int32)))) (1 : Int32) (nar .char (fc (1 : Int32)))) (2 : Int32) (nar .char (fc (2 : Int32)))) (3 : Int32) (nar .char (fc (3 : Int32)))) j).toInt8.toInt32), rfl, N169_, K169_, sz_b123_, p169__2, p169__3, p169__4, p169__5⟩
          · refine jg s₁ mM 141 #[vI nn, vR c] [(.int (5 : Int32)), (.int nn)] (fun tT kK => ?_) ?_
            · refine XS.icmpYes X0.here hx rfl (pc0 := 101) (pc' := 139) rfl (hC e9_98.2.2.2) rfl (feq (hc101_122_ : ¬ (nn = (4 : Int32)))).2 (by decide) (by decide) ?_
              refine XS.iloadN X0.here hx rfl (hC e9_135.2.2.1) rfl ?_
              refine XS.iconst X0.here hx rfl (hC e9_135.2.2.2) ?_
              exact kK
            by_cases hc141_178_ : nn = (5 : Int32)
            · refine jg s₁ mM 144 #[vI nn, vR c] [] (fun tT kK => ?_) ?_
              · refine XS.icmpNo X0.here hx rfl (hC e9_141.1) rfl (teq (hc141_178_ : nn = (5 : Int32))).2 ?_
                exact kK
              obtain ⟨T179_, h179_, X179_, e179_, E179_, A179_, D179_, -, st179_⟩ := newO X0 hx hZ hown (jk hw 53 rfl) (jk hw 3 rfl) (jk hw 2 rfl) e0 (g := (mkF mM 144 #[vI nn, vR c] [])) rfl (hC e9_141.2.1) (by decide) (by decide)
              obtain ⟨b179_, g179_⟩ : ∃ z, z = h0.size := ⟨_, rfl⟩
              rw [← g179_] at A179_ D179_ st179_
              have sz_b179_ : h0.size ≤ b179_ := Nat.le_trans K0.1 (Nat.le_of_eq g179_.symm)
              have ge_b179_ : n0 ≤ b179_ := Nat.le_trans Z0 sz_b179_
              have fc181_ := Oo.ext E179_
              have fc182_ := Tc.ext E179_
              have Cs179_ : CHr Z own_EL sS.vm h0 sS.vm h179_ := CHr.ext E179_ CH0.1
              have CH179_ := CH0.trans Cs179_
              have hk179_ := Nat.le_trans hk0 Cs179_.2.1
              have K179_ := K0.ext E179_
              have sf179_ : Safe Z own_EL sS.vm h179_ b179_ := Safe.ext E179_ CH0.1 (Safe.new (Nat.le_of_eq g179_.symm))
              have F179__value : jF1 Z h179_ b179_ .null := D179_ (Or.inr (jk hw 5 rfl)) (ty := (.array .byte)) (by decide)
              have F179__coder : jF0 Z h179_ b179_ (.int (0 : Int32)) := D179_ (Or.inr (jk hw 6 rfl)) (ty := .byte) (by decide)
              refine own_fin st179_ ?_
              refine jg T179_ mM 149 #[vI nn, vR c] [(.int (5 : Int32)), (.ref b179_), (.ref b179_)] (fun tT kK => ?_) ?_
              · refine XS.dup X179_.here hx rfl (hC e9_141.2.2.1) rfl rfl ?_
                refine XS.iconst X179_.here hx rfl (hC e9_141.2.2.2) ?_
                exact kK
              obtain ⟨T183_, h183_, k183_, X183_, e183_, E183_, A183_, st183_⟩ := newP X179_ hx hZ (jk hw 9 rfl) e179_ (g := (mkF mM 149 #[vI nn, vR c] [(.int (5 : Int32)), (.ref b179_), (.ref b179_)])) rfl (hC e9_149.1) rfl (by decide) (cap := 5) (by decide) (by decide) (by decide) (by decide)
              obtain ⟨b183_, g183_⟩ : ∃ z, z = h179_.size := ⟨_, rfl⟩
              rw [← g183_] at A183_ st183_
              have sz_b183_ : h0.size ≤ b183_ := Nat.le_trans K179_.1 (Nat.le_of_eq g183_.symm)
              have ge_b183_ : n0 ≤ b183_ := Nat.le_trans Z0 sz_b183_
              have ne184_ : c ≠ b183_ := Nat.ne_of_lt (Nat.lt_of_lt_of_le fc182_.lt (Nat.le_of_eq g183_.symm))
              have ne185_ : b179_ ≠ b183_ := Nat.ne_of_lt (Nat.lt_of_lt_of_le A179_.lt (Nat.le_of_eq g183_.symm))
              have fc186_ := fc181_.ext E183_
              have fc187_ := fc182_.ext E183_
              have fc188_ := A179_.ext E183_
              have fc189_ := F179__value.ext E183_
              have fc190_ := F179__coder.ext E183_
              have Cs183_ : CHr Z own_EL sS.vm h179_ sS.vm h183_ := CHr.ext E183_ CH179_.1
              have sf191_ := Safe.ext E183_ CH179_.1 sf179_
              have CH183_ := CH179_.trans Cs183_
              have hk183_ := Nat.le_trans hk179_ Cs183_.2.1
              have K183_ := K179_.ext E183_
              have V183_ : own_T Z h183_ b183_ .char (5 : Int32) (fun _ => (0 : Int32)) := own_T.new A183_ (by decide) rfl
              refine own_fin st183_ ?_
              refine jg T183_ mM 155 #[vI nn, vR c] [(.int (0 : Int32)), (.ref c), (.int (0 : Int32)), (.ref b183_), (.ref b183_), (.ref b179_), (.ref b179_)] (fun tT kK => ?_) ?_
              · refine XS.dup X183_.here hx rfl (hC e9_149.2.1) rfl rfl ?_
                refine XS.iconst X183_.here hx rfl (hC e9_149.2.2.1) ?_
                refine XS.aloadN X183_.here hx rfl (hC e9_149.2.2.2) rfl rfl ?_
                refine XS.iconst X183_.here hx rfl (hC e9_154.1) ?_
                exact kK
              obtain ⟨cl192_, Ar192_, Sz192_, Nn192_, Hh192_⟩ := id fc187_
              have hin192_ : ¬ ((0 : Int32) < 0 ∨ cl192_.slots.size ≤ ((0 : Int32)).toNatClampNeg) := inb_of Sz192_ ⟨by decide, by decide⟩
              have hat192_ : cl192_.slots[((0 : Int32)).toNatClampNeg]? = some (.int (fc (0 : Int32))) := Hh192_ _ hin192_
              refine jg T183_ mM 156 #[vI nn, vR c] [(.int (fc (0 : Int32))), (.int (0 : Int32)), (.ref b183_), (.ref b183_), (.ref b179_), (.ref b179_)] (fun tT kK => ?_) ?_
              · refine X183_.caload hx (j := (0 : Int32)) (v := (.int (fc (0 : Int32)))) (own_rw e183_ Ar192_.1) (State.isArrayOf_alike hZ.alike Ar192_.2.1) Ar192_.2.2 hin192_ hat192_ (g := (mkF mM 155 #[vI nn, vR c] [(.int (0 : Int32)), (.ref c), (.int (0 : Int32)), (.ref b183_), (.ref b183_), (.ref b179_), (.ref b179_)])) rfl rfl (hC e9_154.2.1) _ ?_
                exact kK
              obtain ⟨cl193_, Ar193_, Sz193_, Nn193_, Hh193_⟩ := id V183_
              have hin193_ : ¬ ((0 : Int32) < 0 ∨ cl193_.slots.size ≤ ((0 : Int32)).toNatClampNeg) := inb_of Sz193_ ⟨by decide, by decide⟩
              obtain ⟨T193_, h193_, X193_, e193_, W193_, st193_⟩ := stC X183_ hx hZ e183_ Ar193_ (j := (0 : Int32)) hin193_ (g := (mkF mM 156 #[vI nn, vR c] [(.int (fc (0 : Int32))), (.int (0 : Int32)), (.ref b183_), (.ref b183_), (.ref b179_), (.ref b179_)])) rfl rfl (hC e9_154.2.2.1)
              have U193_ : own_T Z h193_ b183_ .char (5 : Int32) (own_up (fun _ => (0 : Int32)) (0 : Int32) (nar .char (fc (0 : Int32)))) := own_T.set ⟨cl193_, Ar193_, Sz193_, Nn193_, Hh193_⟩ W193_ ⟨by decide, by decide⟩
              have fc194_ := fc186_.wr W193_ ge_b183_
              have fc195_ := fc187_.other W193_ ne184_
              have fc196_ := fc188_.wr W193_
              have fc197_ := fc189_.other W193_ (Or.inl ne185_)
              have fc198_ := fc190_.other W193_ (Or.inl ne185_)
              have sw193_ : Safe Z own_EL sS.vm h183_ b183_ := (own_T.safe (EL := own_EL) hZ.alike V183_ (by decide))
              have Cs193_ : CHr Z own_EL sS.vm h183_ sS.vm h193_ := CHr.wr W193_ sw193_ CH183_.1
              have sf199_ := Safe.wr W193_ sw193_ CH183_.1 sf191_
              have CH193_ := CH183_.trans Cs193_
              have hk193_ := Nat.le_trans hk183_ Cs193_.2.1
              have K193_ := K183_.wr W193_ (Or.inr sz_b183_)
              have N193_ := Fr.snoc X193_ N0 ge_b183_
              refine own_fin st193_ ?_
              refine jg T193_ mM 161 #[vI nn, vR c] [(.int (1 : Int32)), (.ref c), (.int (1 : Int32)), (.ref b183_), (.ref b183_), (.ref b179_), (.ref b179_)] (fun tT kK => ?_) ?_
              · refine XS.dup X193_.here hx rfl (hC e9_154.2.2.2) rfl rfl ?_
                refine XS.iconst X193_.here hx rfl (hC e9_158.1) ?_
                refine XS.aloadN X193_.here hx rfl (hC e9_158.2.1) rfl rfl ?_
                refine XS.iconst X193_.here hx rfl (hC e9_158.2.2.1) ?_
                exact kK
              obtain ⟨cl200_, Ar200_, Sz200_, Nn200_, Hh200_⟩ := id fc195_
              have hin200_ : ¬ ((1 : Int32) < 0 ∨ cl200_.slots.size ≤ ((1 : Int32)).toNatClampNeg) := inb_of Sz200_ ⟨by decide, by decide⟩
              have hat200_ : cl200_.slots[((1 : Int32)).toNatClampNeg]? = some (.int (fc (1 : Int32))) := Hh200_ _ hin200_
              refine jg T193_ mM 162 #[vI nn, vR c] [(.int (fc (1 : Int32))), (.int (1 : Int32)), (.ref b183_), (.ref b183_), (.ref b179_), (.ref b179_)] (fun tT kK => ?_) ?_
              · refine X193_.caload hx (j := (1 : Int32)) (v := (.int (fc (1 : Int32)))) (own_rw e193_ Ar200_.1) (State.isArrayOf_alike hZ.alike Ar200_.2.1) Ar200_.2.2 hin200_ hat200_ (g := (mkF mM 161 #[vI nn, vR c] [(.int (1 : Int32)), (.ref c), (.int (1 : Int32)), (.ref b183_), (.ref b183_), (.ref b179_), (.ref b179_)])) rfl rfl (hC e9_158.2.2.2) _ ?_
                exact kK
              obtain ⟨cl201_, Ar201_, Sz201_, Nn201_, Hh201_⟩ := id U193_
              have hin201_ : ¬ ((1 : Int32) < 0 ∨ cl201_.slots.size ≤ ((1 : Int32)).toNatClampNeg) := inb_of Sz201_ ⟨by decide, by decide⟩
              obtain ⟨T201_, h201_, X201_, e201_, W201_, st201_⟩ := stC X193_ hx hZ e193_ Ar201_ (j := (1 : Int32)) hin201_ (g := (mkF mM 162 #[vI nn, vR c] [(.int (fc (1 : Int32))), (.int (1 : Int32)), (.ref b183_), (.ref b183_), (.ref b179_), (.ref b179_)])) rfl rfl (hC e9_162.1)
              have U201_ : own_T Z h201_ b183_ .char (5 : Int32) (own_up (own_up (fun _ => (0 : Int32)) (0 : Int32) (nar .char (fc (0 : Int32)))) (1 : Int32) (nar .char (fc (1 : Int32)))) := own_T.set ⟨cl201_, Ar201_, Sz201_, Nn201_, Hh201_⟩ W201_ ⟨by decide, by decide⟩
              have fc202_ := fc194_.wr W201_ ge_b183_
              have fc203_ := fc195_.other W201_ ne184_
              have fc204_ := fc196_.wr W201_
              have fc205_ := fc197_.other W201_ (Or.inl ne185_)
              have fc206_ := fc198_.other W201_ (Or.inl ne185_)
              have sw201_ : Safe Z own_EL sS.vm h193_ b183_ := (own_T.safe (EL := own_EL) hZ.alike U193_ (by decide))
              have Cs201_ : CHr Z own_EL sS.vm h193_ sS.vm h201_ := CHr.wr W201_ sw201_ CH193_.1
              have sf207_ := Safe.wr W201_ sw201_ CH193_.1 sf199_
              have CH201_ := CH193_.trans Cs201_
              have hk201_ := Nat.le_trans hk193_ Cs201_.2.1
              have K201_ := K193_.wr W201_ (Or.inr sz_b183_)
              have N201_ := Fr.snoc X201_ N193_ ge_b183_
              refine own_fin st201_ ?_
              refine jg T201_ mM 167 #[vI nn, vR c] [(.int (2 : Int32)), (.ref c), (.int (2 : Int32)), (.ref b183_), (.ref b183_), (.ref b179_), (.ref b179_)] (fun tT kK => ?_) ?_
              · refine XS.dup X201_.here hx rfl (hC e9_162.2.1) rfl rfl ?_
                refine XS.iconst X201_.here hx rfl (hC e9_162.2.2.1) ?_
                refine XS.aloadN X201_.here hx rfl (hC e9_162.2.2.2) rfl rfl ?_
                refine XS.iconst X201_.here hx rfl (hC e9_166.1) ?_
                exact kK
              obtain ⟨cl208_, Ar208_, Sz208_, Nn208_, Hh208_⟩ := id fc203_
              have hin208_ : ¬ ((2 : Int32) < 0 ∨ cl208_.slots.size ≤ ((2 : Int32)).toNatClampNeg) := inb_of Sz208_ ⟨by decide, by decide⟩
              have hat208_ : cl208_.slots[((2 : Int32)).toNatClampNeg]? = some (.int (fc (2 : Int32))) := Hh208_ _ hin208_
              refine jg T201_ mM 168 #[vI nn, vR c] [(.int (fc (2 : Int32))), (.int (2 : Int32)), (.ref b183_), (.ref b183_), (.ref b179_), (.ref b179_)] (fun tT kK => ?_) ?_
              · refine X201_.caload hx (j := (2 : Int32)) (v := (.int (fc (2 : Int32)))) (own_rw e201_ Ar208_.1) (State.isArrayOf_alike hZ.alike Ar208_.2.1) Ar208_.2.2 hin208_ hat208_ (g := (mkF mM 167 #[vI nn, vR c] [(.int (2 : Int32)), (.ref c), (.int (2 : Int32)), (.ref b183_), (.ref b183_), (.ref b179_), (.ref b179_)])) rfl rfl (hC e9_166.2.1) _ ?_
                exact kK
              obtain ⟨cl209_, Ar209_, Sz209_, Nn209_, Hh209_⟩ := id U201_
              have hin209_ : ¬ ((2 : Int32) < 0 ∨ cl209_.slots.size ≤ ((2 : Int32)).toNatClampNeg) := inb_of Sz209_ ⟨by decide, by decide⟩
              obtain ⟨T209_, h209_, X209_, e209_, W209_, st209_⟩ := stC X201_ hx hZ e201_ Ar209_ (j := (2 : Int32)) hin209_ (g := (mkF mM 168 #[vI nn, vR c] [(.int (fc (2 : Int32))), (.int (2 : Int32)), (.ref b183_), (.ref b183_), (.ref b179_), (.ref b179_)])) rfl rfl (hC e9_166.2.2.1)
              have U209_ : own_T Z h209_ b183_ .char (5 : Int32) (own_up (own_up (own_up (fun _ => (0 : Int32)) (0 : Int32) (nar .char (fc (0 : Int32)))) (1 : Int32) (nar .char (fc (1 : Int32)))) (2 : Int32) (nar .char (fc (2 : Int32)))) := own_T.set ⟨cl209_, Ar209_, Sz209_, Nn209_, Hh209_⟩ W209_ ⟨by decide, by decide⟩
              have fc210_ := fc202_.wr W209_ ge_b183_
              have fc211_ := fc203_.other W209_ ne184_
              have fc212_ := fc204_.wr W209_
              have fc213_ := fc205_.other W209_ (Or.inl ne185_)
              have fc214_ := fc206_.other W209_ (Or.inl ne185_)
              have sw209_ : Safe Z own_EL sS.vm h201_ b183_ := (own_T.safe (EL := own_EL) hZ.alike U201_ (by decide))
              have Cs209_ : CHr Z own_EL sS.vm h201_ sS.vm h209_ := CHr.wr W209_ sw209_ CH201_.1
              have sf215_ := Safe.wr W209_ sw209_ CH201_.1 sf207_
              have CH209_ := CH201_.trans Cs209_
              have hk209_ := Nat.le_trans hk201_ Cs209_.2.1
              have K209_ := K201_.wr W209_ (Or.inr sz_b183_)
              have N209_ := Fr.snoc X209_ N201_ ge_b183_
              refine own_fin st209_ ?_
              refine jg T209_ mM 173 #[vI nn, vR c] [(.int (3 : Int32)), (.ref c), (.int (3 : Int32)), (.ref b183_), (.ref b183_), (.ref b179_), (.ref b179_)] (fun tT kK => ?_) ?_
              · refine XS.dup X209_.here hx rfl (hC e9_166.2.2.2) rfl rfl ?_
                refine XS.iconst X209_.here hx rfl (hC e9_170.1) ?_
                refine XS.aloadN X209_.here hx rfl (hC e9_170.2.1) rfl rfl ?_
                refine XS.iconst X209_.here hx rfl (hC e9_170.2.2.1) ?_
                exact kK
              obtain ⟨cl216_, Ar216_, Sz216_, Nn216_, Hh216_⟩ := id fc211_
              have hin216_ : ¬ ((3 : Int32) < 0 ∨ cl216_.slots.size ≤ ((3 : Int32)).toNatClampNeg) := inb_of Sz216_ ⟨by decide, by decide⟩
              have hat216_ : cl216_.slots[((3 : Int32)).toNatClampNeg]? = some (.int (fc (3 : Int32))) := Hh216_ _ hin216_
              refine jg T209_ mM 174 #[vI nn, vR c] [(.int (fc (3 : Int32))), (.int (3 : Int32)), (.ref b183_), (.ref b183_), (.ref b179_), (.ref b179_)] (fun tT kK => ?_) ?_
              · refine X209_.caload hx (j := (3 : Int32)) (v := (.int (fc (3 : Int32)))) (own_rw e209_ Ar216_.1) (State.isArrayOf_alike hZ.alike Ar216_.2.1) Ar216_.2.2 hin216_ hat216_ (g := (mkF mM 173 #[vI nn, vR c] [(.int (3 : Int32)), (.ref c), (.int (3 : Int32)), (.ref b183_), (.ref b183_), (.ref b179_), (.ref b179_)])) rfl rfl (hC e9_170.2.2.2) _ ?_
                exact kK
              obtain ⟨cl217_, Ar217_, Sz217_, Nn217_, Hh217_⟩ := id U209_
              have hin217_ : ¬ ((3 : Int32) < 0 ∨ cl217_.slots.size ≤ ((3 : Int32)).toNatClampNeg) := inb_of Sz217_ ⟨by decide, by decide⟩
              obtain ⟨T217_, h217_, X217_, e217_, W217_, st217_⟩ := stC X209_ hx hZ e209_ Ar217_ (j := (3 : Int32)) hin217_ (g := (mkF mM 174 #[vI nn, vR c] [(.int (fc (3 : Int32))), (.int (3 : Int32)), (.ref b183_), (.ref b183_), (.ref b179_), (.ref b179_)])) rfl rfl (hC e9_174.1)
              have U217_ : own_T Z h217_ b183_ .char (5 : Int32) (own_up (own_up (own_up (own_up (fun _ => (0 : Int32)) (0 : Int32) (nar .char (fc (0 : Int32)))) (1 : Int32) (nar .char (fc (1 : Int32)))) (2 : Int32) (nar .char (fc (2 : Int32)))) (3 : Int32) (nar .char (fc (3 : Int32)))) := own_T.set ⟨cl217_, Ar217_, Sz217_, Nn217_, Hh217_⟩ W217_ ⟨by decide, by decide⟩
              have fc218_ := fc210_.wr W217_ ge_b183_
              have fc219_ := fc211_.other W217_ ne184_
              have fc220_ := fc212_.wr W217_
              have fc221_ := fc213_.other W217_ (Or.inl ne185_)
              have fc222_ := fc214_.other W217_ (Or.inl ne185_)
              have sw217_ : Safe Z own_EL sS.vm h209_ b183_ := (own_T.safe (EL := own_EL) hZ.alike U209_ (by decide))
              have Cs217_ : CHr Z own_EL sS.vm h209_ sS.vm h217_ := CHr.wr W217_ sw217_ CH209_.1
              have sf223_ := Safe.wr W217_ sw217_ CH209_.1 sf215_
              have CH217_ := CH209_.trans Cs217_
              have hk217_ := Nat.le_trans hk209_ Cs217_.2.1
              have K217_ := K209_.wr W217_ (Or.inr sz_b183_)
              have N217_ := Fr.snoc X217_ N209_ ge_b183_
              refine own_fin st217_ ?_
              refine jg T217_ mM 179 #[vI nn, vR c] [(.int (4 : Int32)), (.ref c), (.int (4 : Int32)), (.ref b183_), (.ref b183_), (.ref b179_), (.ref b179_)] (fun tT kK => ?_) ?_
              · refine XS.dup X217_.here hx rfl (hC e9_174.2.1) rfl rfl ?_
                show Steps pP.tables eE below (T217_.setTop (mkF mM 176 #[vI nn, vR c] [(.ref b183_), (.ref b183_), (.ref b179_), (.ref b179_)])) tT
                refine XS.iconst X217_.here hx rfl (hC e9_174.2.2.1) ?_
                refine XS.aloadN X217_.here hx rfl (hC e9_174.2.2.2) rfl rfl ?_
                refine XS.iconst X217_.here hx rfl (hC e9_178.1) ?_
                exact kK
              obtain ⟨cl224_, Ar224_, Sz224_, Nn224_, Hh224_⟩ := id fc219_
              have hin224_ : ¬ ((4 : Int32) < 0 ∨ cl224_.slots.size ≤ ((4 : Int32)).toNatClampNeg) := inb_of Sz224_ ⟨by decide, by decide⟩
              have hat224_ : cl224_.slots[((4 : Int32)).toNatClampNeg]? = some (.int (fc (4 : Int32))) := Hh224_ _ hin224_
              refine jg T217_ mM 180 #[vI nn, vR c] [(.int (fc (4 : Int32))), (.int (4 : Int32)), (.ref b183_), (.ref b183_), (.ref b179_), (.ref b179_)] (fun tT kK => ?_) ?_
              · refine X217_.caload hx (j := (4 : Int32)) (v := (.int (fc (4 : Int32)))) (own_rw e217_ Ar224_.1) (State.isArrayOf_alike hZ.alike Ar224_.2.1) Ar224_.2.2 hin224_ hat224_ (g := (mkF mM 179 #[vI nn, vR c] [(.int (4 : Int32)), (.ref c), (.int (4 : Int32)), (.ref b183_), (.ref b183_), (.ref b179_), (.ref b179_)])) rfl rfl (hC e9_178.2.1) _ ?_
                exact kK
              obtain ⟨cl225_, Ar225_, Sz225_, Nn225_, Hh225_⟩ := id U217_
              have hin225_ : ¬ ((4 : Int32) < 0 ∨ cl225_.slots.size ≤ ((4 : Int32)).toNatClampNeg) := inb_of Sz225_ ⟨by decide, by decide⟩
              obtain ⟨T225_, h225_, X225_, e225_, W225_, st225_⟩ := stC X217_ hx hZ e217_ Ar225_ (j := (4 : Int32)) hin225_ (g := (mkF mM 180 #[vI nn, vR c] [(.int (fc (4 : Int32))), (.int (4 : Int32)), (.ref b183_), (.ref b183_), (.ref b179_), (.ref b179_)])) rfl rfl (hC e9_178.2.2.1)
              have U225_ : own_T Z h225_ b183_ .char (5 : Int32) (own_up (own_up (own_up (own_up (own_up (fun _ => (0 : Int32)) (0 : Int32) (nar .char (fc (0 : Int32)))) (1 : Int32) (nar .char (fc (1 : Int32)))) (2 : Int32) (nar .char (fc (2 : Int32)))) (3 : Int32) (nar .char (fc (3 : Int32)))) (4 : Int32) (nar .char (fc (4 : Int32)))) := own_T.set ⟨cl225_, Ar225_, Sz225_, Nn225_, Hh225_⟩ W225_ ⟨by decide, by decide⟩
              have fc226_ := fc218_.wr W225_ ge_b183_
              have fc228_ := fc220_.wr W225_
              have fc229_ := fc221_.other W225_ (Or.inl ne185_)
              have fc230_ := fc222_.other W225_ (Or.inl ne185_)
              have sw225_ : Safe Z own_EL sS.vm h217_ b183_ := (own_T.safe (EL := own_EL) hZ.alike U217_ (by decide))
              have Cs225_ : CHr Z own_EL sS.vm h217_ sS.vm h225_ := CHr.wr W225_ sw225_ CH217_.1
              have sf231_ := Safe.wr W225_ sw225_ CH217_.1 sf223_
              have CH225_ := CH217_.trans Cs225_
              have hk225_ := Nat.le_trans hk217_ Cs225_.2.1
              have K225_ := K217_.wr W225_ (Or.inr sz_b183_)
              have N225_ := Fr.snoc X225_ N217_ ge_b183_
              refine own_fin st225_ ?_
              have sk232_ : ∀ x ∈ ([b179_] : List Addr), Safe Z own_EL sS.vm h225_ x := (sfS sf231_ sf0)
              refine own_sb X225_ hx hZ (y := jy11) rfl hown (jk hw 54 rfl) (jk hw 55 rfl) (jk hw 56 rfl) (jk hw 2 rfl) (rm_str lL Z a0 hw [] b179_ b183_ (5 : Int32) (own_up (own_up (own_up (own_up (own_up (fun _ => (0 : Int32)) (0 : Int32) (nar .char (fc (0 : Int32)))) (1 : Int32) (nar .char (fc (1 : Int32)))) (2 : Int32) (nar .char (fc (2 : Int32)))) (3 : Int32) (nar .char (fc (3 : Int32)))) (4 : Int32) (nar .char (fc (4 : Int32)))) cs h225_ n0 (Nat.le_trans Z0 K225_.1) fc226_ Scs ncs fc228_ fc229_ fc230_ ge_b179_ U225_ (fun j _ => (own_upB (own_upB (own_upB (own_upB (own_upB own_z0 (own_ncb (hb _))) (own_ncb (hb _))) (own_ncb (hb _))) (own_ncb (hb _))) (own_ncb (hb _))) j) (by decide) (by decide) (Ne.symm ne185_)) (a := b179_) e225_ own_pd12 [(.ref b183_)] [(.ref b179_)] (hC e9_178.2.2.2) rfl rfl (by rw [hml]; rfl) (by decide) 1 (Nat.le_of_eq rfl) (by decide) (by decide) (by decide : 2 + 1 ≤ _) (by decide : 9 + 8 ≤ _) fun vv233_ T233_ L233_ X233_ hQ233_ => ?_
              obtain ⟨b_233_, rfl, N233_q, p233__0, p233__1, p233__2, p233__3, p233__4, p233__5⟩ := hQ233_
              have N233_ := Fr.app N225_ N233_q
              have K233_ := K225_.trans p233__0 (allS (Or.inr sz_b179_) all0)
              have Cs233_ : CHr Z own_EL sS.vm h225_ sS.vm T233_.heap := CHr.keep p233__0 sk232_ CH225_.1
              have sf241_ := Safe.keep p233__0 sk232_ CH225_.1 sf231_
              have CH233_ := CH225_.trans Cs233_
              have hk233_ := Nat.le_trans hk225_ Cs233_.2.1
              obtain ⟨fs, hr, hrun, hended, hE1, hE2, hE3, hE4⟩ := X233_.leaveW hS0 (own_hk rfl hk233_) (v := some (.ref b179_)) (fun h => by rw [Bd.returns] at h; cases h)
              refine ⟨_, _, ?_, hrun, hended, _, _, rfl, ?_, own_CHe (T := T233_) (vm1 := T233_.vm) hh rfl (CH233_.trans (CHv.at X233_ hZ (own_EW hw) CH233_.1)), hE1, hE2, hE3, hE4.mono (by decide) (by decide)⟩
              · show Steps pP.tables eE below (T233_.setTop (mkF mM 184 #[vI nn, vR c] [(.ref b179_)])) _
                exact retOut X233_ hx Bd.returns rfl (Or.inr (Or.inr (Or.inr (Or.inr ⟨rfl, rfl, rfl⟩)))) (hC e9_184.1) hr
              · show Q_rm_strn Z c nn fc cs h0 n0 _ T233_.heap _
                exact ⟨b179_, b_233_, (5 : Int32), (fun j => ((own_up (own_up (own_up (own_up (own_up (fun _ => (0 : Int32)) (0 : Int32) (nar .char (fc (0 : Int32)))) (1 : Int32) (nar .char (fc (1 : Int32)))) (2 : Int32) (nar .char (fc (2 : Int32)))) (3 : Int32) (nar .char (fc (3 : Int32)))) (4 : Int32) (nar .char (fc (4 : Int32)))) j).toInt8.toInt32), rfl, N233_, K233_, sz_b179_, p233__2, p233__3, p233__4, p233__5⟩
            · refine jg s₁ mM 188 #[vI nn, vR c] [(.int (6 : Int32)), (.int nn)] (fun tT kK => ?_) ?_
              · refine XS.icmpYes X0.here hx rfl (pc0 := 141) (pc' := 185) rfl (hC e9_141.1) rfl (feq (hc141_178_ : ¬ (nn = (5 : Int32)))).2 (by decide) (by decide) ?_
                refine XS.iloadN X0.here hx rfl (hC e9_184.2.1) rfl ?_
                refine XS.bipush X0.here hx rfl (hC e9_184.2.2.1) ?_
                exact kK
              by_cases hc188_242_ : nn = (6 : Int32)
              · refine jg s₁ mM 191 #[vI nn, vR c] [] (fun tT kK => ?_) ?_
                · refine XS.icmpNo X0.here hx rfl (hC e9_184.2.2.2) rfl (teq (hc188_242_ : nn = (6 : Int32))).2 ?_
                  exact kK
                obtain ⟨T243_, h243_, X243_, e243_, E243_, A243_, D243_, -, st243_⟩ := newO X0 hx hZ hown (jk hw 53 rfl) (jk hw 3 rfl) (jk hw 2 rfl) e0 (g := (mkF mM 191 #[vI nn, vR c] [])) rfl (hC e9_191.1) (by decide) (by decide)
                obtain ⟨b243_, g243_⟩ : ∃ z, z = h0.size := ⟨_, rfl⟩
                rw [← g243_] at A243_ D243_ st243_
                have sz_b243_ : h0.size ≤ b243_ := Nat.le_trans K0.1 (Nat.le_of_eq g243_.symm)
                have ge_b243_ : n0 ≤ b243_ := Nat.le_trans Z0 sz_b243_
                have fc245_ := Oo.ext E243_
                have fc246_ := Tc.ext E243_
                have Cs243_ : CHr Z own_EL sS.vm h0 sS.vm h243_ := CHr.ext E243_ CH0.1
                have CH243_ := CH0.trans Cs243_
                have hk243_ := Nat.le_trans hk0 Cs243_.2.1
                have K243_ := K0.ext E243_
                have sf243_ : Safe Z own_EL sS.vm h243_ b243_ := Safe.ext E243_ CH0.1 (Safe.new (Nat.le_of_eq g243_.symm))
                have F243__value : jF1 Z h243_ b243_ .null := D243_ (Or.inr (jk hw 5 rfl)) (ty := (.array .byte)) (by decide)
                have F243__coder : jF0 Z h243_ b243_ (.int (0 : Int32)) := D243_ (Or.inr (jk hw 6 rfl)) (ty := .byte) (by decide)
                refine own_fin st243_ ?_
                refine jg T243_ mM 197 #[vI nn, vR c] [(.int (6 : Int32)), (.ref b243_), (.ref b243_)] (fun tT kK => ?_) ?_
                · refine XS.dup X243_.here hx rfl (hC e9_191.2.1) rfl rfl ?_
                  refine XS.bipush X243_.here hx rfl (hC e9_191.2.2.1) ?_
                  exact kK
                obtain ⟨T247_, h247_, k247_, X247_, e247_, E247_, A247_, st247_⟩ := newP X243_ hx hZ (jk hw 9 rfl) e243_ (g := (mkF mM 197 #[vI nn, vR c] [(.int (6 : Int32)), (.ref b243_), (.ref b243_)])) rfl (hC e9_191.2.2.2) rfl (by decide) (cap := 6) (by decide) (by decide) (by decide) (by decide)
                obtain ⟨b247_, g247_⟩ : ∃ z, z = h243_.size := ⟨_, rfl⟩
                rw [← g247_] at A247_ st247_
                have sz_b247_ : h0.size ≤ b247_ := Nat.le_trans K243_.1 (Nat.le_of_eq g247_.symm)
                have ge_b247_ : n0 ≤ b247_ := Nat.le_trans Z0 sz_b247_
                have ne248_ : c ≠ b247_ := Nat.ne_of_lt (Nat.lt_of_lt_of_le fc246_.lt (Nat.le_of_eq g247_.symm))
                have ne249_ : b243_ ≠ b247_ := Nat.ne_of_lt (Nat.lt_of_lt_of_le A243_.lt (Nat.le_of_eq g247_.symm))
                have fc250_ := fc245_.ext E247_
                have fc251_ := fc246_.ext E247_
                have fc252_ := A243_.ext E247_
                have fc253_ := F243__value.ext E247_
                have fc254_ := F243__coder.ext E247_
                have Cs247_ : CHr Z own_EL sS.vm h243_ sS.vm h247_ := CHr.ext E247_ CH243_.1
                have sf255_ := Safe.ext E247_ CH243_.1 sf243_
                have CH247_ := CH243_.trans Cs247_
                have hk247_ := Nat.le_trans hk243_ Cs247_.2.1
                have K247_ := K243_.ext E247_
                have V247_ : own_T Z h247_ b247_ .char (6 : Int32) (fun _ => (0 : Int32)) := own_T.new A247_ (by decide) rfl
                refine own_fin st247_ ?_
                refine jg T247_ mM 203 #[vI nn, vR c] [(.int (0 : Int32)), (.ref c), (.int (0 : Int32)), (.ref b247_), (.ref b247_), (.ref b243_), (.ref b243_)] (fun tT kK => ?_) ?_
                · refine XS.dup X247_.here hx rfl (hC e9_199.1) rfl rfl ?_
                  refine XS.iconst X247_.here hx rfl (hC e9_199.2.1) ?_
                  refine XS.aloadN X247_.here hx rfl (hC e9_199.2.2.1) rfl rfl ?_
                  refine XS.iconst X247_.here hx rfl (hC e9_199.2.2.2) ?_
                  exact kK
                obtain ⟨cl256_, Ar256_, Sz256_, Nn256_, Hh256_⟩ := id fc251_
                have hin256_ : ¬ ((0 : Int32) < 0 ∨ cl256_.slots.size ≤ ((0 : Int32)).toNatClampNeg) := inb_of Sz256_ ⟨by decide, by decide⟩
                have hat256_ : cl256_.slots[((0 : Int32)).toNatClampNeg]? = some (.int (fc (0 : Int32))) := Hh256_ _ hin256_
                refine jg T247_ mM 204 #[vI nn, vR c] [(.int (fc (0 : Int32))), (.int (0 : Int32)), (.ref b247_), (.ref b247_), (.ref b243_), (.ref b243_)] (fun tT kK => ?_) ?_
                · refine X247_.caload hx (j := (0 : Int32)) (v := (.int (fc (0 : Int32)))) (own_rw e247_ Ar256_.1) (State.isArrayOf_alike hZ.alike Ar256_.2.1) Ar256_.2.2 hin256_ hat256_ (g := (mkF mM 203 #[vI nn, vR c] [(.int (0 : Int32)), (.ref c), (.int (0 : Int32)), (.ref b247_), (.ref b247_), (.ref b243_), (.ref b243_)])) rfl rfl (hC e9_203.1) _ ?_
                  exact kK
                obtain ⟨cl257_, Ar257_, Sz257_, Nn257_, Hh257_⟩ := id V247_
                have hin257_ : ¬ ((0 : Int32) < 0 ∨ cl257_.slots.size ≤ ((0 : Int32)).toNatClampNeg) := inb_of Sz257_ ⟨by decide, by decide⟩
                obtain ⟨T257_, h257_, X257_, e257_, W257_, st257_⟩ := stC X247_ hx hZ e247_ Ar257_ (j := (0 : Int32)) hin257_ (g := (mkF mM 204 #[vI nn, vR c] [(.int (fc (0 : Int32))), (.int (0 : Int32)), (.ref b247_), (.ref b247_), (.ref b243_), (.ref b243_)])) rfl rfl (hC e9_203.2.1)
                have U257_ : own_T Z h257_ b247_ .char (6 : Int32) (own_up (fun _ => (0 : Int32)) (0 : Int32) (nar .char (fc (0 : Int32)))) := own_T.set ⟨cl257_, Ar257_, Sz257_, Nn257_, Hh257_⟩ W257_ ⟨by decide, by decide⟩
                have fc258_ := fc250_.wr W257_ ge_b247_
                have fc259_ := fc251_.other W257_ ne248_
                have fc260_ := fc252_.wr W257_
                have fc261_ := fc253_.other W257_ (Or.inl ne249_)
                have fc262_ := fc254_.other W257_ (Or.inl ne249_)
                have sw257_ : Safe Z own_EL sS.vm h247_ b247_ := (own_T.safe (EL := own_EL) hZ.alike V247_ (by decide))
                have Cs257_ : CHr Z own_EL sS.vm h247_ sS.vm h257_ := CHr.wr W257_ sw257_ CH247_.1
                have sf263_ := Safe.wr W257_ sw257_ CH247_.1 sf255_
                have CH257_ := CH247_.trans Cs257_
                have hk257_ := Nat.le_trans hk247_ Cs257_.2.1
                have K257_ := K247_.wr W257_ (Or.inr sz_b247_)
                have N257_ := Fr.snoc X257_ N0 ge_b247_
                refine own_fin st257_ ?_
                refine jg T257_ mM 209 #[vI nn, vR c] [(.int (1 : Int32)), (.ref c), (.int (1 : Int32)), (.ref b247_), (.ref b247_), (.ref b243_), (.ref b243_)] (fun tT kK => ?_) ?_
                · refine XS.dup X257_.here hx rfl (hC e9_203.2.2.1) rfl rfl ?_
                  refine XS.iconst X257_.here hx rfl (hC e9_203.2.2.2) ?_
                  refine XS.aloadN X257_.here hx rfl (hC e9_207.1) rfl rfl ?_
                  refine XS.iconst X257_.here hx rfl (hC e9_207.2.1) ?_
                  exact kK
                obtain ⟨cl264_, Ar264_, Sz264_, Nn264_, Hh264_⟩ := id fc259_
                have hin264_ : ¬ ((1 : Int32) < 0 ∨ cl264_.slots.size ≤ ((1 : Int32)).toNatClampNeg) := inb_of Sz264_ ⟨by decide, by decide⟩
                have hat264_ : cl264_.slots[((1 : Int32)).toNatClampNeg]? = some (.int (fc (1 : Int32))) := Hh264_ _ hin264_
                refine jg T257_ mM 210 #[vI nn, vR c] [(.int (fc (1 : Int32))), (.int (1 : Int32)), (.ref b247_), (.ref b247_), (.ref b243_), (.ref b243_)] (fun tT kK => ?_) ?_
                · refine X257_.caload hx (j := (1 : Int32)) (v := (.int (fc (1 : Int32)))) (own_rw e257_ Ar264_.1) (State.isArrayOf_alike hZ.alike Ar264_.2.1) Ar264_.2.2 hin264_ hat264_ (g := (mkF mM 209 #[vI nn, vR c] [(.int (1 : Int32)), (.ref c), (.int (1 : Int32)), (.ref b247_), (.ref b247_), (.ref b243_), (.ref b243_)])) rfl rfl (hC e9_207.2.2.1) _ ?_
                  exact kK
                obtain ⟨cl265_, Ar265_, Sz265_, Nn265_, Hh265_⟩ := id U257_
                have hin265_ : ¬ ((1 : Int32) < 0 ∨ cl265_.slots.size ≤ ((1 : Int32)).toNatClampNeg) := inb_of Sz265_ ⟨by decide, by decide⟩
                obtain ⟨T265_, h265_, X265_, e265_, W265_, st265_⟩ := stC X257_ hx hZ e257_ Ar265_ (j := (1 : Int32)) hin265_ (g := (mkF mM 210 #[vI nn, vR c] [(.int (fc (1 : Int32))), (.int (1 : Int32)), (.ref b247_), (.ref b247_), (.ref b243_), (.ref b243_)])) rfl rfl (hC e9_207.2.2.2)
                have U265_ : own_T Z h265_ b247_ .char (6 : Int32) (own_up (own_up (fun _ => (0 : Int32)) (0 : Int32) (nar .char (fc (0 : Int32)))) (1 : Int32) (nar .char (fc (1 : Int32)))) := own_T.set ⟨cl265_, Ar265_, Sz265_, Nn265_, Hh265_⟩ W265_ ⟨by decide, by decide⟩
                have fc266_ := fc258_.wr W265_ ge_b247_
                have fc267_ := fc259_.other W265_ ne248_
                have fc268_ := fc260_.wr W265_
                have fc269_ := fc261_.other W265_ (Or.inl ne249_)
                have fc270_ := fc262_.other W265_ (Or.inl ne249_)
                have sw265_ : Safe Z own_EL sS.vm h257_ b247_ := (own_T.safe (EL := own_EL) hZ.alike U257_ (by decide))
                have Cs265_ : CHr Z own_EL sS.vm h257_ sS.vm h265_ := CHr.wr W265_ sw265_ CH257_.1
                have sf271_ := Safe.wr W265_ sw265_ CH257_.1 sf263_
                have CH265_ := CH257_.trans Cs265_
                have hk265_ := Nat.le_trans hk257_ Cs265_.2.1
                have K265_ := K257_.wr W265_ (Or.inr sz_b247_)
                have N265_ := Fr.snoc X265_ N257_ ge_b247_
                refine own_fin st265_ ?_
                refine jg T265_ mM 215 #[vI nn, vR c] [(.int (2 : Int32)), (.ref c), (.int (2 : Int32)), (.ref b247_), (.ref b247_), (.ref b243_), (.ref b243_)] (fun tT kK => ?_) ?_
                · refine XS.dup X265_.here hx rfl (hC e9_211.1) rfl rfl ?_
                  refine XS.iconst X265_.here hx rfl (hC e9_211.2.1) ?_
                  refine XS.aloadN X265_.here hx rfl (hC e9_211.2.2.1) rfl rfl ?_
                  refine XS.iconst X265_.here hx rfl (hC e9_211.2.2.2) ?_
                  exact kK
                obtain ⟨cl272_, Ar272_, Sz272_, Nn272_, Hh272_⟩ := id fc267_
                have hin272_ : ¬ ((2 : Int32) < 0 ∨ cl272_.slots.size ≤ ((2 : Int32)).toNatClampNeg) := inb_of Sz272_ ⟨by decide, by decide⟩
                have hat272_ : cl272_.slots[((2 : Int32)).toNatClampNeg]? = some (.int (fc (2 : Int32))) := Hh272_ _ hin272_
                refine jg T265_ mM 216 #[vI nn, vR c] [(.int (fc (2 : Int32))), (.int (2 : Int32)), (.ref b247_), (.ref b247_), (.ref b243_), (.ref b243_)] (fun tT kK => ?_) ?_
                · refine X265_.caload hx (j := (2 : Int32)) (v := (.int (fc (2 : Int32)))) (own_rw e265_ Ar272_.1) (State.isArrayOf_alike hZ.alike Ar272_.2.1) Ar272_.2.2 hin272_ hat272_ (g := (mkF mM 215 #[vI nn, vR c] [(.int (2 : Int32)), (.ref c), (.int (2 : Int32)), (.ref b247_), (.ref b247_), (.ref b243_), (.ref b243_)])) rfl rfl (hC e9_215.1) _ ?_
                  exact kK
                obtain ⟨cl273_, Ar273_, Sz273_, Nn273_, Hh273_⟩ := id U265_
                have hin273_ : ¬ ((2 : Int32) < 0 ∨ cl273_.slots.size ≤ ((2 : Int32)).toNatClampNeg) := inb_of Sz273_ ⟨by decide, by decide⟩
                obtain ⟨T273_, h273_, X273_, e273_, W273_, st273_⟩ := stC X265_ hx hZ e265_ Ar273_ (j := (2 : Int32)) hin273_ (g := (mkF mM 216 #[vI nn, vR c] [(.int (fc (2 : Int32))), (.int (2 : Int32)), (.ref b247_), (.ref b247_), (.ref b243_), (.ref b243_)])) rfl rfl (hC e9_215.2.1)
                have U273_ : own_T Z h273_ b247_ .char (6 : Int32) (own_up (own_up (own_up (fun _ => (0 : Int32)) (0 : Int32) (nar .char (fc (0 : Int32)))) (1 : Int32) (nar .char (fc (1 : Int32)))) (2 : Int32) (nar .char (fc (2 : Int32)))) := own_T.set ⟨cl273_, Ar273_, Sz273_, Nn273_, Hh273_⟩ W273_ ⟨by decide, by decide⟩
                have fc274_ := fc266_.wr W273_ ge_b247_
                have fc275_ := fc267_.other W273_ ne248_
                have fc276_ := fc268_.wr W273_
                have fc277_ := fc269_.other W273_ (Or.inl ne249_)
                have fc278_ := fc270_.other W273_ (Or.inl ne249_)
                have sw273_ : Safe Z own_EL sS.vm h265_ b247_ := (own_T.safe (EL := own_EL) hZ.alike U265_ (by decide))
                have Cs273_ : CHr Z own_EL sS.vm h265_ sS.vm h273_ := CHr.wr W273_ sw273_ CH265_.1
                have sf279_ := Safe.wr W273_ sw273_ CH265_.1 sf271_
                have CH273_ := CH265_.trans Cs273_
                have hk273_ := Nat.le_trans hk265_ Cs273_.2.1
                have K273_ := K265_.wr W273_ (Or.inr sz_b247_)
                have N273_ := Fr.snoc X273_ N265_ ge_b247_
                refine own_fin st273_ ?_
                refine jg T273_ mM 221 #[vI nn, vR c] [(.int (3 : Int32)), (.ref c), (.int (3 : Int32)), (.ref b247_), (.ref b247_), (.ref b243_), (.ref b243_)] (fun tT kK => ?_) ?_
                · refine XS.dup X273_.here hx rfl (hC e9_215.2.2.1) rfl rfl ?_
                  refine XS.iconst X273_.here hx rfl (hC e9_215.2.2.2) ?_
                  refine XS.aloadN X273_.here hx rfl (hC e9_219.1) rfl rfl ?_
                  show Steps pP.tables eE below (T273_.setTop (mkF mM 220 #[vI nn, vR c] [(.ref c), (.int (3 : Int32)), (.ref b247_), (.ref b247_), (.ref b243_), (.ref b243_)])) tT
                  refine XS.iconst X273_.here hx rfl (hC e9_219.2.1) ?_
                  exact kK
                obtain ⟨cl280_, Ar280_, Sz280_, Nn280_, Hh280_⟩ := id fc275_
                have hin280_ : ¬ ((3 : Int32) < 0 ∨ cl280_.slots.size ≤ ((3 : Int32)).toNatClampNeg) := inb_of Sz280_ ⟨by decide, by decide⟩
                have hat280_ : cl280_.slots[((3 : Int32)).toNatClampNeg]? = some (.int (fc (3 : Int32))) := Hh280_ _ hin280_
                refine jg T273_ mM 222 #[vI nn, vR c] [(.int (fc (3 : Int32))), (.int (3 : Int32)), (.ref b247_), (.ref b247_), (.ref b243_), (.ref b243_)] (fun tT kK => ?_) ?_
                · refine X273_.caload hx (j := (3 : Int32)) (v := (.int (fc (3 : Int32)))) (own_rw e273_ Ar280_.1) (State.isArrayOf_alike hZ.alike Ar280_.2.1) Ar280_.2.2 hin280_ hat280_ (g := (mkF mM 221 #[vI nn, vR c] [(.int (3 : Int32)), (.ref c), (.int (3 : Int32)), (.ref b247_), (.ref b247_), (.ref b243_), (.ref b243_)])) rfl rfl (hC e9_219.2.2.1) _ ?_
                  exact kK
                obtain ⟨cl281_, Ar281_, Sz281_, Nn281_, Hh281_⟩ := id U273_
                have hin281_ : ¬ ((3 : Int32) < 0 ∨ cl281_.slots.size ≤ ((3 : Int32)).toNatClampNeg) := inb_of Sz281_ ⟨by decide, by decide⟩
                obtain ⟨T281_, h281_, X281_, e281_, W281_, st281_⟩ := stC X273_ hx hZ e273_ Ar281_ (j := (3 : Int32)) hin281_ (g := (mkF mM 222 #[vI nn, vR c] [(.int (fc (3 : Int32))), (.int (3 : Int32)), (.ref b247_), (.ref b247_), (.ref b243_), (.ref b243_)])) rfl rfl (hC e9_219.2.2.2)
                have U281_ : own_T Z h281_ b247_ .char (6 : Int32) (own_up (own_up (own_up (own_up (fun _ => (0 : Int32)) (0 : Int32) (nar .char (fc (0 : Int32)))) (1 : Int32) (nar .char (fc (1 : Int32)))) (2 : Int32) (nar .char (fc (2 : Int32)))) (3 : Int32) (nar .char (fc (3 : Int32)))) := own_T.set ⟨cl281_, Ar281_, Sz281_, Nn281_, Hh281_⟩ W281_ ⟨by decide, by decide⟩
                have fc282_ := fc274_.wr W281_ ge_b247_
                have fc283_ := fc275_.other W281_ ne248_
                have fc284_ := fc276_.wr W281_
                have fc285_ := fc277_.other W281_ (Or.inl ne249_)
                have fc286_ := fc278_.other W281_ (Or.inl ne249_)
                have sw281_ : Safe Z own_EL sS.vm h273_ b247_ := (own_T.safe (EL := own_EL) hZ.alike U273_ (by decide))
                have Cs281_ : CHr Z own_EL sS.vm h273_ sS.vm h281_ := CHr.wr W281_ sw281_ CH273_.1
                have sf287_ := Safe.wr W281_ sw281_ CH273_.1 sf279_
                have CH281_ := CH273_.trans Cs281_
                have hk281_ := Nat.le_trans hk273_ Cs281_.2.1
                have K281_ := K273_.wr W281_ (Or.inr sz_b247_)
                have N281_ := Fr.snoc X281_ N273_ ge_b247_
                refine own_fin st281_ ?_
                refine jg T281_ mM 227 #[vI nn, vR c] [(.int (4 : Int32)), (.ref c), (.int (4 : Int32)), (.ref b247_), (.ref b247_), (.ref b243_), (.ref b243_)] (fun tT kK => ?_) ?_
                · refine XS.dup X281_.here hx rfl (hC e9_223.1) rfl rfl ?_
                  refine XS.iconst X281_.here hx rfl (hC e9_223.2.1) ?_
                  refine XS.aloadN X281_.here hx rfl (hC e9_223.2.2.1) rfl rfl ?_
                  refine XS.iconst X281_.here hx rfl (hC e9_223.2.2.2) ?_
                  exact kK
                obtain ⟨cl288_, Ar288_, Sz288_, Nn288_, Hh288_⟩ := id fc283_
                have hin288_ : ¬ ((4 : Int32) < 0 ∨ cl288_.slots.size ≤ ((4 : Int32)).toNatClampNeg) := inb_of Sz288_ ⟨by decide, by decide⟩
                have hat288_ : cl288_.slots[((4 : Int32)).toNatClampNeg]? = some (.int (fc (4 : Int32))) := Hh288_ _ hin288_
                refine jg T281_ mM 228 #[vI nn, vR c] [(.int (fc (4 : Int32))), (.int (4 : Int32)), (.ref b247_), (.ref b247_), (.ref b243_), (.ref b243_)] (fun tT kK => ?_) ?_
                · refine X281_.caload hx (j := (4 : Int32)) (v := (.int (fc (4 : Int32)))) (own_rw e281_ Ar288_.1) (State.isArrayOf_alike hZ.alike Ar288_.2.1) Ar288_.2.2 hin288_ hat288_ (g := (mkF mM 227 #[vI nn, vR c] [(.int (4 : Int32)), (.ref c), (.int (4 : Int32)), (.ref b247_), (.ref b247_), (.ref b243_), (.ref b243_)])) rfl rfl (hC e9_227.1) _ ?_
                  exact kK
                obtain ⟨cl289_, Ar289_, Sz289_, Nn289_, Hh289_⟩ := id U281_
                have hin289_ : ¬ ((4 : Int32) < 0 ∨ cl289_.slots.size ≤ ((4 : Int32)).toNatClampNeg) := inb_of Sz289_ ⟨by decide, by decide⟩
                obtain ⟨T289_, h289_, X289_, e289_, W289_, st289_⟩ := stC X281_ hx hZ e281_ Ar289_ (j := (4 : Int32)) hin289_ (g := (mkF mM 228 #[vI nn, vR c] [(.int (fc (4 : Int32))), (.int (4 : Int32)), (.ref b247_), (.ref b247_), (.ref b243_), (.ref b243_)])) rfl rfl (hC e9_227.2.1)
                have U289_ : own_T Z h289_ b247_ .char (6 : Int32) (own_up (own_up (own_up (own_up (own_up (fun _ => (0 : Int32)) (0 : Int32) (nar .char (fc (0 : Int32)))) (1 : Int32) (nar .char (fc (1 : Int32)))) (2 : Int32) (nar .char (fc (2 : Int32)))) (3 : Int32) (nar .char (fc (3 : Int32)))) (4 : Int32) (nar .char (fc (4 : Int32)))) := own_T.set ⟨cl289_, Ar289_, Sz289_, Nn289_, Hh289_⟩ W289_ ⟨by decide, by decide⟩
                have fc290_ := fc282_.wr W289_ ge_b247_
                have fc291_ := fc283_.other W289_ ne248_
                have fc292_ := fc284_.wr W289_
                have fc293_ := fc285_.other W289_ (Or.inl ne249_)
                have fc294_ := fc286_.other W289_ (Or.inl ne249_)
                have sw289_ : Safe Z own_EL sS.vm h281_ b247_ := (own_T.safe (EL := own_EL) hZ.alike U281_ (by decide))
                have Cs289_ : CHr Z own_EL sS.vm h281_ sS.vm h289_ := CHr.wr W289_ sw289_ CH281_.1
                have sf295_ := Safe.wr W289_ sw289_ CH281_.1 sf287_
                have CH289_ := CH281_.trans Cs289_
                have hk289_ := Nat.le_trans hk281_ Cs289_.2.1
                have K289_ := K281_.wr W289_ (Or.inr sz_b247_)
                have N289_ := Fr.snoc X289_ N281_ ge_b247_
                refine own_fin st289_ ?_
                refine jg T289_ mM 233 #[vI nn, vR c] [(.int (5 : Int32)), (.ref c), (.int (5 : Int32)), (.ref b247_), (.ref b247_), (.ref b243_), (.ref b243_)] (fun tT kK => ?_) ?_
                · refine XS.dup X289_.here hx rfl (hC e9_227.2.2.1) rfl rfl ?_
                  refine XS.iconst X289_.here hx rfl (hC e9_227.2.2.2) ?_
                  refine XS.aloadN X289_.here hx rfl (hC e9_231.1) rfl rfl ?_
                  refine XS.iconst X289_.here hx rfl (hC e9_231.2.1) ?_
                  exact kK
                obtain ⟨cl296_, Ar296_, Sz296_, Nn296_, Hh296_⟩ := id fc291_
                have hin296_ : ¬ ((5 : Int32) < 0 ∨ cl296_.slots.size ≤ ((5 : Int32)).toNatClampNeg) := inb_of Sz296_ ⟨by decide, by decide⟩
                have hat296_ : cl296_.slots[((5 : Int32)).toNatClampNeg]? = some (.int (fc (5 : Int32))) := Hh296_ _ hin296_
                refine jg T289_ mM 234 #[vI nn, vR c] [(.int (fc (5 : Int32))), (.int (5 : Int32)), (.ref b247_), (.ref b247_), (.ref b243_), (.ref b243_)] (fun tT kK => ?_) ?_
                · refine X289_.caload hx (j := (5 : Int32)) (v := (.int (fc (5 : Int32)))) (own_rw e289_ Ar296_.1) (State.isArrayOf_alike hZ.alike Ar296_.2.1) Ar296_.2.2 hin296_ hat296_ (g := (mkF mM 233 #[vI nn, vR c] [(.int (5 : Int32)), (.ref c), (.int (5 : Int32)), (.ref b247_), (.ref b247_), (.ref b243_), (.ref b243_)])) rfl rfl (hC e9_231.2.2.1) _ ?_
                  exact kK
                obtain ⟨cl297_, Ar297_, Sz297_, Nn297_, Hh297_⟩ := id U289_
                have hin297_ : ¬ ((5 : Int32) < 0 ∨ cl297_.slots.size ≤ ((5 : Int32)).toNatClampNeg) := inb_of Sz297_ ⟨by decide, by decide⟩
                obtain ⟨T297_, h297_, X297_, e297_, W297_, st297_⟩ := stC X289_ hx hZ e289_ Ar297_ (j := (5 : Int32)) hin297_ (g := (mkF mM 234 #[vI nn, vR c] [(.int (fc (5 : Int32))), (.int (5 : Int32)), (.ref b247_), (.ref b247_), (.ref b243_), (.ref b243_)])) rfl rfl (hC e9_231.2.2.2)
                have U297_ : own_T Z h297_ b247_ .char (6 : Int32) (own_up (own_up (own_up (own_up (own_up (own_up (fun _ => (0 : Int32)) (0 : Int32) (nar .char (fc (0 : Int32)))) (1 : Int32) (nar .char (fc (1 : Int32)))) (2 : Int32) (nar .char (fc (2 : Int32)))) (3 : Int32) (nar .char (fc (3 : Int32)))) (4 : Int32) (nar .char (fc (4 : Int32)))) (5 : Int32) (nar .char (fc (5 : Int32)))) := own_T.set ⟨cl297_, Ar297_, Sz297_, Nn297_, Hh297_⟩ W297_ ⟨by decide, by decide⟩
                have fc298_ := fc290_.wr W297_ ge_b247_
                have fc300_ := fc292_.wr W297_
                have fc301_ := fc293_.other W297_ (Or.inl ne249_)
                have fc302_ := fc294_.other W297_ (Or.inl ne249_)
                have sw297_ : Safe Z own_EL sS.vm h289_ b247_ := (own_T.safe (EL := own_EL) hZ.alike U289_ (by decide))
                have Cs297_ : CHr Z own_EL sS.vm h289_ sS.vm h297_ := CHr.wr W297_ sw297_ CH289_.1
                have sf303_ := Safe.wr W297_ sw297_ CH289_.1 sf295_
                have CH297_ := CH289_.trans Cs297_
                have hk297_ := Nat.le_trans hk289_ Cs297_.2.1
                have K297_ := K289_.wr W297_ (Or.inr sz_b247_)
                have N297_ := Fr.snoc X297_ N289_ ge_b247_
                refine own_fin st297_ ?_
                have sk304_ : ∀ x ∈ ([b243_] : List Addr), Safe Z own_EL sS.vm h297_ x := (sfS sf303_ sf0)
                refine own_sb X297_ hx hZ (y := jy11) rfl hown (jk hw 54 rfl) (jk hw 55 rfl) (jk hw 56 rfl) (jk hw 2 rfl) (rm_str lL Z a0 hw [] b243_ b247_ (6 : Int32) (own_up (own_up (own_up (own_up (own_up (own_up (fun _ => (0 : Int32)) (0 : Int32) (nar .char (fc (0 : Int32)))) (1 : Int32) (nar .char (fc (1 : Int32)))) (2 : Int32) (nar .char (fc (2 : Int32)))) (3 : Int32) (nar .char (fc (3 : Int32)))) (4 : Int32) (nar .char (fc (4 : Int32)))) (5 : Int32) (nar .char (fc (5 : Int32)))) cs h297_ n0 (Nat.le_trans Z0 K297_.1) fc298_ Scs ncs fc300_ fc301_ fc302_ ge_b243_ U297_ (fun j _ => (own_upB (own_upB (own_upB (own_upB (own_upB (own_upB own_z0 (own_ncb (hb _))) (own_ncb (hb _))) (own_ncb (hb _))) (own_ncb (hb _))) (own_ncb (hb _))) (own_ncb (hb _))) j) (by decide) (by decide) (Ne.symm ne249_)) (a := b243_) e297_ own_pd12 [(.ref b247_)] [(.ref b243_)] (hC e9_235.1) rfl rfl (by rw [hml]; rfl) (by decide) 1 (Nat.le_of_eq rfl) (by decide) (by decide) (by decide : 2 + 1 ≤ _) (by decide : 10 + 8 ≤ _) fun vv305_ T305_ L305_ X305_ hQ305_ => ?_
                obtain ⟨b_305_, rfl, N305_q, p305__0, p305__1, p305__2, p305__3, p305__4, p305__5⟩ := hQ305_
                have N305_ := Fr.app N297_ N305_q
                have K305_ := K297_.trans p305__0 (allS (Or.inr sz_b243_) all0)
                have Cs305_ : CHr Z own_EL sS.vm h297_ sS.vm T305_.heap := CHr.keep p305__0 sk304_ CH297_.1
                have sf313_ := Safe.keep p305__0 sk304_ CH297_.1 sf303_
                have CH305_ := CH297_.trans Cs305_
                have hk305_ := Nat.le_trans hk297_ Cs305_.2.1
                obtain ⟨fs, hr, hrun, hended, hE1, hE2, hE3, hE4⟩ := X305_.leaveW hS0 (own_hk rfl hk305_) (v := some (.ref b243_)) (fun h => by rw [Bd.returns] at h; cases h)
                refine ⟨_, _, ?_, hrun, hended, _, _, rfl, ?_, own_CHe (T := T305_) (vm1 := T305_.vm) hh rfl (CH305_.trans (CHv.at X305_ hZ (own_EW hw) CH305_.1)), hE1, hE2, hE3, hE4.mono (by decide) (by decide)⟩
                · show Steps pP.tables eE below (T305_.setTop (mkF mM 238 #[vI nn, vR c] [(.ref b243_)])) _
                  exact retOut X305_ hx Bd.returns rfl (Or.inr (Or.inr (Or.inr (Or.inr ⟨rfl, rfl, rfl⟩)))) (hC e9_235.2.1) hr
                · show Q_rm_strn Z c nn fc cs h0 n0 _ T305_.heap _
                  exact ⟨b243_, b_305_, (6 : Int32), (fun j => ((own_up (own_up (own_up (own_up (own_up (own_up (fun _ => (0 : Int32)) (0 : Int32) (nar .char (fc (0 : Int32)))) (1 : Int32) (nar .char (fc (1 : Int32)))) (2 : Int32) (nar .char (fc (2 : Int32)))) (3 : Int32) (nar .char (fc (3 : Int32)))) (4 : Int32) (nar .char (fc (4 : Int32)))) (5 : Int32) (nar .char (fc (5 : Int32)))) j).toInt8.toInt32), rfl, N305_, K305_, sz_b243_, p305__2, p305__3, p305__4, p305__5⟩
              · refine jg s₁ mM 242 #[vI nn, vR c] [(.int (7 : Int32)), (.int nn)] (fun tT kK => ?_) ?_
                · refine XS.icmpYes X0.here hx rfl (pc0 := 188) (pc' := 239) rfl (hC e9_184.2.2.2) rfl (feq (hc188_242_ : ¬ (nn = (6 : Int32)))).2 (by decide) (by decide) ?_
                  refine XS.iloadN X0.here hx rfl (hC e9_235.2.2.1) rfl ?_
                  refine XS.bipush X0.here hx rfl (hC e9_235.2.2.2) ?_
                  exact kK
                by_cases hc242_314_ : nn = (7 : Int32)
                · refine jg s₁ mM 245 #[vI nn, vR c] [] (fun tT kK => ?_) ?_
                  · refine XS.icmpNo X0.here hx rfl (hC e9_242.1) rfl (teq (hc242_314_ : nn = (7 : Int32))).2 ?_
                    exact kK
                  obtain ⟨T315_, h315_, X315_, e315_, E315_, A315_, D315_, -, st315_⟩ := newO X0 hx hZ hown (jk hw 53 rfl) (jk hw 3 rfl) (jk hw 2 rfl) e0 (g := (mkF mM 245 #[vI nn, vR c] [])) rfl (hC e9_242.2.1) (by decide) (by decide)
                  obtain ⟨b315_, g315_⟩ : ∃ z, z = h0.size := ⟨_, rfl⟩
                  rw [← g315_] at A315_ D315_ st315_
                  have sz_b315_ : h0.size ≤ b315_ := Nat.le_trans K0.1 (Nat.le_of_eq g315_.symm)
                  have ge_b315_ : n0 ≤ b315_ := Nat.le_trans Z0 sz_b315_
                  have fc317_ := Oo.ext E315_
                  have fc318_ := Tc.ext E315_
                  have Cs315_ : CHr Z own_EL sS.vm h0 sS.vm h315_ := CHr.ext E315_ CH0.1
                  have CH315_ := CH0.trans Cs315_
                  have hk315_ := Nat.le_trans hk0 Cs315_.2.1
                  have K315_ := K0.ext E315_
                  have sf315_ : Safe Z own_EL sS.vm h315_ b315_ := Safe.ext E315_ CH0.1 (Safe.new (Nat.le_of_eq g315_.symm))
                  have F315__value : jF1 Z h315_ b315_ .null := D315_ (Or.inr (jk hw 5 rfl)) (ty := (.array .byte)) (by decide)
                  have F315__coder : jF0 Z h315_ b315_ (.int (0 : Int32)) := D315_ (Or.inr (jk hw 6 rfl)) (ty := .byte) (by decide)
                  refine own_fin st315_ ?_
                  refine jg T315_ mM 251 #[vI nn, vR c] [(.int (7 : Int32)), (.ref b315_), (.ref b315_)] (fun tT kK => ?_) ?_
                  · refine XS.dup X315_.here hx rfl (hC e9_242.2.2.1) rfl rfl ?_
                    refine XS.bipush X315_.here hx rfl (hC e9_242.2.2.2) ?_
                    exact kK
                  obtain ⟨T319_, h319_, k319_, X319_, e319_, E319_, A319_, st319_⟩ := newP X315_ hx hZ (jk hw 9 rfl) e315_ (g := (mkF mM 251 #[vI nn, vR c] [(.int (7 : Int32)), (.ref b315_), (.ref b315_)])) rfl (hC e9_251.1) rfl (by decide) (cap := 7) (by decide) (by decide) (by decide) (by decide)
                  obtain ⟨b319_, g319_⟩ : ∃ z, z = h315_.size := ⟨_, rfl⟩
                  rw [← g319_] at A319_ st319_
                  have sz_b319_ : h0.size ≤ b319_ := Nat.le_trans K315_.1 (Nat.le_of_eq g319_.symm)
                  have ge_b319_ : n0 ≤ b319_ := Nat.le_trans Z0 sz_b319_
                  have ne320_ : c ≠ b319_ := Nat.ne_of_lt (Nat.lt_of_lt_of_le fc318_.lt (Nat.le_of_eq g319_.symm))
                  have ne321_ : b315_ ≠ b319_ := Nat.ne_of_lt (Nat.lt_of_lt_of_le A315_.lt (Nat.le_of_eq g319_.symm))
                  have fc322_ := fc317_.ext E319_
                  have fc323_ := fc318_.ext E319_
                  have fc324_ := A315_.ext E319_
                  have fc325_ := F315__value.ext E319_
                  have fc326_ := F315__coder.ext E319_
                  have Cs319_ : CHr Z own_EL sS.vm h315_ sS.vm h319_ := CHr.ext E319_ CH315_.1
                  have sf327_ := Safe.ext E319_ CH315_.1 sf315_
                  have CH319_ := CH315_.trans Cs319_
                  have hk319_ := Nat.le_trans hk315_ Cs319_.2.1
                  have K319_ := K315_.ext E319_
                  have V319_ : own_T Z h319_ b319_ .char (7 : Int32) (fun _ => (0 : Int32)) := own_T.new A319_ (by decide) rfl
                  refine own_fin st319_ ?_
                  refine jg T319_ mM 257 #[vI nn, vR c] [(.int (0 : Int32)), (.ref c), (.int (0 : Int32)), (.ref b319_), (.ref b319_), (.ref b315_), (.ref b315_)] (fun tT kK => ?_) ?_
                  · refine XS.dup X319_.here hx rfl (hC e9_251.2.1) rfl rfl ?_
                    refine XS.iconst X319_.here hx rfl (hC e9_251.2.2.1) ?_
                    refine XS.aloadN X319_.here hx rfl (hC e9_251.2.2.2) rfl rfl ?_
                    refine XS.iconst X319_.here hx rfl (hC e9_256.1) ?_
                    exact kK
                  obtain ⟨cl328_, Ar328_, Sz328_, Nn328_, Hh328_⟩ := id fc323_
                  have hin328_ : ¬ ((0 : Int32) < 0 ∨ cl328_.slots.size ≤ ((0 : Int32)).toNatClampNeg) := inb_of Sz328_ ⟨by decide, by decide⟩
                  have hat328_ : cl328_.slots[((0 : Int32)).toNatClampNeg]? = some (.int (fc (0 : Int32))) := Hh328_ _ hin328_
                  refine jg T319_ mM 258 #[vI nn, vR c] [(.int (fc (0 : Int32))), (.int (0 : Int32)), (.ref b319_), (.ref b319_), (.ref b315_), (.ref b315_)] (fun tT kK => ?_) ?_
                  · refine X319_.caload hx (j := (0 : Int32)) (v := (.int (fc (0 : Int32)))) (own_rw e319_ Ar328_.1) (State.isArrayOf_alike hZ.alike Ar328_.2.1) Ar328_.2.2 hin328_ hat328_ (g := (mkF mM 257 #[vI nn, vR c] [(.int (0 : Int32)), (.ref c), (.int (0 : Int32)), (.ref b319_), (.ref b319_), (.ref b315_), (.ref b315_)])) rfl rfl (hC e9_256.2.1) _ ?_
                    exact kK
                  obtain ⟨cl329_, Ar329_, Sz329_, Nn329_, Hh329_⟩ := id V319_
                  have hin329_ : ¬ ((0 : Int32) < 0 ∨ cl329_.slots.size ≤ ((0 : Int32)).toNatClampNeg) := inb_of Sz329_ ⟨by decide, by decide⟩
                  obtain ⟨T329_, h329_, X329_, e329_, W329_, st329_⟩ := stC X319_ hx hZ e319_ Ar329_ (j := (0 : Int32)) hin329_ (g := (mkF mM 258 #[vI nn, vR c] [(.int (fc (0 : Int32))), (.int (0 : Int32)), (.ref b319_), (.ref b319_), (.ref b315_), (.ref b315_)])) rfl rfl (hC e9_256.2.2.1)
                  have U329_ : own_T Z h329_ b319_ .char (7 : Int32) (own_up (fun _ => (0 : Int32)) (0 : Int32) (nar .char (fc (0 : Int32)))) := own_T.set ⟨cl329_, Ar329_, Sz329_, Nn329_, Hh329_⟩ W329_ ⟨by decide, by decide⟩
                  have fc330_ := fc322_.wr W329_ ge_b319_
                  have fc331_ := fc323_.other W329_ ne320_
                  have fc332_ := fc324_.wr W329_
                  have fc333_ := fc325_.other W329_ (Or.inl ne321_)
                  have fc334_ := fc326_.other W329_ (Or.inl ne321_)
                  have sw329_ : Safe Z own_EL sS.vm h319_ b319_ := (own_T.safe (EL := own_EL) hZ.alike V319_ (by decide))
                  have Cs329_ : CHr Z own_EL sS.vm h319_ sS.vm h329_ := CHr.wr W329_ sw329_ CH319_.1
                  have sf335_ := Safe.wr W329_ sw329_ CH319_.1 sf327_
                  have CH329_ := CH319_.trans Cs329_
                  have hk329_ := Nat.le_trans hk319_ Cs329_.2.1
                  have K329_ := K319_.wr W329_ (Or.inr sz_b319_)
                  have N329_ := Fr.snoc X329_ N0 ge_b319_
                  refine own_fin st329_ ?_
                  refine jg T329_ mM 263 #[vI nn, vR c] [(.int (1 : Int32)), (.ref c), (.int (1 : Int32)), (.ref b319_), (.ref b319_), (.ref b315_), (.ref b315_)] (fun tT kK => ?_) ?_
                  · refine XS.dup X329_.here hx rfl (hC e9_256.2.2.2) rfl rfl ?_
                    refine XS.iconst X329_.here hx rfl (hC e9_260.1) ?_
                    refine XS.aloadN X329_.here hx rfl (hC e9_260.2.1) rfl rfl ?_
                    refine XS.iconst X329_.here hx rfl (hC e9_260.2.2.1) ?_
                    exact kK
                  obtain ⟨cl336_, Ar336_, Sz336_, Nn336_, Hh336_⟩ := id fc331_
                  have hin336_ : ¬ ((1 : Int32) < 0 ∨ cl336_.slots.size ≤ ((1 : Int32)).toNatClampNeg) := inb_of Sz336_ ⟨by decide, by decide⟩
                  have hat336_ : cl336_.slots[((1 : Int32)).toNatClampNeg]? = some (.int (fc (1 : Int32))) := Hh336_ _ hin336_
                  refine jg T329_ mM 264 #[vI nn, vR c] [(.int (fc (1 : Int32))), (.int (1 : Int32)), (.ref b319_), (.ref b319_), (.ref b315_), (.ref b315_)] (fun tT kK => ?_) ?_
                  · refine X329_.caload hx (j := (1 : Int32)) (v := (.int (fc (1 : Int32)))) (own_rw e329_ Ar336_.1) (State.isArrayOf_alike hZ.alike Ar336_.2.1) Ar336_.2.2 hin336_ hat336_ (g := (mkF mM 263 #[vI nn, vR c] [(.int (1 : Int32)), (.ref c), (.int (1 : Int32)), (.ref b319_), (.ref b319_), (.ref b315_), (.ref b315_)])) rfl rfl (hC e9_260.2.2.2) _ ?_
                    exact kK
                  obtain ⟨cl337_, Ar337_, Sz337_, Nn337_, Hh337_⟩ := id U329_
                  have hin337_ : ¬ ((1 : Int32) < 0 ∨ cl337_.slots.size ≤ ((1 : Int32)).toNatClampNeg) := inb_of Sz337_ ⟨by decide, by decide⟩
                  obtain ⟨T337_, h337_, X337_, e337_, W337_, st337_⟩ := stC X329_ hx hZ e329_ Ar337_ (j := (1 : Int32)) hin337_ (g := (mkF mM 264 #[vI nn, vR c] [(.int (fc (1 : Int32))), (.int (1 : Int32)), (.ref b319_), (.ref b319_), (.ref b315_), (.ref b315_)])) rfl rfl (hC e9_264.1)
                  have U337_ : own_T Z h337_ b319_ .char (7 : Int32) (own_up (own_up (fun _ => (0 : Int32)) (0 : Int32) (nar .char (fc (0 : Int32)))) (1 : Int32) (nar .char (fc (1 : Int32)))) := own_T.set ⟨cl337_, Ar337_, Sz337_, Nn337_, Hh337_⟩ W337_ ⟨by decide, by decide⟩
                  have fc338_ := fc330_.wr W337_ ge_b319_
                  have fc339_ := fc331_.other W337_ ne320_
                  have fc340_ := fc332_.wr W337_
                  have fc341_ := fc333_.other W337_ (Or.inl ne321_)
                  have fc342_ := fc334_.other W337_ (Or.inl ne321_)
                  have sw337_ : Safe Z own_EL sS.vm h329_ b319_ := (own_T.safe (EL := own_EL) hZ.alike U329_ (by decide))
                  have Cs337_ : CHr Z own_EL sS.vm h329_ sS.vm h337_ := CHr.wr W337_ sw337_ CH329_.1
                  have sf343_ := Safe.wr W337_ sw337_ CH329_.1 sf335_
                  have CH337_ := CH329_.trans Cs337_
                  have hk337_ := Nat.le_trans hk329_ Cs337_.2.1
                  have K337_ := K329_.wr W337_ (Or.inr sz_b319_)
                  have N337_ := Fr.snoc X337_ N329_ ge_b319_
                  refine own_fin st337_ ?_
                  refine jg T337_ mM 269 #[vI nn, vR c] [(.int (2 : Int32)), (.ref c), (.int (2 : Int32)), (.ref b319_), (.ref b319_), (.ref b315_), (.ref b315_)] (fun tT kK => ?_) ?_
                  · refine XS.dup X337_.here hx rfl (hC e9_264.2.1) rfl rfl ?_
                    refine XS.iconst X337_.here hx rfl (hC e9_264.2.2.1) ?_
                    refine XS.aloadN X337_.here hx rfl (hC e9_264.2.2.2) rfl rfl ?_
                    refine XS.iconst X337_.here hx rfl (hC e9_268.1) ?_
                    exact kK
                  obtain ⟨cl344_, Ar344_, Sz344_, Nn344_, Hh344_⟩ := id fc339_
                  have hin344_ : ¬ ((2 : Int32) < 0 ∨ cl344_.slots.size ≤ ((2 : Int32)).toNatClampNeg) := inb_of Sz344_ ⟨by decide, by decide⟩
                  have hat344_ : cl344_.slots[((2 : Int32)).toNatClampNeg]? = some (.int (fc (2 : Int32))) := Hh344_ _ hin344_
                  refine jg T337_ mM 270 #[vI nn, vR c] [(.int (fc (2 : Int32))), (.int (2 : Int32)), (.ref b319_), (.ref b319_), (.ref b315_), (.ref b315_)] (fun tT kK => ?_) ?_
                  · refine X337_.caload hx (j := (2 : Int32)) (v := (.int (fc (2 : Int32)))) (own_rw e337_ Ar344_.1) (State.isArrayOf_alike hZ.alike Ar344_.2.1) Ar344_.2.2 hin344_ hat344_ (g := (mkF mM 269 #[vI nn, vR c] [(.int (2 : Int32)), (.ref c), (.int (2 : Int32)), (.ref b319_), (.ref b319_), (.ref b315_), (.ref b315_)])) rfl rfl (hC e9_268.2.1) _ ?_
                    exact kK
                  obtain ⟨cl345_, Ar345_, Sz345_, Nn345_, Hh345_⟩ := id U337_
                  have hin345_ : ¬ ((2 : Int32) < 0 ∨ cl345_.slots.size ≤ ((2 : Int32)).toNatClampNeg) := inb_of Sz345_ ⟨by decide, by decide⟩
                  obtain ⟨T345_, h345_, X345_, e345_, W345_, st345_⟩ := stC X337_ hx hZ e337_ Ar345_ (j := (2 : Int32)) hin345_ (g := (mkF mM 270 #[vI nn, vR c] [(.int (fc (2 : Int32))), (.int (2 : Int32)), (.ref b319_), (.ref b319_), (.ref b315_), (.ref b315_)])) rfl rfl (hC e9_268.2.2.1)
                  have U345_ : own_T Z h345_ b319_ .char (7 : Int32) (own_up (own_up (own_up (fun _ => (0 : Int32)) (0 : Int32) (nar .char (fc (0 : Int32)))) (1 : Int32) (nar .char (fc (1 : Int32)))) (2 : Int32) (nar .char (fc (2 : Int32)))) := own_T.set ⟨cl345_, Ar345_, Sz345_, Nn345_, Hh345_⟩ W345_ ⟨by decide, by decide⟩
                  have fc346_ := fc338_.wr W345_ ge_b319_
                  have fc347_ := fc339_.other W345_ ne320_
                  have fc348_ := fc340_.wr W345_
                  have fc349_ := fc341_.other W345_ (Or.inl ne321_)
                  have fc350_ := fc342_.other W345_ (Or.inl ne321_)
                  have sw345_ : Safe Z own_EL sS.vm h337_ b319_ := (own_T.safe (EL := own_EL) hZ.alike U337_ (by decide))
                  have Cs345_ : CHr Z own_EL sS.vm h337_ sS.vm h345_ := CHr.wr W345_ sw345_ CH337_.1
                  have sf351_ := Safe.wr W345_ sw345_ CH337_.1 sf343_
                  have CH345_ := CH337_.trans Cs345_
                  have hk345_ := Nat.le_trans hk337_ Cs345_.2.1
                  have K345_ := K337_.wr W345_ (Or.inr sz_b319_)
                  have N345_ := Fr.snoc X345_ N337_ ge_b319_
                  refine own_fin st345_ ?_
                  refine jg T345_ mM 275 #[vI nn, vR c] [(.int (3 : Int32)), (.ref c), (.int (3 : Int32)), (.ref b319_), (.ref b319_), (.ref b315_), (.ref b315_)] (fun tT kK => ?_) ?_
                  · refine XS.dup X345_.here hx rfl (hC e9_268.2.2.2) rfl rfl ?_
                    refine XS.iconst X345_.here hx rfl (hC e9_272.1) ?_
                    refine XS.aloadN X345_.here hx rfl (hC e9_272.2.1) rfl rfl ?_
                    refine XS.iconst X345_.here hx rfl (hC e9_272.2.2.1) ?_
                    exact kK
                  obtain ⟨cl352_, Ar352_, Sz352_, Nn352_, Hh352_⟩ := id fc347_
                  have hin352_ : ¬ ((3 : Int32) < 0 ∨ cl352_.slots.size ≤ ((3 : Int32)).toNatClampNeg) := inb_of Sz352_ ⟨by decide, by decide⟩
                  have hat352_ : cl352_.slots[((3 : Int32)).toNatClampNeg]? = some (.int (fc (3 : Int32))) := Hh352_ _ hin352_
                  refine jg T345_ mM 276 #[vI nn, vR c] [(.int (fc (3 : Int32))), (.int (3 : Int32)), (.ref b319_), (.ref b319_), (.ref b315_), (.ref b315_)] (fun tT kK => ?_) ?_
                  · refine X345_.caload hx (j := (3 : Int32)) (v := (.int (fc (3 : Int32)))) (own_rw e345_ Ar352_.1) (State.isArrayOf_alike hZ.alike Ar352_.2.1) Ar352_.2.2 hin352_ hat352_ (g := (mkF mM 275 #[vI nn, vR c] [(.int (3 : Int32)), (.ref c), (.int (3 : Int32)), (.ref b319_), (.ref b319_), (.ref b315_), (.ref b315_)])) rfl rfl (hC e9_272.2.2.2) _ ?_
                    exact kK
                  obtain ⟨cl353_, Ar353_, Sz353_, Nn353_, Hh353_⟩ := id U345_
                  have hin353_ : ¬ ((3 : Int32) < 0 ∨ cl353_.slots.size ≤ ((3 : Int32)).toNatClampNeg) := inb_of Sz353_ ⟨by decide, by decide⟩
                  obtain ⟨T353_, h353_, X353_, e353_, W353_, st353_⟩ := stC X345_ hx hZ e345_ Ar353_ (j := (3 : Int32)) hin353_ (g := (mkF mM 276 #[vI nn, vR c] [(.int (fc (3 : Int32))), (.int (3 : Int32)), (.ref b319_), (.ref b319_), (.ref b315_), (.ref b315_)])) rfl rfl (hC e9_276.1)
                  have U353_ : own_T Z h353_ b319_ .char (7 : Int32) (own_up (own_up (own_up (own_up (fun _ => (0 : Int32)) (0 : Int32) (nar .char (fc (0 : Int32)))) (1 : Int32) (nar .char (fc (1 : Int32)))) (2 : Int32) (nar .char (fc (2 : Int32)))) (3 : Int32) (nar .char (fc (3 : Int32)))) := own_T.set ⟨cl353_, Ar353_, Sz353_, Nn353_, Hh353_⟩ W353_ ⟨by decide, by decide⟩
                  have fc354_ := fc346_.wr W353_ ge_b319_
                  have fc355_ := fc347_.other W353_ ne320_
                  have fc356_ := fc348_.wr W353_
                  have fc357_ := fc349_.other W353_ (Or.inl ne321_)
                  have fc358_ := fc350_.other W353_ (Or.inl ne321_)
                  have sw353_ : Safe Z own_EL sS.vm h345_ b319_ := (own_T.safe (EL := own_EL) hZ.alike U345_ (by decide))
                  have Cs353_ : CHr Z own_EL sS.vm h345_ sS.vm h353_ := CHr.wr W353_ sw353_ CH345_.1
                  have sf359_ := Safe.wr W353_ sw353_ CH345_.1 sf351_
                  have CH353_ := CH345_.trans Cs353_
                  have hk353_ := Nat.le_trans hk345_ Cs353_.2.1
                  have K353_ := K345_.wr W353_ (Or.inr sz_b319_)
                  have N353_ := Fr.snoc X353_ N345_ ge_b319_
                  refine own_fin st353_ ?_
                  refine jg T353_ mM 281 #[vI nn, vR c] [(.int (4 : Int32)), (.ref c), (.int (4 : Int32)), (.ref b319_), (.ref b319_), (.ref b315_), (.ref b315_)] (fun tT kK => ?_) ?_
                  · refine XS.dup X353_.here hx rfl (hC e9_276.2.1) rfl rfl ?_
                    refine XS.iconst X353_.here hx rfl (hC e9_276.2.2.1) ?_
                    refine XS.aloadN X353_.here hx rfl (hC e9_276.2.2.2) rfl rfl ?_
                    refine XS.iconst X353_.here hx rfl (hC e9_280.1) ?_
                    exact kK
                  obtain ⟨cl360_, Ar360_, Sz360_, Nn360_, Hh360_⟩ := id fc355_
                  have hin360_ : ¬ ((4 : Int32) < 0 ∨ cl360_.slots.size ≤ ((4 : Int32)).toNatClampNeg) := inb_of Sz360_ ⟨by decide, by decide⟩
                  have hat360_ : cl360_.slots[((4 : Int32)).toNatClampNeg]? = some (.int (fc (4 : Int32))) := Hh360_ _ hin360_
                  refine jg T353_ mM 282 #[vI nn, vR c] [(.int (fc (4 : Int32))), (.int (4 : Int32)), (.ref b319_), (.ref b319_), (.ref b315_), (.ref b315_)] (fun tT kK => ?_) ?_
                  · refine X353_.caload hx (j := (4 : Int32)) (v := (.int (fc (4 : Int32)))) (own_rw e353_ Ar360_.1) (State.isArrayOf_alike hZ.alike Ar360_.2.1) Ar360_.2.2 hin360_ hat360_ (g := (mkF mM 281 #[vI nn, vR c] [(.int (4 : Int32)), (.ref c), (.int (4 : Int32)), (.ref b319_), (.ref b319_), (.ref b315_), (.ref b315_)])) rfl rfl (hC e9_280.2.1) _ ?_
                    exact kK
                  obtain ⟨cl361_, Ar361_, Sz361_, Nn361_, Hh361_⟩ := id U353_
                  have hin361_ : ¬ ((4 : Int32) < 0 ∨ cl361_.slots.size ≤ ((4 : Int32)).toNatClampNeg) := inb_of Sz361_ ⟨by decide, by decide⟩
                  obtain ⟨T361_, h361_, X361_, e361_, W361_, st361_⟩ := stC X353_ hx hZ e353_ Ar361_ (j := (4 : Int32)) hin361_ (g := (mkF mM 282 #[vI nn, vR c] [(.int (fc (4 : Int32))), (.int (4 : Int32)), (.ref b319_), (.ref b319_), (.ref b315_), (.ref b315_)])) rfl rfl (hC e9_280.2.2.1)
                  have U361_ : own_T Z h361_ b319_ .char (7 : Int32) (own_up (own_up (own_up (own_up (own_up (fun _ => (0 : Int32)) (0 : Int32) (nar .char (fc (0 : Int32)))) (1 : Int32) (nar .char (fc (1 : Int32)))) (2 : Int32) (nar .char (fc (2 : Int32)))) (3 : Int32) (nar .char (fc (3 : Int32)))) (4 : Int32) (nar .char (fc (4 : Int32)))) := own_T.set ⟨cl361_, Ar361_, Sz361_, Nn361_, Hh361_⟩ W361_ ⟨by decide, by decide⟩
                  have fc362_ := fc354_.wr W361_ ge_b319_
                  have fc363_ := fc355_.other W361_ ne320_
                  have fc364_ := fc356_.wr W361_
                  have fc365_ := fc357_.other W361_ (Or.inl ne321_)
                  have fc366_ := fc358_.other W361_ (Or.inl ne321_)
                  have sw361_ : Safe Z own_EL sS.vm h353_ b319_ := (own_T.safe (EL := own_EL) hZ.alike U353_ (by decide))
                  have Cs361_ : CHr Z own_EL sS.vm h353_ sS.vm h361_ := CHr.wr W361_ sw361_ CH353_.1
                  have sf367_ := Safe.wr W361_ sw361_ CH353_.1 sf359_
                  have CH361_ := CH353_.trans Cs361_
                  have hk361_ := Nat.le_trans hk353_ Cs361_.2.1
                  have K361_ := K353_.wr W361_ (Or.inr sz_b319_)
                  have N361_ := Fr.snoc X361_ N353_ ge_b319_
                  refine own_fin st361_ ?_
                  refine jg T361_ mM 287 #[vI nn, vR c] [(.int (5 : Int32)), (.ref c), (.int (5 : Int32)), (.ref b319_), (.ref b319_), (.ref b315_), (.ref b315_)] (fun tT kK => ?_) ?_
                  · refine XS.dup X361_.here hx rfl (hC e9_280.2.2.2) rfl rfl ?_
                    refine XS.iconst X361_.here hx rfl (hC e9_284.1) ?_
                    refine XS.aloadN X361_.here hx rfl (hC e9_284.2.1) rfl rfl ?_
                    refine XS.iconst X361_.here hx rfl (hC e9_284.2.2.1) ?_
                    exact kK
                  obtain ⟨cl368_, Ar368_, Sz368_, Nn368_, Hh368_⟩ := id fc363_
                  have hin368_ : ¬ ((5 : Int32) < 0 ∨ cl368_.slots.size ≤ ((5 : Int32)).toNatClampNeg) := inb_of Sz368_ ⟨by decide, by decide⟩
                  have hat368_ : cl368_.slots[((5 : Int32)).toNatClampNeg]? = some (.int (fc (5 : Int32))) := Hh368_ _ hin368_
                  refine jg T361_ mM 288 #[vI nn, vR c] [(.int (fc (5 : Int32))), (.int (5 : Int32)), (.ref b319_), (.ref b319_), (.ref b315_), (.ref b315_)] (fun tT kK => ?_) ?_
                  · refine X361_.caload hx (j := (5 : Int32)) (v := (.int (fc (5 : Int32)))) (own_rw e361_ Ar368_.1) (State.isArrayOf_alike hZ.alike Ar368_.2.1) Ar368_.2.2 hin368_ hat368_ (g := (mkF mM 287 #[vI nn, vR c] [(.int (5 : Int32)), (.ref c), (.int (5 : Int32)), (.ref b319_), (.ref b319_), (.ref b315_), (.ref b315_)])) rfl rfl (hC e9_284.2.2.2) _ ?_
                    exact kK
                  obtain ⟨cl369_, Ar369_, Sz369_, Nn369_, Hh369_⟩ := id U361_
                  have hin369_ : ¬ ((5 : Int32) < 0 ∨ cl369_.slots.size ≤ ((5 : Int32)).toNatClampNeg) := inb_of Sz369_ ⟨by decide, by decide⟩
                  obtain ⟨T369_, h369_, X369_, e369_, W369_, st369_⟩ := stC X361_ hx hZ e361_ Ar369_ (j := (5 : Int32)) hin369_ (g := (mkF mM 288 #[vI nn, vR c] [(.int (fc (5 : Int32))), (.int (5 : Int32)), (.ref b319_), (.ref b319_), (.ref b315_), (.ref b315_)])) rfl rfl (hC e9_288.1)
                  have U369_ : own_T Z h369_ b319_ .char (7 : Int32) (own_up (own_up (own_up (own_up (own_up (own_up (fun _ => (0 : Int32)) (0 : Int32) (nar .char (fc (0 : Int32)))) (1 : Int32) (nar .char (fc (1 : Int32)))) (2 : Int32) (nar .char (fc (2 : Int32)))) (3 : Int32) (nar .char (fc (3 : Int32)))) (4 : Int32) (nar .char (fc (4 : Int32)))) (5 : Int32) (nar .char (fc (5 : Int32)))) := own_T.set ⟨cl369_, Ar369_, Sz369_, Nn369_, Hh369_⟩ W369_ ⟨by decide, by decide⟩
                  have fc370_ := fc362_.wr W369_ ge_b319_
                  have fc371_ := fc363_.other W369_ ne320_
                  have fc372_ := fc364_.wr W369_
                  have fc373_ := fc365_.other W369_ (Or.inl ne321_)
                  have fc374_ := fc366_.other W369_ (Or.inl ne321_)
                  have sw369_ : Safe Z own_EL sS.vm h361_ b319_ := (own_T.safe (EL := own_EL) hZ.alike U361_ (by decide))
                  have Cs369_ : CHr Z own_EL sS.vm h361_ sS.vm h369_ := CHr.wr W369_ sw369_ CH361_.1
                  have sf375_ := Safe.wr W369_ sw369_ CH361_.1 sf367_
                  have CH369_ := CH361_.trans Cs369_
                  have hk369_ := Nat.le_trans hk361_ Cs369_.2.1
                  have K369_ := K361_.wr W369_ (Or.inr sz_b319_)
                  have N369_ := Fr.snoc X369_ N361_ ge_b319_
                  refine own_fin st369_ ?_
                  refine jg T369_ mM 295 #[vI nn, vR c] [(.int (6 : Int32)), (.ref c), (.int (6 : Int32)), (.ref b319_), (.ref b319_), (.ref b315_), (.ref b315_)] (fun tT kK => ?_) ?_
                  · refine XS.dup X369_.here hx rfl (hC e9_288.2.1) rfl rfl ?_
                    refine XS.bipush X369_.here hx rfl (hC e9_288.2.2.1) ?_
                    refine XS.aloadN X369_.here hx rfl (hC e9_288.2.2.2) rfl rfl ?_
                    refine XS.bipush X369_.here hx rfl (hC e9_293.1) ?_
                    exact kK
                  obtain ⟨cl376_, Ar376_, Sz376_, Nn376_, Hh376_⟩ := id fc371_
                  have hin376_ : ¬ ((6 : Int32) < 0 ∨ cl376_.slots.size ≤ ((6 : Int32)).toNatClampNeg) := inb_of Sz376_ ⟨by decide, by decide⟩
                  have hat376_ : cl376_.slots[((6 : Int32)).toNatClampNeg]? = some (.int (fc (6 : Int32))) := Hh376_ _ hin376_
                  refine jg T369_ mM 296 #[vI nn, vR c] [(.int (fc (6 : Int32))), (.int (6 : Int32)), (.ref b319_), (.ref b319_), (.ref b315_), (.ref b315_)] (fun tT kK => ?_) ?_
                  · refine X369_.caload hx (j := (6 : Int32)) (v := (.int (fc (6 : Int32)))) (own_rw e369_ Ar376_.1) (State.isArrayOf_alike hZ.alike Ar376_.2.1) Ar376_.2.2 hin376_ hat376_ (g := (mkF mM 295 #[vI nn, vR c] [(.int (6 : Int32)), (.ref c), (.int (6 : Int32)), (.ref b319_), (.ref b319_), (.ref b315_), (.ref b315_)])) rfl rfl (hC e9_293.2.1) _ ?_
                    exact kK
                  obtain ⟨cl377_, Ar377_, Sz377_, Nn377_, Hh377_⟩ := id U369_
                  have hin377_ : ¬ ((6 : Int32) < 0 ∨ cl377_.slots.size ≤ ((6 : Int32)).toNatClampNeg) := inb_of Sz377_ ⟨by decide, by decide⟩
                  obtain ⟨T377_, h377_, X377_, e377_, W377_, st377_⟩ := stC X369_ hx hZ e369_ Ar377_ (j := (6 : Int32)) hin377_ (g := (mkF mM 296 #[vI nn, vR c] [(.int (fc (6 : Int32))), (.int (6 : Int32)), (.ref b319_), (.ref b319_), (.ref b315_), (.ref b315_)])) rfl rfl (hC e9_293.2.2.1)
                  have U377_ : own_T Z h377_ b319_ .char (7 : Int32) (own_up (own_up (own_up (own_up (own_up (own_up (own_up (fun _ => (0 : Int32)) (0 : Int32) (nar .char (fc (0 : Int32)))) (1 : Int32) (nar .char (fc (1 : Int32)))) (2 : Int32) (nar .char (fc (2 : Int32)))) (3 : Int32) (nar .char (fc (3 : Int32)))) (4 : Int32) (nar .char (fc (4 : Int32)))) (5 : Int32) (nar .char (fc (5 : Int32)))) (6 : Int32) (nar .char (fc (6 : Int32)))) := own_T.set ⟨cl377_, Ar377_, Sz377_, Nn377_, Hh377_⟩ W377_ ⟨by decide, by decide⟩
                  have fc378_ := fc370_.wr W377_ ge_b319_
                  have fc380_ := fc372_.wr W377_
                  have fc381_ := fc373_.other W377_ (Or.inl ne321_)
                  have fc382_ := fc374_.other W377_ (Or.inl ne321_)
                  have sw377_ : Safe Z own_EL sS.vm h369_ b319_ := (own_T.safe (EL := own_EL) hZ.alike U369_ (by decide))
                  have Cs377_ : CHr Z own_EL sS.vm h369_ sS.vm h377_ := CHr.wr W377_ sw377_ CH369_.1
                  have sf383_ := Safe.wr W377_ sw377_ CH369_.1 sf375_
                  have CH377_ := CH369_.trans Cs377_
                  have hk377_ := Nat.le_trans hk369_ Cs377_.2.1
                  have K377_ := K369_.wr W377_ (Or.inr sz_b319_)
                  have N377_ := Fr.snoc X377_ N369_ ge_b319_
                  refine own_fin st377_ ?_
                  have sk384_ : ∀ x ∈ ([b315_] : List Addr), Safe Z own_EL sS.vm h377_ x := (sfS sf383_ sf0)
                  refine own_sb X377_ hx hZ (y := jy11) rfl hown (jk hw 54 rfl) (jk hw 55 rfl) (jk hw 56 rfl) (jk hw 2 rfl) (rm_str lL Z a0 hw [] b315_ b319_ (7 : Int32) (own_up (own_up (own_up (own_up (own_up (own_up (own_up (fun _ => (0 : Int32)) (0 : Int32) (nar .char (fc (0 : Int32)))) (1 : Int32) (nar .char (fc (1 : Int32)))) (2 : Int32) (nar .char (fc (2 : Int32)))) (3 : Int32) (nar .char (fc (3 : Int32)))) (4 : Int32) (nar .char (fc (4 : Int32)))) (5 : Int32) (nar .char (fc (5 : Int32)))) (6 : Int32) (nar .char (fc (6 : Int32)))) cs h377_ n0 (Nat.le_trans Z0 K377_.1) fc378_ Scs ncs fc380_ fc381_ fc382_ ge_b315_ U377_ (fun j _ => (own_upB (own_upB (own_upB (own_upB (own_upB (own_upB (own_upB own_z0 (own_ncb (hb _))) (own_ncb (hb _))) (own_ncb (hb _))) (own_ncb (hb _))) (own_ncb (hb _))) (own_ncb (hb _))) (own_ncb (hb _))) j) (by decide) (by decide) (Ne.symm ne321_)) (a := b315_) e377_ own_pd12 [(.ref b319_)] [(.ref b315_)] (hC e9_293.2.2.2) rfl rfl (by rw [hml]; rfl) (by decide) 1 (Nat.le_of_eq rfl) (by decide) (by decide) (by decide : 2 + 1 ≤ _) (by decide : 11 + 8 ≤ _) fun vv385_ T385_ L385_ X385_ hQ385_ => ?_
                  obtain ⟨b_385_, rfl, N385_q, p385__0, p385__1, p385__2, p385__3, p385__4, p385__5⟩ := hQ385_
                  have N385_ := Fr.app N377_ N385_q
                  have K385_ := K377_.trans p385__0 (allS (Or.inr sz_b315_) all0)
                  have Cs385_ : CHr Z own_EL sS.vm h377_ sS.vm T385_.heap := CHr.keep p385__0 sk384_ CH377_.1
                  have sf393_ := Safe.keep p385__0 sk384_ CH377_.1 sf383_
                  have CH385_ := CH377_.trans Cs385_
                  have hk385_ := Nat.le_trans hk377_ Cs385_.2.1
                  obtain ⟨fs, hr, hrun, hended, hE1, hE2, hE3, hE4⟩ := X385_.leaveW hS0 (own_hk rfl hk385_) (v := some (.ref b315_)) (fun h => by rw [Bd.returns] at h; cases h)
                  refine ⟨_, _, ?_, hrun, hended, _, _, rfl, ?_, own_CHe (T := T385_) (vm1 := T385_.vm) hh rfl (CH385_.trans (CHv.at X385_ hZ (own_EW hw) CH385_.1)), hE1, hE2, hE3, hE4.mono (by decide) (by decide)⟩
                  · show Steps pP.tables eE below (T385_.setTop (mkF mM 300 #[vI nn, vR c] [(.ref b315_)])) _
                    exact retOut X385_ hx Bd.returns rfl (Or.inr (Or.inr (Or.inr (Or.inr ⟨rfl, rfl, rfl⟩)))) (hC e9_300.1) hr
                  · show Q_rm_strn Z c nn fc cs h0 n0 _ T385_.heap _
                    exact ⟨b315_, b_385_, (7 : Int32), (fun j => ((own_up (own_up (own_up (own_up (own_up (own_up (own_up (fun _ => (0 : Int32)) (0 : Int32) (nar .char (fc (0 : Int32)))) (1 : Int32) (nar .char (fc (1 : Int32)))) (2 : Int32) (nar .char (fc (2 : Int32)))) (3 : Int32) (nar .char (fc (3 : Int32)))) (4 : Int32) (nar .char (fc (4 : Int32)))) (5 : Int32) (nar .char (fc (5 : Int32)))) (6 : Int32) (nar .char (fc (6 : Int32)))) j).toInt8.toInt32), rfl, N385_, K385_, sz_b315_, p385__2, p385__3, p385__4, p385__5⟩
                · refine jg s₁ mM 301 #[vI nn, vR c] [] (fun tT kK => ?_) ?_
                  · refine XS.icmpYes X0.here hx rfl (pc0 := 242) (pc' := 301) rfl (hC e9_242.1) rfl (feq (hc242_314_ : ¬ (nn = (7 : Int32)))).2 (by decide) (by decide) ?_
                    exact kK
                  obtain ⟨T394_, h394_, X394_, e394_, E394_, A394_, D394_, -, st394_⟩ := newO X0 hx hZ hown (jk hw 53 rfl) (jk hw 3 rfl) (jk hw 2 rfl) e0 (g := (mkF mM 301 #[vI nn, vR c] [])) rfl (hC e9_300.2.1) (by decide) (by decide)
                  obtain ⟨b394_, g394_⟩ : ∃ z, z = h0.size := ⟨_, rfl⟩
                  rw [← g394_] at A394_ D394_ st394_
                  have sz_b394_ : h0.size ≤ b394_ := Nat.le_trans K0.1 (Nat.le_of_eq g394_.symm)
                  have ge_b394_ : n0 ≤ b394_ := Nat.le_trans Z0 sz_b394_
                  have fc396_ := Oo.ext E394_
                  have fc397_ := Tc.ext E394_
                  have Cs394_ : CHr Z own_EL sS.vm h0 sS.vm h394_ := CHr.ext E394_ CH0.1
                  have CH394_ := CH0.trans Cs394_
                  have hk394_ := Nat.le_trans hk0 Cs394_.2.1
                  have K394_ := K0.ext E394_
                  have sf394_ : Safe Z own_EL sS.vm h394_ b394_ := Safe.ext E394_ CH0.1 (Safe.new (Nat.le_of_eq g394_.symm))
                  have F394__value : jF1 Z h394_ b394_ .null := D394_ (Or.inr (jk hw 5 rfl)) (ty := (.array .byte)) (by decide)
                  have F394__coder : jF0 Z h394_ b394_ (.int (0 : Int32)) := D394_ (Or.inr (jk hw 6 rfl)) (ty := .byte) (by decide)
                  refine own_fin st394_ ?_
                  refine jg T394_ mM 307 #[vI nn, vR c] [(.int (8 : Int32)), (.ref b394_), (.ref b394_)] (fun tT kK => ?_) ?_
                  · refine XS.dup X394_.here hx rfl (hC e9_300.2.2.1) rfl rfl ?_
                    refine XS.bipush X394_.here hx rfl (hC e9_300.2.2.2) ?_
                    exact kK
                  obtain ⟨T398_, h398_, k398_, X398_, e398_, E398_, A398_, st398_⟩ := newP X394_ hx hZ (jk hw 9 rfl) e394_ (g := (mkF mM 307 #[vI nn, vR c] [(.int (8 : Int32)), (.ref b394_), (.ref b394_)])) rfl (hC e9_307.1) rfl (by decide) (cap := 8) (by decide) (by decide) (by decide) (by decide)
                  obtain ⟨b398_, g398_⟩ : ∃ z, z = h394_.size := ⟨_, rfl⟩
                  rw [← g398_] at A398_ st398_
                  have sz_b398_ : h0.size ≤ b398_ := Nat.le_trans K394_.1 (Nat.le_of_eq g398_.symm)
                  have ge_b398_ : n0 ≤ b398_ := Nat.le_trans Z0 sz_b398_
                  have ne399_ : c ≠ b398_ := Nat.ne_of_lt (Nat.lt_of_lt_of_le fc397_.lt (Nat.le_of_eq g398_.symm))
                  have ne400_ : b394_ ≠ b398_ := Nat.ne_of_lt (Nat.lt_of_lt_of_le A394_.lt (Nat.le_of_eq g398_.symm))
                  have fc401_ := fc396_.ext E398_
                  have fc402_ := fc397_.ext E398_
                  have fc403_ := A394_.ext E398_
                  have fc404_ := F394__value.ext E398_
                  have fc405_ := F394__coder.ext E398_
                  have Cs398_ : CHr Z own_EL sS.vm h394_ sS.vm h398_ := CHr.ext E398_ CH394_.1
                  have sf406_ := Safe.ext E398_ CH394_.1 sf394_
                  have CH398_ := CH394_.trans Cs398_
                  have hk398_ := Nat.le_trans hk394_ Cs398_.2.1
                  have K398_ := K394_.ext E398_
                  have V398_ : own_T Z h398_ b398_ .char (8 : Int32) (fun _ => (0 : Int32)) := own_T.new A398_ (by decide) rfl
                  refine own_fin st398_ ?_
                  refine jg T398_ mM 313 #[vI nn, vR c] [(.int (0 : Int32)), (.ref c), (.int (0 : Int32)), (.ref b398_), (.ref b398_), (.ref b394_), (.ref b394_)] (fun tT kK => ?_) ?_
                  · refine XS.dup X398_.here hx rfl (hC e9_307.2.1) rfl rfl ?_
                    refine XS.iconst X398_.here hx rfl (hC e9_307.2.2.1) ?_
                    refine XS.aloadN X398_.here hx rfl (hC e9_307.2.2.2) rfl rfl ?_
                    refine XS.iconst X398_.here hx rfl (hC e9_312.1) ?_
                    exact kK
                  obtain ⟨cl407_, Ar407_, Sz407_, Nn407_, Hh407_⟩ := id fc402_
                  have hin407_ : ¬ ((0 : Int32) < 0 ∨ cl407_.slots.size ≤ ((0 : Int32)).toNatClampNeg) := inb_of Sz407_ ⟨by decide, by decide⟩
                  have hat407_ : cl407_.slots[((0 : Int32)).toNatClampNeg]? = some (.int (fc (0 : Int32))) := Hh407_ _ hin407_
                  refine jg T398_ mM 314 #[vI nn, vR c] [(.int (fc (0 : Int32))), (.int (0 : Int32)), (.ref b398_), (.ref b398_), (.ref b394_), (.ref b394_)] (fun tT kK => ?_) ?_
                  · refine X398_.caload hx (j := (0 : Int32)) (v := (.int (fc (0 : Int32)))) (own_rw e398_ Ar407_.1) (State.isArrayOf_alike hZ.alike Ar407_.2.1) Ar407_.2.2 hin407_ hat407_ (g := (mkF mM 313 #[vI nn, vR c] [(.int (0 : Int32)), (.ref c), (.int (0 : Int32)), (.ref b398_), (.ref b398_), (.ref b394_), (.ref b394_)])) rfl rfl (hC e9_312.2.1) _ ?_
                    exact kK
                  obtain ⟨cl408_, Ar408_, Sz408_, Nn408_, Hh408_⟩ := id V398_
                  have hin408_ : ¬ ((0 : Int32) < 0 ∨ cl408_.slots.size ≤ ((0 : Int32)).toNatClampNeg) := inb_of Sz408_ ⟨by decide, by decide⟩
                  obtain ⟨T408_, h408_, X408_, e408_, W408_, st408_⟩ := stC X398_ hx hZ e398_ Ar408_ (j := (0 : Int32)) hin408_ (g := (mkF mM 314 #[vI nn, vR c] [(.int (fc (0 : Int32))), (.int (0 : Int32)), (.ref b398_), (.ref b398_), (.ref b394_), (.ref b394_)])) rfl rfl (hC e9_312.2.2.1)
                  have U408_ : own_T Z h408_ b398_ .char (8 : Int32) (own_up (fun _ => (0 : Int32)) (0 : Int32) (nar .char (fc (0 : Int32)))) := own_T.set ⟨cl408_, Ar408_, Sz408_, Nn408_, Hh408_⟩ W408_ ⟨by decide, by decide⟩
                  have fc409_ := fc401_.wr W408_ ge_b398_
                  have fc410_ := fc402_.other W408_ ne399_
                  have fc411_ := fc403_.wr W408_
                  have fc412_ := fc404_.other W408_ (Or.inl ne400_)
                  have fc413_ := fc405_.other W408_ (Or.inl ne400_)
                  have sw408_ : Safe Z own_EL sS.vm h398_ b398_ := (own_T.safe (EL := own_EL) hZ.alike V398_ (by decide))
                  have Cs408_ : CHr Z own_EL sS.vm h398_ sS.vm h408_ := CHr.wr W408_ sw408_ CH398_.1
                  have sf414_ := Safe.wr W408_ sw408_ CH398_.1 sf406_
                  have CH408_ := CH398_.trans Cs408_
                  have hk408_ := Nat.le_trans hk398_ Cs408_.2.1
                  have K408_ := K398_.wr W408_ (Or.inr sz_b398_)
                  have N408_ := Fr.snoc X408_ N0 ge_b398_
                  refine own_fin st408_ ?_
                  refine jg T408_ mM 319 #[vI nn, vR c] [(.int (1 : Int32)), (.ref c), (.int (1 : Int32)), (.ref b398_), (.ref b398_), (.ref b394_), (.ref b394_)] (fun tT kK => ?_) ?_
                  · refine XS.dup X408_.here hx rfl (hC e9_312.2.2.2) rfl rfl ?_
                    refine XS.iconst X408_.here hx rfl (hC e9_316.1) ?_
                    refine XS.aloadN X408_.here hx rfl (hC e9_316.2.1) rfl rfl ?_
                    refine XS.iconst X408_.here hx rfl (hC e9_316.2.2.1) ?_
                    exact kK
                  obtain ⟨cl415_, Ar415_, Sz415_, Nn415_, Hh415_⟩ := id fc410_
                  have hin415_ : ¬ ((1 : Int32) < 0 ∨ cl415_.slots.size ≤ ((1 : Int32)).toNatClampNeg) := inb_of Sz415_ ⟨by decide, by decide⟩
                  have hat415_ : cl415_.slots[((1 : Int32)).toNatClampNeg]? = some (.int (fc (1 : Int32))) := Hh415_ _ hin415_
                  refine jg T408_ mM 320 #[vI nn, vR c] [(.int (fc (1 : Int32))), (.int (1 : Int32)), (.ref b398_), (.ref b398_), (.ref b394_), (.ref b394_)] (fun tT kK => ?_) ?_
                  · refine X408_.caload hx (j := (1 : Int32)) (v := (.int (fc (1 : Int32)))) (own_rw e408_ Ar415_.1) (State.isArrayOf_alike hZ.alike Ar415_.2.1) Ar415_.2.2 hin415_ hat415_ (g := (mkF mM 319 #[vI nn, vR c] [(.int (1 : Int32)), (.ref c), (.int (1 : Int32)), (.ref b398_), (.ref b398_), (.ref b394_), (.ref b394_)])) rfl rfl (hC e9_316.2.2.2) _ ?_
                    exact kK
                  obtain ⟨cl416_, Ar416_, Sz416_, Nn416_, Hh416_⟩ := id U408_
                  have hin416_ : ¬ ((1 : Int32) < 0 ∨ cl416_.slots.size ≤ ((1 : Int32)).toNatClampNeg) := inb_of Sz416_ ⟨by decide, by decide⟩
                  obtain ⟨T416_, h416_, X416_, e416_, W416_, st416_⟩ := stC X408_ hx hZ e408_ Ar416_ (j := (1 : Int32)) hin416_ (g := (mkF mM 320 #[vI nn, vR c] [(.int (fc (1 : Int32))), (.int (1 : Int32)), (.ref b398_), (.ref b398_), (.ref b394_), (.ref b394_)])) rfl rfl (hC e9_320.1)
                  have U416_ : own_T Z h416_ b398_ .char (8 : Int32) (own_up (own_up (fun _ => (0 : Int32)) (0 : Int32) (nar .char (fc (0 : Int32)))) (1 : Int32) (nar .char (fc (1 : Int32)))) := own_T.set ⟨cl416_, Ar416_, Sz416_, Nn416_, Hh416_⟩ W416_ ⟨by decide, by decide⟩
                  have fc417_ := fc409_.wr W416_ ge_b398_
                  have fc418_ := fc410_.other W416_ ne399_
                  have fc419_ := fc411_.wr W416_
                  have fc420_ := fc412_.other W416_ (Or.inl ne400_)
                  have fc421_ := fc413_.other W416_ (Or.inl ne400_)
                  have sw416_ : Safe Z own_EL sS.vm h408_ b398_ := (own_T.safe (EL := own_EL) hZ.alike U408_ (by decide))
                  have Cs416_ : CHr Z own_EL sS.vm h408_ sS.vm h416_ := CHr.wr W416_ sw416_ CH408_.1
                  have sf422_ := Safe.wr W416_ sw416_ CH408_.1 sf414_
                  have CH416_ := CH408_.trans Cs416_
                  have hk416_ := Nat.le_trans hk408_ Cs416_.2.1
                  have K416_ := K408_.wr W416_ (Or.inr sz_b398_)
                  have N416_ := Fr.snoc X416_ N408_ ge_b398_
                  refine own_fin st416_ ?_
                  refine jg T416_ mM 325 #[vI nn, vR c] [(.int (2 : Int32)), (.ref c), (.int (2 : Int32)), (.ref b398_), (.ref b398_), (.ref b394_), (.ref b394_)] (fun tT kK => ?_) ?_
                  · refine XS.dup X416_.here hx rfl (hC e9_320.2.1) rfl rfl ?_
                    refine XS.iconst X416_.here hx rfl (hC e9_320.2.2.1) ?_
                    refine XS.aloadN X416_.here hx rfl (hC e9_320.2.2.2) rfl rfl ?_
                    refine XS.iconst X416_.here hx rfl (hC e9_324.1) ?_
                    exact kK
                  obtain ⟨cl423_, Ar423_, Sz423_, Nn423_, Hh423_⟩ := id fc418_
                  have hin423_ : ¬ ((2 : Int32) < 0 ∨ cl423_.slots.size ≤ ((2 : Int32)).toNatClampNeg) := inb_of Sz423_ ⟨by decide, by decide⟩
                  have hat423_ : cl423_.slots[((2 : Int32)).toNatClampNeg]? = some (.int (fc (2 : Int32))) := Hh423_ _ hin423_
                  refine jg T416_ mM 326 #[vI nn, vR c] [(.int (fc (2 : Int32))), (.int (2 : Int32)), (.ref b398_), (.ref b398_), (.ref b394_), (.ref b394_)] (fun tT kK => ?_) ?_
                  · refine X416_.caload hx (j := (2 : Int32)) (v := (.int (fc (2 : Int32)))) (own_rw e416_ Ar423_.1) (State.isArrayOf_alike hZ.alike Ar423_.2.1) Ar423_.2.2 hin423_ hat423_ (g := (mkF mM 325 #[vI nn, vR c] [(.int (2 : Int32)), (.ref c), (.int (2 : Int32)), (.ref b398_), (.ref b398_), (.ref b394_), (.ref b394_)])) rfl rfl (hC e9_324.2.1) _ ?_
                    exact kK
                  obtain ⟨cl424_, Ar424_, Sz424_, Nn424_, Hh424_⟩ := id U416_
                  have hin424_ : ¬ ((2 : Int32) < 0 ∨ cl424_.slots.size ≤ ((2 : Int32)).toNatClampNeg) := inb_of Sz424_ ⟨by decide, by decide⟩
                  obtain ⟨T424_, h424_, X424_, e424_, W424_, st424_⟩ := stC X416_ hx hZ e416_ Ar424_ (j := (2 : Int32)) hin424_ (g := (mkF mM 326 #[vI nn, vR c] [(.int (fc (2 : Int32))), (.int (2 : Int32)), (.ref b398_), (.ref b398_), (.ref b394_), (.ref b394_)])) rfl rfl (hC e9_324.2.2.1)
                  have U424_ : own_T Z h424_ b398_ .char (8 : Int32) (own_up (own_up (own_up (fun _ => (0 : Int32)) (0 : Int32) (nar .char (fc (0 : Int32)))) (1 : Int32) (nar .char (fc (1 : Int32)))) (2 : Int32) (nar .char (fc (2 : Int32)))) := own_T.set ⟨cl424_, Ar424_, Sz424_, Nn424_, Hh424_⟩ W424_ ⟨by decide, by decide⟩
                  have fc425_ := fc417_.wr W424_ ge_b398_
                  have fc426_ := fc418_.other W424_ ne399_
                  have fc427_ := fc419_.wr W424_
                  have fc428_ := fc420_.other W424_ (Or.inl ne400_)
                  have fc429_ := fc421_.other W424_ (Or.inl ne400_)
                  have sw424_ : Safe Z own_EL sS.vm h416_ b398_ := (own_T.safe (EL := own_EL) hZ.alike U416_ (by decide))
                  have Cs424_ : CHr Z own_EL sS.vm h416_ sS.vm h424_ := CHr.wr W424_ sw424_ CH416_.1
                  have sf430_ := Safe.wr W424_ sw424_ CH416_.1 sf422_
                  have CH424_ := CH416_.trans Cs424_
                  have hk424_ := Nat.le_trans hk416_ Cs424_.2.1
                  have K424_ := K416_.wr W424_ (Or.inr sz_b398_)
                  have N424_ := Fr.snoc X424_ N416_ ge_b398_
                  refine own_fin st424_ ?_
                  refine jg T424_ mM 331 #[vI nn, vR c] [(.int (3 : Int32)), (.ref c), (.int (3 : Int32)), (.ref b398_), (.ref b398_), (.ref b394_), (.ref b394_)] (fun tT kK => ?_) ?_
                  · refine XS.dup X424_.here hx rfl (hC e9_324.2.2.2) rfl rfl ?_
                    refine XS.iconst X424_.here hx rfl (hC e9_328.1) ?_
                    refine XS.aloadN X424_.here hx rfl (hC e9_328.2.1) rfl rfl ?_
                    refine XS.iconst X424_.here hx rfl (hC e9_328.2.2.1) ?_
                    exact kK
                  obtain ⟨cl431_, Ar431_, Sz431_, Nn431_, Hh431_⟩ := id fc426_
                  have hin431_ : ¬ ((3 : Int32) < 0 ∨ cl431_.slots.size ≤ ((3 : Int32)).toNatClampNeg) := inb_of Sz431_ ⟨by decide, by decide⟩
                  have hat431_ : cl431_.slots[((3 : Int32)).toNatClampNeg]? = some (.int (fc (3 : Int32))) := Hh431_ _ hin431_
                  refine jg T424_ mM 332 #[vI nn, vR c] [(.int (fc (3 : Int32))), (.int (3 : Int32)), (.ref b398_), (.ref b398_), (.ref b394_), (.ref b394_)] (fun tT kK => ?_) ?_
                  · refine X424_.caload hx (j := (3 : Int32)) (v := (.int (fc (3 : Int32)))) (own_rw e424_ Ar431_.1) (State.isArrayOf_alike hZ.alike Ar431_.2.1) Ar431_.2.2 hin431_ hat431_ (g := (mkF mM 331 #[vI nn, vR c] [(.int (3 : Int32)), (.ref c), (.int (3 : Int32)), (.ref b398_), (.ref b398_), (.ref b394_), (.ref b394_)])) rfl rfl (hC e9_328.2.2.2) _ ?_
                    exact kK
                  obtain ⟨cl432_, Ar432_, Sz432_, Nn432_, Hh432_⟩ := id U424_
                  have hin432_ : ¬ ((3 : Int32) < 0 ∨ cl432_.slots.size ≤ ((3 : Int32)).toNatClampNeg) := inb_of Sz432_ ⟨by decide, by decide⟩
                  obtain ⟨T432_, h432_, X432_, e432_, W432_, st432_⟩ := stC X424_ hx hZ e424_ Ar432_ (j := (3 : Int32)) hin432_ (g := (mkF mM 332 #[vI nn, vR c] [(.int (fc (3 : Int32))), (.int (3 : Int32)), (.ref b398_), (.ref b398_), (.ref b394_), (.ref b394_)])) rfl rfl (hC e9_332.1)
                  have U432_ : own_T Z h432_ b398_ .char (8 : Int32) (own_up (own_up (own_up (own_up (fun _ => (0 : Int32)) (0 : Int32) (nar .char (fc (0 : Int32)))) (1 : Int32) (nar .char (fc (1 : Int32)))) (2 : Int32) (nar .char (fc (2 : Int32)))) (3 : Int32) (nar .char (fc (3 : Int32)))) := own_T.set ⟨cl432_, Ar432_, Sz432_, Nn432_, Hh432_⟩ W432_ ⟨by decide, by decide⟩
                  have fc433_ := fc425_.wr W432_ ge_b398_
                  have fc434_ := fc426_.other W432_ ne399_
                  have fc435_ := fc427_.wr W432_
                  have fc436_ := fc428_.other W432_ (Or.inl ne400_)
                  have fc437_ := fc429_.other W432_ (Or.inl ne400_)
                  have sw432_ : Safe Z own_EL sS.vm h424_ b398_ := (own_T.safe (EL := own_EL) hZ.alike U424_ (by decide))
                  have Cs432_ : CHr Z own_EL sS.vm h424_ sS.vm h432_ := CHr.wr W432_ sw432_ CH424_.1
                  have sf438_ := Safe.wr W432_ sw432_ CH424_.1 sf430_
                  have CH432_ := CH424_.trans Cs432_
                  have hk432_ := Nat.le_trans hk424_ Cs432_.2.1
                  have K432_ := K424_.wr W432_ (Or.inr sz_b398_)
                  have N432_ := Fr.snoc X432_ N424_ ge_b398_
                  refine own_fin st432_ ?_
                  refine jg T432_ mM 337 #[vI nn, vR c] [(.int (4 : Int32)), (.ref c), (.int (4 : Int32)), (.ref b398_), (.ref b398_), (.ref b394_), (.ref b394_)] (fun tT kK => ?_) ?_
                  · refine XS.dup X432_.here hx rfl (hC e9_332.2.1) rfl rfl ?_
                    refine XS.iconst X432_.here hx rfl (hC e9_332.2.2.1) ?_
                    refine XS.aloadN X432_.here hx rfl (hC e9_332.2.2.2) rfl rfl ?_
                    refine XS.iconst X432_.here hx rfl (hC e9_336.1) ?_
                    exact kK
                  obtain ⟨cl439_, Ar439_, Sz439_, Nn439_, Hh439_⟩ := id fc434_
                  have hin439_ : ¬ ((4 : Int32) < 0 ∨ cl439_.slots.size ≤ ((4 : Int32)).toNatClampNeg) := inb_of Sz439_ ⟨by decide, by decide⟩
                  have hat439_ : cl439_.slots[((4 : Int32)).toNatClampNeg]? = some (.int (fc (4 : Int32))) := Hh439_ _ hin439_
                  refine jg T432_ mM 338 #[vI nn, vR c] [(.int (fc (4 : Int32))), (.int (4 : Int32)), (.ref b398_), (.ref b398_), (.ref b394_), (.ref b394_)] (fun tT kK => ?_) ?_
                  · refine X432_.caload hx (j := (4 : Int32)) (v := (.int (fc (4 : Int32)))) (own_rw e432_ Ar439_.1) (State.isArrayOf_alike hZ.alike Ar439_.2.1) Ar439_.2.2 hin439_ hat439_ (g := (mkF mM 337 #[vI nn, vR c] [(.int (4 : Int32)), (.ref c), (.int (4 : Int32)), (.ref b398_), (.ref b398_), (.ref b394_), (.ref b394_)])) rfl rfl (hC e9_336.2.1) _ ?_
                    exact kK
                  obtain ⟨cl440_, Ar440_, Sz440_, Nn440_, Hh440_⟩ := id U432_
                  have hin440_ : ¬ ((4 : Int32) < 0 ∨ cl440_.slots.size ≤ ((4 : Int32)).toNatClampNeg) := inb_of Sz440_ ⟨by decide, by decide⟩
                  obtain ⟨T440_, h440_, X440_, e440_, W440_, st440_⟩ := stC X432_ hx hZ e432_ Ar440_ (j := (4 : Int32)) hin440_ (g := (mkF mM 338 #[vI nn, vR c] [(.int (fc (4 : Int32))), (.int (4 : Int32)), (.ref b398_), (.ref b398_), (.ref b394_), (.ref b394_)])) rfl rfl (hC e9_336.2.2.1)
                  have U440_ : own_T Z h440_ b398_ .char (8 : Int32) (own_up (own_up (own_up (own_up (own_up (fun _ => (0 : Int32)) (0 : Int32) (nar .char (fc (0 : Int32)))) (1 : Int32) (nar .char (fc (1 : Int32)))) (2 : Int32) (nar .char (fc (2 : Int32)))) (3 : Int32) (nar .char (fc (3 : Int32)))) (4 : Int32) (nar .char (fc (4 : Int32)))) := own_T.set ⟨cl440_, Ar440_, Sz440_, Nn440_, Hh440_⟩ W440_ ⟨by decide, by decide⟩
                  have fc441_ := fc433_.wr W440_ ge_b398_
                  have fc442_ := fc434_.other W440_ ne399_
                  have fc443_ := fc435_.wr W440_
                  have fc444_ := fc436_.other W440_ (Or.inl ne400_)
                  have fc445_ := fc437_.other W440_ (Or.inl ne400_)
                  have sw440_ : Safe Z own_EL sS.vm h432_ b398_ := (own_T.safe (EL := own_EL) hZ.alike U432_ (by decide))
                  have Cs440_ : CHr Z own_EL sS.vm h432_ sS.vm h440_ := CHr.wr W440_ sw440_ CH432_.1
                  have sf446_ := Safe.wr W440_ sw440_ CH432_.1 sf438_
                  have CH440_ := CH432_.trans Cs440_
                  have hk440_ := Nat.le_trans hk432_ Cs440_.2.1
                  have K440_ := K432_.wr W440_ (Or.inr sz_b398_)
                  have N440_ := Fr.snoc X440_ N432_ ge_b398_
                  refine own_fin st440_ ?_
                  refine jg T440_ mM 343 #[vI nn, vR c] [(.int (5 : Int32)), (.ref c), (.int (5 : Int32)), (.ref b398_), (.ref b398_), (.ref b394_), (.ref b394_)] (fun tT kK => ?_) ?_
                  · refine XS.dup X440_.here hx rfl (hC e9_336.2.2.2) rfl rfl ?_
                    refine XS.iconst X440_.here hx rfl (hC e9_340.1) ?_
                    refine XS.aloadN X440_.here hx rfl (hC e9_340.2.1) rfl rfl ?_
                    refine XS.iconst X440_.here hx rfl (hC e9_340.2.2.1) ?_
                    exact kK
                  obtain ⟨cl447_, Ar447_, Sz447_, Nn447_, Hh447_⟩ := id fc442_
                  have hin447_ : ¬ ((5 : Int32) < 0 ∨ cl447_.slots.size ≤ ((5 : Int32)).toNatClampNeg) := inb_of Sz447_ ⟨by decide, by decide⟩
                  have hat447_ : cl447_.slots[((5 : Int32)).toNatClampNeg]? = some (.int (fc (5 : Int32))) := Hh447_ _ hin447_
                  refine jg T440_ mM 344 #[vI nn, vR c] [(.int (fc (5 : Int32))), (.int (5 : Int32)), (.ref b398_), (.ref b398_), (.ref b394_), (.ref b394_)] (fun tT kK => ?_) ?_
                  · refine X440_.caload hx (j := (5 : Int32)) (v := (.int (fc (5 : Int32)))) (own_rw e440_ Ar447_.1) (State.isArrayOf_alike hZ.alike Ar447_.2.1) Ar447_.2.2 hin447_ hat447_ (g := (mkF mM 343 #[vI nn, vR c] [(.int (5 : Int32)), (.ref c), (.int (5 : Int32)), (.ref b398_), (.ref b398_), (.ref b394_), (.ref b394_)])) rfl rfl (hC e9_340.2.2.2) _ ?_
                    exact kK
                  obtain ⟨cl448_, Ar448_, Sz448_, Nn448_, Hh448_⟩ := id U440_
                  have hin448_ : ¬ ((5 : Int32) < 0 ∨ cl448_.slots.size ≤ ((5 : Int32)).toNatClampNeg) := inb_of Sz448_ ⟨by decide, by decide⟩
                  obtain ⟨T448_, h448_, X448_, e448_, W448_, st448_⟩ := stC X440_ hx hZ e440_ Ar448_ (j := (5 : Int32)) hin448_ (g := (mkF mM 344 #[vI nn, vR c] [(.int (fc (5 : Int32))), (.int (5 : Int32)), (.ref b398_), (.ref b398_), (.ref b394_), (.ref b394_)])) rfl rfl (hC e9_344.1)
                  have U448_ : own_T Z h448_ b398_ .char (8 : Int32) (own_up (own_up (own_up (own_up (own_up (own_up (fun _ => (0 : Int32)) (0 : Int32) (nar .char (fc (0 : Int32)))) (1 : Int32) (nar .char (fc (1 : Int32)))) (2 : Int32) (nar .char (fc (2 : Int32)))) (3 : Int32) (nar .char (fc (3 : Int32)))) (4 : Int32) (nar .char (fc (4 : Int32)))) (5 : Int32) (nar .char (fc (5 : Int32)))) := own_T.set ⟨cl448_, Ar448_, Sz448_, Nn448_, Hh448_⟩ W448_ ⟨by decide, by decide⟩
                  have fc449_ := fc441_.wr W448_ ge_b398_
                  have fc450_ := fc442_.other W448_ ne399_
                  have fc451_ := fc443_.wr W448_
                  have fc452_ := fc444_.other W448_ (Or.inl ne400_)
                  have fc453_ := fc445_.other W448_ (Or.inl ne400_)
                  have sw448_ : Safe Z own_EL sS.vm h440_ b398_ := (own_T.safe (EL := own_EL) hZ.alike U440_ (by decide))
                  have Cs448_ : CHr Z own_EL sS.vm h440_ sS.vm h448_ := CHr.wr W448_ sw448_ CH440_.1
                  have sf454_ := Safe.wr W448_ sw448_ CH440_.1 sf446_
                  have CH448_ := CH440_.trans Cs448_
                  have hk448_ := Nat.le_trans hk440_ Cs448_.2.1
                  have K448_ := K440_.wr W448_ (Or.inr sz_b398_)
                  have N448_ := Fr.snoc X448_ N440_ ge_b398_
                  refine own_fin st448_ ?_
                  refine jg T448_ mM 351 #[vI nn, vR c] [(.int (6 : Int32)), (.ref c), (.int (6 : Int32)), (.ref b398_), (.ref b398_), (.ref b394_), (.ref b394_)] (fun tT kK => ?_) ?_
                  · refine XS.dup X448_.here hx rfl (hC e9_344.2.1) rfl rfl ?_
                    refine XS.bipush X448_.here hx rfl (hC e9_344.2.2.1) ?_
                    refine XS.aloadN X448_.here hx rfl (hC e9_344.2.2.2) rfl rfl ?_
                    refine XS.bipush X448_.here hx rfl (hC e9_349.1) ?_
                    exact kK
                  obtain ⟨cl455_, Ar455_, Sz455_, Nn455_, Hh455_⟩ := id fc450_
                  have hin455_ : ¬ ((6 : Int32) < 0 ∨ cl455_.slots.size ≤ ((6 : Int32)).toNatClampNeg) := inb_of Sz455_ ⟨by decide, by decide⟩
                  have hat455_ : cl455_.slots[((6 : Int32)).toNatClampNeg]? = some (.int (fc (6 : Int32))) := Hh455_ _ hin455_
                  refine jg T448_ mM 352 #[vI nn, vR c] [(.int (fc (6 : Int32))), (.int (6 : Int32)), (.ref b398_), (.ref b398_), (.ref b394_), (.ref b394_)] (fun tT kK => ?_) ?_
                  · refine X448_.caload hx (j := (6 : Int32)) (v := (.int (fc (6 : Int32)))) (own_rw e448_ Ar455_.1) (State.isArrayOf_alike hZ.alike Ar455_.2.1) Ar455_.2.2 hin455_ hat455_ (g := (mkF mM 351 #[vI nn, vR c] [(.int (6 : Int32)), (.ref c), (.int (6 : Int32)), (.ref b398_), (.ref b398_), (.ref b394_), (.ref b394_)])) rfl rfl (hC e9_349.2.1) _ ?_
                    exact kK
                  obtain ⟨cl456_, Ar456_, Sz456_, Nn456_, Hh456_⟩ := id U448_
                  have hin456_ : ¬ ((6 : Int32) < 0 ∨ cl456_.slots.size ≤ ((6 : Int32)).toNatClampNeg) := inb_of Sz456_ ⟨by decide, by decide⟩
                  obtain ⟨T456_, h456_, X456_, e456_, W456_, st456_⟩ := stC X448_ hx hZ e448_ Ar456_ (j := (6 : Int32)) hin456_ (g := (mkF mM 352 #[vI nn, vR c] [(.int (fc (6 : Int32))), (.int (6 : Int32)), (.ref b398_), (.ref b398_), (.ref b394_), (.ref b394_)])) rfl rfl (hC e9_349.2.2.1)
                  have U456_ : own_T Z h456_ b398_ .char (8 : Int32) (own_up (own_up (own_up (own_up (own_up (own_up (own_up (fun _ => (0 : Int32)) (0 : Int32) (nar .char (fc (0 : Int32)))) (1 : Int32) (nar .char (fc (1 : Int32)))) (2 : Int32) (nar .char (fc (2 : Int32)))) (3 : Int32) (nar .char (fc (3 : Int32)))) (4 : Int32) (nar .char (fc (4 : Int32)))) (5 : Int32) (nar .char (fc (5 : Int32)))) (6 : Int32) (nar .char (fc (6 : Int32)))) := own_T.set ⟨cl456_, Ar456_, Sz456_, Nn456_, Hh456_⟩ W456_ ⟨by decide, by decide⟩
                  have fc457_ := fc449_.wr W456_ ge_b398_
                  have fc458_ := fc450_.other W456_ ne399_
                  have fc459_ := fc451_.wr W456_
                  have fc460_ := fc452_.other W456_ (Or.inl ne400_)
                  have fc461_ := fc453_.other W456_ (Or.inl ne400_)
                  have sw456_ : Safe Z own_EL sS.vm h448_ b398_ := (own_T.safe (EL := own_EL) hZ.alike U448_ (by decide))
                  have Cs456_ : CHr Z own_EL sS.vm h448_ sS.vm h456_ := CHr.wr W456_ sw456_ CH448_.1
                  have sf462_ := Safe.wr W456_ sw456_ CH448_.1 sf454_
                  have CH456_ := CH448_.trans Cs456_
                  have hk456_ := Nat.le_trans hk448_ Cs456_.2.1
                  have K456_ := K448_.wr W456_ (Or.inr sz_b398_)
                  have N456_ := Fr.snoc X456_ N448_ ge_b398_
                  refine own_fin st456_ ?_
                  refine jg T456_ mM 359 #[vI nn, vR c] [(.int (7 : Int32)), (.ref c), (.int (7 : Int32)), (.ref b398_), (.ref b398_), (.ref b394_), (.ref b394_)] (fun tT kK => ?_) ?_
                  · refine XS.dup X456_.here hx rfl (hC e9_349.2.2.2) rfl rfl ?_
                    refine XS.bipush X456_.here hx rfl (hC e9_354.1) ?_
                    refine XS.aloadN X456_.here hx rfl (hC e9_354.2.1) rfl rfl ?_
                    refine XS.bipush X456_.here hx rfl (hC e9_354.2.2.1) ?_
                    exact kK
                  obtain ⟨cl463_, Ar463_, Sz463_, Nn463_, Hh463_⟩ := id fc458_
                  have hin463_ : ¬ ((7 : Int32) < 0 ∨ cl463_.slots.size ≤ ((7 : Int32)).toNatClampNeg) := inb_of Sz463_ ⟨by decide, by decide⟩
                  have hat463_ : cl463_.slots[((7 : Int32)).toNatClampNeg]? = some (.int (fc (7 : Int32))) := Hh463_ _ hin463_
                  refine jg T456_ mM 360 #[vI nn, vR c] [(.int (fc (7 : Int32))), (.int (7 : Int32)), (.ref b398_), (.ref b398_), (.ref b394_), (.ref b394_)] (fun tT kK => ?_) ?_
                  · refine X456_.caload hx (j := (7 : Int32)) (v := (.int (fc (7 : Int32)))) (own_rw e456_ Ar463_.1) (State.isArrayOf_alike hZ.alike Ar463_.2.1) Ar463_.2.2 hin463_ hat463_ (g := (mkF mM 359 #[vI nn, vR c] [(.int (7 : Int32)), (.ref c), (.int (7 : Int32)), (.ref b398_), (.ref b398_), (.ref b394_), (.ref b394_)])) rfl rfl (hC e9_354.2.2.2) _ ?_
                    exact kK
                  obtain ⟨cl464_, Ar464_, Sz464_, Nn464_, Hh464_⟩ := id U456_
                  have hin464_ : ¬ ((7 : Int32) < 0 ∨ cl464_.slots.size ≤ ((7 : Int32)).toNatClampNeg) := inb_of Sz464_ ⟨by decide, by decide⟩
                  obtain ⟨T464_, h464_, X464_, e464_, W464_, st464_⟩ := stC X456_ hx hZ e456_ Ar464_ (j := (7 : Int32)) hin464_ (g := (mkF mM 360 #[vI nn, vR c] [(.int (fc (7 : Int32))), (.int (7 : Int32)), (.ref b398_), (.ref b398_), (.ref b394_), (.ref b394_)])) rfl rfl (hC e9_360.1)
                  have U464_ : own_T Z h464_ b398_ .char (8 : Int32) (own_up (own_up (own_up (own_up (own_up (own_up (own_up (own_up (fun _ => (0 : Int32)) (0 : Int32) (nar .char (fc (0 : Int32)))) (1 : Int32) (nar .char (fc (1 : Int32)))) (2 : Int32) (nar .char (fc (2 : Int32)))) (3 : Int32) (nar .char (fc (3 : Int32)))) (4 : Int32) (nar .char (fc (4 : Int32)))) (5 : Int32) (nar .char (fc (5 : Int32)))) (6 : Int32) (nar .char (fc (6 : Int32)))) (7 : Int32) (nar .char (fc (7 : Int32)))) := own_T.set ⟨cl464_, Ar464_, Sz464_, Nn464_, Hh464_⟩ W464_ ⟨by decide, by decide⟩
                  have fc465_ := fc457_.wr W464_ ge_b398_
                  have fc467_ := fc459_.wr W464_
                  have fc468_ := fc460_.other W464_ (Or.inl ne400_)
                  have fc469_ := fc461_.other W464_ (Or.inl ne400_)
                  have sw464_ : Safe Z own_EL sS.vm h456_ b398_ := (own_T.safe (EL := own_EL) hZ.alike U456_ (by decide))
                  have Cs464_ : CHr Z own_EL sS.vm h456_ sS.vm h464_ := CHr.wr W464_ sw464_ CH456_.1
                  have sf470_ := Safe.wr W464_ sw464_ CH456_.1 sf462_
                  have CH464_ := CH456_.trans Cs464_
                  have hk464_ := Nat.le_trans hk456_ Cs464_.2.1
                  have K464_ := K456_.wr W464_ (Or.inr sz_b398_)
                  have N464_ := Fr.snoc X464_ N456_ ge_b398_
                  refine own_fin st464_ ?_
                  have sk471_ : ∀ x ∈ ([b394_] : List Addr), Safe Z own_EL sS.vm h464_ x := (sfS sf470_ sf0)
                  refine own_sb X464_ hx hZ (y := jy11) rfl hown (jk hw 54 rfl) (jk hw 55 rfl) (jk hw 56 rfl) (jk hw 2 rfl) (rm_str lL Z a0 hw [] b394_ b398_ (8 : Int32) (own_up (own_up (own_up (own_up (own_up (own_up (own_up (own_up (fun _ => (0 : Int32)) (0 : Int32) (nar .char (fc (0 : Int32)))) (1 : Int32) (nar .char (fc (1 : Int32)))) (2 : Int32) (nar .char (fc (2 : Int32)))) (3 : Int32) (nar .char (fc (3 : Int32)))) (4 : Int32) (nar .char (fc (4 : Int32)))) (5 : Int32) (nar .char (fc (5 : Int32)))) (6 : Int32) (nar .char (fc (6 : Int32)))) (7 : Int32) (nar .char (fc (7 : Int32)))) cs h464_ n0 (Nat.le_trans Z0 K464_.1) fc465_ Scs ncs fc467_ fc468_ fc469_ ge_b394_ U464_ (fun j _ => (own_upB (own_upB (own_upB (own_upB (own_upB (own_upB (own_upB (own_upB own_z0 (own_ncb (hb _))) (own_ncb (hb _))) (own_ncb (hb _))) (own_ncb (hb _))) (own_ncb (hb _))) (own_ncb (hb _))) (own_ncb (hb _))) (own_ncb (hb _))) j) (by decide) (by decide) (Ne.symm ne400_)) (a := b394_) e464_ own_pd12 [(.ref b398_)] [(.ref b394_)] (hC e9_360.2.1) rfl rfl (by rw [hml]; rfl) (by decide) 1 (Nat.le_of_eq rfl) (by decide) (by decide) (by decide : 2 + 1 ≤ _) (by decide : 12 + 8 ≤ _) fun vv472_ T472_ L472_ X472_ hQ472_ => ?_
                  obtain ⟨b_472_, rfl, N472_q, p472__0, p472__1, p472__2, p472__3, p472__4, p472__5⟩ := hQ472_
                  have N472_ := Fr.app N464_ N472_q
                  have K472_ := K464_.trans p472__0 (allS (Or.inr sz_b394_) all0)
                  have Cs472_ : CHr Z own_EL sS.vm h464_ sS.vm T472_.heap := CHr.keep p472__0 sk471_ CH464_.1
                  have sf480_ := Safe.keep p472__0 sk471_ CH464_.1 sf470_
                  have CH472_ := CH464_.trans Cs472_
                  have hk472_ := Nat.le_trans hk464_ Cs472_.2.1
                  obtain ⟨fs, hr, hrun, hended, hE1, hE2, hE3, hE4⟩ := X472_.leaveW hS0 (own_hk rfl hk472_) (v := some (.ref b394_)) (fun h => by rw [Bd.returns] at h; cases h)
                  refine ⟨_, _, ?_, hrun, hended, _, _, rfl, ?_, own_CHe (T := T472_) (vm1 := T472_.vm) hh rfl (CH472_.trans (CHv.at X472_ hZ (own_EW hw) CH472_.1)), hE1, hE2, hE3, hE4.mono (by decide) (by decide)⟩
                  · show Steps pP.tables eE below (T472_.setTop (mkF mM 364 #[vI nn, vR c] [(.ref b394_)])) _
                    exact retOut X472_ hx Bd.returns rfl (Or.inr (Or.inr (Or.inr (Or.inr ⟨rfl, rfl, rfl⟩)))) (hC e9_360.2.2.1) hr
                  · show Q_rm_strn Z c nn fc cs h0 n0 _ T472_.heap _
                    exact ⟨b394_, b_472_, (8 : Int32), (fun j => ((own_up (own_up (own_up (own_up (own_up (own_up (own_up (own_up (fun _ => (0 : Int32)) (0 : Int32) (nar .char (fc (0 : Int32)))) (1 : Int32) (nar .char (fc (1 : Int32)))) (2 : Int32) (nar .char (fc (2 : Int32)))) (3 : Int32) (nar .char (fc (3 : Int32)))) (4 : Int32) (nar .char (fc (4 : Int32)))) (5 : Int32) (nar .char (fc (5 : Int32)))) (6 : Int32) (nar .char (fc (6 : Int32)))) (7 : Int32) (nar .char (fc (7 : Int32)))) j).toInt8.toInt32), rfl, N472_, K472_, sz_b394_, p472__2, p472__3, p472__4, p472__5⟩
  · refine jg s₁ mM 4 #[vI nn, vR c] [] (fun tT kK => ?_) ?_
    · refine XS.ifNo X0.here hx rfl (hC e9_0.2.1) rfl ((if0 _ _).trans (flt (hc1_1_ : ¬ ((0 : Int32) < nn))).2.2.1) ?_
      exact kK
    obtain ⟨T481_, h481_, X481_, e481_, E481_, A481_, D481_, -, st481_⟩ := newO X0 hx hZ hown (jk hw 53 rfl) (jk hw 3 rfl) (jk hw 2 rfl) e0 (g := (mkF mM 4 #[vI nn, vR c] [])) rfl (hC e9_360.2.2.2) (by decide) (by decide)
    obtain ⟨b481_, g481_⟩ : ∃ z, z = h0.size := ⟨_, rfl⟩
    rw [← g481_] at A481_ D481_ st481_
    have sz_b481_ : h0.size ≤ b481_ := Nat.le_trans K0.1 (Nat.le_of_eq g481_.symm)
    have ge_b481_ : n0 ≤ b481_ := Nat.le_trans Z0 sz_b481_
    have Cs481_ : CHr Z own_EL sS.vm h0 sS.vm h481_ := CHr.ext E481_ CH0.1
    have CH481_ := CH0.trans Cs481_
    have hk481_ := Nat.le_trans hk0 Cs481_.2.1
    have K481_ := K0.ext E481_
    have sf481_ : Safe Z own_EL sS.vm h481_ b481_ := Safe.ext E481_ CH0.1 (Safe.new (Nat.le_of_eq g481_.symm))
    have F481__value : jF1 Z h481_ b481_ .null := D481_ (Or.inr (jk hw 5 rfl)) (ty := (.array .byte)) (by decide)
    have F481__coder : jF0 Z h481_ b481_ (.int (0 : Int32)) := D481_ (Or.inr (jk hw 6 rfl)) (ty := .byte) (by decide)
    refine own_fin st481_ ?_
    refine jg T481_ mM 9 #[vI nn, vR c] [(.int (0 : Int32)), (.ref b481_), (.ref b481_)] (fun tT kK => ?_) ?_
    · refine XS.dup X481_.here hx rfl (hC e9_7.1) rfl rfl ?_
      refine XS.iconst X481_.here hx rfl (hC e9_7.2.1) ?_
      exact kK
    obtain ⟨T485_, h485_, k485_, X485_, e485_, E485_, A485_, st485_⟩ := newP X481_ hx hZ (jk hw 9 rfl) e481_ (g := (mkF mM 9 #[vI nn, vR c] [(.int (0 : Int32)), (.ref b481_), (.ref b481_)])) rfl (hC e9_7.2.2.1) rfl (by decide) (cap := 0) (by decide) (by decide) (by decide) (by decide)
    obtain ⟨b485_, g485_⟩ : ∃ z, z = h481_.size := ⟨_, rfl⟩
    rw [← g485_] at A485_ st485_
    have ne487_ : b481_ ≠ b485_ := Nat.ne_of_lt (Nat.lt_of_lt_of_le A481_.lt (Nat.le_of_eq g485_.symm))
    have fc490_ := A481_.ext E485_
    have fc491_ := F481__value.ext E485_
    have fc492_ := F481__coder.ext E485_
    have Cs485_ : CHr Z own_EL sS.vm h481_ sS.vm h485_ := CHr.ext E485_ CH481_.1
    have sf493_ := Safe.ext E485_ CH481_.1 sf481_
    have CH485_ := CH481_.trans Cs485_
    have hk485_ := Nat.le_trans hk481_ Cs485_.2.1
    have K485_ := K481_.ext E485_
    have V485_ : own_T Z h485_ b485_ .char (0 : Int32) (fun _ => (0 : Int32)) := own_T.new A485_ (by decide) rfl
    refine own_fin st485_ ?_
    obtain ⟨_, _, ⟨T494_, L494_, k494_, n494_⟩, -, Xa494_, hSa494_, hga494_, ⟨Lc494_, hQ494_, l494_, y494_, z494_, hC494_⟩, st494_⟩ := X485_.specialBackS hx (y := jy11) rfl hown (jm hZ hw 54 rfl) (jm hZ hw 55 rfl) (jm hZ hw 56 rfl) (by decide) (own_backSY (W := 1) (rm_e0 lL Z a0 hw [] b481_ b485_ (fun _ => (0 : Int32)) h485_ n0 (Nat.le_trans Z0 K485_.1) fc490_ fc491_ fc492_ ge_b481_ V485_ (Ne.symm ne487_)) hZ (jk hw 56 rfl) (jk hw 2 rfl) (by decide) (by decide) (own_EW hw) CH485_.1 (own_yS fc490_.lt sf493_ own_y0)) (g := (mkF mM 11 #[vI nn, vR c] [(.ref b485_), (.ref b481_), (.ref b481_)])) rfl (by rw [hml]; rfl) (Steps.refl _) (a := b481_) (argsL := [(.ref b485_)]) (rest := [(.ref b481_)]) (lenOf own_pd12 rfl) rfl (by show 2 * 0 + _ ≤ _; exact Nat.le_of_eq rfl) (hC e9_7.2.2.2) (fun _ _ => ⟨rfl, e485_, (by decide : 2 + 4 ≤ _), (by decide : 4 + 8 ≤ _)⟩)
    dsimp only [Pt.U, Pt.locs, Pt.cells, Pt.slots] at Xa494_ hSa494_ hga494_ l494_ y494_ z494_ st494_ hQ494_ hC494_
    subst l494_ y494_ z494_
    obtain ⟨X494_, hS494_, hZ, hown⟩ := rebS hS0 (own_hk e485_ hk485_) Xa494_ hSa494_ hga494_ hZ hown
    obtain ⟨t'_494_, rfl, N494_q, p494__0, p494__1, p494__2, p494__3, p494__4⟩ := hQ494_
    have N494_ := Fr.app N0 N494_q
    have sf495_ := hC494_.safe fc490_.lt sf493_
    have K494_ := K485_.trans p494__0 (allS (Or.inr sz_b481_) all0)
    have CH494_ := CH485_.trans hC494_
    have hk494_ : T494_.heap.size ≤ T494_.heap.size := Nat.le_refl _
    refine own_fin (fun tT kK => st494_.trans kK) ?_
    obtain ⟨fs, hr, hrun, hended, hE1, hE2, hE3, hE4⟩ := X494_.leaveW hS494_ (own_hk rfl hk494_) (v := some (.ref b481_)) (fun h => by rw [Bd.returns] at h; cases h)
    refine ⟨_, _, ?_, hrun, hended, _, _, rfl, ?_, own_CHe (T := T494_) (vm1 := T494_.vm) hh rfl (CH494_.trans (CHv.at X494_ hZ (own_EW hw) CH494_.1)), hE1, hE2, hE3, hE4.mono (by decide) (by decide)⟩
    · show Steps pP.tables eE below (T494_.setTop (mkF mM 14 #[vI nn, vR c] [(.ref b481_)])) _
      exact retOut X494_ hx Bd.returns rfl (Or.inr (Or.inr (Or.inr (Or.inr ⟨rfl, rfl, rfl⟩)))) (hC d9_14) hr
    · show Q_rm_strn Z c nn fc cs h0 n0 _ T494_.heap _
      exact ⟨b481_, t'_494_, (0 : Int32), (own_li []), rfl, N494_, K494_, sz_b481_, p494__1, p494__2, p494__3, p494__4⟩
theorem e23_0 : jD16 0 (.aload_n 0, 1) ∧ jD16 1 (.ifnonnull 11, 3) ∧ jD16 12 (.aload_n 0, 1) ∧ jD16 13 (.areturn, 1) := by decide +kernel
theorem own_pn_java_util_Objects : plainName "java/util/Objects" = true := by first | (simp [plainName, overriddenIn]; done) | decide +kernel
theorem own_ef_rm_req (mM : MethodId) (x0 : Addr) : entryFrame mM #[(.ref x0)] 1 = mkF mM 0 #[.val (.ref x0)] [] := by first | (simp [entryFrame, mkF, argsToLocals, Value.category]; done) | rfl
def Q_rm_req (Z : State) (a : Addr) (h0 : Heap) (n0 : Nat) (vV : Option Value) (hH : Heap) (lA : List Loc) : Prop := vV = some (.ref a) ∧ Fr n0 lA ∧ (hH = h0)
set_option maxRecDepth 65536 in
set_option maxHeartbeats 40000000 in
theorem rm_req (lL : Launch) (Z : State) (a0 : Array Value) (hw : own_H a0 Z) (ws : List Jvm.Cond) (a : Addr) (h0 : Heap) (n0 : Nat) (Z0 : n0 ≤ h0.size) :
    own_Met lL jy16 (Jvm.Cond.code jy16 jdk_31_method_10_code 1 (some (.object "java/lang/Object")) :: ws) jr0 #[(.ref a)] Z h0 (Q_rm_req Z a h0 n0) := by
  refine own_begin (plainFor_of_name own_pn_java_util_Objects) (fun mM => own_ef_rm_req mM a) fun pP eE sS mM below meth cC s₁ hx hby hml hZ hown hnm hre hlk X0 e0 => ?_
  have hC := @Jvm.hb _ _ hby
  have N0 := Fr.nil n0
  have K0 := Keep.refl h0 ([] : List Addr)
  refine jg s₁ mM 13 #[vR a] [(.ref a)] (fun tT kK => ?_) ?_
  · refine XS.aloadN X0.here hx rfl (hC e23_0.1) rfl rfl ?_
    refine XS.ifnonnullYes X0.here hx rfl (pc0 := 1) (pc' := 12) rfl (hC e23_0.2.1) rfl (by decide) (by decide) ?_
    refine XS.aloadN X0.here hx rfl (hC e23_0.2.2.1) rfl rfl ?_
    exact kK
  exact own_rr X0 hx hlk hre rfl (Or.inr (Or.inr (Or.inr (Or.inr ⟨rfl, rfl, rfl⟩)))) (hC e23_0.2.2.2) e0 (by decide) (by decide) ⟨rfl, N0, rfl⟩
theorem e24_0 : jD17 0 (.aload_n 0, 1) ∧ jD17 1 (.invokespecial 7, 3) ∧ jD17 4 (.aload_n 0, 1) ∧ jD17 5 (.aload_n 1, 1) := by decide +kernel
theorem e24_6 : jD17 6 (.putfield 13, 3) ∧ jD17 9 (.return_, 1) := by decide +kernel
theorem own_pn_java_util_Optional : plainName "java/util/Optional" = true := by first | (simp [plainName, overriddenIn]; done) | decide +kernel
theorem own_ef_rm_oi (mM : MethodId) (x0 : Addr) (x1 : Addr) : entryFrame mM #[(.ref x0), (.ref x1)] 2 = mkF mM 0 #[.val (.ref x0), .val (.ref x1)] [] := by first | (simp [entryFrame, mkF, argsToLocals, Value.category]; done) | rfl
def Q_rm_oi (Z : State) (a : Addr) (b : Addr) (h0 : Heap) (n0 : Nat) (vV : Option Value) (hH : Heap) (lA : List Loc) : Prop := vV = none ∧ Fr n0 lA ∧ (Keep h0 hH [a]) ∧ (jE1 Z hH a) ∧ (jF2 Z hH a (.ref b))
set_option maxRecDepth 65536 in
set_option maxHeartbeats 40000000 in
theorem rm_oi (lL : Launch) (Z : State) (a0 : Array Value) (hw : own_H a0 Z) (ws : List Jvm.Cond) (a : Addr) (b : Addr) (h0 : Heap) (n0 : Nat) (Z0 : n0 ≤ h0.size) (Ea : jE1 Z h0 a) (Fv : jF2 Z h0 a .null) (ga : n0 ≤ a) :
    own_Met lL jy17 (Jvm.Cond.code jy17 jdk_32_method_2_code 2 none :: ws) jr12 #[(.ref a), (.ref b)] Z h0 (Q_rm_oi Z a b h0 n0) := by
  refine own_begin (plainFor_of_name own_pn_java_util_Optional) (fun mM => own_ef_rm_oi mM a b) fun pP eE sS mM below meth cC s₁ hx hby hml hZ hown hnm hre hlk X0 e0 => ?_
  have hC := @Jvm.hb _ _ hby
  have N0 := Fr.nil n0
  have K0 := Keep.refl h0 [a]
  refine jg s₁ mM 1 #[vR a, vR b] [(.ref a)] (fun tT kK => ?_) ?_
  · refine XS.aloadN X0.here hx rfl (hC e24_0.1) rfl rfl ?_
    exact kK
  obtain ⟨T1_, X1_, e1_, st1_⟩ := initO X0 hx hZ hown (jk hw 139 rfl) (jk hw 62 rfl) (jk hw 63 rfl) e0 (g := (mkF mM 1 #[vR a, vR b] [(.ref a)])) rfl (by rw [hml]; rfl) rfl (hC e24_0.2.1) (by decide) (W := 0) (by show 2 * 0 + _ ≤ _; exact Nat.le_of_eq rfl) (by decide)
  refine own_fin st1_ ?_
  refine jg T1_ mM 6 #[vR a, vR b] [(.ref b), (.ref a)] (fun tT kK => ?_) ?_
  · refine XS.aloadN X1_.here hx rfl (hC e24_0.2.2.1) rfl rfl ?_
    refine XS.aloadN X1_.here hx rfl (hC e24_0.2.2.2) rfl rfl ?_
    exact kK
  obtain ⟨T2_, h2_, X2_, e2_, W2_, st2_⟩ := putF X1_ hx hZ hown (host := "") (Or.inl (jk hw 113 rfl)) Via.refl e1_ Fv Ea (Or.inr ⟨(jk hw 114 rfl), rfl, hnm⟩) (jk hw 130 rfl) (ty := (.object "java/lang/Object")) (by decide) rfl rfl (g := (mkF mM 6 #[vR a, vR b] [(.ref b), (.ref a)])) rfl rfl (hC e24_6.1)
  have Fw2_ := Fv.same W2_
  have fc3_ := Ea.wr W2_
  have K2_ := K0.wr W2_ (Or.inl (List.mem_of_getElem? (i := 0) rfl))
  have N2_ := Fr.snoc X2_ N0 ga
  refine own_fin st2_ ?_
  exact own_rV X2_ hx hlk hre (hC e24_6.2) e2_ (by decide) (by decide) ⟨rfl, N2_, K2_, fc3_, Fw2_⟩
theorem e22_0 : jD18 0 (.new 2, 3) ∧ jD18 3 (.dup, 1) ∧ jD18 4 (.aload_n 0, 1) ∧ jD18 5 (.invokestatic 17, 3) := by decide +kernel
theorem own_pd13 : parseMethodDescriptor "(Ljava/lang/Object;)Ljava/lang/Object;" = some ⟨[(.object "java/lang/Object")], some (.object "java/lang/Object")⟩ := by decide +kernel
theorem d22_8 : jD18 8 (.invokespecial 23, 3) := by decide +kernel
theorem own_pd14 : parseMethodDescriptor "(Ljava/lang/Object;)V" = some ⟨[(.object "java/lang/Object")], none⟩ := by decide +kernel
theorem d22_11 : jD18 11 (.areturn, 1) := by decide +kernel
theorem own_ef_rm_of (mM : MethodId) (x0 : Addr) : entryFrame mM #[(.ref x0)] 1 = mkF mM 0 #[.val (.ref x0)] [] := by first | (simp [entryFrame, mkF, argsToLocals, Value.category]; done) | rfl
def Q_rm_of (Z : State) (b : Addr) (h0 : Heap) (n0 : Nat) (vV : Option Value) (hH : Heap) (lA : List Loc) : Prop := ∃ o : Addr, vV = some (.ref o) ∧ Fr n0 lA ∧ (Keep h0 hH []) ∧ (h0.size ≤ o) ∧ (jE1 Z hH o) ∧ (jF2 Z hH o (.ref b))
set_option maxRecDepth 65536 in
set_option maxHeartbeats 40000000 in
theorem rm_of (lL : Launch) (Z : State) (a0 : Array Value) (hw : own_H a0 Z) (ws : List Jvm.Cond) (b : Addr) (h0 : Heap) (n0 : Nat) (Z0 : n0 ≤ h0.size) :
    own_Met lL jy18 (Jvm.Cond.code jy18 jdk_32_method_3_code 1 (some (.object "java/util/Optional")) :: ws) jr13 #[(.ref b)] Z h0 (Q_rm_of Z b h0 n0) := by
  refine own_begin (plainFor_of_name own_pn_java_util_Optional) (fun mM => own_ef_rm_of mM b) fun pP eE sS mM below meth cC s₁ hx hby hml hZ hown hnm hre hlk X0 e0 => ?_
  have hC := @Jvm.hb _ _ hby
  have N0 := Fr.nil n0
  have K0 := Keep.refl h0 ([] : List Addr)
  obtain ⟨T1_, h1_, X1_, e1_, E1_, A1_, D1_, -, st1_⟩ := newO X0 hx hZ hown (jk hw 129 rfl) (jk hw 130 rfl) (jk hw 105 rfl) e0 (g := (mkF mM 0 #[vR b] [])) rfl (hC e22_0.1) (by decide) (by decide)
  obtain ⟨b1_, g1_⟩ : ∃ z, z = h0.size := ⟨_, rfl⟩
  rw [← g1_] at A1_ D1_ st1_
  have sz_b1_ : h0.size ≤ b1_ := Nat.le_trans K0.1 (Nat.le_of_eq g1_.symm)
  have ge_b1_ : n0 ≤ b1_ := Nat.le_trans Z0 sz_b1_
  have K1_ := K0.ext E1_
  have F1__value : jF2 Z h1_ b1_ .null := D1_ (Or.inr (jk hw 114 rfl)) (ty := (.object "java/lang/Object")) (by decide)
  refine own_fin st1_ ?_
  refine jg T1_ mM 5 #[vR b] [(.ref b), (.ref b1_), (.ref b1_)] (fun tT kK => ?_) ?_
  · refine XS.dup X1_.here hx rfl (hC e22_0.2.1) rfl rfl ?_
    refine XS.aloadN X1_.here hx rfl (hC e22_0.2.2.1) rfl rfl ?_
    exact kK
  refine jc X1_ hx hZ (y := jy16) hown (jk hw 131 rfl) (jk hw 132 rfl) (jk hw 133 rfl) (jk hw 134 rfl) (rm_req lL Z a0 hw [] b h1_ n0 (Nat.le_trans Z0 K1_.1) ) e1_ own_pd13 [(.ref b)] [(.ref b1_), (.ref b1_)] (hC e22_0.2.2.2) rfl rfl (by rw [hml]; rfl) (by decide) 2 (Nat.le_of_eq rfl) (by decide) (by decide) (by decide : 1 + 0 ≤ _) (by decide : 1 + 0 ≤ _) fun vv2_ T2_ L2_ X2_ hQ2_ => ?_
  obtain ⟨rfl, N2_q, p2__0⟩ := hQ2_
  have N2_ := Fr.app N0 N2_q
  refine own_sb X2_ hx hZ (y := jy17) rfl hown (jk hw 135 rfl) (jk hw 136 rfl) (jk hw 138 rfl) (jk hw 105 rfl) (rm_oi lL Z a0 hw [] b1_ b h1_ n0 (Nat.le_trans Z0 K1_.1) A1_ F1__value ge_b1_) (a := b1_) p2__0 own_pd14 [(.ref b)] [(.ref b1_)] (hC d22_8) rfl rfl (by rw [hml]; rfl) (by decide) 1 (Nat.le_of_eq rfl) (by decide) (by decide) (by decide : 1 + 0 ≤ _) (by decide : 1 + 0 ≤ _) fun vv3_ T3_ L3_ X3_ hQ3_ => ?_
  obtain ⟨rfl, N3_q, p3__0, p3__1, p3__2⟩ := hQ3_
  have N3_ := Fr.app N2_ N3_q
  have K3_ := K1_.trans p3__0 (allS (Or.inr sz_b1_) all0)
  exact own_rr X3_ hx hlk hre rfl (Or.inr (Or.inr (Or.inr (Or.inr ⟨rfl, rfl, rfl⟩)))) (hC d22_11) rfl (by decide) (by decide) ⟨b1_, rfl, N3_, K3_, sz_b1_, p3__1, p3__2⟩
theorem e17_0 : jD19 0 (.getstatic 1, 3) ∧ jD19 3 (.astore_n 0, 1) ∧ jD19 4 (.aload_n 0, 1) ∧ jD19 5 (.areturn, 1) := by decide +kernel
theorem own_ef_rm_oe (mM : MethodId)  : entryFrame mM #[] 1 = mkF mM 0 #[.unset] [] := by first | (simp [entryFrame, mkF, argsToLocals, Value.category]; done) | rfl
def Q_rm_oe (Z : State) (em : Addr) (h0 : Heap) (n0 : Nat) (vV : Option Value) (hH : Heap) (lA : List Loc) : Prop := vV = some (.ref em) ∧ Fr n0 lA ∧ (hH = h0)
set_option maxRecDepth 65536 in
set_option maxHeartbeats 40000000 in
theorem rm_oe (lL : Launch) (Z : State) (a0 : Array Value) (hw : own_H a0 Z) (ws : List Jvm.Cond) (em : Addr) (h0 : Heap) (n0 : Nat) (Z0 : n0 ≤ h0.size) (Oo : Old Z n0 h0) (Se : Sta Z Z.heap "java/util/Optional" "EMPTY" "Ljava/util/Optional;" (.ref em)) :
    own_Met lL jy19 (Jvm.Cond.code jy19 jdk_32_method_1_code 1 (some (.object "java/util/Optional")) :: ws) jr0 #[] Z h0 (Q_rm_oe Z em h0 n0) := by
  refine own_begin (plainFor_of_name own_pn_java_util_Optional) (fun mM => own_ef_rm_oe mM ) fun pP eE sS mM below meth cC s₁ hx hby hml hZ hown hnm hre hlk X0 e0 => ?_
  have hC := @Jvm.hb _ _ hby
  have N0 := Fr.nil n0
  have K0 := Keep.refl h0 ([] : List Addr)
  obtain ⟨T1_, X1_, e1_, st1_⟩ := getS2 X0 hx hZ hown (host := "") (Or.inl (jk hw 107 rfl)) Via.refl e0 (own_StaKeep Oo Se) (g := (mkF mM 0 #[vU] [])) rfl (hC e17_0.1)
  refine own_fin st1_ ?_
  refine jg T1_ mM 5 #[vR em] [(.ref em)] (fun tT kK => ?_) ?_
  · refine XS.astoreN X1_.here hx rfl (hC e17_0.2.1) rfl rfl (l' := #[vR em]) rfl ?_
    refine XS.aloadN X1_.here hx rfl (hC e17_0.2.2.1) rfl rfl ?_
    exact kK
  exact own_rr X1_ hx hlk hre rfl (Or.inr (Or.inr (Or.inr (Or.inr ⟨rfl, rfl, rfl⟩)))) (hC e17_0.2.2.2) e1_ (by decide) (by decide) ⟨rfl, N0, rfl⟩
theorem e18_0 : jD20 0 (.aload_n 0, 1) ∧ jD20 1 (.getfield 13, 3) ∧ jD20 4 (.ifnull 10, 3) ∧ jD20 7 (.aload_n 0, 1) := by decide +kernel
theorem e18_8 : jD20 8 (.getfield 13, 3) ∧ jD20 11 (.goto 4, 3) ∧ jD20 15 (.areturn, 1) := by decide +kernel
theorem own_ef_rm_ory (mM : MethodId) (x0 : Addr) : entryFrame mM #[(.ref x0), .null] 2 = mkF mM 0 #[.val (.ref x0), .val .null] [] := by first | (simp [entryFrame, mkF, argsToLocals, Value.category]; done) | rfl
def Q_rm_ory (Z : State) (o : Addr) (b : Addr) (h0 : Heap) (n0 : Nat) (vV : Option Value) (hH : Heap) (lA : List Loc) : Prop := vV = some (.ref b) ∧ Fr n0 lA ∧ (hH = h0)
set_option maxRecDepth 65536 in
set_option maxHeartbeats 40000000 in
theorem rm_ory (lL : Launch) (Z : State) (a0 : Array Value) (hw : own_H a0 Z) (ws : List Jvm.Cond) (o : Addr) (b : Addr) (h0 : Heap) (n0 : Nat) (Z0 : n0 ≤ h0.size) (Fv : jF2 Z h0 o (.ref b)) :
    own_Met lL jy20 (Jvm.Cond.code jy20 jdk_32_method_15_code 2 (some (.object "java/lang/Object")) :: ws) jr0 #[(.ref o), .null] Z h0 (Q_rm_ory Z o b h0 n0) := by
  refine own_begin (plainFor_of_name own_pn_java_util_Optional) (fun mM => own_ef_rm_ory mM o) fun pP eE sS mM below meth cC s₁ hx hby hml hZ hown hnm hre hlk X0 e0 => ?_
  have hC := @Jvm.hb _ _ hby
  have N0 := Fr.nil n0
  have K0 := Keep.refl h0 ([] : List Addr)
  refine jg s₁ mM 1 #[vR o, vN] [(.ref o)] (fun tT kK => ?_) ?_
  · refine XS.aloadN X0.here hx rfl (hC e18_0.1) rfl rfl ?_
    exact kK
  refine jf X0 hx hZ hown (jk hw 113 rfl) e0 Fv (hC e18_0.2.1) fun T1_ X1_ e1_ => ?_
  refine jg T1_ mM 8 #[vR o, vN] [(.ref o)] (fun tT kK => ?_) ?_
  · refine XS.ifnullNo X1_.here hx rfl (hC e18_0.2.2.1) rfl ?_
    refine XS.aloadN X1_.here hx rfl (hC e18_0.2.2.2) rfl rfl ?_
    exact kK
  refine jf X1_ hx hZ hown (jk hw 113 rfl) e1_ Fv (hC e18_8.1) fun T2_ X2_ e2_ => ?_
  refine jg T2_ mM 15 #[vR o, vN] [(.ref b)] (fun tT kK => ?_) ?_
  · refine XS.goto X2_.here hx rfl (pc0 := 11) (pc' := 15) rfl (hC e18_8.2.1) (by decide) (by decide) ?_
    exact kK
  exact own_rr X2_ hx hlk hre rfl (Or.inr (Or.inr (Or.inr (Or.inr ⟨rfl, rfl, rfl⟩)))) (hC e18_8.2.2) e2_ (by decide) (by decide) ⟨rfl, N0, rfl⟩
theorem d18_14 : jD20 14 (.aload_n 1, 1) := by decide +kernel
theorem own_ef_rm_orn (mM : MethodId) (x0 : Addr) : entryFrame mM #[(.ref x0), .null] 2 = mkF mM 0 #[.val (.ref x0), .val .null] [] := by first | (simp [entryFrame, mkF, argsToLocals, Value.category]; done) | rfl
def Q_rm_orn (Z : State) (o : Addr) (h0 : Heap) (n0 : Nat) (vV : Option Value) (hH : Heap) (lA : List Loc) : Prop := vV = some .null ∧ Fr n0 lA ∧ (hH = h0)
set_option maxRecDepth 65536 in
set_option maxHeartbeats 40000000 in
theorem rm_orn (lL : Launch) (Z : State) (a0 : Array Value) (hw : own_H a0 Z) (ws : List Jvm.Cond) (o : Addr) (h0 : Heap) (n0 : Nat) (Z0 : n0 ≤ h0.size) (Fv : jF2 Z h0 o .null) :
    own_Met lL jy20 (Jvm.Cond.code jy20 jdk_32_method_15_code 2 (some (.object "java/lang/Object")) :: ws) jr0 #[(.ref o), .null] Z h0 (Q_rm_orn Z o h0 n0) := by
  refine own_begin (plainFor_of_name own_pn_java_util_Optional) (fun mM => own_ef_rm_orn mM o) fun pP eE sS mM below meth cC s₁ hx hby hml hZ hown hnm hre hlk X0 e0 => ?_
  have hC := @Jvm.hb _ _ hby
  have N0 := Fr.nil n0
  have K0 := Keep.refl h0 ([] : List Addr)
  refine jg s₁ mM 1 #[vR o, vN] [(.ref o)] (fun tT kK => ?_) ?_
  · refine XS.aloadN X0.here hx rfl (hC e18_0.1) rfl rfl ?_
    exact kK
  refine jf X0 hx hZ hown (jk hw 113 rfl) e0 Fv (hC e18_0.2.1) fun T1_ X1_ e1_ => ?_
  refine jg T1_ mM 15 #[vR o, vN] [.null] (fun tT kK => ?_) ?_
  · refine XS.ifnullYes X1_.here hx rfl (pc0 := 4) (pc' := 14) rfl (hC e18_0.2.2.1) rfl (by decide) (by decide) ?_
    refine XS.aloadN X1_.here hx rfl (hC d18_14) rfl rfl ?_
    exact kK
  exact own_rr X1_ hx hlk hre rfl (Or.inr (Or.inr (Or.inr (Or.inr ⟨rfl, rfl, rfl⟩)))) (hC e18_8.2.2) e1_ (by decide) (by decide) ⟨rfl, N0, rfl⟩
theorem e16_0 : jD21 0 (.getstatic 16, 3) ∧ jD21 3 (.invokevirtual 20, 3) ∧ jD21 6 (.checkcast 21, 3) ∧ jD21 9 (.areturn, 1) := by decide +kernel
theorem own_pn_com_example_needlework_needlework_Algorithm : plainName "com/example/needlework/needlework/Algorithm" = true := by first | (simp [plainName, overriddenIn]; done) | decide +kernel
theorem own_ef_rm_val (mM : MethodId)  : entryFrame mM #[] 0 = mkF mM 0 #[] [] := by first | (simp [entryFrame, mkF, argsToLocals, Value.category]; done) | rfl
def Q_rm_val (Z : State) (va : Addr) (u1 : Addr) (u2 : Addr) (u3 : Addr) (u4 : Addr) (kv : ClassId) (h0 : Heap) (n0 : Nat) (vV : Option Value) (hH : Heap) (lA : List Loc) : Prop := ∃ b : Addr, vV = some (.ref b) ∧ Fr n0 lA ∧ (Keep h0 hH []) ∧ (h0.size ≤ b) ∧ (Arv Z hH b kv (.object "com/example/needlework/needlework/Algorithm") (4 : Int32) [(.ref u1), (.ref u2), (.ref u3), (.ref u4)] .null)
set_option maxRecDepth 65536 in
set_option maxHeartbeats 40000000 in
theorem rm_val (lL : Launch) (Z : State) (a0 : Array Value) (hw : own_H a0 Z) (ws : List Jvm.Cond) (va : Addr) (u1 : Addr) (u2 : Addr) (u3 : Addr) (u4 : Addr) (kv : ClassId) (h0 : Heap) (n0 : Nat) (Z0 : n0 ≤ h0.size) (Oo : Old Z n0 h0) (Sv : Sta Z Z.heap "com/example/needlework/needlework/Algorithm" "$VALUES" "[Lcom/example/needlework/needlework/Algorithm;" (.ref va)) (Vv : Arv Z h0 va kv (.object "com/example/needlework/needlework/Algorithm") (4 : Int32) [(.ref u1), (.ref u2), (.ref u3), (.ref u4)] .null) (Ev : jE2 Z h0 va) :
    own_Met lL jy21 (Jvm.Cond.code jy21 prog_1_method_1_code 0 (some (.array (.object "com/example/needlework/needlework/Algorithm"))) :: ws) jr14 #[] Z h0 (Q_rm_val Z va u1 u2 u3 u4 kv h0 n0) := by
  refine own_begin (plainFor_of_name own_pn_com_example_needlework_needlework_Algorithm) (fun mM => own_ef_rm_val mM ) fun pP eE sS mM below meth cC s₁ hx hby hml hZ hown hnm hre hlk X0 e0 => ?_
  have hC := @Jvm.hb _ _ hby
  have N0 := Fr.nil n0
  have K0 := Keep.refl h0 ([] : List Addr)
  obtain ⟨T1_, X1_, e1_, st1_⟩ := getS2 X0 hx hZ hown (host := "") (Or.inl (jk hw 84 rfl)) Via.refl e0 (own_StaKeep Oo Sv) (g := (mkF mM 0 #[] [])) rfl (hC e16_0.1)
  refine own_fin st1_ ?_
  obtain ⟨T2_, h2_, X2_, e2_, E2_, V2_, Ea2_, st2_⟩ := own_cloneV X1_ hx hZ hown (jk hw 86 rfl) (jk hw 87 rfl) (jk hw 91 rfl) (jk hw 89 rfl) (jk hw 90 rfl) (jk hw 92 rfl) e1_ Vv Ev (g := (mkF mM 3 #[] [(.ref va)])) rfl (by rw [hml]; rfl) rfl (hC e16_0.2.1) (by decide) (W := 0) (cap := 4) (by show 2 * 0 + _ ≤ _; exact Nat.le_of_eq rfl) (by decide) (by decide) (by decide) (by decide)
  obtain ⟨b2_, g2_⟩ : ∃ z, z = h0.size := ⟨_, rfl⟩
  rw [← g2_] at V2_ Ea2_ st2_
  have sz_b2_ : h0.size ≤ b2_ := Nat.le_trans K0.1 (Nat.le_of_eq g2_.symm)
  have K2_ := K0.ext E2_
  refine own_fin st2_ ?_
  obtain ⟨T7_, X7_, e7_, st7_⟩ := castY X2_ hx hZ hown (jk hw 98 rfl) e2_ (Ins.self Ea2_) (g := (mkF mM 6 #[] [(.ref b2_)])) rfl rfl (hC e16_0.2.2.1)
  refine own_fin st7_ ?_
  exact own_rr X7_ hx hlk hre rfl (Or.inr (Or.inr (Or.inr (Or.inr ⟨rfl, rfl, rfl⟩)))) (hC e16_0.2.2.2) e7_ (by decide) (by decide) ⟨b2_, rfl, N0, K2_, sz_b2_, V2_⟩
theorem d15_0 : jD22 0 (.invokestatic 43, 3) := by decide +kernel
theorem own_pd15 : parseMethodDescriptor "()[Lcom/example/needlework/needlework/Algorithm;" = some ⟨[], some (.array (.object "com/example/needlework/needlework/Algorithm"))⟩ := by decide +kernel
theorem e15_3 : jD22 3 (.astore_n 1, 1) ∧ jD22 4 (.aload_n 1, 1) ∧ jD22 5 (.arraylength, 1) ∧ jD22 6 (.istore_n 2, 1) := by decide +kernel
theorem e15_7 : jD22 7 (.iconst 0, 1) ∧ jD22 8 (.istore_n 3, 1) ∧ jD22 9 (.iload_n 3, 1) ∧ jD22 10 (.iload_n 2, 1) := by decide +kernel
theorem e15_11 : jD22 11 (.if_icmp .ge 32, 3) ∧ jD22 14 (.aload_n 1, 1) ∧ jD22 15 (.iload_n 3, 1) ∧ jD22 16 (.aaload, 1) := by decide +kernel
theorem e15_17 : jD22 17 (.astore 4, 2) ∧ jD22 19 (.aload 4, 2) ∧ jD22 21 (.getfield 35, 3) ∧ jD22 24 (.aload_n 0, 1) := by decide +kernel
theorem d15_25 : jD22 25 (.invokevirtual 47, 3) := by decide +kernel
theorem own_pd16 : parseMethodDescriptor "(Ljava/lang/Object;)Z" = some ⟨[(.object "java/lang/Object")], some .boolean⟩ := by decide +kernel
theorem e15_28 : jD22 28 (.ifCond .eq 9, 3) ∧ jD22 31 (.aload 4, 2) ∧ jD22 33 (.invokestatic 53, 3) := by decide +kernel
theorem own_pd17 : parseMethodDescriptor "(Ljava/lang/Object;)Ljava/util/Optional;" = some ⟨[(.object "java/lang/Object")], some (.object "java/util/Optional")⟩ := by decide +kernel
theorem d15_36 : jD22 36 (.areturn, 1) := by decide +kernel
theorem own_ef_rm_named0 (mM : MethodId) (x0 : Addr) : entryFrame mM #[(.ref x0)] 5 = mkF mM 0 #[.val (.ref x0), .unset, .unset, .unset, .unset] [] := by first | (simp [entryFrame, mkF, argsToLocals, Value.category]; done) | rfl
def Q_rm_named0 (Z : State) (a : Addr) (t : Addr) (z : Int32) (f : Int32 → Int32) (cs : Int32) (u1 : Addr) (u2 : Addr) (u3 : Addr) (u4 : Addr) (n1 : Addr) (n2 : Addr) (n3 : Addr) (n4 : Addr) (t1 : Addr) (t2 : Addr) (t3 : Addr) (t4 : Addr) (va : Addr) (em : Addr) (kv : ClassId) (h0 : Heap) (n0 : Nat) (vV : Option Value) (hH : Heap) (lA : List Loc) : Prop := ∃ o : Addr, vV = some (.ref o) ∧ Fr n0 lA ∧ (Keep h0 hH []) ∧ (h0.size ≤ o) ∧ (jE1 Z hH o) ∧ (jF2 Z hH o (.ref u1))
set_option maxRecDepth 65536 in
set_option maxHeartbeats 40000000 in
theorem rm_named0 (lL : Launch) (Z : State) (a0 : Array Value) (hw : own_H a0 Z) (ws : List Jvm.Cond) (a : Addr) (t : Addr) (z : Int32) (f : Int32 → Int32) (cs : Int32) (u1 : Addr) (u2 : Addr) (u3 : Addr) (u4 : Addr) (n1 : Addr) (n2 : Addr) (n3 : Addr) (n4 : Addr) (t1 : Addr) (t2 : Addr) (t3 : Addr) (t4 : Addr) (va : Addr) (em : Addr) (kv : ClassId) (h0 : Heap) (n0 : Nat) (Z0 : n0 ≤ h0.size) (Oo : Old Z n0 h0) (Scs : Sta Z Z.heap "java/lang/String" "COMPACT_STRINGS" "Z" (.int cs)) (ncs : ¬ (cs = (0 : Int32))) (Sv : Sta Z Z.heap "com/example/needlework/needlework/Algorithm" "$VALUES" "[Lcom/example/needlework/needlework/Algorithm;" (.ref va)) (Vv : Arv Z h0 va kv (.object "com/example/needlework/needlework/Algorithm") (4 : Int32) [(.ref u1), (.ref u2), (.ref u3), (.ref u4)] .null) (Ev : jE2 Z h0 va) (Se : Sta Z Z.heap "java/util/Optional" "EMPTY" "Ljava/util/Optional;" (.ref em)) (al0 : jE3 Z h0 u1) (al1 : jF3 Z h0 u1 (.ref n1)) (al2 : jE0 Z h0 n1) (al3 : jF1 Z h0 n1 (.ref t1)) (al4 : jF0 Z h0 n1 (.int (0 : Int32))) (al5 : own_T Z h0 t1 .byte (5 : Int32) (own_li [(98 : Int32), (114 : Int32), (117 : Int32), (116 : Int32), (101 : Int32)])) (al6 : jE3 Z h0 u2) (al7 : jF3 Z h0 u2 (.ref n2)) (al8 : jE0 Z h0 n2) (al9 : jF1 Z h0 n2 (.ref t2)) (al10 : jF0 Z h0 n2 (.int (0 : Int32))) (al11 : own_T Z h0 t2 .byte (3 : Int32) (own_li [(107 : Int32), (109 : Int32), (112 : Int32)])) (al12 : jE3 Z h0 u3) (al13 : jF3 Z h0 u3 (.ref n3)) (al14 : jE0 Z h0 n3) (al15 : jF1 Z h0 n3 (.ref t3)) (al16 : jF0 Z h0 n3 (.int (0 : Int32))) (al17 : own_T Z h0 t3 .byte (2 : Int32) (own_li [(98 : Int32), (109 : Int32)])) (al18 : jE3 Z h0 u4) (al19 : jF3 Z h0 u4 (.ref n4)) (al20 : jE0 Z h0 n4) (al21 : jF1 Z h0 n4 (.ref t4)) (al22 : jF0 Z h0 n4 (.int (0 : Int32))) (al23 : own_T Z h0 t4 .byte (7 : Int32) (own_li [(116 : Int32), (119 : Int32), (111 : Int32), (45 : Int32), (119 : Int32), (97 : Int32), (121 : Int32)])) (Ea : jE0 Z h0 a) (Fv : jF1 Z h0 a (.ref t)) (Fc : jF0 Z h0 a (.int (0 : Int32))) (Tt : own_T Z h0 t .byte z f) (c1 : ¬ ((own_eq (5 : Int32) (own_li [(98 : Int32), (114 : Int32), (117 : Int32), (116 : Int32), (101 : Int32)]) z f) = (0 : Int32))) :
    own_Met lL jy22 (Jvm.Cond.code jy22 prog_1_method_4_code 5 (some (.object "java/util/Optional")) :: ws) jr15 #[(.ref a)] Z h0 (Q_rm_named0 Z a t z f cs u1 u2 u3 u4 n1 n2 n3 n4 t1 t2 t3 t4 va em kv h0 n0) := by
  refine own_begin (plainFor_of_name own_pn_com_example_needlework_needlework_Algorithm) (fun mM => own_ef_rm_named0 mM a) fun pP eE sS mM below meth cC s₁ hx hby hml hZ hown hnm hre hlk X0 e0 => ?_
  have hC := @Jvm.hb _ _ hby
  have N0 := Fr.nil n0
  have K0 := Keep.refl h0 ([] : List Addr)
  refine jc X0 hx hZ (y := jy21) hown (jk hw 81 rfl) (jk hw 82 rfl) (jk hw 79 rfl) (jk hw 83 rfl) (rm_val lL Z a0 hw [] va u1 u2 u3 u4 kv h0 n0 (Nat.le_trans Z0 K0.1) Oo Sv Vv Ev) e0 own_pd15 [] [] (hC d15_0) rfl rfl (by rw [hml]; rfl) (by decide) 0 (Nat.le_of_eq rfl) (by decide) (by decide) (by decide : 0 + 1 ≤ _) (by decide : 0 + 4 ≤ _) fun vv1_ T1_ L1_ X1_ hQ1_ => ?_
  obtain ⟨b_1_, rfl, N1_q, p1__0, p1__1, p1__2⟩ := hQ1_
  have N1_ := Fr.app N0 N1_q
  have fc17_ := Oo.keep p1__0 all0
  have fc21_ := al1.keep p1__0 nin0
  have fc22_ := al2.keep p1__0
  have fc23_ := al3.keep p1__0 nin0
  have fc24_ := al4.keep p1__0 nin0
  have fc25_ := al5.keep p1__0 nin0
  have fc44_ := Ea.keep p1__0
  have fc45_ := Fv.keep p1__0 nin0
  have fc46_ := Fc.keep p1__0 nin0
  have fc47_ := Tt.keep p1__0 nin0
  have K1_ := K0.trans p1__0 all0
  let ll1 : Array Slot := #[vR a, vR b_1_, vU, vU, vU]
  refine jg T1_ mM 5 ll1 [(.ref b_1_)] (fun tT kK => ?_) ?_
  · refine XS.astoreN X1_.here hx rfl (hC e15_3.1) rfl rfl (l' := ll1) rfl ?_
    refine XS.aloadN X1_.here hx rfl (hC e15_3.2.1) rfl rfl ?_
    exact kK
  obtain ⟨cl48_, Ar48_, qk48_, Sz48_, Nn48_, Hh48_, Gg48_⟩ := id p1__2
  let ll2 : Array Slot := #[vR a, vR b_1_, vI 4, vI 0, vU]
  refine jg T1_ mM 16 ll2 [(.int (0 : Int32)), (.ref b_1_)] (fun tT kK => ?_) ?_
  · refine X1_.arraylength hx (own_rw rfl Ar48_.1) (State.isArrayOf_alike hZ.alike Ar48_.2.1) (g := (mkF mM 5 ll1 [(.ref b_1_)])) rfl rfl (hC e15_3.2.2.1) _ ?_
    rw [len_of Sz48_ Nn48_]
    let ll3 : Array Slot := #[vR a, vR b_1_, vI 4, vU, vU]
    refine XS.istoreN X1_.here hx rfl (hC e15_3.2.2.2) rfl (l' := ll3) rfl ?_
    refine XS.iconst X1_.here hx rfl (hC e15_7.1) ?_
    refine XS.istoreN X1_.here hx rfl (hC e15_7.2.1) rfl (l' := ll2) rfl ?_
    refine XS.iloadN X1_.here hx rfl (hC e15_7.2.2.1) rfl ?_
    refine XS.iloadN X1_.here hx rfl (hC e15_7.2.2.2) rfl ?_
    refine XS.icmpNo X1_.here hx rfl (hC e15_11.1) rfl (tlt ((by decide) : (0 : Int32) < (4 : Int32))).2.1 ?_
    refine XS.aloadN X1_.here hx rfl (hC e15_11.2.1) rfl rfl ?_
    refine XS.iloadN X1_.here hx rfl (hC e15_11.2.2.1) rfl ?_
    exact kK
  obtain ⟨cl49_, Ar49_, qk49_, Sz49_, Nn49_, Hh49_, Gg49_⟩ := id p1__2
  have hin50_ : ¬ ((0 : Int32) < 0 ∨ cl49_.slots.size ≤ ((0 : Int32)).toNatClampNeg) := inb_of Sz49_ ⟨by decide, by decide⟩
  have hat50_ : cl49_.slots[((0 : Int32)).toNatClampNeg]? = some (.ref u1) := Hh49_.at hin50_ rfl
  let ll4 : Array Slot := #[vR a, vR b_1_, vI 4, vI 0, vR u1]
  refine jg T1_ mM 21 ll4 [(.ref u1)] (fun tT kK => ?_) ?_
  · refine X1_.aaload hx (j := (0 : Int32)) (v := (.ref u1)) (own_rw rfl Ar49_.1) (State.isArrayOf_alike hZ.alike Ar49_.2.1) rfl Ar49_.2.2 hin50_ hat50_ (g := (mkF mM 16 ll2 [(.int (0 : Int32)), (.ref b_1_)])) rfl rfl (hC e15_11.2.2.2) _ ?_
    refine XS.astore X1_.here hx rfl (hC e15_17.1) rfl rfl (l' := ll4) rfl ?_
    refine XS.aload X1_.here hx rfl (hC e15_17.2.1) rfl rfl ?_
    exact kK
  refine jf X1_ hx hZ hown (jk hw 100 rfl) rfl fc21_ (hC e15_17.2.2.1) fun T51_ X51_ e51_ => ?_
  refine jg T51_ mM 25 ll4 [(.ref a), (.ref n1)] (fun tT kK => ?_) ?_
  · refine XS.aloadN X51_.here hx rfl (hC e15_17.2.2.2) rfl rfl ?_
    exact kK
  refine jv X51_ hx hZ (y := jy13) hown (jk hw 102 rfl) (jk hw 66 rfl) (jk hw 68 rfl) (jk hw 67 rfl) (jk hw 69 rfl) (jk hw 2 rfl) (rm_eq lL Z a0 hw [] n1 a t1 t (5 : Int32) (own_li [(98 : Int32), (114 : Int32), (117 : Int32), (116 : Int32), (101 : Int32)]) z f cs T1_.heap n0 (Nat.le_trans Z0 K1_.1) fc17_ Scs ncs fc22_ fc23_ fc24_ fc25_ fc44_ fc45_ fc46_ fc47_) fc22_ e51_ own_pd16 [(.ref a)] [] (hC d15_25) rfl rfl (by rw [hml]; rfl) (by decide) 0 (Nat.le_of_eq rfl) (by decide) (by decide) (by decide : 1 + 0 ≤ _) (by decide : 4 + 0 ≤ _) fun vv52_ T52_ L52_ X52_ hQ52_ => ?_
  obtain ⟨rfl, N52_q, p52__0⟩ := hQ52_
  have N52_ := Fr.app N1_ N52_q
  refine jg T52_ mM 33 ll4 [(.ref u1)] (fun tT kK => ?_) ?_
  · refine XS.ifNo X52_.here hx rfl (hC e15_28.1) rfl ((if0 _ _).trans (feq (c1 : ¬ ((own_eq (5 : Int32) (own_li [(98 : Int32), (114 : Int32), (117 : Int32), (116 : Int32), (101 : Int32)]) z f) = (0 : Int32)))).1) ?_
    refine XS.aload X52_.here hx rfl (hC e15_28.2.1) rfl rfl ?_
    exact kK
  refine jc X52_ hx hZ (y := jy18) hown (jk hw 126 rfl) (jk hw 127 rfl) (jk hw 105 rfl) (jk hw 128 rfl) (rm_of lL Z a0 hw [] u1 T1_.heap n0 (Nat.le_trans Z0 K1_.1) ) p52__0 own_pd17 [(.ref u1)] [] (hC e15_28.2.2) rfl rfl (by rw [hml]; rfl) (by decide) 0 (Nat.le_of_eq rfl) (by decide) (by decide) (by decide : 1 + 1 ≤ _) (by decide : 4 + 1 ≤ _) fun vv53_ T53_ L53_ X53_ hQ53_ => ?_
  obtain ⟨o_53_, rfl, N53_q, p53__0, p53__1, p53__2, p53__3⟩ := hQ53_
  have N53_ := Fr.app N52_ N53_q
  have sz_o_53_ : h0.size ≤ o_53_ := Nat.le_trans K1_.1 p53__1
  have K53_ := K1_.trans p53__0 all0
  exact own_rr X53_ hx hlk hre rfl (Or.inr (Or.inr (Or.inr (Or.inr ⟨rfl, rfl, rfl⟩)))) (hC d15_36) rfl (by decide) (by decide) ⟨o_53_, rfl, N53_, K53_, sz_o_53_, p53__2, p53__3⟩
theorem e15_37 : jD22 37 (.iinc 3 1, 3) ∧ jD22 40 (.goto (-31), 3) := by decide +kernel
theorem own_ef_rm_named1 (mM : MethodId) (x0 : Addr) : entryFrame mM #[(.ref x0)] 5 = mkF mM 0 #[.val (.ref x0), .unset, .unset, .unset, .unset] [] := by first | (simp [entryFrame, mkF, argsToLocals, Value.category]; done) | rfl
def Q_rm_named1 (Z : State) (a : Addr) (t : Addr) (z : Int32) (f : Int32 → Int32) (cs : Int32) (u1 : Addr) (u2 : Addr) (u3 : Addr) (u4 : Addr) (n1 : Addr) (n2 : Addr) (n3 : Addr) (n4 : Addr) (t1 : Addr) (t2 : Addr) (t3 : Addr) (t4 : Addr) (va : Addr) (em : Addr) (kv : ClassId) (h0 : Heap) (n0 : Nat) (vV : Option Value) (hH : Heap) (lA : List Loc) : Prop := ∃ o : Addr, vV = some (.ref o) ∧ Fr n0 lA ∧ (Keep h0 hH []) ∧ (h0.size ≤ o) ∧ (jE1 Z hH o) ∧ (jF2 Z hH o (.ref u2))
set_option maxRecDepth 65536 in
set_option maxHeartbeats 40000000 in
theorem rm_named1 (lL : Launch) (Z : State) (a0 : Array Value) (hw : own_H a0 Z) (ws : List Jvm.Cond) (a : Addr) (t : Addr) (z : Int32) (f : Int32 → Int32) (cs : Int32) (u1 : Addr) (u2 : Addr) (u3 : Addr) (u4 : Addr) (n1 : Addr) (n2 : Addr) (n3 : Addr) (n4 : Addr) (t1 : Addr) (t2 : Addr) (t3 : Addr) (t4 : Addr) (va : Addr) (em : Addr) (kv : ClassId) (h0 : Heap) (n0 : Nat) (Z0 : n0 ≤ h0.size) (Oo : Old Z n0 h0) (Scs : Sta Z Z.heap "java/lang/String" "COMPACT_STRINGS" "Z" (.int cs)) (ncs : ¬ (cs = (0 : Int32))) (Sv : Sta Z Z.heap "com/example/needlework/needlework/Algorithm" "$VALUES" "[Lcom/example/needlework/needlework/Algorithm;" (.ref va)) (Vv : Arv Z h0 va kv (.object "com/example/needlework/needlework/Algorithm") (4 : Int32) [(.ref u1), (.ref u2), (.ref u3), (.ref u4)] .null) (Ev : jE2 Z h0 va) (Se : Sta Z Z.heap "java/util/Optional" "EMPTY" "Ljava/util/Optional;" (.ref em)) (al0 : jE3 Z h0 u1) (al1 : jF3 Z h0 u1 (.ref n1)) (al2 : jE0 Z h0 n1) (al3 : jF1 Z h0 n1 (.ref t1)) (al4 : jF0 Z h0 n1 (.int (0 : Int32))) (al5 : own_T Z h0 t1 .byte (5 : Int32) (own_li [(98 : Int32), (114 : Int32), (117 : Int32), (116 : Int32), (101 : Int32)])) (al6 : jE3 Z h0 u2) (al7 : jF3 Z h0 u2 (.ref n2)) (al8 : jE0 Z h0 n2) (al9 : jF1 Z h0 n2 (.ref t2)) (al10 : jF0 Z h0 n2 (.int (0 : Int32))) (al11 : own_T Z h0 t2 .byte (3 : Int32) (own_li [(107 : Int32), (109 : Int32), (112 : Int32)])) (al12 : jE3 Z h0 u3) (al13 : jF3 Z h0 u3 (.ref n3)) (al14 : jE0 Z h0 n3) (al15 : jF1 Z h0 n3 (.ref t3)) (al16 : jF0 Z h0 n3 (.int (0 : Int32))) (al17 : own_T Z h0 t3 .byte (2 : Int32) (own_li [(98 : Int32), (109 : Int32)])) (al18 : jE3 Z h0 u4) (al19 : jF3 Z h0 u4 (.ref n4)) (al20 : jE0 Z h0 n4) (al21 : jF1 Z h0 n4 (.ref t4)) (al22 : jF0 Z h0 n4 (.int (0 : Int32))) (al23 : own_T Z h0 t4 .byte (7 : Int32) (own_li [(116 : Int32), (119 : Int32), (111 : Int32), (45 : Int32), (119 : Int32), (97 : Int32), (121 : Int32)])) (Ea : jE0 Z h0 a) (Fv : jF1 Z h0 a (.ref t)) (Fc : jF0 Z h0 a (.int (0 : Int32))) (Tt : own_T Z h0 t .byte z f) (c1 : (own_eq (5 : Int32) (own_li [(98 : Int32), (114 : Int32), (117 : Int32), (116 : Int32), (101 : Int32)]) z f) = (0 : Int32)) (c2 : ¬ ((own_eq (3 : Int32) (own_li [(107 : Int32), (109 : Int32), (112 : Int32)]) z f) = (0 : Int32))) :
    own_Met lL jy22 (Jvm.Cond.code jy22 prog_1_method_4_code 5 (some (.object "java/util/Optional")) :: ws) jr15 #[(.ref a)] Z h0 (Q_rm_named1 Z a t z f cs u1 u2 u3 u4 n1 n2 n3 n4 t1 t2 t3 t4 va em kv h0 n0) := by
  refine own_begin (plainFor_of_name own_pn_com_example_needlework_needlework_Algorithm) (fun mM => own_ef_rm_named1 mM a) fun pP eE sS mM below meth cC s₁ hx hby hml hZ hown hnm hre hlk X0 e0 => ?_
  have hC := @Jvm.hb _ _ hby
  have N0 := Fr.nil n0
  have K0 := Keep.refl h0 ([] : List Addr)
  refine jc X0 hx hZ (y := jy21) hown (jk hw 81 rfl) (jk hw 82 rfl) (jk hw 79 rfl) (jk hw 83 rfl) (rm_val lL Z a0 hw [] va u1 u2 u3 u4 kv h0 n0 (Nat.le_trans Z0 K0.1) Oo Sv Vv Ev) e0 own_pd15 [] [] (hC d15_0) rfl rfl (by rw [hml]; rfl) (by decide) 0 (Nat.le_of_eq rfl) (by decide) (by decide) (by decide : 0 + 1 ≤ _) (by decide : 0 + 4 ≤ _) fun vv1_ T1_ L1_ X1_ hQ1_ => ?_
  obtain ⟨b_1_, rfl, N1_q, p1__0, p1__1, p1__2⟩ := hQ1_
  have N1_ := Fr.app N0 N1_q
  have fc17_ := Oo.keep p1__0 all0
  have fc21_ := al1.keep p1__0 nin0
  have fc22_ := al2.keep p1__0
  have fc23_ := al3.keep p1__0 nin0
  have fc24_ := al4.keep p1__0 nin0
  have fc25_ := al5.keep p1__0 nin0
  have fc27_ := al7.keep p1__0 nin0
  have fc28_ := al8.keep p1__0
  have fc29_ := al9.keep p1__0 nin0
  have fc30_ := al10.keep p1__0 nin0
  have fc31_ := al11.keep p1__0 nin0
  have fc44_ := Ea.keep p1__0
  have fc45_ := Fv.keep p1__0 nin0
  have fc46_ := Fc.keep p1__0 nin0
  have fc47_ := Tt.keep p1__0 nin0
  have K1_ := K0.trans p1__0 all0
  let ll1 : Array Slot := #[vR a, vR b_1_, vU, vU, vU]
  refine jg T1_ mM 5 ll1 [(.ref b_1_)] (fun tT kK => ?_) ?_
  · refine XS.astoreN X1_.here hx rfl (hC e15_3.1) rfl rfl (l' := ll1) rfl ?_
    refine XS.aloadN X1_.here hx rfl (hC e15_3.2.1) rfl rfl ?_
    exact kK
  obtain ⟨cl48_, Ar48_, qk48_, Sz48_, Nn48_, Hh48_, Gg48_⟩ := id p1__2
  let ll2 : Array Slot := #[vR a, vR b_1_, vI 4, vI 0, vU]
  refine jg T1_ mM 16 ll2 [(.int (0 : Int32)), (.ref b_1_)] (fun tT kK => ?_) ?_
  · refine X1_.arraylength hx (own_rw rfl Ar48_.1) (State.isArrayOf_alike hZ.alike Ar48_.2.1) (g := (mkF mM 5 ll1 [(.ref b_1_)])) rfl rfl (hC e15_3.2.2.1) _ ?_
    rw [len_of Sz48_ Nn48_]
    let ll3 : Array Slot := #[vR a, vR b_1_, vI 4, vU, vU]
    refine XS.istoreN X1_.here hx rfl (hC e15_3.2.2.2) rfl (l' := ll3) rfl ?_
    refine XS.iconst X1_.here hx rfl (hC e15_7.1) ?_
    refine XS.istoreN X1_.here hx rfl (hC e15_7.2.1) rfl (l' := ll2) rfl ?_
    refine XS.iloadN X1_.here hx rfl (hC e15_7.2.2.1) rfl ?_
    refine XS.iloadN X1_.here hx rfl (hC e15_7.2.2.2) rfl ?_
    refine XS.icmpNo X1_.here hx rfl (hC e15_11.1) rfl (tlt ((by decide) : (0 : Int32) < (4 : Int32))).2.1 ?_
    refine XS.aloadN X1_.here hx rfl (hC e15_11.2.1) rfl rfl ?_
    refine XS.iloadN X1_.here hx rfl (hC e15_11.2.2.1) rfl ?_
    exact kK
  obtain ⟨cl49_, Ar49_, qk49_, Sz49_, Nn49_, Hh49_, Gg49_⟩ := id p1__2
  have hin50_ : ¬ ((0 : Int32) < 0 ∨ cl49_.slots.size ≤ ((0 : Int32)).toNatClampNeg) := inb_of Sz49_ ⟨by decide, by decide⟩
  have hat50_ : cl49_.slots[((0 : Int32)).toNatClampNeg]? = some (.ref u1) := Hh49_.at hin50_ rfl
  let ll4 : Array Slot := #[vR a, vR b_1_, vI 4, vI 0, vR u1]
  refine jg T1_ mM 21 ll4 [(.ref u1)] (fun tT kK => ?_) ?_
  · refine X1_.aaload hx (j := (0 : Int32)) (v := (.ref u1)) (own_rw rfl Ar49_.1) (State.isArrayOf_alike hZ.alike Ar49_.2.1) rfl Ar49_.2.2 hin50_ hat50_ (g := (mkF mM 16 ll2 [(.int (0 : Int32)), (.ref b_1_)])) rfl rfl (hC e15_11.2.2.2) _ ?_
    refine XS.astore X1_.here hx rfl (hC e15_17.1) rfl rfl (l' := ll4) rfl ?_
    refine XS.aload X1_.here hx rfl (hC e15_17.2.1) rfl rfl ?_
    exact kK
  refine jf X1_ hx hZ hown (jk hw 100 rfl) rfl fc21_ (hC e15_17.2.2.1) fun T51_ X51_ e51_ => ?_
  refine jg T51_ mM 25 ll4 [(.ref a), (.ref n1)] (fun tT kK => ?_) ?_
  · refine XS.aloadN X51_.here hx rfl (hC e15_17.2.2.2) rfl rfl ?_
    exact kK
  refine jv X51_ hx hZ (y := jy13) hown (jk hw 102 rfl) (jk hw 66 rfl) (jk hw 68 rfl) (jk hw 67 rfl) (jk hw 69 rfl) (jk hw 2 rfl) (rm_eq lL Z a0 hw [] n1 a t1 t (5 : Int32) (own_li [(98 : Int32), (114 : Int32), (117 : Int32), (116 : Int32), (101 : Int32)]) z f cs T1_.heap n0 (Nat.le_trans Z0 K1_.1) fc17_ Scs ncs fc22_ fc23_ fc24_ fc25_ fc44_ fc45_ fc46_ fc47_) fc22_ e51_ own_pd16 [(.ref a)] [] (hC d15_25) rfl rfl (by rw [hml]; rfl) (by decide) 0 (Nat.le_of_eq rfl) (by decide) (by decide) (by decide : 1 + 0 ≤ _) (by decide : 4 + 0 ≤ _) fun vv52_ T52_ L52_ X52_ hQ52_ => ?_
  obtain ⟨rfl, N52_q, p52__0⟩ := hQ52_
  have N52_ := Fr.app N1_ N52_q
  let ll5 : Array Slot := #[vR a, vR b_1_, vI 4, vI 1, vR u1]
  refine jg T52_ mM 16 ll5 [(.int (1 : Int32)), (.ref b_1_)] (fun tT kK => ?_) ?_
  · refine XS.ifYes X52_.here hx rfl (pc0 := 28) (pc' := 37) rfl (hC e15_28.1) rfl ((if0 _ _).trans (teq (c1 : (own_eq (5 : Int32) (own_li [(98 : Int32), (114 : Int32), (117 : Int32), (116 : Int32), (101 : Int32)]) z f) = (0 : Int32))).1) (by decide) (by decide) ?_
    refine XS.iinc X52_.here hx rfl (hC e15_37.1) rfl (l' := ll5) rfl ?_
    refine XS.goto X52_.here hx rfl (pc0 := 40) (pc' := 9) rfl (hC e15_37.2) (by decide) (by decide) ?_
    refine XS.iloadN X52_.here hx rfl (hC e15_7.2.2.1) rfl ?_
    refine XS.iloadN X52_.here hx rfl (hC e15_7.2.2.2) rfl ?_
    refine XS.icmpNo X52_.here hx rfl (hC e15_11.1) rfl (tlt ((by decide) : (1 : Int32) < (4 : Int32))).2.1 ?_
    refine XS.aloadN X52_.here hx rfl (hC e15_11.2.1) rfl rfl ?_
    refine XS.iloadN X52_.here hx rfl (hC e15_11.2.2.1) rfl ?_
    exact kK
  obtain ⟨cl53_, Ar53_, qk53_, Sz53_, Nn53_, Hh53_, Gg53_⟩ := id p1__2
  have hin54_ : ¬ ((1 : Int32) < 0 ∨ cl53_.slots.size ≤ ((1 : Int32)).toNatClampNeg) := inb_of Sz53_ ⟨by decide, by decide⟩
  have hat54_ : cl53_.slots[((1 : Int32)).toNatClampNeg]? = some (.ref u2) := Hh53_.at hin54_ rfl
  let ll6 : Array Slot := #[vR a, vR b_1_, vI 4, vI 1, vR u2]
  refine jg T52_ mM 21 ll6 [(.ref u2)] (fun tT kK => ?_) ?_
  · refine X52_.aaload hx (j := (1 : Int32)) (v := (.ref u2)) (own_rw p52__0 Ar53_.1) (State.isArrayOf_alike hZ.alike Ar53_.2.1) rfl Ar53_.2.2 hin54_ hat54_ (g := (mkF mM 16 ll5 [(.int (1 : Int32)), (.ref b_1_)])) rfl rfl (hC e15_11.2.2.2) _ ?_
    refine XS.astore X52_.here hx rfl (hC e15_17.1) rfl rfl (l' := ll6) rfl ?_
    refine XS.aload X52_.here hx rfl (hC e15_17.2.1) rfl rfl ?_
    exact kK
  refine jf X52_ hx hZ hown (jk hw 100 rfl) p52__0 fc27_ (hC e15_17.2.2.1) fun T55_ X55_ e55_ => ?_
  refine jg T55_ mM 25 ll6 [(.ref a), (.ref n2)] (fun tT kK => ?_) ?_
  · refine XS.aloadN X55_.here hx rfl (hC e15_17.2.2.2) rfl rfl ?_
    exact kK
  refine jv X55_ hx hZ (y := jy13) hown (jk hw 102 rfl) (jk hw 66 rfl) (jk hw 68 rfl) (jk hw 67 rfl) (jk hw 69 rfl) (jk hw 2 rfl) (rm_eq lL Z a0 hw [] n2 a t2 t (3 : Int32) (own_li [(107 : Int32), (109 : Int32), (112 : Int32)]) z f cs T1_.heap n0 (Nat.le_trans Z0 K1_.1) fc17_ Scs ncs fc28_ fc29_ fc30_ fc31_ fc44_ fc45_ fc46_ fc47_) fc28_ e55_ own_pd16 [(.ref a)] [] (hC d15_25) rfl rfl (by rw [hml]; rfl) (by decide) 0 (Nat.le_of_eq rfl) (by decide) (by decide) (by decide : 1 + 0 ≤ _) (by decide : 4 + 0 ≤ _) fun vv56_ T56_ L56_ X56_ hQ56_ => ?_
  obtain ⟨rfl, N56_q, p56__0⟩ := hQ56_
  have N56_ := Fr.app N52_ N56_q
  refine jg T56_ mM 33 ll6 [(.ref u2)] (fun tT kK => ?_) ?_
  · refine XS.ifNo X56_.here hx rfl (hC e15_28.1) rfl ((if0 _ _).trans (feq (c2 : ¬ ((own_eq (3 : Int32) (own_li [(107 : Int32), (109 : Int32), (112 : Int32)]) z f) = (0 : Int32)))).1) ?_
    refine XS.aload X56_.here hx rfl (hC e15_28.2.1) rfl rfl ?_
    exact kK
  refine jc X56_ hx hZ (y := jy18) hown (jk hw 126 rfl) (jk hw 127 rfl) (jk hw 105 rfl) (jk hw 128 rfl) (rm_of lL Z a0 hw [] u2 T1_.heap n0 (Nat.le_trans Z0 K1_.1) ) p56__0 own_pd17 [(.ref u2)] [] (hC e15_28.2.2) rfl rfl (by rw [hml]; rfl) (by decide) 0 (Nat.le_of_eq rfl) (by decide) (by decide) (by decide : 1 + 1 ≤ _) (by decide : 4 + 1 ≤ _) fun vv57_ T57_ L57_ X57_ hQ57_ => ?_
  obtain ⟨o_57_, rfl, N57_q, p57__0, p57__1, p57__2, p57__3⟩ := hQ57_
  have N57_ := Fr.app N56_ N57_q
  have sz_o_57_ : h0.size ≤ o_57_ := Nat.le_trans K1_.1 p57__1
  have K57_ := K1_.trans p57__0 all0
  exact own_rr X57_ hx hlk hre rfl (Or.inr (Or.inr (Or.inr (Or.inr ⟨rfl, rfl, rfl⟩)))) (hC d15_36) rfl (by decide) (by decide) ⟨o_57_, rfl, N57_, K57_, sz_o_57_, p57__2, p57__3⟩
theorem own_ef_rm_named2 (mM : MethodId) (x0 : Addr) : entryFrame mM #[(.ref x0)] 5 = mkF mM 0 #[.val (.ref x0), .unset, .unset, .unset, .unset] [] := by first | (simp [entryFrame, mkF, argsToLocals, Value.category]; done) | rfl
def Q_rm_named2 (Z : State) (a : Addr) (t : Addr) (z : Int32) (f : Int32 → Int32) (cs : Int32) (u1 : Addr) (u2 : Addr) (u3 : Addr) (u4 : Addr) (n1 : Addr) (n2 : Addr) (n3 : Addr) (n4 : Addr) (t1 : Addr) (t2 : Addr) (t3 : Addr) (t4 : Addr) (va : Addr) (em : Addr) (kv : ClassId) (h0 : Heap) (n0 : Nat) (vV : Option Value) (hH : Heap) (lA : List Loc) : Prop := ∃ o : Addr, vV = some (.ref o) ∧ Fr n0 lA ∧ (Keep h0 hH []) ∧ (h0.size ≤ o) ∧ (jE1 Z hH o) ∧ (jF2 Z hH o (.ref u3))
set_option maxRecDepth 65536 in
set_option maxHeartbeats 40000000 in
theorem rm_named2 (lL : Launch) (Z : State) (a0 : Array Value) (hw : own_H a0 Z) (ws : List Jvm.Cond) (a : Addr) (t : Addr) (z : Int32) (f : Int32 → Int32) (cs : Int32) (u1 : Addr) (u2 : Addr) (u3 : Addr) (u4 : Addr) (n1 : Addr) (n2 : Addr) (n3 : Addr) (n4 : Addr) (t1 : Addr) (t2 : Addr) (t3 : Addr) (t4 : Addr) (va : Addr) (em : Addr) (kv : ClassId) (h0 : Heap) (n0 : Nat) (Z0 : n0 ≤ h0.size) (Oo : Old Z n0 h0) (Scs : Sta Z Z.heap "java/lang/String" "COMPACT_STRINGS" "Z" (.int cs)) (ncs : ¬ (cs = (0 : Int32))) (Sv : Sta Z Z.heap "com/example/needlework/needlework/Algorithm" "$VALUES" "[Lcom/example/needlework/needlework/Algorithm;" (.ref va)) (Vv : Arv Z h0 va kv (.object "com/example/needlework/needlework/Algorithm") (4 : Int32) [(.ref u1), (.ref u2), (.ref u3), (.ref u4)] .null) (Ev : jE2 Z h0 va) (Se : Sta Z Z.heap "java/util/Optional" "EMPTY" "Ljava/util/Optional;" (.ref em)) (al0 : jE3 Z h0 u1) (al1 : jF3 Z h0 u1 (.ref n1)) (al2 : jE0 Z h0 n1) (al3 : jF1 Z h0 n1 (.ref t1)) (al4 : jF0 Z h0 n1 (.int (0 : Int32))) (al5 : own_T Z h0 t1 .byte (5 : Int32) (own_li [(98 : Int32), (114 : Int32), (117 : Int32), (116 : Int32), (101 : Int32)])) (al6 : jE3 Z h0 u2) (al7 : jF3 Z h0 u2 (.ref n2)) (al8 : jE0 Z h0 n2) (al9 : jF1 Z h0 n2 (.ref t2)) (al10 : jF0 Z h0 n2 (.int (0 : Int32))) (al11 : own_T Z h0 t2 .byte (3 : Int32) (own_li [(107 : Int32), (109 : Int32), (112 : Int32)])) (al12 : jE3 Z h0 u3) (al13 : jF3 Z h0 u3 (.ref n3)) (al14 : jE0 Z h0 n3) (al15 : jF1 Z h0 n3 (.ref t3)) (al16 : jF0 Z h0 n3 (.int (0 : Int32))) (al17 : own_T Z h0 t3 .byte (2 : Int32) (own_li [(98 : Int32), (109 : Int32)])) (al18 : jE3 Z h0 u4) (al19 : jF3 Z h0 u4 (.ref n4)) (al20 : jE0 Z h0 n4) (al21 : jF1 Z h0 n4 (.ref t4)) (al22 : jF0 Z h0 n4 (.int (0 : Int32))) (al23 : own_T Z h0 t4 .byte (7 : Int32) (own_li [(116 : Int32), (119 : Int32), (111 : Int32), (45 : Int32), (119 : Int32), (97 : Int32), (121 : Int32)])) (Ea : jE0 Z h0 a) (Fv : jF1 Z h0 a (.ref t)) (Fc : jF0 Z h0 a (.int (0 : Int32))) (Tt : own_T Z h0 t .byte z f) (c1 : (own_eq (5 : Int32) (own_li [(98 : Int32), (114 : Int32), (117 : Int32), (116 : Int32), (101 : Int32)]) z f) = (0 : Int32)) (c2 : (own_eq (3 : Int32) (own_li [(107 : Int32), (109 : Int32), (112 : Int32)]) z f) = (0 : Int32)) (c3 : ¬ ((own_eq (2 : Int32) (own_li [(98 : Int32), (109 : Int32)]) z f) = (0 : Int32))) :
    own_Met lL jy22 (Jvm.Cond.code jy22 prog_1_method_4_code 5 (some (.object "java/util/Optional")) :: ws) jr15 #[(.ref a)] Z h0 (Q_rm_named2 Z a t z f cs u1 u2 u3 u4 n1 n2 n3 n4 t1 t2 t3 t4 va em kv h0 n0) := by
  refine own_begin (plainFor_of_name own_pn_com_example_needlework_needlework_Algorithm) (fun mM => own_ef_rm_named2 mM a) fun pP eE sS mM below meth cC s₁ hx hby hml hZ hown hnm hre hlk X0 e0 => ?_
  have hC := @Jvm.hb _ _ hby
  have N0 := Fr.nil n0
  have K0 := Keep.refl h0 ([] : List Addr)
  refine jc X0 hx hZ (y := jy21) hown (jk hw 81 rfl) (jk hw 82 rfl) (jk hw 79 rfl) (jk hw 83 rfl) (rm_val lL Z a0 hw [] va u1 u2 u3 u4 kv h0 n0 (Nat.le_trans Z0 K0.1) Oo Sv Vv Ev) e0 own_pd15 [] [] (hC d15_0) rfl rfl (by rw [hml]; rfl) (by decide) 0 (Nat.le_of_eq rfl) (by decide) (by decide) (by decide : 0 + 1 ≤ _) (by decide : 0 + 4 ≤ _) fun vv1_ T1_ L1_ X1_ hQ1_ => ?_
  obtain ⟨b_1_, rfl, N1_q, p1__0, p1__1, p1__2⟩ := hQ1_
  have N1_ := Fr.app N0 N1_q
  have fc17_ := Oo.keep p1__0 all0
  have fc21_ := al1.keep p1__0 nin0
  have fc22_ := al2.keep p1__0
  have fc23_ := al3.keep p1__0 nin0
  have fc24_ := al4.keep p1__0 nin0
  have fc25_ := al5.keep p1__0 nin0
  have fc27_ := al7.keep p1__0 nin0
  have fc28_ := al8.keep p1__0
  have fc29_ := al9.keep p1__0 nin0
  have fc30_ := al10.keep p1__0 nin0
  have fc31_ := al11.keep p1__0 nin0
  have fc33_ := al13.keep p1__0 nin0
  have fc34_ := al14.keep p1__0
  have fc35_ := al15.keep p1__0 nin0
  have fc36_ := al16.keep p1__0 nin0
  have fc37_ := al17.keep p1__0 nin0
  have fc44_ := Ea.keep p1__0
  have fc45_ := Fv.keep p1__0 nin0
  have fc46_ := Fc.keep p1__0 nin0
  have fc47_ := Tt.keep p1__0 nin0
  have K1_ := K0.trans p1__0 all0
  let ll1 : Array Slot := #[vR a, vR b_1_, vU, vU, vU]
  refine jg T1_ mM 5 ll1 [(.ref b_1_)] (fun tT kK => ?_) ?_
  · refine XS.astoreN X1_.here hx rfl (hC e15_3.1) rfl rfl (l' := ll1) rfl ?_
    refine XS.aloadN X1_.here hx rfl (hC e15_3.2.1) rfl rfl ?_
    exact kK
  obtain ⟨cl48_, Ar48_, qk48_, Sz48_, Nn48_, Hh48_, Gg48_⟩ := id p1__2
  let ll2 : Array Slot := #[vR a, vR b_1_, vI 4, vI 0, vU]
  refine jg T1_ mM 16 ll2 [(.int (0 : Int32)), (.ref b_1_)] (fun tT kK => ?_) ?_
  · refine X1_.arraylength hx (own_rw rfl Ar48_.1) (State.isArrayOf_alike hZ.alike Ar48_.2.1) (g := (mkF mM 5 ll1 [(.ref b_1_)])) rfl rfl (hC e15_3.2.2.1) _ ?_
    rw [len_of Sz48_ Nn48_]
    let ll3 : Array Slot := #[vR a, vR b_1_, vI 4, vU, vU]
    refine XS.istoreN X1_.here hx rfl (hC e15_3.2.2.2) rfl (l' := ll3) rfl ?_
    refine XS.iconst X1_.here hx rfl (hC e15_7.1) ?_
    refine XS.istoreN X1_.here hx rfl (hC e15_7.2.1) rfl (l' := ll2) rfl ?_
    refine XS.iloadN X1_.here hx rfl (hC e15_7.2.2.1) rfl ?_
    refine XS.iloadN X1_.here hx rfl (hC e15_7.2.2.2) rfl ?_
    refine XS.icmpNo X1_.here hx rfl (hC e15_11.1) rfl (tlt ((by decide) : (0 : Int32) < (4 : Int32))).2.1 ?_
    refine XS.aloadN X1_.here hx rfl (hC e15_11.2.1) rfl rfl ?_
    refine XS.iloadN X1_.here hx rfl (hC e15_11.2.2.1) rfl ?_
    exact kK
  obtain ⟨cl49_, Ar49_, qk49_, Sz49_, Nn49_, Hh49_, Gg49_⟩ := id p1__2
  have hin50_ : ¬ ((0 : Int32) < 0 ∨ cl49_.slots.size ≤ ((0 : Int32)).toNatClampNeg) := inb_of Sz49_ ⟨by decide, by decide⟩
  have hat50_ : cl49_.slots[((0 : Int32)).toNatClampNeg]? = some (.ref u1) := Hh49_.at hin50_ rfl
  let ll4 : Array Slot := #[vR a, vR b_1_, vI 4, vI 0, vR u1]
  refine jg T1_ mM 21 ll4 [(.ref u1)] (fun tT kK => ?_) ?_
  · refine X1_.aaload hx (j := (0 : Int32)) (v := (.ref u1)) (own_rw rfl Ar49_.1) (State.isArrayOf_alike hZ.alike Ar49_.2.1) rfl Ar49_.2.2 hin50_ hat50_ (g := (mkF mM 16 ll2 [(.int (0 : Int32)), (.ref b_1_)])) rfl rfl (hC e15_11.2.2.2) _ ?_
    refine XS.astore X1_.here hx rfl (hC e15_17.1) rfl rfl (l' := ll4) rfl ?_
    refine XS.aload X1_.here hx rfl (hC e15_17.2.1) rfl rfl ?_
    exact kK
  refine jf X1_ hx hZ hown (jk hw 100 rfl) rfl fc21_ (hC e15_17.2.2.1) fun T51_ X51_ e51_ => ?_
  refine jg T51_ mM 25 ll4 [(.ref a), (.ref n1)] (fun tT kK => ?_) ?_
  · refine XS.aloadN X51_.here hx rfl (hC e15_17.2.2.2) rfl rfl ?_
    exact kK
  refine jv X51_ hx hZ (y := jy13) hown (jk hw 102 rfl) (jk hw 66 rfl) (jk hw 68 rfl) (jk hw 67 rfl) (jk hw 69 rfl) (jk hw 2 rfl) (rm_eq lL Z a0 hw [] n1 a t1 t (5 : Int32) (own_li [(98 : Int32), (114 : Int32), (117 : Int32), (116 : Int32), (101 : Int32)]) z f cs T1_.heap n0 (Nat.le_trans Z0 K1_.1) fc17_ Scs ncs fc22_ fc23_ fc24_ fc25_ fc44_ fc45_ fc46_ fc47_) fc22_ e51_ own_pd16 [(.ref a)] [] (hC d15_25) rfl rfl (by rw [hml]; rfl) (by decide) 0 (Nat.le_of_eq rfl) (by decide) (by decide) (by decide : 1 + 0 ≤ _) (by decide : 4 + 0 ≤ _) fun vv52_ T52_ L52_ X52_ hQ52_ => ?_
  obtain ⟨rfl, N52_q, p52__0⟩ := hQ52_
  have N52_ := Fr.app N1_ N52_q
  let ll5 : Array Slot := #[vR a, vR b_1_, vI 4, vI 1, vR u1]
  refine jg T52_ mM 16 ll5 [(.int (1 : Int32)), (.ref b_1_)] (fun tT kK => ?_) ?_
  · refine XS.ifYes X52_.here hx rfl (pc0 := 28) (pc' := 37) rfl (hC e15_28.1) rfl ((if0 _ _).trans (teq (c1 : (own_eq (5 : Int32) (own_li [(98 : Int32), (114 : Int32), (117 : Int32), (116 : Int32), (101 : Int32)]) z f) = (0 : Int32))).1) (by decide) (by decide) ?_
    refine XS.iinc X52_.here hx rfl (hC e15_37.1) rfl (l' := ll5) rfl ?_
    refine XS.goto X52_.here hx rfl (pc0 := 40) (pc' := 9) rfl (hC e15_37.2) (by decide) (by decide) ?_
    refine XS.iloadN X52_.here hx rfl (hC e15_7.2.2.1) rfl ?_
    refine XS.iloadN X52_.here hx rfl (hC e15_7.2.2.2) rfl ?_
    refine XS.icmpNo X52_.here hx rfl (hC e15_11.1) rfl (tlt ((by decide) : (1 : Int32) < (4 : Int32))).2.1 ?_
    refine XS.aloadN X52_.here hx rfl (hC e15_11.2.1) rfl rfl ?_
    refine XS.iloadN X52_.here hx rfl (hC e15_11.2.2.1) rfl ?_
    exact kK
  obtain ⟨cl53_, Ar53_, qk53_, Sz53_, Nn53_, Hh53_, Gg53_⟩ := id p1__2
  have hin54_ : ¬ ((1 : Int32) < 0 ∨ cl53_.slots.size ≤ ((1 : Int32)).toNatClampNeg) := inb_of Sz53_ ⟨by decide, by decide⟩
  have hat54_ : cl53_.slots[((1 : Int32)).toNatClampNeg]? = some (.ref u2) := Hh53_.at hin54_ rfl
  let ll6 : Array Slot := #[vR a, vR b_1_, vI 4, vI 1, vR u2]
  refine jg T52_ mM 21 ll6 [(.ref u2)] (fun tT kK => ?_) ?_
  · refine X52_.aaload hx (j := (1 : Int32)) (v := (.ref u2)) (own_rw p52__0 Ar53_.1) (State.isArrayOf_alike hZ.alike Ar53_.2.1) rfl Ar53_.2.2 hin54_ hat54_ (g := (mkF mM 16 ll5 [(.int (1 : Int32)), (.ref b_1_)])) rfl rfl (hC e15_11.2.2.2) _ ?_
    refine XS.astore X52_.here hx rfl (hC e15_17.1) rfl rfl (l' := ll6) rfl ?_
    refine XS.aload X52_.here hx rfl (hC e15_17.2.1) rfl rfl ?_
    exact kK
  refine jf X52_ hx hZ hown (jk hw 100 rfl) p52__0 fc27_ (hC e15_17.2.2.1) fun T55_ X55_ e55_ => ?_
  refine jg T55_ mM 25 ll6 [(.ref a), (.ref n2)] (fun tT kK => ?_) ?_
  · refine XS.aloadN X55_.here hx rfl (hC e15_17.2.2.2) rfl rfl ?_
    exact kK
  refine jv X55_ hx hZ (y := jy13) hown (jk hw 102 rfl) (jk hw 66 rfl) (jk hw 68 rfl) (jk hw 67 rfl) (jk hw 69 rfl) (jk hw 2 rfl) (rm_eq lL Z a0 hw [] n2 a t2 t (3 : Int32) (own_li [(107 : Int32), (109 : Int32), (112 : Int32)]) z f cs T1_.heap n0 (Nat.le_trans Z0 K1_.1) fc17_ Scs ncs fc28_ fc29_ fc30_ fc31_ fc44_ fc45_ fc46_ fc47_) fc28_ e55_ own_pd16 [(.ref a)] [] (hC d15_25) rfl rfl (by rw [hml]; rfl) (by decide) 0 (Nat.le_of_eq rfl) (by decide) (by decide) (by decide : 1 + 0 ≤ _) (by decide : 4 + 0 ≤ _) fun vv56_ T56_ L56_ X56_ hQ56_ => ?_
  obtain ⟨rfl, N56_q, p56__0⟩ := hQ56_
  have N56_ := Fr.app N52_ N56_q
  let ll7 : Array Slot := #[vR a, vR b_1_, vI 4, vI 2, vR u2]
  refine jg T56_ mM 16 ll7 [(.int (2 : Int32)), (.ref b_1_)] (fun tT kK => ?_) ?_
  · refine XS.ifYes X56_.here hx rfl (pc0 := 28) (pc' := 37) rfl (hC e15_28.1) rfl ((if0 _ _).trans (teq (c2 : (own_eq (3 : Int32) (own_li [(107 : Int32), (109 : Int32), (112 : Int32)]) z f) = (0 : Int32))).1) (by decide) (by decide) ?_
    refine XS.iinc X56_.here hx rfl (hC e15_37.1) rfl (l' := ll7) rfl ?_
    refine XS.goto X56_.here hx rfl (pc0 := 40) (pc' := 9) rfl (hC e15_37.2) (by decide) (by decide) ?_
    refine XS.iloadN X56_.here hx rfl (hC e15_7.2.2.1) rfl ?_
    refine XS.iloadN X56_.here hx rfl (hC e15_7.2.2.2) rfl ?_
    refine XS.icmpNo X56_.here hx rfl (hC e15_11.1) rfl (tlt ((by decide) : (2 : Int32) < (4 : Int32))).2.1 ?_
    refine XS.aloadN X56_.here hx rfl (hC e15_11.2.1) rfl rfl ?_
    refine XS.iloadN X56_.here hx rfl (hC e15_11.2.2.1) rfl ?_
    exact kK
  obtain ⟨cl57_, Ar57_, qk57_, Sz57_, Nn57_, Hh57_, Gg57_⟩ := id p1__2
  have hin58_ : ¬ ((2 : Int32) < 0 ∨ cl57_.slots.size ≤ ((2 : Int32)).toNatClampNeg) := inb_of Sz57_ ⟨by decide, by decide⟩
  have hat58_ : cl57_.slots[((2 : Int32)).toNatClampNeg]? = some (.ref u3) := Hh57_.at hin58_ rfl
  let ll8 : Array Slot := #[vR a, vR b_1_, vI 4, vI 2, vR u3]
  refine jg T56_ mM 21 ll8 [(.ref u3)] (fun tT kK => ?_) ?_
  · refine X56_.aaload hx (j := (2 : Int32)) (v := (.ref u3)) (own_rw p56__0 Ar57_.1) (State.isArrayOf_alike hZ.alike Ar57_.2.1) rfl Ar57_.2.2 hin58_ hat58_ (g := (mkF mM 16 ll7 [(.int (2 : Int32)), (.ref b_1_)])) rfl rfl (hC e15_11.2.2.2) _ ?_
    refine XS.astore X56_.here hx rfl (hC e15_17.1) rfl rfl (l' := ll8) rfl ?_
    refine XS.aload X56_.here hx rfl (hC e15_17.2.1) rfl rfl ?_
    exact kK
  refine jf X56_ hx hZ hown (jk hw 100 rfl) p56__0 fc33_ (hC e15_17.2.2.1) fun T59_ X59_ e59_ => ?_
  refine jg T59_ mM 25 ll8 [(.ref a), (.ref n3)] (fun tT kK => ?_) ?_
  · refine XS.aloadN X59_.here hx rfl (hC e15_17.2.2.2) rfl rfl ?_
    exact kK
  refine jv X59_ hx hZ (y := jy13) hown (jk hw 102 rfl) (jk hw 66 rfl) (jk hw 68 rfl) (jk hw 67 rfl) (jk hw 69 rfl) (jk hw 2 rfl) (rm_eq lL Z a0 hw [] n3 a t3 t (2 : Int32) (own_li [(98 : Int32), (109 : Int32)]) z f cs T1_.heap n0 (Nat.le_trans Z0 K1_.1) fc17_ Scs ncs fc34_ fc35_ fc36_ fc37_ fc44_ fc45_ fc46_ fc47_) fc34_ e59_ own_pd16 [(.ref a)] [] (hC d15_25) rfl rfl (by rw [hml]; rfl) (by decide) 0 (Nat.le_of_eq rfl) (by decide) (by decide) (by decide : 1 + 0 ≤ _) (by decide : 4 + 0 ≤ _) fun vv60_ T60_ L60_ X60_ hQ60_ => ?_
  obtain ⟨rfl, N60_q, p60__0⟩ := hQ60_
  have N60_ := Fr.app N56_ N60_q
  refine jg T60_ mM 33 ll8 [(.ref u3)] (fun tT kK => ?_) ?_
  · refine XS.ifNo X60_.here hx rfl (hC e15_28.1) rfl ((if0 _ _).trans (feq (c3 : ¬ ((own_eq (2 : Int32) (own_li [(98 : Int32), (109 : Int32)]) z f) = (0 : Int32)))).1) ?_
    show Steps pP.tables eE below (T60_.setTop (mkF mM 31 ll8 [])) tT
    refine XS.aload X60_.here hx rfl (hC e15_28.2.1) rfl rfl ?_
    exact kK
  refine jc X60_ hx hZ (y := jy18) hown (jk hw 126 rfl) (jk hw 127 rfl) (jk hw 105 rfl) (jk hw 128 rfl) (rm_of lL Z a0 hw [] u3 T1_.heap n0 (Nat.le_trans Z0 K1_.1) ) p60__0 own_pd17 [(.ref u3)] [] (hC e15_28.2.2) rfl rfl (by rw [hml]; rfl) (by decide) 0 (Nat.le_of_eq rfl) (by decide) (by decide) (by decide : 1 + 1 ≤ _) (by decide : 4 + 1 ≤ _) fun vv61_ T61_ L61_ X61_ hQ61_ => ?_
  obtain ⟨o_61_, rfl, N61_q, p61__0, p61__1, p61__2, p61__3⟩ := hQ61_
  have N61_ := Fr.app N60_ N61_q
  have sz_o_61_ : h0.size ≤ o_61_ := Nat.le_trans K1_.1 p61__1
  have K61_ := K1_.trans p61__0 all0
  exact own_rr X61_ hx hlk hre rfl (Or.inr (Or.inr (Or.inr (Or.inr ⟨rfl, rfl, rfl⟩)))) (hC d15_36) rfl (by decide) (by decide) ⟨o_61_, rfl, N61_, K61_, sz_o_61_, p61__2, p61__3⟩
theorem own_ef_rm_named3 (mM : MethodId) (x0 : Addr) : entryFrame mM #[(.ref x0)] 5 = mkF mM 0 #[.val (.ref x0), .unset, .unset, .unset, .unset] [] := by first | (simp [entryFrame, mkF, argsToLocals, Value.category]; done) | rfl
def Q_rm_named3 (Z : State) (a : Addr) (t : Addr) (z : Int32) (f : Int32 → Int32) (cs : Int32) (u1 : Addr) (u2 : Addr) (u3 : Addr) (u4 : Addr) (n1 : Addr) (n2 : Addr) (n3 : Addr) (n4 : Addr) (t1 : Addr) (t2 : Addr) (t3 : Addr) (t4 : Addr) (va : Addr) (em : Addr) (kv : ClassId) (h0 : Heap) (n0 : Nat) (vV : Option Value) (hH : Heap) (lA : List Loc) : Prop := ∃ o : Addr, vV = some (.ref o) ∧ Fr n0 lA ∧ (Keep h0 hH []) ∧ (h0.size ≤ o) ∧ (jE1 Z hH o) ∧ (jF2 Z hH o (.ref u4))
set_option maxRecDepth 65536 in
set_option maxHeartbeats 40000000 in
theorem rm_named3 (lL : Launch) (Z : State) (a0 : Array Value) (hw : own_H a0 Z) (ws : List Jvm.Cond) (a : Addr) (t : Addr) (z : Int32) (f : Int32 → Int32) (cs : Int32) (u1 : Addr) (u2 : Addr) (u3 : Addr) (u4 : Addr) (n1 : Addr) (n2 : Addr) (n3 : Addr) (n4 : Addr) (t1 : Addr) (t2 : Addr) (t3 : Addr) (t4 : Addr) (va : Addr) (em : Addr) (kv : ClassId) (h0 : Heap) (n0 : Nat) (Z0 : n0 ≤ h0.size) (Oo : Old Z n0 h0) (Scs : Sta Z Z.heap "java/lang/String" "COMPACT_STRINGS" "Z" (.int cs)) (ncs : ¬ (cs = (0 : Int32))) (Sv : Sta Z Z.heap "com/example/needlework/needlework/Algorithm" "$VALUES" "[Lcom/example/needlework/needlework/Algorithm;" (.ref va)) (Vv : Arv Z h0 va kv (.object "com/example/needlework/needlework/Algorithm") (4 : Int32) [(.ref u1), (.ref u2), (.ref u3), (.ref u4)] .null) (Ev : jE2 Z h0 va) (Se : Sta Z Z.heap "java/util/Optional" "EMPTY" "Ljava/util/Optional;" (.ref em)) (al0 : jE3 Z h0 u1) (al1 : jF3 Z h0 u1 (.ref n1)) (al2 : jE0 Z h0 n1) (al3 : jF1 Z h0 n1 (.ref t1)) (al4 : jF0 Z h0 n1 (.int (0 : Int32))) (al5 : own_T Z h0 t1 .byte (5 : Int32) (own_li [(98 : Int32), (114 : Int32), (117 : Int32), (116 : Int32), (101 : Int32)])) (al6 : jE3 Z h0 u2) (al7 : jF3 Z h0 u2 (.ref n2)) (al8 : jE0 Z h0 n2) (al9 : jF1 Z h0 n2 (.ref t2)) (al10 : jF0 Z h0 n2 (.int (0 : Int32))) (al11 : own_T Z h0 t2 .byte (3 : Int32) (own_li [(107 : Int32), (109 : Int32), (112 : Int32)])) (al12 : jE3 Z h0 u3) (al13 : jF3 Z h0 u3 (.ref n3)) (al14 : jE0 Z h0 n3) (al15 : jF1 Z h0 n3 (.ref t3)) (al16 : jF0 Z h0 n3 (.int (0 : Int32))) (al17 : own_T Z h0 t3 .byte (2 : Int32) (own_li [(98 : Int32), (109 : Int32)])) (al18 : jE3 Z h0 u4) (al19 : jF3 Z h0 u4 (.ref n4)) (al20 : jE0 Z h0 n4) (al21 : jF1 Z h0 n4 (.ref t4)) (al22 : jF0 Z h0 n4 (.int (0 : Int32))) (al23 : own_T Z h0 t4 .byte (7 : Int32) (own_li [(116 : Int32), (119 : Int32), (111 : Int32), (45 : Int32), (119 : Int32), (97 : Int32), (121 : Int32)])) (Ea : jE0 Z h0 a) (Fv : jF1 Z h0 a (.ref t)) (Fc : jF0 Z h0 a (.int (0 : Int32))) (Tt : own_T Z h0 t .byte z f) (c1 : (own_eq (5 : Int32) (own_li [(98 : Int32), (114 : Int32), (117 : Int32), (116 : Int32), (101 : Int32)]) z f) = (0 : Int32)) (c2 : (own_eq (3 : Int32) (own_li [(107 : Int32), (109 : Int32), (112 : Int32)]) z f) = (0 : Int32)) (c3 : (own_eq (2 : Int32) (own_li [(98 : Int32), (109 : Int32)]) z f) = (0 : Int32)) (c4 : ¬ ((own_eq (7 : Int32) (own_li [(116 : Int32), (119 : Int32), (111 : Int32), (45 : Int32), (119 : Int32), (97 : Int32), (121 : Int32)]) z f) = (0 : Int32))) :
    own_Met lL jy22 (Jvm.Cond.code jy22 prog_1_method_4_code 5 (some (.object "java/util/Optional")) :: ws) jr15 #[(.ref a)] Z h0 (Q_rm_named3 Z a t z f cs u1 u2 u3 u4 n1 n2 n3 n4 t1 t2 t3 t4 va em kv h0 n0) := by
  refine own_begin (plainFor_of_name own_pn_com_example_needlework_needlework_Algorithm) (fun mM => own_ef_rm_named3 mM a) fun pP eE sS mM below meth cC s₁ hx hby hml hZ hown hnm hre hlk X0 e0 => ?_
  have hC := @Jvm.hb _ _ hby
  have N0 := Fr.nil n0
  have K0 := Keep.refl h0 ([] : List Addr)
  refine jc X0 hx hZ (y := jy21) hown (jk hw 81 rfl) (jk hw 82 rfl) (jk hw 79 rfl) (jk hw 83 rfl) (rm_val lL Z a0 hw [] va u1 u2 u3 u4 kv h0 n0 (Nat.le_trans Z0 K0.1) Oo Sv Vv Ev) e0 own_pd15 [] [] (hC d15_0) rfl rfl (by rw [hml]; rfl) (by decide) 0 (Nat.le_of_eq rfl) (by decide) (by decide) (by decide : 0 + 1 ≤ _) (by decide : 0 + 4 ≤ _) fun vv1_ T1_ L1_ X1_ hQ1_ => ?_
  obtain ⟨b_1_, rfl, N1_q, p1__0, p1__1, p1__2⟩ := hQ1_
  have N1_ := Fr.app N0 N1_q
  have fc17_ := Oo.keep p1__0 all0
  have fc21_ := al1.keep p1__0 nin0
  have fc22_ := al2.keep p1__0
  have fc23_ := al3.keep p1__0 nin0
  have fc24_ := al4.keep p1__0 nin0
  have fc25_ := al5.keep p1__0 nin0
  have fc27_ := al7.keep p1__0 nin0
  have fc28_ := al8.keep p1__0
  have fc29_ := al9.keep p1__0 nin0
  have fc30_ := al10.keep p1__0 nin0
  have fc31_ := al11.keep p1__0 nin0
  have fc33_ := al13.keep p1__0 nin0
  have fc34_ := al14.keep p1__0
  have fc35_ := al15.keep p1__0 nin0
  have fc36_ := al16.keep p1__0 nin0
  have fc37_ := al17.keep p1__0 nin0
  have fc39_ := al19.keep p1__0 nin0
  have fc40_ := al20.keep p1__0
  have fc41_ := al21.keep p1__0 nin0
  have fc42_ := al22.keep p1__0 nin0
  have fc43_ := al23.keep p1__0 nin0
  have fc44_ := Ea.keep p1__0
  have fc45_ := Fv.keep p1__0 nin0
  have fc46_ := Fc.keep p1__0 nin0
  have fc47_ := Tt.keep p1__0 nin0
  have K1_ := K0.trans p1__0 all0
  let ll1 : Array Slot := #[vR a, vR b_1_, vU, vU, vU]
  refine jg T1_ mM 5 ll1 [(.ref b_1_)] (fun tT kK => ?_) ?_
  · refine XS.astoreN X1_.here hx rfl (hC e15_3.1) rfl rfl (l' := ll1) rfl ?_
    refine XS.aloadN X1_.here hx rfl (hC e15_3.2.1) rfl rfl ?_
    exact kK
  obtain ⟨cl48_, Ar48_, qk48_, Sz48_, Nn48_, Hh48_, Gg48_⟩ := id p1__2
  let ll2 : Array Slot := #[vR a, vR b_1_, vI 4, vI 0, vU]
  refine jg T1_ mM 16 ll2 [(.int (0 : Int32)), (.ref b_1_)] (fun tT kK => ?_) ?_
  · refine X1_.arraylength hx (own_rw rfl Ar48_.1) (State.isArrayOf_alike hZ.alike Ar48_.2.1) (g := (mkF mM 5 ll1 [(.ref b_1_)])) rfl rfl (hC e15_3.2.2.1) _ ?_
    rw [len_of Sz48_ Nn48_]
    let ll3 : Array Slot := #[vR a, vR b_1_, vI 4, vU, vU]
    refine XS.istoreN X1_.here hx rfl (hC e15_3.2.2.2) rfl (l' := ll3) rfl ?_
    refine XS.iconst X1_.here hx rfl (hC e15_7.1) ?_
    refine XS.istoreN X1_.here hx rfl (hC e15_7.2.1) rfl (l' := ll2) rfl ?_
    refine XS.iloadN X1_.here hx rfl (hC e15_7.2.2.1) rfl ?_
    refine XS.iloadN X1_.here hx rfl (hC e15_7.2.2.2) rfl ?_
    refine XS.icmpNo X1_.here hx rfl (hC e15_11.1) rfl (tlt ((by decide) : (0 : Int32) < (4 : Int32))).2.1 ?_
    refine XS.aloadN X1_.here hx rfl (hC e15_11.2.1) rfl rfl ?_
    refine XS.iloadN X1_.here hx rfl (hC e15_11.2.2.1) rfl ?_
    exact kK
  obtain ⟨cl49_, Ar49_, qk49_, Sz49_, Nn49_, Hh49_, Gg49_⟩ := id p1__2
  have hin50_ : ¬ ((0 : Int32) < 0 ∨ cl49_.slots.size ≤ ((0 : Int32)).toNatClampNeg) := inb_of Sz49_ ⟨by decide, by decide⟩
  have hat50_ : cl49_.slots[((0 : Int32)).toNatClampNeg]? = some (.ref u1) := Hh49_.at hin50_ rfl
  let ll4 : Array Slot := #[vR a, vR b_1_, vI 4, vI 0, vR u1]
  refine jg T1_ mM 21 ll4 [(.ref u1)] (fun tT kK => ?_) ?_
  · refine X1_.aaload hx (j := (0 : Int32)) (v := (.ref u1)) (own_rw rfl Ar49_.1) (State.isArrayOf_alike hZ.alike Ar49_.2.1) rfl Ar49_.2.2 hin50_ hat50_ (g := (mkF mM 16 ll2 [(.int (0 : Int32)), (.ref b_1_)])) rfl rfl (hC e15_11.2.2.2) _ ?_
    refine XS.astore X1_.here hx rfl (hC e15_17.1) rfl rfl (l' := ll4) rfl ?_
    refine XS.aload X1_.here hx rfl (hC e15_17.2.1) rfl rfl ?_
    exact kK
  refine jf X1_ hx hZ hown (jk hw 100 rfl) rfl fc21_ (hC e15_17.2.2.1) fun T51_ X51_ e51_ => ?_
  refine jg T51_ mM 25 ll4 [(.ref a), (.ref n1)] (fun tT kK => ?_) ?_
  · refine XS.aloadN X51_.here hx rfl (hC e15_17.2.2.2) rfl rfl ?_
    exact kK
  refine jv X51_ hx hZ (y := jy13) hown (jk hw 102 rfl) (jk hw 66 rfl) (jk hw 68 rfl) (jk hw 67 rfl) (jk hw 69 rfl) (jk hw 2 rfl) (rm_eq lL Z a0 hw [] n1 a t1 t (5 : Int32) (own_li [(98 : Int32), (114 : Int32), (117 : Int32), (116 : Int32), (101 : Int32)]) z f cs T1_.heap n0 (Nat.le_trans Z0 K1_.1) fc17_ Scs ncs fc22_ fc23_ fc24_ fc25_ fc44_ fc45_ fc46_ fc47_) fc22_ e51_ own_pd16 [(.ref a)] [] (hC d15_25) rfl rfl (by rw [hml]; rfl) (by decide) 0 (Nat.le_of_eq rfl) (by decide) (by decide) (by decide : 1 + 0 ≤ _) (by decide : 4 + 0 ≤ _) fun vv52_ T52_ L52_ X52_ hQ52_ => ?_
  obtain ⟨rfl, N52_q, p52__0⟩ := hQ52_
  have N52_ := Fr.app N1_ N52_q
  let ll5 : Array Slot := #[vR a, vR b_1_, vI 4, vI 1, vR u1]
  refine jg T52_ mM 16 ll5 [(.int (1 : Int32)), (.ref b_1_)] (fun tT kK => ?_) ?_
  · refine XS.ifYes X52_.here hx rfl (pc0 := 28) (pc' := 37) rfl (hC e15_28.1) rfl ((if0 _ _).trans (teq (c1 : (own_eq (5 : Int32) (own_li [(98 : Int32), (114 : Int32), (117 : Int32), (116 : Int32), (101 : Int32)]) z f) = (0 : Int32))).1) (by decide) (by decide) ?_
    refine XS.iinc X52_.here hx rfl (hC e15_37.1) rfl (l' := ll5) rfl ?_
    refine XS.goto X52_.here hx rfl (pc0 := 40) (pc' := 9) rfl (hC e15_37.2) (by decide) (by decide) ?_
    refine XS.iloadN X52_.here hx rfl (hC e15_7.2.2.1) rfl ?_
    refine XS.iloadN X52_.here hx rfl (hC e15_7.2.2.2) rfl ?_
    refine XS.icmpNo X52_.here hx rfl (hC e15_11.1) rfl (tlt ((by decide) : (1 : Int32) < (4 : Int32))).2.1 ?_
    refine XS.aloadN X52_.here hx rfl (hC e15_11.2.1) rfl rfl ?_
    refine XS.iloadN X52_.here hx rfl (hC e15_11.2.2.1) rfl ?_
    exact kK
  obtain ⟨cl53_, Ar53_, qk53_, Sz53_, Nn53_, Hh53_, Gg53_⟩ := id p1__2
  have hin54_ : ¬ ((1 : Int32) < 0 ∨ cl53_.slots.size ≤ ((1 : Int32)).toNatClampNeg) := inb_of Sz53_ ⟨by decide, by decide⟩
  have hat54_ : cl53_.slots[((1 : Int32)).toNatClampNeg]? = some (.ref u2) := Hh53_.at hin54_ rfl
  let ll6 : Array Slot := #[vR a, vR b_1_, vI 4, vI 1, vR u2]
  refine jg T52_ mM 21 ll6 [(.ref u2)] (fun tT kK => ?_) ?_
  · refine X52_.aaload hx (j := (1 : Int32)) (v := (.ref u2)) (own_rw p52__0 Ar53_.1) (State.isArrayOf_alike hZ.alike Ar53_.2.1) rfl Ar53_.2.2 hin54_ hat54_ (g := (mkF mM 16 ll5 [(.int (1 : Int32)), (.ref b_1_)])) rfl rfl (hC e15_11.2.2.2) _ ?_
    refine XS.astore X52_.here hx rfl (hC e15_17.1) rfl rfl (l' := ll6) rfl ?_
    refine XS.aload X52_.here hx rfl (hC e15_17.2.1) rfl rfl ?_
    exact kK
  refine jf X52_ hx hZ hown (jk hw 100 rfl) p52__0 fc27_ (hC e15_17.2.2.1) fun T55_ X55_ e55_ => ?_
  refine jg T55_ mM 25 ll6 [(.ref a), (.ref n2)] (fun tT kK => ?_) ?_
  · refine XS.aloadN X55_.here hx rfl (hC e15_17.2.2.2) rfl rfl ?_
    exact kK
  refine jv X55_ hx hZ (y := jy13) hown (jk hw 102 rfl) (jk hw 66 rfl) (jk hw 68 rfl) (jk hw 67 rfl) (jk hw 69 rfl) (jk hw 2 rfl) (rm_eq lL Z a0 hw [] n2 a t2 t (3 : Int32) (own_li [(107 : Int32), (109 : Int32), (112 : Int32)]) z f cs T1_.heap n0 (Nat.le_trans Z0 K1_.1) fc17_ Scs ncs fc28_ fc29_ fc30_ fc31_ fc44_ fc45_ fc46_ fc47_) fc28_ e55_ own_pd16 [(.ref a)] [] (hC d15_25) rfl rfl (by rw [hml]; rfl) (by decide) 0 (Nat.le_of_eq rfl) (by decide) (by decide) (by decide : 1 + 0 ≤ _) (by decide : 4 + 0 ≤ _) fun vv56_ T56_ L56_ X56_ hQ56_ => ?_
  obtain ⟨rfl, N56_q, p56__0⟩ := hQ56_
  have N56_ := Fr.app N52_ N56_q
  let ll7 : Array Slot := #[vR a, vR b_1_, vI 4, vI 2, vR u2]
  refine jg T56_ mM 16 ll7 [(.int (2 : Int32)), (.ref b_1_)] (fun tT kK => ?_) ?_
  · refine XS.ifYes X56_.here hx rfl (pc0 := 28) (pc' := 37) rfl (hC e15_28.1) rfl ((if0 _ _).trans (teq (c2 : (own_eq (3 : Int32) (own_li [(107 : Int32), (109 : Int32), (112 : Int32)]) z f) = (0 : Int32))).1) (by decide) (by decide) ?_
    refine XS.iinc X56_.here hx rfl (hC e15_37.1) rfl (l' := ll7) rfl ?_
    refine XS.goto X56_.here hx rfl (pc0 := 40) (pc' := 9) rfl (hC e15_37.2) (by decide) (by decide) ?_
    refine XS.iloadN X56_.here hx rfl (hC e15_7.2.2.1) rfl ?_
    refine XS.iloadN X56_.here hx rfl (hC e15_7.2.2.2) rfl ?_
    refine XS.icmpNo X56_.here hx rfl (hC e15_11.1) rfl (tlt ((by decide) : (2 : Int32) < (4 : Int32))).2.1 ?_
    refine XS.aloadN X56_.here hx rfl (hC e15_11.2.1) rfl rfl ?_
    refine XS.iloadN X56_.here hx rfl (hC e15_11.2.2.1) rfl ?_
    exact kK
  obtain ⟨cl57_, Ar57_, qk57_, Sz57_, Nn57_, Hh57_, Gg57_⟩ := id p1__2
  have hin58_ : ¬ ((2 : Int32) < 0 ∨ cl57_.slots.size ≤ ((2 : Int32)).toNatClampNeg) := inb_of Sz57_ ⟨by decide, by decide⟩
  have hat58_ : cl57_.slots[((2 : Int32)).toNatClampNeg]? = some (.ref u3) := Hh57_.at hin58_ rfl
  let ll8 : Array Slot := #[vR a, vR b_1_, vI 4, vI 2, vR u3]
  refine jg T56_ mM 21 ll8 [(.ref u3)] (fun tT kK => ?_) ?_
  · refine X56_.aaload hx (j := (2 : Int32)) (v := (.ref u3)) (own_rw p56__0 Ar57_.1) (State.isArrayOf_alike hZ.alike Ar57_.2.1) rfl Ar57_.2.2 hin58_ hat58_ (g := (mkF mM 16 ll7 [(.int (2 : Int32)), (.ref b_1_)])) rfl rfl (hC e15_11.2.2.2) _ ?_
    refine XS.astore X56_.here hx rfl (hC e15_17.1) rfl rfl (l' := ll8) rfl ?_
    refine XS.aload X56_.here hx rfl (hC e15_17.2.1) rfl rfl ?_
    exact kK
  refine jf X56_ hx hZ hown (jk hw 100 rfl) p56__0 fc33_ (hC e15_17.2.2.1) fun T59_ X59_ e59_ => ?_
  refine jg T59_ mM 25 ll8 [(.ref a), (.ref n3)] (fun tT kK => ?_) ?_
  · refine XS.aloadN X59_.here hx rfl (hC e15_17.2.2.2) rfl rfl ?_
    exact kK
  refine jv X59_ hx hZ (y := jy13) hown (jk hw 102 rfl) (jk hw 66 rfl) (jk hw 68 rfl) (jk hw 67 rfl) (jk hw 69 rfl) (jk hw 2 rfl) (rm_eq lL Z a0 hw [] n3 a t3 t (2 : Int32) (own_li [(98 : Int32), (109 : Int32)]) z f cs T1_.heap n0 (Nat.le_trans Z0 K1_.1) fc17_ Scs ncs fc34_ fc35_ fc36_ fc37_ fc44_ fc45_ fc46_ fc47_) fc34_ e59_ own_pd16 [(.ref a)] [] (hC d15_25) rfl rfl (by rw [hml]; rfl) (by decide) 0 (Nat.le_of_eq rfl) (by decide) (by decide) (by decide : 1 + 0 ≤ _) (by decide : 4 + 0 ≤ _) fun vv60_ T60_ L60_ X60_ hQ60_ => ?_
  obtain ⟨rfl, N60_q, p60__0⟩ := hQ60_
  have N60_ := Fr.app N56_ N60_q
  let ll9 : Array Slot := #[vR a, vR b_1_, vI 4, vI 3, vR u3]
  refine jg T60_ mM 16 ll9 [(.int (3 : Int32)), (.ref b_1_)] (fun tT kK => ?_) ?_
  · refine XS.ifYes X60_.here hx rfl (pc0 := 28) (pc' := 37) rfl (hC e15_28.1) rfl ((if0 _ _).trans (teq (c3 : (own_eq (2 : Int32) (own_li [(98 : Int32), (109 : Int32)]) z f) = (0 : Int32))).1) (by decide) (by decide) ?_
    show Steps pP.tables eE below (T60_.setTop (mkF mM 37 ll8 [])) tT
    refine XS.iinc X60_.here hx rfl (hC e15_37.1) rfl (l' := ll9) rfl ?_
    refine XS.goto X60_.here hx rfl (pc0 := 40) (pc' := 9) rfl (hC e15_37.2) (by decide) (by decide) ?_
    refine XS.iloadN X60_.here hx rfl (hC e15_7.2.2.1) rfl ?_
    refine XS.iloadN X60_.here hx rfl (hC e15_7.2.2.2) rfl ?_
    refine XS.icmpNo X60_.here hx rfl (hC e15_11.1) rfl (tlt ((by decide) : (3 : Int32) < (4 : Int32))).2.1 ?_
    refine XS.aloadN X60_.here hx rfl (hC e15_11.2.1) rfl rfl ?_
    refine XS.iloadN X60_.here hx rfl (hC e15_11.2.2.1) rfl ?_
    exact kK
  obtain ⟨cl61_, Ar61_, qk61_, Sz61_, Nn61_, Hh61_, Gg61_⟩ := id p1__2
  have hin62_ : ¬ ((3 : Int32) < 0 ∨ cl61_.slots.size ≤ ((3 : Int32)).toNatClampNeg) := inb_of Sz61_ ⟨by decide, by decide⟩
  have hat62_ : cl61_.slots[((3 : Int32)).toNatClampNeg]? = some (.ref u4) := Hh61_.at hin62_ rfl
  let ll10 : Array Slot := #[vR a, vR b_1_, vI 4, vI 3, vR u4]
  refine jg T60_ mM 21 ll10 [(.ref u4)] (fun tT kK => ?_) ?_
  · refine X60_.aaload hx (j := (3 : Int32)) (v := (.ref u4)) (own_rw p60__0 Ar61_.1) (State.isArrayOf_alike hZ.alike Ar61_.2.1) rfl Ar61_.2.2 hin62_ hat62_ (g := (mkF mM 16 ll9 [(.int (3 : Int32)), (.ref b_1_)])) rfl rfl (hC e15_11.2.2.2) _ ?_
    refine XS.astore X60_.here hx rfl (hC e15_17.1) rfl rfl (l' := ll10) rfl ?_
    refine XS.aload X60_.here hx rfl (hC e15_17.2.1) rfl rfl ?_
    exact kK
  refine jf X60_ hx hZ hown (jk hw 100 rfl) p60__0 fc39_ (hC e15_17.2.2.1) fun T63_ X63_ e63_ => ?_
  refine jg T63_ mM 25 ll10 [(.ref a), (.ref n4)] (fun tT kK => ?_) ?_
  · refine XS.aloadN X63_.here hx rfl (hC e15_17.2.2.2) rfl rfl ?_
    exact kK
  refine jv X63_ hx hZ (y := jy13) hown (jk hw 102 rfl) (jk hw 66 rfl) (jk hw 68 rfl) (jk hw 67 rfl) (jk hw 69 rfl) (jk hw 2 rfl) (rm_eq lL Z a0 hw [] n4 a t4 t (7 : Int32) (own_li [(116 : Int32), (119 : Int32), (111 : Int32), (45 : Int32), (119 : Int32), (97 : Int32), (121 : Int32)]) z f cs T1_.heap n0 (Nat.le_trans Z0 K1_.1) fc17_ Scs ncs fc40_ fc41_ fc42_ fc43_ fc44_ fc45_ fc46_ fc47_) fc40_ e63_ own_pd16 [(.ref a)] [] (hC d15_25) rfl rfl (by rw [hml]; rfl) (by decide) 0 (Nat.le_of_eq rfl) (by decide) (by decide) (by decide : 1 + 0 ≤ _) (by decide : 4 + 0 ≤ _) fun vv64_ T64_ L64_ X64_ hQ64_ => ?_
  obtain ⟨rfl, N64_q, p64__0⟩ := hQ64_
  have N64_ := Fr.app N60_ N64_q
  refine jg T64_ mM 33 ll10 [(.ref u4)] (fun tT kK => ?_) ?_
  · refine XS.ifNo X64_.here hx rfl (hC e15_28.1) rfl ((if0 _ _).trans (feq (c4 : ¬ ((own_eq (7 : Int32) (own_li [(116 : Int32), (119 : Int32), (111 : Int32), (45 : Int32), (119 : Int32), (97 : Int32), (121 : Int32)]) z f) = (0 : Int32)))).1) ?_
    refine XS.aload X64_.here hx rfl (hC e15_28.2.1) rfl rfl ?_
    exact kK
  refine jc X64_ hx hZ (y := jy18) hown (jk hw 126 rfl) (jk hw 127 rfl) (jk hw 105 rfl) (jk hw 128 rfl) (rm_of lL Z a0 hw [] u4 T1_.heap n0 (Nat.le_trans Z0 K1_.1) ) p64__0 own_pd17 [(.ref u4)] [] (hC e15_28.2.2) rfl rfl (by rw [hml]; rfl) (by decide) 0 (Nat.le_of_eq rfl) (by decide) (by decide) (by decide : 1 + 1 ≤ _) (by decide : 4 + 1 ≤ _) fun vv65_ T65_ L65_ X65_ hQ65_ => ?_
  obtain ⟨o_65_, rfl, N65_q, p65__0, p65__1, p65__2, p65__3⟩ := hQ65_
  have N65_ := Fr.app N64_ N65_q
  have sz_o_65_ : h0.size ≤ o_65_ := Nat.le_trans K1_.1 p65__1
  have K65_ := K1_.trans p65__0 all0
  exact own_rr X65_ hx hlk hre rfl (Or.inr (Or.inr (Or.inr (Or.inr ⟨rfl, rfl, rfl⟩)))) (hC d15_36) rfl (by decide) (by decide) ⟨o_65_, rfl, N65_, K65_, sz_o_65_, p65__2, p65__3⟩
theorem d15_43 : jD22 43 (.invokestatic 59, 3) := by decide +kernel
theorem own_pd18 : parseMethodDescriptor "()Ljava/util/Optional;" = some ⟨[], some (.object "java/util/Optional")⟩ := by decide +kernel
theorem d15_46 : jD22 46 (.areturn, 1) := by decide +kernel
theorem own_ef_rm_named4 (mM : MethodId) (x0 : Addr) : entryFrame mM #[(.ref x0)] 5 = mkF mM 0 #[.val (.ref x0), .unset, .unset, .unset, .unset] [] := by first | (simp [entryFrame, mkF, argsToLocals, Value.category]; done) | rfl
def Q_rm_named4 (Z : State) (a : Addr) (t : Addr) (z : Int32) (f : Int32 → Int32) (cs : Int32) (u1 : Addr) (u2 : Addr) (u3 : Addr) (u4 : Addr) (n1 : Addr) (n2 : Addr) (n3 : Addr) (n4 : Addr) (t1 : Addr) (t2 : Addr) (t3 : Addr) (t4 : Addr) (va : Addr) (em : Addr) (kv : ClassId) (h0 : Heap) (n0 : Nat) (vV : Option Value) (hH : Heap) (lA : List Loc) : Prop := vV = some (.ref em) ∧ Fr n0 lA ∧ (Keep h0 hH [])
set_option maxRecDepth 65536 in
set_option maxHeartbeats 40000000 in
theorem rm_named4 (lL : Launch) (Z : State) (a0 : Array Value) (hw : own_H a0 Z) (ws : List Jvm.Cond) (a : Addr) (t : Addr) (z : Int32) (f : Int32 → Int32) (cs : Int32) (u1 : Addr) (u2 : Addr) (u3 : Addr) (u4 : Addr) (n1 : Addr) (n2 : Addr) (n3 : Addr) (n4 : Addr) (t1 : Addr) (t2 : Addr) (t3 : Addr) (t4 : Addr) (va : Addr) (em : Addr) (kv : ClassId) (h0 : Heap) (n0 : Nat) (Z0 : n0 ≤ h0.size) (Oo : Old Z n0 h0) (Scs : Sta Z Z.heap "java/lang/String" "COMPACT_STRINGS" "Z" (.int cs)) (ncs : ¬ (cs = (0 : Int32))) (Sv : Sta Z Z.heap "com/example/needlework/needlework/Algorithm" "$VALUES" "[Lcom/example/needlework/needlework/Algorithm;" (.ref va)) (Vv : Arv Z h0 va kv (.object "com/example/needlework/needlework/Algorithm") (4 : Int32) [(.ref u1), (.ref u2), (.ref u3), (.ref u4)] .null) (Ev : jE2 Z h0 va) (Se : Sta Z Z.heap "java/util/Optional" "EMPTY" "Ljava/util/Optional;" (.ref em)) (al0 : jE3 Z h0 u1) (al1 : jF3 Z h0 u1 (.ref n1)) (al2 : jE0 Z h0 n1) (al3 : jF1 Z h0 n1 (.ref t1)) (al4 : jF0 Z h0 n1 (.int (0 : Int32))) (al5 : own_T Z h0 t1 .byte (5 : Int32) (own_li [(98 : Int32), (114 : Int32), (117 : Int32), (116 : Int32), (101 : Int32)])) (al6 : jE3 Z h0 u2) (al7 : jF3 Z h0 u2 (.ref n2)) (al8 : jE0 Z h0 n2) (al9 : jF1 Z h0 n2 (.ref t2)) (al10 : jF0 Z h0 n2 (.int (0 : Int32))) (al11 : own_T Z h0 t2 .byte (3 : Int32) (own_li [(107 : Int32), (109 : Int32), (112 : Int32)])) (al12 : jE3 Z h0 u3) (al13 : jF3 Z h0 u3 (.ref n3)) (al14 : jE0 Z h0 n3) (al15 : jF1 Z h0 n3 (.ref t3)) (al16 : jF0 Z h0 n3 (.int (0 : Int32))) (al17 : own_T Z h0 t3 .byte (2 : Int32) (own_li [(98 : Int32), (109 : Int32)])) (al18 : jE3 Z h0 u4) (al19 : jF3 Z h0 u4 (.ref n4)) (al20 : jE0 Z h0 n4) (al21 : jF1 Z h0 n4 (.ref t4)) (al22 : jF0 Z h0 n4 (.int (0 : Int32))) (al23 : own_T Z h0 t4 .byte (7 : Int32) (own_li [(116 : Int32), (119 : Int32), (111 : Int32), (45 : Int32), (119 : Int32), (97 : Int32), (121 : Int32)])) (Ea : jE0 Z h0 a) (Fv : jF1 Z h0 a (.ref t)) (Fc : jF0 Z h0 a (.int (0 : Int32))) (Tt : own_T Z h0 t .byte z f) (c1 : (own_eq (5 : Int32) (own_li [(98 : Int32), (114 : Int32), (117 : Int32), (116 : Int32), (101 : Int32)]) z f) = (0 : Int32)) (c2 : (own_eq (3 : Int32) (own_li [(107 : Int32), (109 : Int32), (112 : Int32)]) z f) = (0 : Int32)) (c3 : (own_eq (2 : Int32) (own_li [(98 : Int32), (109 : Int32)]) z f) = (0 : Int32)) (c4 : (own_eq (7 : Int32) (own_li [(116 : Int32), (119 : Int32), (111 : Int32), (45 : Int32), (119 : Int32), (97 : Int32), (121 : Int32)]) z f) = (0 : Int32)) :
    own_Met lL jy22 (Jvm.Cond.code jy22 prog_1_method_4_code 5 (some (.object "java/util/Optional")) :: ws) jr16 #[(.ref a)] Z h0 (Q_rm_named4 Z a t z f cs u1 u2 u3 u4 n1 n2 n3 n4 t1 t2 t3 t4 va em kv h0 n0) := by
  refine own_begin (plainFor_of_name own_pn_com_example_needlework_needlework_Algorithm) (fun mM => own_ef_rm_named4 mM a) fun pP eE sS mM below meth cC s₁ hx hby hml hZ hown hnm hre hlk X0 e0 => ?_
  have hC := @Jvm.hb _ _ hby
  have N0 := Fr.nil n0
  have K0 := Keep.refl h0 ([] : List Addr)
  refine jc X0 hx hZ (y := jy21) hown (jk hw 81 rfl) (jk hw 82 rfl) (jk hw 79 rfl) (jk hw 83 rfl) (rm_val lL Z a0 hw [] va u1 u2 u3 u4 kv h0 n0 (Nat.le_trans Z0 K0.1) Oo Sv Vv Ev) e0 own_pd15 [] [] (hC d15_0) rfl rfl (by rw [hml]; rfl) (by decide) 0 (Nat.le_of_eq rfl) (by decide) (by decide) (by decide : 0 + 1 ≤ _) (by decide : 0 + 4 ≤ _) fun vv1_ T1_ L1_ X1_ hQ1_ => ?_
  obtain ⟨b_1_, rfl, N1_q, p1__0, p1__1, p1__2⟩ := hQ1_
  have N1_ := Fr.app N0 N1_q
  have fc17_ := Oo.keep p1__0 all0
  have fc21_ := al1.keep p1__0 nin0
  have fc22_ := al2.keep p1__0
  have fc23_ := al3.keep p1__0 nin0
  have fc24_ := al4.keep p1__0 nin0
  have fc25_ := al5.keep p1__0 nin0
  have fc27_ := al7.keep p1__0 nin0
  have fc28_ := al8.keep p1__0
  have fc29_ := al9.keep p1__0 nin0
  have fc30_ := al10.keep p1__0 nin0
  have fc31_ := al11.keep p1__0 nin0
  have fc33_ := al13.keep p1__0 nin0
  have fc34_ := al14.keep p1__0
  have fc35_ := al15.keep p1__0 nin0
  have fc36_ := al16.keep p1__0 nin0
  have fc37_ := al17.keep p1__0 nin0
  have fc39_ := al19.keep p1__0 nin0
  have fc40_ := al20.keep p1__0
  have fc41_ := al21.keep p1__0 nin0
  have fc42_ := al22.keep p1__0 nin0
  have fc43_ := al23.keep p1__0 nin0
  have fc44_ := Ea.keep p1__0
  have fc45_ := Fv.keep p1__0 nin0
  have fc46_ := Fc.keep p1__0 nin0
  have fc47_ := Tt.keep p1__0 nin0
  have K1_ := K0.trans p1__0 all0
  let ll1 : Array Slot := #[vR a, vR b_1_, vU, vU, vU]
  refine jg T1_ mM 5 ll1 [(.ref b_1_)] (fun tT kK => ?_) ?_
  · refine XS.astoreN X1_.here hx rfl (hC e15_3.1) rfl rfl (l' := ll1) rfl ?_
    refine XS.aloadN X1_.here hx rfl (hC e15_3.2.1) rfl rfl ?_
    exact kK
  obtain ⟨cl48_, Ar48_, qk48_, Sz48_, Nn48_, Hh48_, Gg48_⟩ := id p1__2
  let ll2 : Array Slot := #[vR a, vR b_1_, vI 4, vI 0, vU]
  refine jg T1_ mM 16 ll2 [(.int (0 : Int32)), (.ref b_1_)] (fun tT kK => ?_) ?_
  · refine X1_.arraylength hx (own_rw rfl Ar48_.1) (State.isArrayOf_alike hZ.alike Ar48_.2.1) (g := (mkF mM 5 ll1 [(.ref b_1_)])) rfl rfl (hC e15_3.2.2.1) _ ?_
    rw [len_of Sz48_ Nn48_]
    let ll3 : Array Slot := #[vR a, vR b_1_, vI 4, vU, vU]
    refine XS.istoreN X1_.here hx rfl (hC e15_3.2.2.2) rfl (l' := ll3) rfl ?_
    refine XS.iconst X1_.here hx rfl (hC e15_7.1) ?_
    refine XS.istoreN X1_.here hx rfl (hC e15_7.2.1) rfl (l' := ll2) rfl ?_
    refine XS.iloadN X1_.here hx rfl (hC e15_7.2.2.1) rfl ?_
    refine XS.iloadN X1_.here hx rfl (hC e15_7.2.2.2) rfl ?_
    refine XS.icmpNo X1_.here hx rfl (hC e15_11.1) rfl (tlt ((by decide) : (0 : Int32) < (4 : Int32))).2.1 ?_
    refine XS.aloadN X1_.here hx rfl (hC e15_11.2.1) rfl rfl ?_
    refine XS.iloadN X1_.here hx rfl (hC e15_11.2.2.1) rfl ?_
    exact kK
  obtain ⟨cl49_, Ar49_, qk49_, Sz49_, Nn49_, Hh49_, Gg49_⟩ := id p1__2
  have hin50_ : ¬ ((0 : Int32) < 0 ∨ cl49_.slots.size ≤ ((0 : Int32)).toNatClampNeg) := inb_of Sz49_ ⟨by decide, by decide⟩
  have hat50_ : cl49_.slots[((0 : Int32)).toNatClampNeg]? = some (.ref u1) := Hh49_.at hin50_ rfl
  let ll4 : Array Slot := #[vR a, vR b_1_, vI 4, vI 0, vR u1]
  refine jg T1_ mM 21 ll4 [(.ref u1)] (fun tT kK => ?_) ?_
  · refine X1_.aaload hx (j := (0 : Int32)) (v := (.ref u1)) (own_rw rfl Ar49_.1) (State.isArrayOf_alike hZ.alike Ar49_.2.1) rfl Ar49_.2.2 hin50_ hat50_ (g := (mkF mM 16 ll2 [(.int (0 : Int32)), (.ref b_1_)])) rfl rfl (hC e15_11.2.2.2) _ ?_
    refine XS.astore X1_.here hx rfl (hC e15_17.1) rfl rfl (l' := ll4) rfl ?_
    refine XS.aload X1_.here hx rfl (hC e15_17.2.1) rfl rfl ?_
    exact kK
  refine jf X1_ hx hZ hown (jk hw 100 rfl) rfl fc21_ (hC e15_17.2.2.1) fun T51_ X51_ e51_ => ?_
  refine jg T51_ mM 25 ll4 [(.ref a), (.ref n1)] (fun tT kK => ?_) ?_
  · refine XS.aloadN X51_.here hx rfl (hC e15_17.2.2.2) rfl rfl ?_
    exact kK
  refine jv X51_ hx hZ (y := jy13) hown (jk hw 102 rfl) (jk hw 66 rfl) (jk hw 68 rfl) (jk hw 67 rfl) (jk hw 69 rfl) (jk hw 2 rfl) (rm_eq lL Z a0 hw [] n1 a t1 t (5 : Int32) (own_li [(98 : Int32), (114 : Int32), (117 : Int32), (116 : Int32), (101 : Int32)]) z f cs T1_.heap n0 (Nat.le_trans Z0 K1_.1) fc17_ Scs ncs fc22_ fc23_ fc24_ fc25_ fc44_ fc45_ fc46_ fc47_) fc22_ e51_ own_pd16 [(.ref a)] [] (hC d15_25) rfl rfl (by rw [hml]; rfl) (by decide) 0 (Nat.le_of_eq rfl) (by decide) (by decide) (by decide : 1 + 0 ≤ _) (by decide : 4 + 0 ≤ _) fun vv52_ T52_ L52_ X52_ hQ52_ => ?_
  obtain ⟨rfl, N52_q, p52__0⟩ := hQ52_
  have N52_ := Fr.app N1_ N52_q
  let ll5 : Array Slot := #[vR a, vR b_1_, vI 4, vI 1, vR u1]
  refine jg T52_ mM 16 ll5 [(.int (1 : Int32)), (.ref b_1_)] (fun tT kK => ?_) ?_
  · refine XS.ifYes X52_.here hx rfl (pc0 := 28) (pc' := 37) rfl (hC e15_28.1) rfl ((if0 _ _).trans (teq (c1 : (own_eq (5 : Int32) (own_li [(98 : Int32), (114 : Int32), (117 : Int32), (116 : Int32), (101 : Int32)]) z f) = (0 : Int32))).1) (by decide) (by decide) ?_
    refine XS.iinc X52_.here hx rfl (hC e15_37.1) rfl (l' := ll5) rfl ?_
    refine XS.goto X52_.here hx rfl (pc0 := 40) (pc' := 9) rfl (hC e15_37.2) (by decide) (by decide) ?_
    refine XS.iloadN X52_.here hx rfl (hC e15_7.2.2.1) rfl ?_
    refine XS.iloadN X52_.here hx rfl (hC e15_7.2.2.2) rfl ?_
    refine XS.icmpNo X52_.here hx rfl (hC e15_11.1) rfl (tlt ((by decide) : (1 : Int32) < (4 : Int32))).2.1 ?_
    refine XS.aloadN X52_.here hx rfl (hC e15_11.2.1) rfl rfl ?_
    refine XS.iloadN X52_.here hx rfl (hC e15_11.2.2.1) rfl ?_
    exact kK
  obtain ⟨cl53_, Ar53_, qk53_, Sz53_, Nn53_, Hh53_, Gg53_⟩ := id p1__2
  have hin54_ : ¬ ((1 : Int32) < 0 ∨ cl53_.slots.size ≤ ((1 : Int32)).toNatClampNeg) := inb_of Sz53_ ⟨by decide, by decide⟩
  have hat54_ : cl53_.slots[((1 : Int32)).toNatClampNeg]? = some (.ref u2) := Hh53_.at hin54_ rfl
  let ll6 : Array Slot := #[vR a, vR b_1_, vI 4, vI 1, vR u2]
  refine jg T52_ mM 21 ll6 [(.ref u2)] (fun tT kK => ?_) ?_
  · refine X52_.aaload hx (j := (1 : Int32)) (v := (.ref u2)) (own_rw p52__0 Ar53_.1) (State.isArrayOf_alike hZ.alike Ar53_.2.1) rfl Ar53_.2.2 hin54_ hat54_ (g := (mkF mM 16 ll5 [(.int (1 : Int32)), (.ref b_1_)])) rfl rfl (hC e15_11.2.2.2) _ ?_
    refine XS.astore X52_.here hx rfl (hC e15_17.1) rfl rfl (l' := ll6) rfl ?_
    refine XS.aload X52_.here hx rfl (hC e15_17.2.1) rfl rfl ?_
    exact kK
  refine jf X52_ hx hZ hown (jk hw 100 rfl) p52__0 fc27_ (hC e15_17.2.2.1) fun T55_ X55_ e55_ => ?_
  refine jg T55_ mM 25 ll6 [(.ref a), (.ref n2)] (fun tT kK => ?_) ?_
  · refine XS.aloadN X55_.here hx rfl (hC e15_17.2.2.2) rfl rfl ?_
    exact kK
  refine jv X55_ hx hZ (y := jy13) hown (jk hw 102 rfl) (jk hw 66 rfl) (jk hw 68 rfl) (jk hw 67 rfl) (jk hw 69 rfl) (jk hw 2 rfl) (rm_eq lL Z a0 hw [] n2 a t2 t (3 : Int32) (own_li [(107 : Int32), (109 : Int32), (112 : Int32)]) z f cs T1_.heap n0 (Nat.le_trans Z0 K1_.1) fc17_ Scs ncs fc28_ fc29_ fc30_ fc31_ fc44_ fc45_ fc46_ fc47_) fc28_ e55_ own_pd16 [(.ref a)] [] (hC d15_25) rfl rfl (by rw [hml]; rfl) (by decide) 0 (Nat.le_of_eq rfl) (by decide) (by decide) (by decide : 1 + 0 ≤ _) (by decide : 4 + 0 ≤ _) fun vv56_ T56_ L56_ X56_ hQ56_ => ?_
  obtain ⟨rfl, N56_q, p56__0⟩ := hQ56_
  have N56_ := Fr.app N52_ N56_q
  let ll7 : Array Slot := #[vR a, vR b_1_, vI 4, vI 2, vR u2]
  refine jg T56_ mM 16 ll7 [(.int (2 : Int32)), (.ref b_1_)] (fun tT kK => ?_) ?_
  · refine XS.ifYes X56_.here hx rfl (pc0 := 28) (pc' := 37) rfl (hC e15_28.1) rfl ((if0 _ _).trans (teq (c2 : (own_eq (3 : Int32) (own_li [(107 : Int32), (109 : Int32), (112 : Int32)]) z f) = (0 : Int32))).1) (by decide) (by decide) ?_
    refine XS.iinc X56_.here hx rfl (hC e15_37.1) rfl (l' := ll7) rfl ?_
    refine XS.goto X56_.here hx rfl (pc0 := 40) (pc' := 9) rfl (hC e15_37.2) (by decide) (by decide) ?_
    refine XS.iloadN X56_.here hx rfl (hC e15_7.2.2.1) rfl ?_
    refine XS.iloadN X56_.here hx rfl (hC e15_7.2.2.2) rfl ?_
    refine XS.icmpNo X56_.here hx rfl (hC e15_11.1) rfl (tlt ((by decide) : (2 : Int32) < (4 : Int32))).2.1 ?_
    refine XS.aloadN X56_.here hx rfl (hC e15_11.2.1) rfl rfl ?_
    refine XS.iloadN X56_.here hx rfl (hC e15_11.2.2.1) rfl ?_
    exact kK
  obtain ⟨cl57_, Ar57_, qk57_, Sz57_, Nn57_, Hh57_, Gg57_⟩ := id p1__2
  have hin58_ : ¬ ((2 : Int32) < 0 ∨ cl57_.slots.size ≤ ((2 : Int32)).toNatClampNeg) := inb_of Sz57_ ⟨by decide, by decide⟩
  have hat58_ : cl57_.slots[((2 : Int32)).toNatClampNeg]? = some (.ref u3) := Hh57_.at hin58_ rfl
  let ll8 : Array Slot := #[vR a, vR b_1_, vI 4, vI 2, vR u3]
  refine jg T56_ mM 21 ll8 [(.ref u3)] (fun tT kK => ?_) ?_
  · refine X56_.aaload hx (j := (2 : Int32)) (v := (.ref u3)) (own_rw p56__0 Ar57_.1) (State.isArrayOf_alike hZ.alike Ar57_.2.1) rfl Ar57_.2.2 hin58_ hat58_ (g := (mkF mM 16 ll7 [(.int (2 : Int32)), (.ref b_1_)])) rfl rfl (hC e15_11.2.2.2) _ ?_
    refine XS.astore X56_.here hx rfl (hC e15_17.1) rfl rfl (l' := ll8) rfl ?_
    refine XS.aload X56_.here hx rfl (hC e15_17.2.1) rfl rfl ?_
    exact kK
  refine jf X56_ hx hZ hown (jk hw 100 rfl) p56__0 fc33_ (hC e15_17.2.2.1) fun T59_ X59_ e59_ => ?_
  refine jg T59_ mM 25 ll8 [(.ref a), (.ref n3)] (fun tT kK => ?_) ?_
  · refine XS.aloadN X59_.here hx rfl (hC e15_17.2.2.2) rfl rfl ?_
    exact kK
  refine jv X59_ hx hZ (y := jy13) hown (jk hw 102 rfl) (jk hw 66 rfl) (jk hw 68 rfl) (jk hw 67 rfl) (jk hw 69 rfl) (jk hw 2 rfl) (rm_eq lL Z a0 hw [] n3 a t3 t (2 : Int32) (own_li [(98 : Int32), (109 : Int32)]) z f cs T1_.heap n0 (Nat.le_trans Z0 K1_.1) fc17_ Scs ncs fc34_ fc35_ fc36_ fc37_ fc44_ fc45_ fc46_ fc47_) fc34_ e59_ own_pd16 [(.ref a)] [] (hC d15_25) rfl rfl (by rw [hml]; rfl) (by decide) 0 (Nat.le_of_eq rfl) (by decide) (by decide) (by decide : 1 + 0 ≤ _) (by decide : 4 + 0 ≤ _) fun vv60_ T60_ L60_ X60_ hQ60_ => ?_
  obtain ⟨rfl, N60_q, p60__0⟩ := hQ60_
  have N60_ := Fr.app N56_ N60_q
  let ll9 : Array Slot := #[vR a, vR b_1_, vI 4, vI 3, vR u3]
  refine jg T60_ mM 16 ll9 [(.int (3 : Int32)), (.ref b_1_)] (fun tT kK => ?_) ?_
  · refine XS.ifYes X60_.here hx rfl (pc0 := 28) (pc' := 37) rfl (hC e15_28.1) rfl ((if0 _ _).trans (teq (c3 : (own_eq (2 : Int32) (own_li [(98 : Int32), (109 : Int32)]) z f) = (0 : Int32))).1) (by decide) (by decide) ?_
    show Steps pP.tables eE below (T60_.setTop (mkF mM 37 ll8 [])) tT
    refine XS.iinc X60_.here hx rfl (hC e15_37.1) rfl (l' := ll9) rfl ?_
    refine XS.goto X60_.here hx rfl (pc0 := 40) (pc' := 9) rfl (hC e15_37.2) (by decide) (by decide) ?_
    refine XS.iloadN X60_.here hx rfl (hC e15_7.2.2.1) rfl ?_
    refine XS.iloadN X60_.here hx rfl (hC e15_7.2.2.2) rfl ?_
    refine XS.icmpNo X60_.here hx rfl (hC e15_11.1) rfl (tlt ((by decide) : (3 : Int32) < (4 : Int32))).2.1 ?_
    refine XS.aloadN X60_.here hx rfl (hC e15_11.2.1) rfl rfl ?_
    refine XS.iloadN X60_.here hx rfl (hC e15_11.2.2.1) rfl ?_
    exact kK
  obtain ⟨cl61_, Ar61_, qk61_, Sz61_, Nn61_, Hh61_, Gg61_⟩ := id p1__2
  have hin62_ : ¬ ((3 : Int32) < 0 ∨ cl61_.slots.size ≤ ((3 : Int32)).toNatClampNeg) := inb_of Sz61_ ⟨by decide, by decide⟩
  have hat62_ : cl61_.slots[((3 : Int32)).toNatClampNeg]? = some (.ref u4) := Hh61_.at hin62_ rfl
  let ll10 : Array Slot := #[vR a, vR b_1_, vI 4, vI 3, vR u4]
  refine jg T60_ mM 21 ll10 [(.ref u4)] (fun tT kK => ?_) ?_
  · refine X60_.aaload hx (j := (3 : Int32)) (v := (.ref u4)) (own_rw p60__0 Ar61_.1) (State.isArrayOf_alike hZ.alike Ar61_.2.1) rfl Ar61_.2.2 hin62_ hat62_ (g := (mkF mM 16 ll9 [(.int (3 : Int32)), (.ref b_1_)])) rfl rfl (hC e15_11.2.2.2) _ ?_
    refine XS.astore X60_.here hx rfl (hC e15_17.1) rfl rfl (l' := ll10) rfl ?_
    refine XS.aload X60_.here hx rfl (hC e15_17.2.1) rfl rfl ?_
    exact kK
  refine jf X60_ hx hZ hown (jk hw 100 rfl) p60__0 fc39_ (hC e15_17.2.2.1) fun T63_ X63_ e63_ => ?_
  refine jg T63_ mM 25 ll10 [(.ref a), (.ref n4)] (fun tT kK => ?_) ?_
  · refine XS.aloadN X63_.here hx rfl (hC e15_17.2.2.2) rfl rfl ?_
    exact kK
  refine jv X63_ hx hZ (y := jy13) hown (jk hw 102 rfl) (jk hw 66 rfl) (jk hw 68 rfl) (jk hw 67 rfl) (jk hw 69 rfl) (jk hw 2 rfl) (rm_eq lL Z a0 hw [] n4 a t4 t (7 : Int32) (own_li [(116 : Int32), (119 : Int32), (111 : Int32), (45 : Int32), (119 : Int32), (97 : Int32), (121 : Int32)]) z f cs T1_.heap n0 (Nat.le_trans Z0 K1_.1) fc17_ Scs ncs fc40_ fc41_ fc42_ fc43_ fc44_ fc45_ fc46_ fc47_) fc40_ e63_ own_pd16 [(.ref a)] [] (hC d15_25) rfl rfl (by rw [hml]; rfl) (by decide) 0 (Nat.le_of_eq rfl) (by decide) (by decide) (by decide : 1 + 0 ≤ _) (by decide : 4 + 0 ≤ _) fun vv64_ T64_ L64_ X64_ hQ64_ => ?_
  obtain ⟨rfl, N64_q, p64__0⟩ := hQ64_
  have N64_ := Fr.app N60_ N64_q
  let ll11 : Array Slot := #[vR a, vR b_1_, vI 4, vI 4, vR u4]
  refine jg T64_ mM 43 ll11 [] (fun tT kK => ?_) ?_
  · refine XS.ifYes X64_.here hx rfl (pc0 := 28) (pc' := 37) rfl (hC e15_28.1) rfl ((if0 _ _).trans (teq (c4 : (own_eq (7 : Int32) (own_li [(116 : Int32), (119 : Int32), (111 : Int32), (45 : Int32), (119 : Int32), (97 : Int32), (121 : Int32)]) z f) = (0 : Int32))).1) (by decide) (by decide) ?_
    refine XS.iinc X64_.here hx rfl (hC e15_37.1) rfl (l' := ll11) rfl ?_
    refine XS.goto X64_.here hx rfl (pc0 := 40) (pc' := 9) rfl (hC e15_37.2) (by decide) (by decide) ?_
    refine XS.iloadN X64_.here hx rfl (hC e15_7.2.2.1) rfl ?_
    refine XS.iloadN X64_.here hx rfl (hC e15_7.2.2.2) rfl ?_
    refine XS.icmpYes X64_.here hx rfl (pc0 := 11) (pc' := 43) rfl (hC e15_11.1) rfl (flt ((by decide) : ¬ ((4 : Int32) < (4 : Int32)))).2.1 (by decide) (by decide) ?_
    exact kK
  refine jc X64_ hx hZ (y := jy19) hown (jk hw 103 rfl) (jk hw 104 rfl) (jk hw 105 rfl) (jk hw 106 rfl) (rm_oe lL Z a0 hw [] em T1_.heap n0 (Nat.le_trans Z0 K1_.1) fc17_ Se) p64__0 own_pd18 [] [] (hC d15_43) rfl rfl (by rw [hml]; rfl) (by decide) 0 (Nat.le_of_eq rfl) (by decide) (by decide) (by decide : 1 + 0 ≤ _) (by decide : 4 + 0 ≤ _) fun vv65_ T65_ L65_ X65_ hQ65_ => ?_
  obtain ⟨rfl, N65_q, p65__0⟩ := hQ65_
  have N65_ := Fr.app N64_ N65_q
  exact own_rr X65_ hx hlk hre rfl (Or.inr (Or.inr (Or.inr (Or.inr ⟨rfl, rfl, rfl⟩)))) (hC d15_46) p65__0 (by decide) (by decide) ⟨rfl, N65_, K1_⟩
theorem own_pd19 : parseMethodDescriptor "(Ljava/lang/String;IJI)C" = some ⟨[(.object "java/lang/String"), .int, .long, .int], some .char⟩ := by decide +kernel
theorem own_pd20 : parseMethodDescriptor "(I[C)Ljava/lang/String;" = some ⟨[.int, (.array .char)], some (.object "java/lang/String")⟩ := by decide +kernel
theorem own_pd21 : parseMethodDescriptor "(Ljava/lang/String;)Ljava/util/Optional;" = some ⟨[(.object "java/lang/String")], some (.object "java/util/Optional")⟩ := by decide +kernel
theorem own_ef_rm0 (mM : MethodId) (x0 : Int32) (x1 : Int32) (x2 : Int64) (x3 : Int32) : entryFrame mM #[(.int x0), (.int x1), (.long x2), (.int x3)] maxLocals = mkF mM 0 #[.val (.int x0), .val (.int x1), .val (.long x2), .second, .val (.int x3), .unset, .unset, .unset, .unset, .unset, .unset, .unset, .unset, .unset] [] := by first | (simp [entryFrame, mkF, argsToLocals, Value.category, maxLocals]; done) | rfl
def Q_rm0 (Z : State) (p1 : Int32) (p2 : Int32) (q3 : Int64) (p4 : Int32) (cs : Int32) (fv : Value) (u1 : Addr) (u2 : Addr) (u3 : Addr) (u4 : Addr) (n1 : Addr) (n2 : Addr) (n3 : Addr) (n4 : Addr) (t1 : Addr) (t2 : Addr) (t3 : Addr) (t4 : Addr) (va : Addr) (em : Addr) (kv : ClassId) (h0 : Heap) (n0 : Nat) (vV : Option Value) (hH : Heap) (lA : List Loc) : Prop := vV = some (.int (1 : Int32)) ∧ Fr n0 lA
set_option maxRecDepth 65536 in
set_option maxHeartbeats 40000000 in
theorem rm0 (lL : Launch) (Z : State) (a0 : Array Value) (hw : own_H a0 Z) (ws : List Jvm.Cond) (p1 : Int32) (p2 : Int32) (q3 : Int64) (p4 : Int32) (cs : Int32) (fv : Value) (u1 : Addr) (u2 : Addr) (u3 : Addr) (u4 : Addr) (n1 : Addr) (n2 : Addr) (n3 : Addr) (n4 : Addr) (t1 : Addr) (t2 : Addr) (t3 : Addr) (t4 : Addr) (va : Addr) (em : Addr) (kv : ClassId) (h0 : Heap) (n0 : Nat) (Z0 : n0 ≤ h0.size) (Oo : Old Z n0 h0) (Scs : Sta Z Z.heap "java/lang/String" "COMPACT_STRINGS" "Z" (.int cs)) (ncs : ¬ (cs = (0 : Int32))) (Sfv : Sta Z Z.heap "jdk/internal/util/Preconditions" "SIOOBE_FORMATTER" "Ljava/util/function/BiFunction;" fv) (rfv : fv.isRef = true) (zBRUTE : Sta Z Z.heap "com/example/needlework/needlework/Algorithm" "BRUTE" "Lcom/example/needlework/needlework/Algorithm;" (.ref u1)) (zKMP : Sta Z Z.heap "com/example/needlework/needlework/Algorithm" "KMP" "Lcom/example/needlework/needlework/Algorithm;" (.ref u2)) (zBM : Sta Z Z.heap "com/example/needlework/needlework/Algorithm" "BM" "Lcom/example/needlework/needlework/Algorithm;" (.ref u3)) (zTWO_WAY : Sta Z Z.heap "com/example/needlework/needlework/Algorithm" "TWO_WAY" "Lcom/example/needlework/needlework/Algorithm;" (.ref u4)) (Sv : Sta Z Z.heap "com/example/needlework/needlework/Algorithm" "$VALUES" "[Lcom/example/needlework/needlework/Algorithm;" (.ref va)) (Se : Sta Z Z.heap "java/util/Optional" "EMPTY" "Ljava/util/Optional;" (.ref em)) (lz0 : jE3 Z Z.heap u1) (lz1 : jF3 Z Z.heap u1 (.ref n1)) (lz2 : jE0 Z Z.heap n1) (lz3 : jF1 Z Z.heap n1 (.ref t1)) (lz4 : jF0 Z Z.heap n1 (.int (0 : Int32))) (lz5 : own_T Z Z.heap t1 .byte (5 : Int32) (own_li [(98 : Int32), (114 : Int32), (117 : Int32), (116 : Int32), (101 : Int32)])) (lz6 : jE3 Z Z.heap u2) (lz7 : jF3 Z Z.heap u2 (.ref n2)) (lz8 : jE0 Z Z.heap n2) (lz9 : jF1 Z Z.heap n2 (.ref t2)) (lz10 : jF0 Z Z.heap n2 (.int (0 : Int32))) (lz11 : own_T Z Z.heap t2 .byte (3 : Int32) (own_li [(107 : Int32), (109 : Int32), (112 : Int32)])) (lz12 : jE3 Z Z.heap u3) (lz13 : jF3 Z Z.heap u3 (.ref n3)) (lz14 : jE0 Z Z.heap n3) (lz15 : jF1 Z Z.heap n3 (.ref t3)) (lz16 : jF0 Z Z.heap n3 (.int (0 : Int32))) (lz17 : own_T Z Z.heap t3 .byte (2 : Int32) (own_li [(98 : Int32), (109 : Int32)])) (lz18 : jE3 Z Z.heap u4) (lz19 : jF3 Z Z.heap u4 (.ref n4)) (lz20 : jE0 Z Z.heap n4) (lz21 : jF1 Z Z.heap n4 (.ref t4)) (lz22 : jF0 Z Z.heap n4 (.int (0 : Int32))) (lz23 : own_T Z Z.heap t4 .byte (7 : Int32) (own_li [(116 : Int32), (119 : Int32), (111 : Int32), (45 : Int32), (119 : Int32), (97 : Int32), (121 : Int32)])) (lz24 : Arv Z Z.heap va kv (.object "com/example/needlework/needlework/Algorithm") (4 : Int32) [(.ref u1), (.ref u2), (.ref u3), (.ref u4)] .null) (lz25 : jE2 Z Z.heap va) (lz26 : jE1 Z Z.heap em) (lz27 : jF2 Z Z.heap em .null) :
    MetFree lL x (head1 (Jvm.Cond.code x code maxLocals ret :: ws) room_1) (fun aA uU => aA = #[(.int p1), (.int p2), (.long q3), (.int p4)] ∧ Z.Warmed39 uU.vm ∧ uU.heap = h0 ∧ CHv Z own_EL uU.vm h0 ∧ ∀ x ∈ ([] : List Addr), Safe Z own_EL uU.vm h0 x) (fun _ _ _ _ _ => True) (fun _ uU oO uU' => ∃ vV lA, oO = .returned vV ∧ Q_rm0 Z p1 p2 q3 p4 cs fv u1 u2 u3 u4 n1 n2 n3 n4 t1 t2 t3 t4 va em kv h0 n0 vV uU'.heap lA ∧ CHr Z own_EL uU.vm uU.heap uU'.vm uU'.heap ∧ ReturnedEndW uU oO uU' lA room_1.cells room_1.slots) := by
  refine MetFree.of_bodySF (plainFor_of_name own_pn_com_example_needlework_needlework_AlgorithmNamedPinLaw) hisR ?_
  intro pP eE sS mM args below meth cC s₁ Bd hml0 hP hK
  obtain ⟨rfl, hZ, hh, hC0, hY0⟩ := hP
  have hx := Bd.exec
  have hby := Bd.bytes
  have hC := @Jvm.hb _ _ hby
  have hml : cC.maxLocals = 14 := hml0
  have hown : sS.vm.findClass "com/example/needlework/needlework/AlgorithmNamedPinLaw" = some mM.cls := findClass_of_methodNamed Bd.named
  have hnm := (name_of_methodNamed Bd.named Bd.method).1
  have X0 : Stand pP lL eE room_1 (sS.setVm sS.vm) mM #[(.int p1), (.int p2), (.long q3), (.int p4)] below meth cC s₁ [] 0 0 := Stand.of_body Bd
  have hS0 : sS.Since sS.vm 0 := (State.WarmedH.refl sS).since 0
  have hk0 : 0 ≤ h0.size := Nat.zero_le _
  have CH0 : CHr Z own_EL sS.vm h0 sS.vm h0 := CHr.refl hC0
  have e0 : s₁.heap = h0 := by rw [← hh, Bd.state]; rfl
  have N0 := Fr.nil n0
  have K0 := Keep.refl h0 ([] : List Addr)
  show own_Fin pP eE below (fun tT oO => ∃ vV lA, oO = .returned vV ∧ Q_rm0 Z p1 p2 q3 p4 cs fv u1 u2 u3 u4 n1 n2 n3 n4 t1 t2 t3 t4 va em kv h0 n0 vV tT.heap lA ∧ CHr Z own_EL sS.vm sS.heap tT.vm tT.heap ∧ ReturnedEndW sS oO tT lA room_1.cells room_1.slots) (s₁.setTop (entryFrame mM #[(.int p1), (.int p2), (.long q3), (.int p4)] maxLocals))
  refine own_fin (b := s₁.setTop (mkF mM 0 #[.val (.int p1), .val (.int p2), .val (.long q3), .second, .val (.int p4), .unset, .unset, .unset, .unset, .unset, .unset, .unset, .unset, .unset] [])) (fun tT kK => castTop (own_ef_rm0 mM p1 p2 q3 p4) kK) ?_
  let ll1 : Array Slot := #[vI p1, vI p2, vJ q3, vS, vI p4, vI ((p1 &&& (2147483647 : Int32)) % (4 : Int32)), vU, vU, vU, vU, vU, vU, vU, vU]
  refine jg s₁ mM 8 ll1 [] (fun tT kK => ?_) ?_
  · refine XS.iloadN X0.here hx rfl (hC at_0) rfl ?_
    let ll2 : Array Slot := #[vI p1, vI p2, vJ q3, vS, vI p4, vU, vU, vU, vU, vU, vU, vU, vU, vU]
    refine X0.ldcInt hx hown (jm hZ hw 0 rfl) (g := (mkF mM 1 ll2 [(.int p1)])) rfl (hC at_1) _ ?_
    refine XS.iand X0.here hx rfl (hC at_3) rfl ?_
    refine XS.iconst X0.here hx rfl (hC at_4) ?_
    refine iremM X0 hx rfl (hC at_5) rfl (by decide) ?_
    refine XS.istore X0.here hx rfl (hC at_6) rfl (l' := ll1) rfl ?_
    exact kK
  show own_Fin pP eE below _ (s₁.setTop (mkF mM 8 #[.val (.int p1), .val (.int p2), .val (.long q3), .second, .val (.int p4), .val (.int ((p1 &&& (2147483647 : Int32)) % (4 : Int32))), .unset, .unset, .unset, .unset, .unset, .unset, .unset, .unset] []))
  generalize hkk : ((p1 &&& (2147483647 : Int32)) % (4 : Int32)) = kk
  let ll3 : Array Slot := #[vI p1, vI p2, vJ q3, vS, vI p4, vI kk, vU, vU, vU, vU, vU, vU, vU, vU]
  refine jg s₁ mM 10 ll3 [(.int kk)] (fun tT kK => ?_) ?_
  · refine XS.iload X0.here hx rfl (hC at_8) rfl ?_
    exact kK
  have jp1_ : ∀ (bA : Addr) (tb : Addr) (zb : Int32) (fb : Int32 → Int32) (vj1_ : Vm) (kj1_ : Nat) (Tj1_ : State) (Lj1_ : List Loc) (hj1_ : Heap), Stand pP lL eE room_1 (sS.setVm vj1_) mM #[(.int p1), (.int p2), (.long q3), (.int p4)] below meth cC Tj1_ Lj1_ 2 32 → Tj1_.heap = hj1_ → Keep h0 hj1_ ([] : List Addr) → sS.Since vj1_ kj1_ → kj1_ ≤ hj1_.size → Z.Warmed39 (sS.setVm vj1_).vm → (sS.setVm vj1_).vm.findClass "com/example/needlework/needlework/AlgorithmNamedPinLaw" = some mM.cls → CHr Z own_EL sS.vm h0 vj1_ hj1_ → (Old Z n0 hj1_) → (jE0 Z hj1_ bA) → (jF0 Z hj1_ bA (.int (0 : Int32))) → (jF1 Z hj1_ bA (.ref tb)) → (own_T Z hj1_ tb .byte zb fb) → Fr n0 Lj1_ → own_Fin pP eE below (fun tT oO => ∃ vV lA, oO = .returned vV ∧ Q_rm0 Z p1 p2 q3 p4 cs fv u1 u2 u3 u4 n1 n2 n3 n4 t1 t2 t3 t4 va em kv h0 n0 vV tT.heap lA ∧ CHr Z own_EL sS.vm sS.heap tT.vm tT.heap ∧ ReturnedEndW sS oO tT lA room_1.cells room_1.slots) (Tj1_.setTop (mkF mM 42 #[.val (.int p1), .val (.int p2), .val (.long q3), .second, .val (.int p4), .val (.int kk), .unset, .unset, .unset, .unset, .unset, .unset, .unset, .unset] [(.ref bA)])) := by
    intro bA tb zb fb vj1_ kj1_ Tj1_ Lj1_ hj1_  Xj1_ ej1_ Kj1_ hSj1_ hkj1_ hZ hown CHj1_ fj1__0 fj1__1 fj1__2 fj1__3 fj1__4  Nj1_
    let ll4 : Array Slot := #[vI p1, vI p2, vJ q3, vS, vI p4, vI kk, vR bA, vU, vU, vU, vU, vU, vU, vU]
    refine jg Tj1_ mM 51 ll4 [(.int (((p4.toUInt32 >>> ((8 : Int32) &&& 31).toUInt32).toInt32) &&& (1 : Int32)))] (fun tT kK => ?_) ?_
    · refine XS.astore Xj1_.here hx rfl (hC at_42) rfl rfl (l' := ll4) rfl ?_
      refine XS.iload Xj1_.here hx rfl (hC at_44) rfl ?_
      refine XS.bipush Xj1_.here hx rfl (hC at_46) ?_
      refine XS.iushr Xj1_.here hx rfl (hC at_48) rfl ?_
      refine XS.iconst Xj1_.here hx rfl (hC at_49) ?_
      refine XS.iand Xj1_.here hx rfl (hC at_50) rfl ?_
      exact kK
    obtain ⟨mv, hmv, st2_⟩ : ∃ mv : Int32, (mv = (if (((p4.toUInt32 >>> ((8 : Int32) &&& 31).toUInt32).toInt32) &&& (1 : Int32)) = (0 : Int32) then (0 : Int32) else (p4 &&& (255 : Int32)))) ∧ ∀ tT, Steps pP.tables eE below (Tj1_.setTop (mkF mM 64 #[.val (.int p1), .val (.int p2), .val (.long q3), .second, .val (.int p4), .val (.int kk), .val (.ref bA), .unset, .unset, .unset, .unset, .unset, .unset, .unset] [(.int mv)])) tT → Steps pP.tables eE below (Tj1_.setTop (mkF mM 51 #[.val (.int p1), .val (.int p2), .val (.long q3), .second, .val (.int p4), .val (.int kk), .val (.ref bA), .unset, .unset, .unset, .unset, .unset, .unset, .unset] [(.int (((p4.toUInt32 >>> ((8 : Int32) &&& 31).toUInt32).toInt32) &&& (1 : Int32)))])) tT := by
      by_cases hm1 : (((p4.toUInt32 >>> ((8 : Int32) &&& 31).toUInt32).toInt32) &&& (1 : Int32)) = (0 : Int32)
      · refine ⟨(0 : Int32), by rw [if_pos hm1], fun tT kK => ?_⟩
        refine XS.ifNo Xj1_.here hx rfl (hC at_51) rfl ((if0 _ _).trans (teq (hm1 : (((p4.toUInt32 >>> ((8 : Int32) &&& 31).toUInt32).toInt32) &&& (1 : Int32)) = (0 : Int32))).2) ?_
        refine XS.iconst Xj1_.here hx rfl (hC at_54) ?_
        refine XS.goto Xj1_.here hx rfl (pc0 := 55) (pc' := 64) rfl (hC at_55) (by decide) (by decide) ?_
        exact kK
      · refine ⟨(p4 &&& (255 : Int32)), by rw [if_neg hm1], fun tT kK => ?_⟩
        refine XS.ifYes Xj1_.here hx rfl (pc0 := 51) (pc' := 58) rfl (hC at_51) rfl ((if0 _ _).trans (feq (hm1 : ¬ ((((p4.toUInt32 >>> ((8 : Int32) &&& 31).toUInt32).toInt32) &&& (1 : Int32)) = (0 : Int32)))).2) (by decide) (by decide) ?_
        refine XS.iload Xj1_.here hx rfl (hC at_58) rfl ?_
        refine XS.sipush Xj1_.here hx rfl (hC at_60) ?_
        refine XS.iand Xj1_.here hx rfl (hC at_63) rfl ?_
        exact kK
    refine own_fin st2_ ?_
    let ll5 : Array Slot := #[vI p1, vI p2, vJ q3, vS, vI p4, vI kk, vR bA, vI mv, vU, vU, vU, vU, vU, vU]
    refine jg Tj1_ mM 68 ll5 [(.int (8 : Int32))] (fun tT kK => ?_) ?_
    · refine XS.istore Xj1_.here hx rfl (hC at_64) rfl (l' := ll5) rfl ?_
      refine XS.bipush Xj1_.here hx rfl (hC at_66) ?_
      exact kK
    obtain ⟨T3_, h3_, k3_, X3_, e3_, E3_, A3_, st3_⟩ := newP Xj1_ hx hZ (jk hw 9 rfl) ej1_ (g := (mkF mM 68 ll5 [(.int (8 : Int32))])) rfl (hC at_68) rfl (by decide) (cap := 8) (by decide) (by decide) (by decide) (by decide)
    obtain ⟨b3_, g3_⟩ : ∃ z, z = hj1_.size := ⟨_, rfl⟩
    rw [← g3_] at A3_ st3_
    have sz_b3_ : h0.size ≤ b3_ := Nat.le_trans Kj1_.1 (Nat.le_of_eq g3_.symm)
    have ge_b3_ : n0 ≤ b3_ := Nat.le_trans Z0 sz_b3_
    have ne4_ : bA ≠ b3_ := Nat.ne_of_lt (Nat.lt_of_lt_of_le fj1__1.lt (Nat.le_of_eq g3_.symm))
    have ne5_ : tb ≠ b3_ := Nat.ne_of_lt (Nat.lt_of_lt_of_le fj1__4.lt (Nat.le_of_eq g3_.symm))
    have fc6_ := fj1__0.ext E3_
    have fc7_ := fj1__1.ext E3_
    have fc8_ := fj1__2.ext E3_
    have fc9_ := fj1__3.ext E3_
    have fc10_ := fj1__4.ext E3_
    have Cs3_ : CHr Z own_EL vj1_ hj1_ vj1_ h3_ := CHr.ext E3_ CHj1_.1
    have CH3_ := CHj1_.trans Cs3_
    have hk3_ := Nat.le_trans hkj1_ Cs3_.2.1
    have K3_ := Kj1_.ext E3_
    have V3_ : own_T Z h3_ b3_ .char (8 : Int32) (fun _ => (0 : Int32)) := own_T.new A3_ (by decide) rfl
    refine own_fin st3_ ?_
    let ll6 : Array Slot := #[vI p1, vI p2, vJ q3, vS, vI p4, vI kk, vR bA, vI mv, vR b3_, vU, vU, vU, vU, vU]
    refine jg T3_ mM 81 ll6 [(.int mv), (.long q3), (.int (0 : Int32)), (.ref bA), (.int (0 : Int32)), (.ref b3_)] (fun tT kK => ?_) ?_
    · refine XS.astore X3_.here hx rfl (hC at_70) rfl rfl (l' := ll6) rfl ?_
      refine XS.aload X3_.here hx rfl (hC at_72) rfl rfl ?_
      refine XS.iconst X3_.here hx rfl (hC at_74) ?_
      refine XS.aload X3_.here hx rfl (hC at_75) rfl rfl ?_
      refine XS.iconst X3_.here hx rfl (hC at_77) ?_
      refine XS.lloadN X3_.here hx rfl (hC at_78) rfl ?_
      refine XS.iload X3_.here hx rfl (hC at_79) rfl ?_
      exact kK
    have hbd0 := own_z0
    refine jc X3_ hx hZ (y := jy14) hown (jk hw 10 rfl) (jk hw 11 rfl) (jk hw 12 rfl) (jk hw 13 rfl) (rm_at lL Z a0 hw [] bA tb (0 : Int32) q3 mv zb fb cs fv h3_ n0 (Nat.le_trans Z0 K3_.1) fc6_ Scs ncs Sfv rfv fc7_ fc9_ fc8_ fc10_ (by decide)) e3_ own_pd19 [(.ref bA), (.int (0 : Int32)), (.long q3), (.int mv)] [(.int (0 : Int32)), (.ref b3_)] (hC at_81) rfl rfl (by rw [hml]; rfl) (by decide) 2 (Nat.le_of_eq rfl) (by decide) (by decide) (by decide : 3 + 0 ≤ _) (by decide : 40 + 0 ≤ _) fun vv11_ T11_ L11_ X11_ hQ11_ => ?_
    obtain ⟨x_11_, rfl, N11_q, p11__0, p11__1⟩ := hQ11_
    have N11_ := Fr.app Nj1_ N11_q
    obtain ⟨cl12_, Ar12_, Sz12_, Nn12_, Hh12_⟩ := id V3_
    have hin12_ : ¬ ((0 : Int32) < 0 ∨ cl12_.slots.size ≤ ((0 : Int32)).toNatClampNeg) := inb_of Sz12_ ⟨by decide, by decide⟩
    obtain ⟨T12_, h12_, X12_, e12_, W12_, st12_⟩ := stC X11_ hx hZ p11__0 Ar12_ (j := (0 : Int32)) hin12_ (g := (mkF mM 84 ll6 [(.int x_11_), (.int (0 : Int32)), (.ref b3_)])) rfl rfl (hC at_84)
    have U12_ : own_T Z h12_ b3_ .char (8 : Int32) (own_up (fun _ => (0 : Int32)) (0 : Int32) (nar .char x_11_)) := own_T.set ⟨cl12_, Ar12_, Sz12_, Nn12_, Hh12_⟩ W12_ ⟨by decide, by decide⟩
    have fc13_ := fc6_.wr W12_ ge_b3_
    have fc14_ := fc7_.wr W12_
    have fc15_ := fc8_.other W12_ (Or.inl ne4_)
    have fc16_ := fc9_.other W12_ (Or.inl ne4_)
    have fc17_ := fc10_.other W12_ ne5_
    have sw12_ : Safe Z own_EL vj1_ h3_ b3_ := (own_T.safe (EL := own_EL) hZ.alike V3_ (by decide))
    have Cs12_ : CHr Z own_EL vj1_ h3_ vj1_ h12_ := CHr.wr W12_ sw12_ CH3_.1
    have CH12_ := CH3_.trans Cs12_
    have hk12_ := Nat.le_trans hk3_ Cs12_.2.1
    have K12_ := K3_.wr W12_ (Or.inr sz_b3_)
    have N12_ := Fr.snoc X12_ N11_ ge_b3_
    refine own_fin st12_ ?_
    have hbd1 := own_upB hbd0 (i := (0 : Int32)) (own_ncb p11__1)
    refine jg T12_ mM 94 ll6 [(.int mv), (.long q3), (.int (1 : Int32)), (.ref bA), (.int (1 : Int32)), (.ref b3_)] (fun tT kK => ?_) ?_
    · refine XS.aload X12_.here hx rfl (hC at_85) rfl rfl ?_
      refine XS.iconst X12_.here hx rfl (hC at_87) ?_
      refine XS.aload X12_.here hx rfl (hC at_88) rfl rfl ?_
      refine XS.iconst X12_.here hx rfl (hC at_90) ?_
      refine XS.lloadN X12_.here hx rfl (hC at_91) rfl ?_
      refine XS.iload X12_.here hx rfl (hC at_92) rfl ?_
      exact kK
    refine jc X12_ hx hZ (y := jy14) hown (jk hw 10 rfl) (jk hw 11 rfl) (jk hw 12 rfl) (jk hw 13 rfl) (rm_at lL Z a0 hw [] bA tb (1 : Int32) q3 mv zb fb cs fv h12_ n0 (Nat.le_trans Z0 K12_.1) fc13_ Scs ncs Sfv rfv fc14_ fc16_ fc15_ fc17_ (by decide)) e12_ own_pd19 [(.ref bA), (.int (1 : Int32)), (.long q3), (.int mv)] [(.int (1 : Int32)), (.ref b3_)] (hC at_94) rfl rfl (by rw [hml]; rfl) (by decide) 2 (Nat.le_of_eq rfl) (by decide) (by decide) (by decide : 3 + 0 ≤ _) (by decide : 40 + 0 ≤ _) fun vv18_ T18_ L18_ X18_ hQ18_ => ?_
    obtain ⟨x_18_, rfl, N18_q, p18__0, p18__1⟩ := hQ18_
    have N18_ := Fr.app N12_ N18_q
    obtain ⟨cl19_, Ar19_, Sz19_, Nn19_, Hh19_⟩ := id U12_
    have hin19_ : ¬ ((1 : Int32) < 0 ∨ cl19_.slots.size ≤ ((1 : Int32)).toNatClampNeg) := inb_of Sz19_ ⟨by decide, by decide⟩
    obtain ⟨T19_, h19_, X19_, e19_, W19_, st19_⟩ := stC X18_ hx hZ p18__0 Ar19_ (j := (1 : Int32)) hin19_ (g := (mkF mM 97 ll6 [(.int x_18_), (.int (1 : Int32)), (.ref b3_)])) rfl rfl (hC at_97)
    have U19_ : own_T Z h19_ b3_ .char (8 : Int32) (own_up (own_up (fun _ => (0 : Int32)) (0 : Int32) (nar .char x_11_)) (1 : Int32) (nar .char x_18_)) := own_T.set ⟨cl19_, Ar19_, Sz19_, Nn19_, Hh19_⟩ W19_ ⟨by decide, by decide⟩
    have fc20_ := fc13_.wr W19_ ge_b3_
    have fc21_ := fc14_.wr W19_
    have fc22_ := fc15_.other W19_ (Or.inl ne4_)
    have fc23_ := fc16_.other W19_ (Or.inl ne4_)
    have fc24_ := fc17_.other W19_ ne5_
    have sw19_ : Safe Z own_EL vj1_ h12_ b3_ := (own_T.safe (EL := own_EL) hZ.alike U12_ (by decide))
    have Cs19_ : CHr Z own_EL vj1_ h12_ vj1_ h19_ := CHr.wr W19_ sw19_ CH12_.1
    have CH19_ := CH12_.trans Cs19_
    have hk19_ := Nat.le_trans hk12_ Cs19_.2.1
    have K19_ := K12_.wr W19_ (Or.inr sz_b3_)
    have N19_ := Fr.snoc X19_ N18_ ge_b3_
    refine own_fin st19_ ?_
    have hbd2 := own_upB hbd1 (i := (1 : Int32)) (own_ncb p18__1)
    refine jg T19_ mM 107 ll6 [(.int mv), (.long q3), (.int (2 : Int32)), (.ref bA), (.int (2 : Int32)), (.ref b3_)] (fun tT kK => ?_) ?_
    · refine XS.aload X19_.here hx rfl (hC at_98) rfl rfl ?_
      refine XS.iconst X19_.here hx rfl (hC at_100) ?_
      refine XS.aload X19_.here hx rfl (hC at_101) rfl rfl ?_
      refine XS.iconst X19_.here hx rfl (hC at_103) ?_
      refine XS.lloadN X19_.here hx rfl (hC at_104) rfl ?_
      refine XS.iload X19_.here hx rfl (hC at_105) rfl ?_
      exact kK
    refine jc X19_ hx hZ (y := jy14) hown (jk hw 10 rfl) (jk hw 11 rfl) (jk hw 12 rfl) (jk hw 13 rfl) (rm_at lL Z a0 hw [] bA tb (2 : Int32) q3 mv zb fb cs fv h19_ n0 (Nat.le_trans Z0 K19_.1) fc20_ Scs ncs Sfv rfv fc21_ fc23_ fc22_ fc24_ (by decide)) e19_ own_pd19 [(.ref bA), (.int (2 : Int32)), (.long q3), (.int mv)] [(.int (2 : Int32)), (.ref b3_)] (hC at_107) rfl rfl (by rw [hml]; rfl) (by decide) 2 (Nat.le_of_eq rfl) (by decide) (by decide) (by decide : 3 + 0 ≤ _) (by decide : 40 + 0 ≤ _) fun vv25_ T25_ L25_ X25_ hQ25_ => ?_
    obtain ⟨x_25_, rfl, N25_q, p25__0, p25__1⟩ := hQ25_
    have N25_ := Fr.app N19_ N25_q
    obtain ⟨cl26_, Ar26_, Sz26_, Nn26_, Hh26_⟩ := id U19_
    have hin26_ : ¬ ((2 : Int32) < 0 ∨ cl26_.slots.size ≤ ((2 : Int32)).toNatClampNeg) := inb_of Sz26_ ⟨by decide, by decide⟩
    obtain ⟨T26_, h26_, X26_, e26_, W26_, st26_⟩ := stC X25_ hx hZ p25__0 Ar26_ (j := (2 : Int32)) hin26_ (g := (mkF mM 110 ll6 [(.int x_25_), (.int (2 : Int32)), (.ref b3_)])) rfl rfl (hC at_110)
    have U26_ : own_T Z h26_ b3_ .char (8 : Int32) (own_up (own_up (own_up (fun _ => (0 : Int32)) (0 : Int32) (nar .char x_11_)) (1 : Int32) (nar .char x_18_)) (2 : Int32) (nar .char x_25_)) := own_T.set ⟨cl26_, Ar26_, Sz26_, Nn26_, Hh26_⟩ W26_ ⟨by decide, by decide⟩
    have fc27_ := fc20_.wr W26_ ge_b3_
    have fc28_ := fc21_.wr W26_
    have fc29_ := fc22_.other W26_ (Or.inl ne4_)
    have fc30_ := fc23_.other W26_ (Or.inl ne4_)
    have fc31_ := fc24_.other W26_ ne5_
    have sw26_ : Safe Z own_EL vj1_ h19_ b3_ := (own_T.safe (EL := own_EL) hZ.alike U19_ (by decide))
    have Cs26_ : CHr Z own_EL vj1_ h19_ vj1_ h26_ := CHr.wr W26_ sw26_ CH19_.1
    have CH26_ := CH19_.trans Cs26_
    have hk26_ := Nat.le_trans hk19_ Cs26_.2.1
    have K26_ := K19_.wr W26_ (Or.inr sz_b3_)
    have N26_ := Fr.snoc X26_ N25_ ge_b3_
    refine own_fin st26_ ?_
    have hbd3 := own_upB hbd2 (i := (2 : Int32)) (own_ncb p25__1)
    refine jg T26_ mM 120 ll6 [(.int mv), (.long q3), (.int (3 : Int32)), (.ref bA), (.int (3 : Int32)), (.ref b3_)] (fun tT kK => ?_) ?_
    · refine XS.aload X26_.here hx rfl (hC at_111) rfl rfl ?_
      refine XS.iconst X26_.here hx rfl (hC at_113) ?_
      refine XS.aload X26_.here hx rfl (hC at_114) rfl rfl ?_
      refine XS.iconst X26_.here hx rfl (hC at_116) ?_
      refine XS.lloadN X26_.here hx rfl (hC at_117) rfl ?_
      refine XS.iload X26_.here hx rfl (hC at_118) rfl ?_
      exact kK
    refine jc X26_ hx hZ (y := jy14) hown (jk hw 10 rfl) (jk hw 11 rfl) (jk hw 12 rfl) (jk hw 13 rfl) (rm_at lL Z a0 hw [] bA tb (3 : Int32) q3 mv zb fb cs fv h26_ n0 (Nat.le_trans Z0 K26_.1) fc27_ Scs ncs Sfv rfv fc28_ fc30_ fc29_ fc31_ (by decide)) e26_ own_pd19 [(.ref bA), (.int (3 : Int32)), (.long q3), (.int mv)] [(.int (3 : Int32)), (.ref b3_)] (hC at_120) rfl rfl (by rw [hml]; rfl) (by decide) 2 (Nat.le_of_eq rfl) (by decide) (by decide) (by decide : 3 + 0 ≤ _) (by decide : 40 + 0 ≤ _) fun vv32_ T32_ L32_ X32_ hQ32_ => ?_
    obtain ⟨x_32_, rfl, N32_q, p32__0, p32__1⟩ := hQ32_
    have N32_ := Fr.app N26_ N32_q
    obtain ⟨cl33_, Ar33_, Sz33_, Nn33_, Hh33_⟩ := id U26_
    have hin33_ : ¬ ((3 : Int32) < 0 ∨ cl33_.slots.size ≤ ((3 : Int32)).toNatClampNeg) := inb_of Sz33_ ⟨by decide, by decide⟩
    obtain ⟨T33_, h33_, X33_, e33_, W33_, st33_⟩ := stC X32_ hx hZ p32__0 Ar33_ (j := (3 : Int32)) hin33_ (g := (mkF mM 123 ll6 [(.int x_32_), (.int (3 : Int32)), (.ref b3_)])) rfl rfl (hC at_123)
    have U33_ : own_T Z h33_ b3_ .char (8 : Int32) (own_up (own_up (own_up (own_up (fun _ => (0 : Int32)) (0 : Int32) (nar .char x_11_)) (1 : Int32) (nar .char x_18_)) (2 : Int32) (nar .char x_25_)) (3 : Int32) (nar .char x_32_)) := own_T.set ⟨cl33_, Ar33_, Sz33_, Nn33_, Hh33_⟩ W33_ ⟨by decide, by decide⟩
    have fc34_ := fc27_.wr W33_ ge_b3_
    have fc35_ := fc28_.wr W33_
    have fc36_ := fc29_.other W33_ (Or.inl ne4_)
    have fc37_ := fc30_.other W33_ (Or.inl ne4_)
    have fc38_ := fc31_.other W33_ ne5_
    have sw33_ : Safe Z own_EL vj1_ h26_ b3_ := (own_T.safe (EL := own_EL) hZ.alike U26_ (by decide))
    have Cs33_ : CHr Z own_EL vj1_ h26_ vj1_ h33_ := CHr.wr W33_ sw33_ CH26_.1
    have CH33_ := CH26_.trans Cs33_
    have hk33_ := Nat.le_trans hk26_ Cs33_.2.1
    have K33_ := K26_.wr W33_ (Or.inr sz_b3_)
    have N33_ := Fr.snoc X33_ N32_ ge_b3_
    refine own_fin st33_ ?_
    have hbd4 := own_upB hbd3 (i := (3 : Int32)) (own_ncb p32__1)
    refine jg T33_ mM 133 ll6 [(.int mv), (.long q3), (.int (4 : Int32)), (.ref bA), (.int (4 : Int32)), (.ref b3_)] (fun tT kK => ?_) ?_
    · refine XS.aload X33_.here hx rfl (hC at_124) rfl rfl ?_
      refine XS.iconst X33_.here hx rfl (hC at_126) ?_
      refine XS.aload X33_.here hx rfl (hC at_127) rfl rfl ?_
      refine XS.iconst X33_.here hx rfl (hC at_129) ?_
      refine XS.lloadN X33_.here hx rfl (hC at_130) rfl ?_
      refine XS.iload X33_.here hx rfl (hC at_131) rfl ?_
      exact kK
    refine jc X33_ hx hZ (y := jy14) hown (jk hw 10 rfl) (jk hw 11 rfl) (jk hw 12 rfl) (jk hw 13 rfl) (rm_at lL Z a0 hw [] bA tb (4 : Int32) q3 mv zb fb cs fv h33_ n0 (Nat.le_trans Z0 K33_.1) fc34_ Scs ncs Sfv rfv fc35_ fc37_ fc36_ fc38_ (by decide)) e33_ own_pd19 [(.ref bA), (.int (4 : Int32)), (.long q3), (.int mv)] [(.int (4 : Int32)), (.ref b3_)] (hC at_133) rfl rfl (by rw [hml]; rfl) (by decide) 2 (Nat.le_of_eq rfl) (by decide) (by decide) (by decide : 3 + 0 ≤ _) (by decide : 40 + 0 ≤ _) fun vv39_ T39_ L39_ X39_ hQ39_ => ?_
    obtain ⟨x_39_, rfl, N39_q, p39__0, p39__1⟩ := hQ39_
    have N39_ := Fr.app N33_ N39_q
    obtain ⟨cl40_, Ar40_, Sz40_, Nn40_, Hh40_⟩ := id U33_
    have hin40_ : ¬ ((4 : Int32) < 0 ∨ cl40_.slots.size ≤ ((4 : Int32)).toNatClampNeg) := inb_of Sz40_ ⟨by decide, by decide⟩
    obtain ⟨T40_, h40_, X40_, e40_, W40_, st40_⟩ := stC X39_ hx hZ p39__0 Ar40_ (j := (4 : Int32)) hin40_ (g := (mkF mM 136 ll6 [(.int x_39_), (.int (4 : Int32)), (.ref b3_)])) rfl rfl (hC at_136)
    have U40_ : own_T Z h40_ b3_ .char (8 : Int32) (own_up (own_up (own_up (own_up (own_up (fun _ => (0 : Int32)) (0 : Int32) (nar .char x_11_)) (1 : Int32) (nar .char x_18_)) (2 : Int32) (nar .char x_25_)) (3 : Int32) (nar .char x_32_)) (4 : Int32) (nar .char x_39_)) := own_T.set ⟨cl40_, Ar40_, Sz40_, Nn40_, Hh40_⟩ W40_ ⟨by decide, by decide⟩
    have fc41_ := fc34_.wr W40_ ge_b3_
    have fc42_ := fc35_.wr W40_
    have fc43_ := fc36_.other W40_ (Or.inl ne4_)
    have fc44_ := fc37_.other W40_ (Or.inl ne4_)
    have fc45_ := fc38_.other W40_ ne5_
    have sw40_ : Safe Z own_EL vj1_ h33_ b3_ := (own_T.safe (EL := own_EL) hZ.alike U33_ (by decide))
    have Cs40_ : CHr Z own_EL vj1_ h33_ vj1_ h40_ := CHr.wr W40_ sw40_ CH33_.1
    have CH40_ := CH33_.trans Cs40_
    have hk40_ := Nat.le_trans hk33_ Cs40_.2.1
    have K40_ := K33_.wr W40_ (Or.inr sz_b3_)
    have N40_ := Fr.snoc X40_ N39_ ge_b3_
    refine own_fin st40_ ?_
    have hbd5 := own_upB hbd4 (i := (4 : Int32)) (own_ncb p39__1)
    refine jg T40_ mM 146 ll6 [(.int mv), (.long q3), (.int (5 : Int32)), (.ref bA), (.int (5 : Int32)), (.ref b3_)] (fun tT kK => ?_) ?_
    · refine XS.aload X40_.here hx rfl (hC at_137) rfl rfl ?_
      refine XS.iconst X40_.here hx rfl (hC at_139) ?_
      refine XS.aload X40_.here hx rfl (hC at_140) rfl rfl ?_
      refine XS.iconst X40_.here hx rfl (hC at_142) ?_
      refine XS.lloadN X40_.here hx rfl (hC at_143) rfl ?_
      refine XS.iload X40_.here hx rfl (hC at_144) rfl ?_
      exact kK
    refine jc X40_ hx hZ (y := jy14) hown (jk hw 10 rfl) (jk hw 11 rfl) (jk hw 12 rfl) (jk hw 13 rfl) (rm_at lL Z a0 hw [] bA tb (5 : Int32) q3 mv zb fb cs fv h40_ n0 (Nat.le_trans Z0 K40_.1) fc41_ Scs ncs Sfv rfv fc42_ fc44_ fc43_ fc45_ (by decide)) e40_ own_pd19 [(.ref bA), (.int (5 : Int32)), (.long q3), (.int mv)] [(.int (5 : Int32)), (.ref b3_)] (hC at_146) rfl rfl (by rw [hml]; rfl) (by decide) 2 (Nat.le_of_eq rfl) (by decide) (by decide) (by decide : 3 + 0 ≤ _) (by decide : 40 + 0 ≤ _) fun vv46_ T46_ L46_ X46_ hQ46_ => ?_
    obtain ⟨x_46_, rfl, N46_q, p46__0, p46__1⟩ := hQ46_
    have N46_ := Fr.app N40_ N46_q
    obtain ⟨cl47_, Ar47_, Sz47_, Nn47_, Hh47_⟩ := id U40_
    have hin47_ : ¬ ((5 : Int32) < 0 ∨ cl47_.slots.size ≤ ((5 : Int32)).toNatClampNeg) := inb_of Sz47_ ⟨by decide, by decide⟩
    obtain ⟨T47_, h47_, X47_, e47_, W47_, st47_⟩ := stC X46_ hx hZ p46__0 Ar47_ (j := (5 : Int32)) hin47_ (g := (mkF mM 149 ll6 [(.int x_46_), (.int (5 : Int32)), (.ref b3_)])) rfl rfl (hC at_149)
    have U47_ : own_T Z h47_ b3_ .char (8 : Int32) (own_up (own_up (own_up (own_up (own_up (own_up (fun _ => (0 : Int32)) (0 : Int32) (nar .char x_11_)) (1 : Int32) (nar .char x_18_)) (2 : Int32) (nar .char x_25_)) (3 : Int32) (nar .char x_32_)) (4 : Int32) (nar .char x_39_)) (5 : Int32) (nar .char x_46_)) := own_T.set ⟨cl47_, Ar47_, Sz47_, Nn47_, Hh47_⟩ W47_ ⟨by decide, by decide⟩
    have fc48_ := fc41_.wr W47_ ge_b3_
    have fc49_ := fc42_.wr W47_
    have fc50_ := fc43_.other W47_ (Or.inl ne4_)
    have fc51_ := fc44_.other W47_ (Or.inl ne4_)
    have fc52_ := fc45_.other W47_ ne5_
    have sw47_ : Safe Z own_EL vj1_ h40_ b3_ := (own_T.safe (EL := own_EL) hZ.alike U40_ (by decide))
    have Cs47_ : CHr Z own_EL vj1_ h40_ vj1_ h47_ := CHr.wr W47_ sw47_ CH40_.1
    have CH47_ := CH40_.trans Cs47_
    have hk47_ := Nat.le_trans hk40_ Cs47_.2.1
    have K47_ := K40_.wr W47_ (Or.inr sz_b3_)
    have N47_ := Fr.snoc X47_ N46_ ge_b3_
    refine own_fin st47_ ?_
    have hbd6 := own_upB hbd5 (i := (5 : Int32)) (own_ncb p46__1)
    refine jg T47_ mM 161 ll6 [(.int mv), (.long q3), (.int (6 : Int32)), (.ref bA), (.int (6 : Int32)), (.ref b3_)] (fun tT kK => ?_) ?_
    · refine XS.aload X47_.here hx rfl (hC at_150) rfl rfl ?_
      refine XS.bipush X47_.here hx rfl (hC at_152) ?_
      refine XS.aload X47_.here hx rfl (hC at_154) rfl rfl ?_
      refine XS.bipush X47_.here hx rfl (hC at_156) ?_
      refine XS.lloadN X47_.here hx rfl (hC at_158) rfl ?_
      refine XS.iload X47_.here hx rfl (hC at_159) rfl ?_
      exact kK
    refine jc X47_ hx hZ (y := jy14) hown (jk hw 10 rfl) (jk hw 11 rfl) (jk hw 12 rfl) (jk hw 13 rfl) (rm_at lL Z a0 hw [] bA tb (6 : Int32) q3 mv zb fb cs fv h47_ n0 (Nat.le_trans Z0 K47_.1) fc48_ Scs ncs Sfv rfv fc49_ fc51_ fc50_ fc52_ (by decide)) e47_ own_pd19 [(.ref bA), (.int (6 : Int32)), (.long q3), (.int mv)] [(.int (6 : Int32)), (.ref b3_)] (hC at_161) rfl rfl (by rw [hml]; rfl) (by decide) 2 (Nat.le_of_eq rfl) (by decide) (by decide) (by decide : 3 + 0 ≤ _) (by decide : 40 + 0 ≤ _) fun vv53_ T53_ L53_ X53_ hQ53_ => ?_
    obtain ⟨x_53_, rfl, N53_q, p53__0, p53__1⟩ := hQ53_
    have N53_ := Fr.app N47_ N53_q
    obtain ⟨cl54_, Ar54_, Sz54_, Nn54_, Hh54_⟩ := id U47_
    have hin54_ : ¬ ((6 : Int32) < 0 ∨ cl54_.slots.size ≤ ((6 : Int32)).toNatClampNeg) := inb_of Sz54_ ⟨by decide, by decide⟩
    obtain ⟨T54_, h54_, X54_, e54_, W54_, st54_⟩ := stC X53_ hx hZ p53__0 Ar54_ (j := (6 : Int32)) hin54_ (g := (mkF mM 164 ll6 [(.int x_53_), (.int (6 : Int32)), (.ref b3_)])) rfl rfl (hC at_164)
    have U54_ : own_T Z h54_ b3_ .char (8 : Int32) (own_up (own_up (own_up (own_up (own_up (own_up (own_up (fun _ => (0 : Int32)) (0 : Int32) (nar .char x_11_)) (1 : Int32) (nar .char x_18_)) (2 : Int32) (nar .char x_25_)) (3 : Int32) (nar .char x_32_)) (4 : Int32) (nar .char x_39_)) (5 : Int32) (nar .char x_46_)) (6 : Int32) (nar .char x_53_)) := own_T.set ⟨cl54_, Ar54_, Sz54_, Nn54_, Hh54_⟩ W54_ ⟨by decide, by decide⟩
    have fc55_ := fc48_.wr W54_ ge_b3_
    have fc56_ := fc49_.wr W54_
    have fc57_ := fc50_.other W54_ (Or.inl ne4_)
    have fc58_ := fc51_.other W54_ (Or.inl ne4_)
    have fc59_ := fc52_.other W54_ ne5_
    have sw54_ : Safe Z own_EL vj1_ h47_ b3_ := (own_T.safe (EL := own_EL) hZ.alike U47_ (by decide))
    have Cs54_ : CHr Z own_EL vj1_ h47_ vj1_ h54_ := CHr.wr W54_ sw54_ CH47_.1
    have CH54_ := CH47_.trans Cs54_
    have hk54_ := Nat.le_trans hk47_ Cs54_.2.1
    have K54_ := K47_.wr W54_ (Or.inr sz_b3_)
    have N54_ := Fr.snoc X54_ N53_ ge_b3_
    refine own_fin st54_ ?_
    have hbd7 := own_upB hbd6 (i := (6 : Int32)) (own_ncb p53__1)
    refine jg T54_ mM 176 ll6 [(.int mv), (.long q3), (.int (7 : Int32)), (.ref bA), (.int (7 : Int32)), (.ref b3_)] (fun tT kK => ?_) ?_
    · refine XS.aload X54_.here hx rfl (hC at_165) rfl rfl ?_
      refine XS.bipush X54_.here hx rfl (hC at_167) ?_
      refine XS.aload X54_.here hx rfl (hC at_169) rfl rfl ?_
      refine XS.bipush X54_.here hx rfl (hC at_171) ?_
      refine XS.lloadN X54_.here hx rfl (hC at_173) rfl ?_
      refine XS.iload X54_.here hx rfl (hC at_174) rfl ?_
      exact kK
    refine jc X54_ hx hZ (y := jy14) hown (jk hw 10 rfl) (jk hw 11 rfl) (jk hw 12 rfl) (jk hw 13 rfl) (rm_at lL Z a0 hw [] bA tb (7 : Int32) q3 mv zb fb cs fv h54_ n0 (Nat.le_trans Z0 K54_.1) fc55_ Scs ncs Sfv rfv fc56_ fc58_ fc57_ fc59_ (by decide)) e54_ own_pd19 [(.ref bA), (.int (7 : Int32)), (.long q3), (.int mv)] [(.int (7 : Int32)), (.ref b3_)] (hC at_176) rfl rfl (by rw [hml]; rfl) (by decide) 2 (Nat.le_of_eq rfl) (by decide) (by decide) (by decide : 3 + 0 ≤ _) (by decide : 40 + 0 ≤ _) fun vv60_ T60_ L60_ X60_ hQ60_ => ?_
    obtain ⟨x_60_, rfl, N60_q, p60__0, p60__1⟩ := hQ60_
    have N60_ := Fr.app N54_ N60_q
    obtain ⟨cl61_, Ar61_, Sz61_, Nn61_, Hh61_⟩ := id U54_
    have hin61_ : ¬ ((7 : Int32) < 0 ∨ cl61_.slots.size ≤ ((7 : Int32)).toNatClampNeg) := inb_of Sz61_ ⟨by decide, by decide⟩
    obtain ⟨T61_, h61_, X61_, e61_, W61_, st61_⟩ := stC X60_ hx hZ p60__0 Ar61_ (j := (7 : Int32)) hin61_ (g := (mkF mM 179 ll6 [(.int x_60_), (.int (7 : Int32)), (.ref b3_)])) rfl rfl (hC at_179)
    have U61_ : own_T Z h61_ b3_ .char (8 : Int32) (own_up (own_up (own_up (own_up (own_up (own_up (own_up (own_up (fun _ => (0 : Int32)) (0 : Int32) (nar .char x_11_)) (1 : Int32) (nar .char x_18_)) (2 : Int32) (nar .char x_25_)) (3 : Int32) (nar .char x_32_)) (4 : Int32) (nar .char x_39_)) (5 : Int32) (nar .char x_46_)) (6 : Int32) (nar .char x_53_)) (7 : Int32) (nar .char x_60_)) := own_T.set ⟨cl61_, Ar61_, Sz61_, Nn61_, Hh61_⟩ W61_ ⟨by decide, by decide⟩
    have fc62_ := fc55_.wr W61_ ge_b3_
    have fc63_ := fc56_.wr W61_
    have fc64_ := fc57_.other W61_ (Or.inl ne4_)
    have fc65_ := fc58_.other W61_ (Or.inl ne4_)
    have fc66_ := fc59_.other W61_ ne5_
    have sw61_ : Safe Z own_EL vj1_ h54_ b3_ := (own_T.safe (EL := own_EL) hZ.alike U54_ (by decide))
    have Cs61_ : CHr Z own_EL vj1_ h54_ vj1_ h61_ := CHr.wr W61_ sw61_ CH54_.1
    have CH61_ := CH54_.trans Cs61_
    have hk61_ := Nat.le_trans hk54_ Cs61_.2.1
    have K61_ := K54_.wr W61_ (Or.inr sz_b3_)
    have N61_ := Fr.snoc X61_ N60_ ge_b3_
    refine own_fin st61_ ?_
    have hbd8 := own_upB hbd7 (i := (7 : Int32)) (own_ncb p60__1)
    let ll7 : Array Slot := #[vI p1, vI p2, vJ q3, vS, vI p4, vI kk, vR bA, vI mv, vR b3_, vI (p2 &&& (3 : Int32)), vU, vU, vU, vU]
    refine jg T61_ mM 187 ll7 [(.int (p2 &&& (3 : Int32)))] (fun tT kK => ?_) ?_
    · refine XS.iloadN X61_.here hx rfl (hC at_180) rfl ?_
      refine XS.iconst X61_.here hx rfl (hC at_181) ?_
      refine XS.iand X61_.here hx rfl (hC at_182) rfl ?_
      refine XS.istore X61_.here hx rfl (hC at_183) rfl (l' := ll7) rfl ?_
      refine XS.iload X61_.here hx rfl (hC at_185) rfl ?_
      exact kK
    have jp67_ : ∀ (nn : Int32) (vj67_ : Vm) (kj67_ : Nat) (Tj67_ : State) (Lj67_ : List Loc) (hj67_ : Heap), Stand pP lL eE room_1 (sS.setVm vj67_) mM #[(.int p1), (.int p2), (.long q3), (.int p4)] below meth cC Tj67_ Lj67_ 3 40 → Tj67_.heap = hj67_ → Keep h0 hj67_ ([] : List Addr) → sS.Since vj67_ kj67_ → kj67_ ≤ hj67_.size → Z.Warmed39 (sS.setVm vj67_).vm → (sS.setVm vj67_).vm.findClass "com/example/needlework/needlework/AlgorithmNamedPinLaw" = some mM.cls → CHr Z own_EL sS.vm h0 vj67_ hj67_ → (Old Z n0 hj67_) → (own_T Z hj67_ b3_ .char (8 : Int32) (own_up (own_up (own_up (own_up (own_up (own_up (own_up (own_up (fun _ => (0 : Int32)) (0 : Int32) (nar .char x_11_)) (1 : Int32) (nar .char x_18_)) (2 : Int32) (nar .char x_25_)) (3 : Int32) (nar .char x_32_)) (4 : Int32) (nar .char x_39_)) (5 : Int32) (nar .char x_46_)) (6 : Int32) (nar .char x_53_)) (7 : Int32) (nar .char x_60_))) → Fr n0 Lj67_ → own_Fin pP eE below (fun tT oO => ∃ vV lA, oO = .returned vV ∧ Q_rm0 Z p1 p2 q3 p4 cs fv u1 u2 u3 u4 n1 n2 n3 n4 t1 t2 t3 t4 va em kv h0 n0 vV tT.heap lA ∧ CHr Z own_EL sS.vm sS.heap tT.vm tT.heap ∧ ReturnedEndW sS oO tT lA room_1.cells room_1.slots) (Tj67_.setTop (mkF mM 244 #[.val (.int p1), .val (.int p2), .val (.long q3), .second, .val (.int p4), .val (.int kk), .val (.ref bA), .val (.int mv), .val (.ref b3_), .val (.int (p2 &&& (3 : Int32))), .val (.int nn), .unset, .unset, .unset] [])) := by
      intro nn vj67_ kj67_ Tj67_ Lj67_ hj67_  Xj67_ ej67_ Kj67_ hSj67_ hkj67_ hZ hown CHj67_ fj67__0 fj67__1  Nj67_
      let ll8 : Array Slot := #[vI p1, vI p2, vJ q3, vS, vI p4, vI kk, vR bA, vI mv, vR b3_, vI (p2 &&& (3 : Int32)), vI nn, vU, vU, vU]
      refine jg Tj67_ mM 248 ll8 [(.ref b3_), (.int nn)] (fun tT kK => ?_) ?_
      · refine XS.iload Xj67_.here hx rfl (hC at_244) rfl ?_
        refine XS.aload Xj67_.here hx rfl (hC at_246) rfl rfl ?_
        exact kK
      obtain ⟨_, _, ⟨T68_, L68_, k68_, n68_⟩, -, Xa68_, hSa68_, hga68_, ⟨Lc68_, hQ68_, l68_, y68_, z68_, hC68_⟩, st68_⟩ := callSS Xj67_ hx (y := jy15) hown (jm hZ hw 50 rfl) (jm hZ hw 51 rfl) (jm hZ hw 12 rfl) (jm hZ hw 52 rfl) (by decide) (own_backSY (W := 0) (rm_strn lL Z a0 hw [] b3_ nn (own_up (own_up (own_up (own_up (own_up (own_up (own_up (own_up (fun _ => (0 : Int32)) (0 : Int32) (nar .char x_11_)) (1 : Int32) (nar .char x_18_)) (2 : Int32) (nar .char x_25_)) (3 : Int32) (nar .char x_32_)) (4 : Int32) (nar .char x_39_)) (5 : Int32) (nar .char x_46_)) (6 : Int32) (nar .char x_53_)) (7 : Int32) (nar .char x_60_)) cs hj67_ n0 (Nat.le_trans Z0 Kj67_.1) fj67__0 Scs ncs fj67__1 hbd8) hZ (jk hw 52 rfl) (jk hw 12 rfl) (by decide) (by decide) (own_EW hw) CHj67_.1 own_y0) (g := (mkF mM 248 ll8 [(.ref b3_), (.int nn)])) rfl (by rw [hml]; rfl) (argsL := [(.int nn), (.ref b3_)]) (rest := []) (lenOf own_pd20 rfl) rfl (by show 2 * 0 + _ ≤ _; exact Nat.le_of_eq rfl) (hC at_248) (fun _ _ => ⟨rfl, ej67_, (by decide : 3 + 6 ≤ _), (by decide : 40 + 20 ≤ _)⟩)
      dsimp only [Pt.U, Pt.locs, Pt.cells, Pt.slots] at Xa68_ hSa68_ hga68_ l68_ y68_ z68_ st68_ hQ68_ hC68_
      subst l68_ y68_ z68_
      obtain ⟨X68_, hS68_, hZ, hown⟩ := rebS hSj67_ (own_hk ej67_ hkj67_) Xa68_ hSa68_ hga68_ hZ hown
      obtain ⟨s'_68_, t'_68_, z'_68_, f'_68_, rfl, N68_q, p68__0, p68__1, p68__2, p68__3, p68__4, p68__5⟩ := hQ68_
      have N68_ := Fr.app Nj67_ N68_q
      have sz_s'_68_ : h0.size ≤ s'_68_ := Nat.le_trans Kj67_.1 p68__1
      have ge_s'_68_ : n0 ≤ s'_68_ := Nat.le_trans Z0 sz_s'_68_
      have fc70_ := fj67__0.keep p68__0 all0
      have K68_ := Kj67_.trans p68__0 all0
      have CH68_ := CHj67_.trans hC68_
      have hk68_ : T68_.heap.size ≤ T68_.heap.size := Nat.le_refl _
      refine own_fin (fun tT kK => st68_.trans kK) ?_
      let ll9 : Array Slot := #[vI p1, vI p2, vJ q3, vS, vI p4, vI kk, vR bA, vI mv, vR b3_, vI (p2 &&& (3 : Int32)), vI nn, vR s'_68_, vN, vU]
      refine jg T68_ mM 258 ll9 [(.ref s'_68_)] (fun tT kK => ?_) ?_
      · let ll10 : Array Slot := #[vI p1, vI p2, vJ q3, vS, vI p4, vI kk, vR bA, vI mv, vR b3_, vI (p2 &&& (3 : Int32)), vI nn, vR s'_68_, vU, vU]
        refine XS.astore X68_.here hx rfl (hC at_251) rfl rfl (l' := ll10) rfl ?_
        refine XS.aconstNull X68_.here hx rfl (hC at_253) ?_
        refine XS.astore X68_.here hx rfl (hC at_254) rfl rfl (l' := ll9) rfl ?_
        refine XS.aload X68_.here hx rfl (hC at_256) rfl rfl ?_
        exact kK
      obtain ⟨a72_, T72_, h72_, k172_, b72_, kc72_, X72_, e72_, E72_, hS72_, hk72_, hZ, hown, Ea72_, Fc72_, Fv72_, Vb72_, la72_, lb72_, Cr72_, -, sfn72_, st72_⟩ := ldcCH X68_ hx hZ hown (jk hw 1 rfl) (own_wS hw) rfl hS68_ hk68_ (own_EW hw) (EL := own_EL) (List.mem_of_getElem? (i := 0) rfl) CH68_.1 (vs := [(.int (98 : Int32)), (.int (114 : Int32)), (.int (117 : Int32)), (.int (116 : Int32)), (.int (101 : Int32))]) (z := (5 : Int32)) ⟨by decide, by rfl⟩ (by decide) (by decide) (g := (mkF mM 258 ll9 [(.ref s'_68_)])) rfl (hC at_258) (n := 20) (by decide) (by decide) (by decide) (by decide)
      have fc73_ := fc70_.ext E72_
      have fc75_ := p68__2.ext E72_
      have fc76_ := p68__3.ext E72_
      have fc77_ := p68__4.ext E72_
      have fc78_ := p68__5.ext E72_
      have K72_ := K68_.ext E72_
      have CH72_ := CH68_.trans Cr72_
      have Tb72_ : own_T Z h72_ b72_ .byte (5 : Int32) (own_li [(98 : Int32), (114 : Int32), (117 : Int32), (116 : Int32), (101 : Int32)]) := own_at_T (xs := [(98 : Int32), (114 : Int32), (117 : Int32), (116 : Int32), (101 : Int32)]) Vb72_
      refine own_fin st72_ ?_
      refine jv X72_ hx hZ (y := jy13) hown (jk hw 65 rfl) (jk hw 66 rfl) (jk hw 68 rfl) (jk hw 67 rfl) (jk hw 69 rfl) (jk hw 2 rfl) (rm_eq lL Z a0 hw [] s'_68_ a72_ t'_68_ b72_ z'_68_ f'_68_ (5 : Int32) (own_li [(98 : Int32), (114 : Int32), (117 : Int32), (116 : Int32), (101 : Int32)]) cs h72_ n0 (Nat.le_trans Z0 K72_.1) fc73_ Scs ncs fc75_ fc76_ fc77_ fc78_ Ea72_ Fv72_ Fc72_ Tb72_) fc75_ e72_ own_pd16 [(.ref a72_)] [] (hC at_260) rfl rfl (by rw [hml]; rfl) (by decide) 0 (Nat.le_of_eq rfl) (by decide) (by decide) (by decide : 11 + 0 ≤ _) (by decide : 84 + 0 ≤ _) fun vv81_ T81_ L81_ X81_ hQ81_ => ?_
      obtain ⟨rfl, N81_q, p81__0⟩ := hQ81_
      have N81_ := Fr.app N68_ N81_q
      by_cases hc263_82_ : (own_eq z'_68_ f'_68_ (5 : Int32) (own_li [(98 : Int32), (114 : Int32), (117 : Int32), (116 : Int32), (101 : Int32)])) = (0 : Int32)
      · refine jg T81_ mM 276 ll9 [(.ref s'_68_)] (fun tT kK => ?_) ?_
        · refine XS.ifYes X81_.here hx rfl (pc0 := 263) (pc' := 274) rfl (hC at_263) rfl ((if0 _ _).trans (teq (hc263_82_ : (own_eq z'_68_ f'_68_ (5 : Int32) (own_li [(98 : Int32), (114 : Int32), (117 : Int32), (116 : Int32), (101 : Int32)])) = (0 : Int32))).1) (by decide) (by decide) ?_
          refine XS.aload X81_.here hx rfl (hC at_274) rfl rfl ?_
          exact kK
        obtain ⟨a83_, T83_, h83_, k183_, b83_, kc83_, X83_, e83_, E83_, hS83_, hk83_, hZ, hown, Ea83_, Fc83_, Fv83_, Vb83_, la83_, lb83_, Cr83_, -, sfn83_, st83_⟩ := ldcCH X81_ hx hZ hown (jk hw 74 rfl) (own_wS hw) p81__0 hS72_ hk72_ (own_EW hw) (EL := own_EL) (List.mem_of_getElem? (i := 2) rfl) CH72_.1 (vs := [(.int (107 : Int32)), (.int (109 : Int32)), (.int (112 : Int32))]) (z := (3 : Int32)) ⟨by decide, by rfl⟩ (by decide) (by decide) (g := (mkF mM 276 ll9 [(.ref s'_68_)])) rfl (hC at_276) (n := 12) (by decide) (by decide) (by decide) (by decide)
        have fc84_ := fc73_.ext E83_
        have fc86_ := fc75_.ext E83_
        have fc87_ := fc76_.ext E83_
        have fc88_ := fc77_.ext E83_
        have fc89_ := fc78_.ext E83_
        have K83_ := K72_.ext E83_
        have CH83_ := CH72_.trans Cr83_
        have Tb83_ : own_T Z h83_ b83_ .byte (3 : Int32) (own_li [(107 : Int32), (109 : Int32), (112 : Int32)]) := own_at_T (xs := [(107 : Int32), (109 : Int32), (112 : Int32)]) Vb83_
        refine own_fin st83_ ?_
        refine jv X83_ hx hZ (y := jy13) hown (jk hw 65 rfl) (jk hw 66 rfl) (jk hw 68 rfl) (jk hw 67 rfl) (jk hw 69 rfl) (jk hw 2 rfl) (rm_eq lL Z a0 hw [] s'_68_ a83_ t'_68_ b83_ z'_68_ f'_68_ (3 : Int32) (own_li [(107 : Int32), (109 : Int32), (112 : Int32)]) cs h83_ n0 (Nat.le_trans Z0 K83_.1) fc84_ Scs ncs fc86_ fc87_ fc88_ fc89_ Ea83_ Fv83_ Fc83_ Tb83_) fc86_ e83_ own_pd16 [(.ref a83_)] [] (hC at_278) rfl rfl (by rw [hml]; rfl) (by decide) 0 (Nat.le_of_eq rfl) (by decide) (by decide) (by decide : 13 + 0 ≤ _) (by decide : 100 + 0 ≤ _) fun vv96_ T96_ L96_ X96_ hQ96_ => ?_
        obtain ⟨rfl, N96_q, p96__0⟩ := hQ96_
        have N96_ := Fr.app N81_ N96_q
        by_cases hc281_97_ : (own_eq z'_68_ f'_68_ (3 : Int32) (own_li [(107 : Int32), (109 : Int32), (112 : Int32)])) = (0 : Int32)
        · refine jg T96_ mM 294 ll9 [(.ref s'_68_)] (fun tT kK => ?_) ?_
          · refine XS.ifYes X96_.here hx rfl (pc0 := 281) (pc' := 292) rfl (hC at_281) rfl ((if0 _ _).trans (teq (hc281_97_ : (own_eq z'_68_ f'_68_ (3 : Int32) (own_li [(107 : Int32), (109 : Int32), (112 : Int32)])) = (0 : Int32))).1) (by decide) (by decide) ?_
            refine XS.aload X96_.here hx rfl (hC at_292) rfl rfl ?_
            exact kK
          obtain ⟨a98_, T98_, h98_, k198_, b98_, kc98_, X98_, e98_, E98_, hS98_, hk98_, hZ, hown, Ea98_, Fc98_, Fv98_, Vb98_, la98_, lb98_, Cr98_, -, sfn98_, st98_⟩ := ldcCH X96_ hx hZ hown (jk hw 75 rfl) (own_wS hw) p96__0 hS83_ hk83_ (own_EW hw) (EL := own_EL) (List.mem_of_getElem? (i := 3) rfl) CH83_.1 (vs := [(.int (98 : Int32)), (.int (109 : Int32))]) (z := (2 : Int32)) ⟨by decide, by rfl⟩ (by decide) (by decide) (g := (mkF mM 294 ll9 [(.ref s'_68_)])) rfl (hC at_294) (n := 8) (by decide) (by decide) (by decide) (by decide)
          have fc99_ := fc84_.ext E98_
          have fc101_ := fc86_.ext E98_
          have fc102_ := fc87_.ext E98_
          have fc103_ := fc88_.ext E98_
          have fc104_ := fc89_.ext E98_
          have K98_ := K83_.ext E98_
          have CH98_ := CH83_.trans Cr98_
          have Tb98_ : own_T Z h98_ b98_ .byte (2 : Int32) (own_li [(98 : Int32), (109 : Int32)]) := own_at_T (xs := [(98 : Int32), (109 : Int32)]) Vb98_
          refine own_fin st98_ ?_
          refine jv X98_ hx hZ (y := jy13) hown (jk hw 65 rfl) (jk hw 66 rfl) (jk hw 68 rfl) (jk hw 67 rfl) (jk hw 69 rfl) (jk hw 2 rfl) (rm_eq lL Z a0 hw [] s'_68_ a98_ t'_68_ b98_ z'_68_ f'_68_ (2 : Int32) (own_li [(98 : Int32), (109 : Int32)]) cs h98_ n0 (Nat.le_trans Z0 K98_.1) fc99_ Scs ncs fc101_ fc102_ fc103_ fc104_ Ea98_ Fv98_ Fc98_ Tb98_) fc101_ e98_ own_pd16 [(.ref a98_)] [] (hC at_296) rfl rfl (by rw [hml]; rfl) (by decide) 0 (Nat.le_of_eq rfl) (by decide) (by decide) (by decide : 15 + 0 ≤ _) (by decide : 112 + 0 ≤ _) fun vv115_ T115_ L115_ X115_ hQ115_ => ?_
          obtain ⟨rfl, N115_q, p115__0⟩ := hQ115_
          have N115_ := Fr.app N96_ N115_q
          by_cases hc299_116_ : (own_eq z'_68_ f'_68_ (2 : Int32) (own_li [(98 : Int32), (109 : Int32)])) = (0 : Int32)
          · refine jg T115_ mM 312 ll9 [(.ref s'_68_)] (fun tT kK => ?_) ?_
            · refine XS.ifYes X115_.here hx rfl (pc0 := 299) (pc' := 310) rfl (hC at_299) rfl ((if0 _ _).trans (teq (hc299_116_ : (own_eq z'_68_ f'_68_ (2 : Int32) (own_li [(98 : Int32), (109 : Int32)])) = (0 : Int32))).1) (by decide) (by decide) ?_
              show Steps pP.tables eE below (T115_.setTop (mkF mM 310 ll9 [])) tT
              refine XS.aload X115_.here hx rfl (hC at_310) rfl rfl ?_
              exact kK
            obtain ⟨a117_, T117_, h117_, k1117_, b117_, kc117_, X117_, e117_, E117_, hS117_, hk117_, hZ, hown, Ea117_, Fc117_, Fv117_, Vb117_, la117_, lb117_, Cr117_, -, sfn117_, st117_⟩ := ldcCH X115_ hx hZ hown (jk hw 76 rfl) (own_wS hw) p115__0 hS98_ hk98_ (own_EW hw) (EL := own_EL) (List.mem_of_getElem? (i := 4) rfl) CH98_.1 (vs := [(.int (116 : Int32)), (.int (119 : Int32)), (.int (111 : Int32)), (.int (45 : Int32)), (.int (119 : Int32)), (.int (97 : Int32)), (.int (121 : Int32))]) (z := (7 : Int32)) ⟨by decide, by rfl⟩ (by decide) (by decide) (g := (mkF mM 312 ll9 [(.ref s'_68_)])) rfl (hC at_312) (n := 28) (by decide) (by decide) (by decide) (by decide)
            have fc118_ := fc99_.ext E117_
            have fc120_ := fc101_.ext E117_
            have fc121_ := fc102_.ext E117_
            have fc122_ := fc103_.ext E117_
            have fc123_ := fc104_.ext E117_
            have K117_ := K98_.ext E117_
            have CH117_ := CH98_.trans Cr117_
            have Tb117_ : own_T Z h117_ b117_ .byte (7 : Int32) (own_li [(116 : Int32), (119 : Int32), (111 : Int32), (45 : Int32), (119 : Int32), (97 : Int32), (121 : Int32)]) := own_at_T (xs := [(116 : Int32), (119 : Int32), (111 : Int32), (45 : Int32), (119 : Int32), (97 : Int32), (121 : Int32)]) Vb117_
            refine own_fin st117_ ?_
            refine jv X117_ hx hZ (y := jy13) hown (jk hw 65 rfl) (jk hw 66 rfl) (jk hw 68 rfl) (jk hw 67 rfl) (jk hw 69 rfl) (jk hw 2 rfl) (rm_eq lL Z a0 hw [] s'_68_ a117_ t'_68_ b117_ z'_68_ f'_68_ (7 : Int32) (own_li [(116 : Int32), (119 : Int32), (111 : Int32), (45 : Int32), (119 : Int32), (97 : Int32), (121 : Int32)]) cs h117_ n0 (Nat.le_trans Z0 K117_.1) fc118_ Scs ncs fc120_ fc121_ fc122_ fc123_ Ea117_ Fv117_ Fc117_ Tb117_) fc120_ e117_ own_pd16 [(.ref a117_)] [] (hC at_314) rfl rfl (by rw [hml]; rfl) (by decide) 0 (Nat.le_of_eq rfl) (by decide) (by decide) (by decide : 17 + 0 ≤ _) (by decide : 144 + 0 ≤ _) fun vv138_ T138_ L138_ X138_ hQ138_ => ?_
            obtain ⟨rfl, N138_q, p138__0⟩ := hQ138_
            have N138_ := Fr.app N115_ N138_q
            by_cases hc317_139_ : (own_eq z'_68_ f'_68_ (7 : Int32) (own_li [(116 : Int32), (119 : Int32), (111 : Int32), (45 : Int32), (119 : Int32), (97 : Int32), (121 : Int32)])) = (0 : Int32)
            · refine jg T138_ mM 327 ll9 [(.ref s'_68_)] (fun tT kK => ?_) ?_
              · refine XS.ifYes X138_.here hx rfl (pc0 := 317) (pc' := 325) rfl (hC at_317) rfl ((if0 _ _).trans (teq (hc317_139_ : (own_eq z'_68_ f'_68_ (7 : Int32) (own_li [(116 : Int32), (119 : Int32), (111 : Int32), (45 : Int32), (119 : Int32), (97 : Int32), (121 : Int32)])) = (0 : Int32))).1) (by decide) (by decide) ?_
                refine XS.aload X138_.here hx rfl (hC at_325) rfl rfl ?_
                exact kK
              have ml0 := lz0.ext fc118_.2
              have ml1 := lz1.ext fc118_.2
              have ml2 := lz2.ext fc118_.2
              have ml3 := lz3.ext fc118_.2
              have ml4 := lz4.ext fc118_.2
              have ml5 := lz5.ext fc118_.2
              have ml6 := lz6.ext fc118_.2
              have ml7 := lz7.ext fc118_.2
              have ml8 := lz8.ext fc118_.2
              have ml9 := lz9.ext fc118_.2
              have ml10 := lz10.ext fc118_.2
              have ml11 := lz11.ext fc118_.2
              have ml12 := lz12.ext fc118_.2
              have ml13 := lz13.ext fc118_.2
              have ml14 := lz14.ext fc118_.2
              have ml15 := lz15.ext fc118_.2
              have ml16 := lz16.ext fc118_.2
              have ml17 := lz17.ext fc118_.2
              have ml18 := lz18.ext fc118_.2
              have ml19 := lz19.ext fc118_.2
              have ml20 := lz20.ext fc118_.2
              have ml21 := lz21.ext fc118_.2
              have ml22 := lz22.ext fc118_.2
              have ml23 := lz23.ext fc118_.2
              have ml24 := lz24.ext fc118_.2
              have ml25 := lz25.ext fc118_.2
              have ml26 := lz26.ext fc118_.2
              have ml27 := lz27.ext fc118_.2
              have sk140_ : ∀ x ∈ ([] : List Addr), Safe Z own_EL T117_.vm h117_ x := sf0
              refine jc X138_ hx hZ (y := jy22) hown (jk hw 77 rfl) (jk hw 78 rfl) (jk hw 79 rfl) (jk hw 80 rfl) (rm_named4 lL Z a0 hw [] s'_68_ t'_68_ z'_68_ f'_68_ cs u1 u2 u3 u4 n1 n2 n3 n4 t1 t2 t3 t4 va em kv h117_ n0 (Nat.le_trans Z0 K117_.1) fc118_ Scs ncs Sv ml24 ml25 Se ml0 ml1 ml2 ml3 ml4 ml5 ml6 ml7 ml8 ml9 ml10 ml11 ml12 ml13 ml14 ml15 ml16 ml17 ml18 ml19 ml20 ml21 ml22 ml23 fc120_ fc121_ fc122_ fc123_ (by rw [own_eqs]; exact hc263_82_) (by rw [own_eqs]; exact hc281_97_) (by rw [own_eqs]; exact hc299_116_) (by rw [own_eqs]; exact hc317_139_)) p138__0 own_pd21 [(.ref s'_68_)] [] (hC at_327) rfl rfl (by rw [hml]; rfl) (by decide) 0 (Nat.le_of_eq rfl) (by decide) (by decide) (by decide : 17 + 1 ≤ _) (by decide : 144 + 4 ≤ _) fun vv141_ T141_ L141_ X141_ hQ141_ => ?_
              obtain ⟨rfl, N141_q, p141__0⟩ := hQ141_
              have N141_ := Fr.app N138_ N141_q
              have fc190_ := ml26.keep p141__0
              have fc191_ := ml27.keep p141__0 nin0
              have K141_ := K117_.trans p141__0 all0
              have Cs141_ : CHr Z own_EL T117_.vm h117_ T117_.vm T141_.heap := CHr.keep p141__0 sk140_ CH117_.1
              have CH141_ := CH117_.trans Cs141_
              have hk141_ := Nat.le_trans hk117_ Cs141_.2.1
              refine jg T141_ mM 331 ll9 [.null, (.ref em)] (fun tT kK => ?_) ?_
              · refine XS.aconstNull X141_.here hx rfl (hC at_330) ?_
                exact kK
              refine jv X141_ hx hZ (y := jy20) hown (jk hw 108 rfl) (jk hw 109 rfl) (jk hw 111 rfl) (jk hw 110 rfl) (jk hw 112 rfl) (jk hw 105 rfl) (rm_orn lL Z a0 hw [] em T141_.heap n0 (Nat.le_trans Z0 K141_.1) fc191_) fc190_ rfl own_pd13 [.null] [] (hC at_331) rfl rfl (by rw [hml]; rfl) (by decide) 0 (Nat.le_of_eq rfl) (by decide) (by decide) (by decide : 18 + 0 ≤ _) (by decide : 148 + 0 ≤ _) fun vv192_ T192_ L192_ X192_ hQ192_ => ?_
              obtain ⟨rfl, N192_q, p192__0⟩ := hQ192_
              have N192_ := Fr.app N141_ N192_q
              let ll11 : Array Slot := #[vI p1, vI p2, vJ q3, vS, vI p4, vI kk, vR bA, vI mv, vR b3_, vI (p2 &&& (3 : Int32)), vI nn, vR s'_68_, vN, vN]
              refine jg T192_ mM 351 ll11 [(.int (1 : Int32))] (fun tT kK => ?_) ?_
              · refine X192_.checkcastNull hx (g := (mkF mM 334 ll9 [.null])) rfl rfl (hC at_334) _ ?_
                refine XS.astore X192_.here hx rfl (hC at_337) rfl rfl (l' := ll11) rfl ?_
                refine XS.aload X192_.here hx rfl (hC at_339) rfl rfl ?_
                refine XS.aload X192_.here hx rfl (hC at_341) rfl rfl ?_
                refine Jvm.RoadKit.acmp (g := (mkF mM 343 ll11 [.null, .null])) X192_ hx rfl rfl rfl (pc0 := 343) (pc' := 346) (same := true) rfl (hC at_343) rfl (decide_eq_true rfl) (by decide) (by decide) ?_
                refine XS.iconst X192_.here hx rfl (hC at_346) ?_
                refine XS.goto X192_.here hx rfl (pc0 := 347) (pc' := 351) rfl (hC at_347) (by decide) (by decide) ?_
                exact kK
              obtain ⟨fs, hr, hrun, hended, hE1, hE2, hE3, hE4⟩ := X192_.leaveW hS117_ (own_hk p192__0 hk141_) (v := some (.int (1 : Int32))) (fun h => by rw [Bd.returns] at h; cases h)
              refine ⟨_, _, ?_, hrun, hended, _, _, rfl, ?_, own_CHe (T := T192_) (vm1 := T192_.vm) hh p192__0 (CH141_.trans (CHv.at X192_ hZ (own_EW hw) CH141_.1)), hE1, hE2, hE3, hE4.mono (by decide) (by decide)⟩
              · show Steps pP.tables eE below (T192_.setTop (mkF mM 351 ll11 [(.int (1 : Int32))])) _
                exact retN X192_ hx (t := .boolean) Bd.returns (by simp) (hC at_351) hr
              · show Q_rm0 Z p1 p2 q3 p4 cs fv u1 u2 u3 u4 n1 n2 n3 n4 t1 t2 t3 t4 va em kv h0 n0 _ T192_.heap _
                rw [p192__0]
                exact ⟨rfl, N192_⟩
            · refine jg T138_ mM 320 ll9 [] (fun tT kK => ?_) ?_
              · refine XS.ifNo X138_.here hx rfl (hC at_317) rfl ((if0 _ _).trans (feq (hc317_139_ : ¬ ((own_eq z'_68_ f'_68_ (7 : Int32) (own_li [(116 : Int32), (119 : Int32), (111 : Int32), (45 : Int32), (119 : Int32), (97 : Int32), (121 : Int32)])) = (0 : Int32)))).1) ?_
                exact kK
              obtain ⟨T194_, X194_, e194_, st194_⟩ := getS2 X138_ hx hZ hown (host := "") (Or.inl (jk hw 125 rfl)) Via.refl p138__0 (own_StaKeep fc118_ zTWO_WAY) (g := (mkF mM 320 ll9 [])) rfl (hC at_320)
              refine own_fin st194_ ?_
              let ll12 : Array Slot := #[vI p1, vI p2, vJ q3, vS, vI p4, vI kk, vR bA, vI mv, vR b3_, vI (p2 &&& (3 : Int32)), vI nn, vR s'_68_, vR u4, vU]
              refine jg T194_ mM 327 ll12 [(.ref s'_68_)] (fun tT kK => ?_) ?_
              · refine XS.astore X194_.here hx rfl (hC at_323) rfl rfl (l' := ll12) rfl ?_
                refine XS.aload X194_.here hx rfl (hC at_325) rfl rfl ?_
                exact kK
              have ml0 := lz0.ext fc118_.2
              have ml1 := lz1.ext fc118_.2
              have ml2 := lz2.ext fc118_.2
              have ml3 := lz3.ext fc118_.2
              have ml4 := lz4.ext fc118_.2
              have ml5 := lz5.ext fc118_.2
              have ml6 := lz6.ext fc118_.2
              have ml7 := lz7.ext fc118_.2
              have ml8 := lz8.ext fc118_.2
              have ml9 := lz9.ext fc118_.2
              have ml10 := lz10.ext fc118_.2
              have ml11 := lz11.ext fc118_.2
              have ml12 := lz12.ext fc118_.2
              have ml13 := lz13.ext fc118_.2
              have ml14 := lz14.ext fc118_.2
              have ml15 := lz15.ext fc118_.2
              have ml16 := lz16.ext fc118_.2
              have ml17 := lz17.ext fc118_.2
              have ml18 := lz18.ext fc118_.2
              have ml19 := lz19.ext fc118_.2
              have ml20 := lz20.ext fc118_.2
              have ml21 := lz21.ext fc118_.2
              have ml22 := lz22.ext fc118_.2
              have ml23 := lz23.ext fc118_.2
              have ml24 := lz24.ext fc118_.2
              have ml25 := lz25.ext fc118_.2
              have ml26 := lz26.ext fc118_.2
              have ml27 := lz27.ext fc118_.2
              have sk195_ : ∀ x ∈ ([] : List Addr), Safe Z own_EL T117_.vm h117_ x := sf0
              refine jc X194_ hx hZ (y := jy22) hown (jk hw 77 rfl) (jk hw 78 rfl) (jk hw 79 rfl) (jk hw 80 rfl) (rm_named3 lL Z a0 hw [] s'_68_ t'_68_ z'_68_ f'_68_ cs u1 u2 u3 u4 n1 n2 n3 n4 t1 t2 t3 t4 va em kv h117_ n0 (Nat.le_trans Z0 K117_.1) fc118_ Scs ncs Sv ml24 ml25 Se ml0 ml1 ml2 ml3 ml4 ml5 ml6 ml7 ml8 ml9 ml10 ml11 ml12 ml13 ml14 ml15 ml16 ml17 ml18 ml19 ml20 ml21 ml22 ml23 fc120_ fc121_ fc122_ fc123_ (by rw [own_eqs]; exact hc263_82_) (by rw [own_eqs]; exact hc281_97_) (by rw [own_eqs]; exact hc299_116_) (by rw [own_eqs]; exact hc317_139_)) e194_ own_pd21 [(.ref s'_68_)] [] (hC at_327) rfl rfl (by rw [hml]; rfl) (by decide) 0 (Nat.le_of_eq rfl) (by decide) (by decide) (by decide : 17 + 2 ≤ _) (by decide : 144 + 5 ≤ _) fun vv196_ T196_ L196_ X196_ hQ196_ => ?_
              obtain ⟨o_196_, rfl, N196_q, p196__0, p196__1, p196__2, p196__3⟩ := hQ196_
              have N196_ := Fr.app N138_ N196_q
              have fc262_ := ml18.keep p196__0
              have K196_ := K117_.trans p196__0 all0
              have Cs196_ : CHr Z own_EL T117_.vm h117_ T117_.vm T196_.heap := CHr.keep p196__0 sk195_ CH117_.1
              have CH196_ := CH117_.trans Cs196_
              have hk196_ := Nat.le_trans hk117_ Cs196_.2.1
              refine jg T196_ mM 331 ll12 [.null, (.ref o_196_)] (fun tT kK => ?_) ?_
              · refine XS.aconstNull X196_.here hx rfl (hC at_330) ?_
                exact kK
              refine jv X196_ hx hZ (y := jy20) hown (jk hw 108 rfl) (jk hw 109 rfl) (jk hw 111 rfl) (jk hw 110 rfl) (jk hw 112 rfl) (jk hw 105 rfl) (rm_ory lL Z a0 hw [] o_196_ u4 T196_.heap n0 (Nat.le_trans Z0 K196_.1) p196__3) p196__2 rfl own_pd13 [.null] [] (hC at_331) rfl rfl (by rw [hml]; rfl) (by decide) 0 (Nat.le_of_eq rfl) (by decide) (by decide) (by decide : 19 + 0 ≤ _) (by decide : 149 + 0 ≤ _) fun vv272_ T272_ L272_ X272_ hQ272_ => ?_
              obtain ⟨rfl, N272_q, p272__0⟩ := hQ272_
              have N272_ := Fr.app N196_ N272_q
              obtain ⟨T273_, X273_, e273_, st273_⟩ := castY X272_ hx hZ hown (jk hw 140 rfl) p272__0 (Ins.self fc262_) (g := (mkF mM 334 ll12 [(.ref u4)])) rfl rfl (hC at_334)
              refine own_fin st273_ ?_
              let ll13 : Array Slot := #[vI p1, vI p2, vJ q3, vS, vI p4, vI kk, vR bA, vI mv, vR b3_, vI (p2 &&& (3 : Int32)), vI nn, vR s'_68_, vR u4, vR u4]
              refine jg T273_ mM 351 ll13 [(.int (1 : Int32))] (fun tT kK => ?_) ?_
              · refine XS.astore X273_.here hx rfl (hC at_337) rfl rfl (l' := ll13) rfl ?_
                refine XS.aload X273_.here hx rfl (hC at_339) rfl rfl ?_
                refine XS.aload X273_.here hx rfl (hC at_341) rfl rfl ?_
                refine Jvm.RoadKit.acmp (g := (mkF mM 343 ll13 [(.ref u4), (.ref u4)])) X273_ hx rfl rfl rfl (pc0 := 343) (pc' := 346) (same := true) rfl (hC at_343) rfl (decide_eq_true rfl) (by decide) (by decide) ?_
                refine XS.iconst X273_.here hx rfl (hC at_346) ?_
                refine XS.goto X273_.here hx rfl (pc0 := 347) (pc' := 351) rfl (hC at_347) (by decide) (by decide) ?_
                exact kK
              obtain ⟨fs, hr, hrun, hended, hE1, hE2, hE3, hE4⟩ := X273_.leaveW hS117_ (own_hk e273_ hk196_) (v := some (.int (1 : Int32))) (fun h => by rw [Bd.returns] at h; cases h)
              refine ⟨_, _, ?_, hrun, hended, _, _, rfl, ?_, own_CHe (T := T273_) (vm1 := T273_.vm) hh e273_ (CH196_.trans (CHv.at X273_ hZ (own_EW hw) CH196_.1)), hE1, hE2, hE3, hE4.mono (by decide) (by decide)⟩
              · show Steps pP.tables eE below (T273_.setTop (mkF mM 351 ll13 [(.int (1 : Int32))])) _
                exact retN X273_ hx (t := .boolean) Bd.returns (by simp) (hC at_351) hr
              · show Q_rm0 Z p1 p2 q3 p4 cs fv u1 u2 u3 u4 n1 n2 n3 n4 t1 t2 t3 t4 va em kv h0 n0 _ T273_.heap _
                rw [e273_]
                exact ⟨rfl, N272_⟩
          · refine jg T115_ mM 302 ll9 [] (fun tT kK => ?_) ?_
            · refine XS.ifNo X115_.here hx rfl (hC at_299) rfl ((if0 _ _).trans (feq (hc299_116_ : ¬ ((own_eq z'_68_ f'_68_ (2 : Int32) (own_li [(98 : Int32), (109 : Int32)])) = (0 : Int32)))).1) ?_
              exact kK
            obtain ⟨T274_, X274_, e274_, st274_⟩ := getS2 X115_ hx hZ hown (host := "") (Or.inl (jk hw 142 rfl)) Via.refl p115__0 (own_StaKeep fc99_ zBM) (g := (mkF mM 302 ll9 [])) rfl (hC at_302)
            refine own_fin st274_ ?_
            let ll14 : Array Slot := #[vI p1, vI p2, vJ q3, vS, vI p4, vI kk, vR bA, vI mv, vR b3_, vI (p2 &&& (3 : Int32)), vI nn, vR s'_68_, vR u3, vU]
            refine jg T274_ mM 327 ll14 [(.ref s'_68_)] (fun tT kK => ?_) ?_
            · refine XS.astore X274_.here hx rfl (hC at_305) rfl rfl (l' := ll14) rfl ?_
              refine XS.goto X274_.here hx rfl (pc0 := 307) (pc' := 325) rfl (hC at_307) (by decide) (by decide) ?_
              refine XS.aload X274_.here hx rfl (hC at_325) rfl rfl ?_
              exact kK
            have ml0 := lz0.ext fc99_.2
            have ml1 := lz1.ext fc99_.2
            have ml2 := lz2.ext fc99_.2
            have ml3 := lz3.ext fc99_.2
            have ml4 := lz4.ext fc99_.2
            have ml5 := lz5.ext fc99_.2
            have ml6 := lz6.ext fc99_.2
            have ml7 := lz7.ext fc99_.2
            have ml8 := lz8.ext fc99_.2
            have ml9 := lz9.ext fc99_.2
            have ml10 := lz10.ext fc99_.2
            have ml11 := lz11.ext fc99_.2
            have ml12 := lz12.ext fc99_.2
            have ml13 := lz13.ext fc99_.2
            have ml14 := lz14.ext fc99_.2
            have ml15 := lz15.ext fc99_.2
            have ml16 := lz16.ext fc99_.2
            have ml17 := lz17.ext fc99_.2
            have ml18 := lz18.ext fc99_.2
            have ml19 := lz19.ext fc99_.2
            have ml20 := lz20.ext fc99_.2
            have ml21 := lz21.ext fc99_.2
            have ml22 := lz22.ext fc99_.2
            have ml23 := lz23.ext fc99_.2
            have ml24 := lz24.ext fc99_.2
            have ml25 := lz25.ext fc99_.2
            have ml26 := lz26.ext fc99_.2
            have ml27 := lz27.ext fc99_.2
            have sk275_ : ∀ x ∈ ([] : List Addr), Safe Z own_EL T98_.vm h98_ x := sf0
            refine jc X274_ hx hZ (y := jy22) hown (jk hw 77 rfl) (jk hw 78 rfl) (jk hw 79 rfl) (jk hw 80 rfl) (rm_named2 lL Z a0 hw [] s'_68_ t'_68_ z'_68_ f'_68_ cs u1 u2 u3 u4 n1 n2 n3 n4 t1 t2 t3 t4 va em kv h98_ n0 (Nat.le_trans Z0 K98_.1) fc99_ Scs ncs Sv ml24 ml25 Se ml0 ml1 ml2 ml3 ml4 ml5 ml6 ml7 ml8 ml9 ml10 ml11 ml12 ml13 ml14 ml15 ml16 ml17 ml18 ml19 ml20 ml21 ml22 ml23 fc101_ fc102_ fc103_ fc104_ (by rw [own_eqs]; exact hc263_82_) (by rw [own_eqs]; exact hc281_97_) (by rw [own_eqs]; exact hc299_116_)) e274_ own_pd21 [(.ref s'_68_)] [] (hC at_327) rfl rfl (by rw [hml]; rfl) (by decide) 0 (Nat.le_of_eq rfl) (by decide) (by decide) (by decide : 15 + 2 ≤ _) (by decide : 112 + 5 ≤ _) fun vv276_ T276_ L276_ X276_ hQ276_ => ?_
            obtain ⟨o_276_, rfl, N276_q, p276__0, p276__1, p276__2, p276__3⟩ := hQ276_
            have N276_ := Fr.app N115_ N276_q
            have fc330_ := ml12.keep p276__0
            have K276_ := K98_.trans p276__0 all0
            have Cs276_ : CHr Z own_EL T98_.vm h98_ T98_.vm T276_.heap := CHr.keep p276__0 sk275_ CH98_.1
            have CH276_ := CH98_.trans Cs276_
            have hk276_ := Nat.le_trans hk98_ Cs276_.2.1
            refine jg T276_ mM 331 ll14 [.null, (.ref o_276_)] (fun tT kK => ?_) ?_
            · refine XS.aconstNull X276_.here hx rfl (hC at_330) ?_
              exact kK
            refine jv X276_ hx hZ (y := jy20) hown (jk hw 108 rfl) (jk hw 109 rfl) (jk hw 111 rfl) (jk hw 110 rfl) (jk hw 112 rfl) (jk hw 105 rfl) (rm_ory lL Z a0 hw [] o_276_ u3 T276_.heap n0 (Nat.le_trans Z0 K276_.1) p276__3) p276__2 rfl own_pd13 [.null] [] (hC at_331) rfl rfl (by rw [hml]; rfl) (by decide) 0 (Nat.le_of_eq rfl) (by decide) (by decide) (by decide : 17 + 0 ≤ _) (by decide : 117 + 0 ≤ _) fun vv346_ T346_ L346_ X346_ hQ346_ => ?_
            obtain ⟨rfl, N346_q, p346__0⟩ := hQ346_
            have N346_ := Fr.app N276_ N346_q
            obtain ⟨T347_, X347_, e347_, st347_⟩ := castY X346_ hx hZ hown (jk hw 140 rfl) p346__0 (Ins.self fc330_) (g := (mkF mM 334 ll14 [(.ref u3)])) rfl rfl (hC at_334)
            refine own_fin st347_ ?_
            let ll15 : Array Slot := #[vI p1, vI p2, vJ q3, vS, vI p4, vI kk, vR bA, vI mv, vR b3_, vI (p2 &&& (3 : Int32)), vI nn, vR s'_68_, vR u3, vR u3]
            refine jg T347_ mM 351 ll15 [(.int (1 : Int32))] (fun tT kK => ?_) ?_
            · refine XS.astore X347_.here hx rfl (hC at_337) rfl rfl (l' := ll15) rfl ?_
              refine XS.aload X347_.here hx rfl (hC at_339) rfl rfl ?_
              refine XS.aload X347_.here hx rfl (hC at_341) rfl rfl ?_
              refine Jvm.RoadKit.acmp (g := (mkF mM 343 ll15 [(.ref u3), (.ref u3)])) X347_ hx rfl rfl rfl (pc0 := 343) (pc' := 346) (same := true) rfl (hC at_343) rfl (decide_eq_true rfl) (by decide) (by decide) ?_
              refine XS.iconst X347_.here hx rfl (hC at_346) ?_
              refine XS.goto X347_.here hx rfl (pc0 := 347) (pc' := 351) rfl (hC at_347) (by decide) (by decide) ?_
              exact kK
            obtain ⟨fs, hr, hrun, hended, hE1, hE2, hE3, hE4⟩ := X347_.leaveW hS98_ (own_hk e347_ hk276_) (v := some (.int (1 : Int32))) (fun h => by rw [Bd.returns] at h; cases h)
            refine ⟨_, _, ?_, hrun, hended, _, _, rfl, ?_, own_CHe (T := T347_) (vm1 := T347_.vm) hh e347_ (CH276_.trans (CHv.at X347_ hZ (own_EW hw) CH276_.1)), hE1, hE2, hE3, hE4.mono (by decide) (by decide)⟩
            · show Steps pP.tables eE below (T347_.setTop (mkF mM 351 ll15 [(.int (1 : Int32))])) _
              exact retN X347_ hx (t := .boolean) Bd.returns (by simp) (hC at_351) hr
            · show Q_rm0 Z p1 p2 q3 p4 cs fv u1 u2 u3 u4 n1 n2 n3 n4 t1 t2 t3 t4 va em kv h0 n0 _ T347_.heap _
              rw [e347_]
              exact ⟨rfl, N346_⟩
        · refine jg T96_ mM 284 ll9 [] (fun tT kK => ?_) ?_
          · refine XS.ifNo X96_.here hx rfl (hC at_281) rfl ((if0 _ _).trans (feq (hc281_97_ : ¬ ((own_eq z'_68_ f'_68_ (3 : Int32) (own_li [(107 : Int32), (109 : Int32), (112 : Int32)])) = (0 : Int32)))).1) ?_
            exact kK
          obtain ⟨T348_, X348_, e348_, st348_⟩ := getS2 X96_ hx hZ hown (host := "") (Or.inl (jk hw 144 rfl)) Via.refl p96__0 (own_StaKeep fc84_ zKMP) (g := (mkF mM 284 ll9 [])) rfl (hC at_284)
          refine own_fin st348_ ?_
          let ll16 : Array Slot := #[vI p1, vI p2, vJ q3, vS, vI p4, vI kk, vR bA, vI mv, vR b3_, vI (p2 &&& (3 : Int32)), vI nn, vR s'_68_, vR u2, vU]
          refine jg T348_ mM 327 ll16 [(.ref s'_68_)] (fun tT kK => ?_) ?_
          · refine XS.astore X348_.here hx rfl (hC at_287) rfl rfl (l' := ll16) rfl ?_
            refine XS.goto X348_.here hx rfl (pc0 := 289) (pc' := 325) rfl (hC at_289) (by decide) (by decide) ?_
            show Steps pP.tables eE below (T348_.setTop (mkF mM 325 ll16 [])) tT
            refine XS.aload X348_.here hx rfl (hC at_325) rfl rfl ?_
            exact kK
          have ml0 := lz0.ext fc84_.2
          have ml1 := lz1.ext fc84_.2
          have ml2 := lz2.ext fc84_.2
          have ml3 := lz3.ext fc84_.2
          have ml4 := lz4.ext fc84_.2
          have ml5 := lz5.ext fc84_.2
          have ml6 := lz6.ext fc84_.2
          have ml7 := lz7.ext fc84_.2
          have ml8 := lz8.ext fc84_.2
          have ml9 := lz9.ext fc84_.2
          have ml10 := lz10.ext fc84_.2
          have ml11 := lz11.ext fc84_.2
          have ml12 := lz12.ext fc84_.2
          have ml13 := lz13.ext fc84_.2
          have ml14 := lz14.ext fc84_.2
          have ml15 := lz15.ext fc84_.2
          have ml16 := lz16.ext fc84_.2
          have ml17 := lz17.ext fc84_.2
          have ml18 := lz18.ext fc84_.2
          have ml19 := lz19.ext fc84_.2
          have ml20 := lz20.ext fc84_.2
          have ml21 := lz21.ext fc84_.2
          have ml22 := lz22.ext fc84_.2
          have ml23 := lz23.ext fc84_.2
          have ml24 := lz24.ext fc84_.2
          have ml25 := lz25.ext fc84_.2
          have ml26 := lz26.ext fc84_.2
          have ml27 := lz27.ext fc84_.2
          have sk349_ : ∀ x ∈ ([] : List Addr), Safe Z own_EL T83_.vm h83_ x := sf0
          refine jc X348_ hx hZ (y := jy22) hown (jk hw 77 rfl) (jk hw 78 rfl) (jk hw 79 rfl) (jk hw 80 rfl) (rm_named1 lL Z a0 hw [] s'_68_ t'_68_ z'_68_ f'_68_ cs u1 u2 u3 u4 n1 n2 n3 n4 t1 t2 t3 t4 va em kv h83_ n0 (Nat.le_trans Z0 K83_.1) fc84_ Scs ncs Sv ml24 ml25 Se ml0 ml1 ml2 ml3 ml4 ml5 ml6 ml7 ml8 ml9 ml10 ml11 ml12 ml13 ml14 ml15 ml16 ml17 ml18 ml19 ml20 ml21 ml22 ml23 fc86_ fc87_ fc88_ fc89_ (by rw [own_eqs]; exact hc263_82_) (by rw [own_eqs]; exact hc281_97_)) e348_ own_pd21 [(.ref s'_68_)] [] (hC at_327) rfl rfl (by rw [hml]; rfl) (by decide) 0 (Nat.le_of_eq rfl) (by decide) (by decide) (by decide : 13 + 2 ≤ _) (by decide : 100 + 5 ≤ _) fun vv350_ T350_ L350_ X350_ hQ350_ => ?_
          obtain ⟨o_350_, rfl, N350_q, p350__0, p350__1, p350__2, p350__3⟩ := hQ350_
          have N350_ := Fr.app N96_ N350_q
          have fc392_ := ml6.keep p350__0
          have K350_ := K83_.trans p350__0 all0
          have Cs350_ : CHr Z own_EL T83_.vm h83_ T83_.vm T350_.heap := CHr.keep p350__0 sk349_ CH83_.1
          have CH350_ := CH83_.trans Cs350_
          have hk350_ := Nat.le_trans hk83_ Cs350_.2.1
          refine jg T350_ mM 331 ll16 [.null, (.ref o_350_)] (fun tT kK => ?_) ?_
          · refine XS.aconstNull X350_.here hx rfl (hC at_330) ?_
            exact kK
          refine jv X350_ hx hZ (y := jy20) hown (jk hw 108 rfl) (jk hw 109 rfl) (jk hw 111 rfl) (jk hw 110 rfl) (jk hw 112 rfl) (jk hw 105 rfl) (rm_ory lL Z a0 hw [] o_350_ u2 T350_.heap n0 (Nat.le_trans Z0 K350_.1) p350__3) p350__2 rfl own_pd13 [.null] [] (hC at_331) rfl rfl (by rw [hml]; rfl) (by decide) 0 (Nat.le_of_eq rfl) (by decide) (by decide) (by decide : 15 + 0 ≤ _) (by decide : 105 + 0 ≤ _) fun vv414_ T414_ L414_ X414_ hQ414_ => ?_
          obtain ⟨rfl, N414_q, p414__0⟩ := hQ414_
          have N414_ := Fr.app N350_ N414_q
          obtain ⟨T415_, X415_, e415_, st415_⟩ := castY X414_ hx hZ hown (jk hw 140 rfl) p414__0 (Ins.self fc392_) (g := (mkF mM 334 ll16 [(.ref u2)])) rfl rfl (hC at_334)
          refine own_fin st415_ ?_
          let ll17 : Array Slot := #[vI p1, vI p2, vJ q3, vS, vI p4, vI kk, vR bA, vI mv, vR b3_, vI (p2 &&& (3 : Int32)), vI nn, vR s'_68_, vR u2, vR u2]
          refine jg T415_ mM 351 ll17 [(.int (1 : Int32))] (fun tT kK => ?_) ?_
          · refine XS.astore X415_.here hx rfl (hC at_337) rfl rfl (l' := ll17) rfl ?_
            refine XS.aload X415_.here hx rfl (hC at_339) rfl rfl ?_
            refine XS.aload X415_.here hx rfl (hC at_341) rfl rfl ?_
            refine Jvm.RoadKit.acmp (g := (mkF mM 343 ll17 [(.ref u2), (.ref u2)])) X415_ hx rfl rfl rfl (pc0 := 343) (pc' := 346) (same := true) rfl (hC at_343) rfl (decide_eq_true rfl) (by decide) (by decide) ?_
            refine XS.iconst X415_.here hx rfl (hC at_346) ?_
            refine XS.goto X415_.here hx rfl (pc0 := 347) (pc' := 351) rfl (hC at_347) (by decide) (by decide) ?_
            exact kK
          obtain ⟨fs, hr, hrun, hended, hE1, hE2, hE3, hE4⟩ := X415_.leaveW hS83_ (own_hk e415_ hk350_) (v := some (.int (1 : Int32))) (fun h => by rw [Bd.returns] at h; cases h)
          refine ⟨_, _, ?_, hrun, hended, _, _, rfl, ?_, own_CHe (T := T415_) (vm1 := T415_.vm) hh e415_ (CH350_.trans (CHv.at X415_ hZ (own_EW hw) CH350_.1)), hE1, hE2, hE3, hE4.mono (by decide) (by decide)⟩
          · show Steps pP.tables eE below (T415_.setTop (mkF mM 351 ll17 [(.int (1 : Int32))])) _
            exact retN X415_ hx (t := .boolean) Bd.returns (by simp) (hC at_351) hr
          · show Q_rm0 Z p1 p2 q3 p4 cs fv u1 u2 u3 u4 n1 n2 n3 n4 t1 t2 t3 t4 va em kv h0 n0 _ T415_.heap _
            rw [e415_]
            exact ⟨rfl, N414_⟩
      · refine jg T81_ mM 266 ll9 [] (fun tT kK => ?_) ?_
        · refine XS.ifNo X81_.here hx rfl (hC at_263) rfl ((if0 _ _).trans (feq (hc263_82_ : ¬ ((own_eq z'_68_ f'_68_ (5 : Int32) (own_li [(98 : Int32), (114 : Int32), (117 : Int32), (116 : Int32), (101 : Int32)])) = (0 : Int32)))).1) ?_
          exact kK
        obtain ⟨T416_, X416_, e416_, st416_⟩ := getS2 X81_ hx hZ hown (host := "") (Or.inl (jk hw 143 rfl)) Via.refl p81__0 (own_StaKeep fc73_ zBRUTE) (g := (mkF mM 266 ll9 [])) rfl (hC at_266)
        refine own_fin st416_ ?_
        let ll18 : Array Slot := #[vI p1, vI p2, vJ q3, vS, vI p4, vI kk, vR bA, vI mv, vR b3_, vI (p2 &&& (3 : Int32)), vI nn, vR s'_68_, vR u1, vU]
        refine jg T416_ mM 327 ll18 [(.ref s'_68_)] (fun tT kK => ?_) ?_
        · refine XS.astore X416_.here hx rfl (hC at_269) rfl rfl (l' := ll18) rfl ?_
          refine XS.goto X416_.here hx rfl (pc0 := 271) (pc' := 325) rfl (hC at_271) (by decide) (by decide) ?_
          refine XS.aload X416_.here hx rfl (hC at_325) rfl rfl ?_
          exact kK
        have ml0 := lz0.ext fc73_.2
        have ml1 := lz1.ext fc73_.2
        have ml2 := lz2.ext fc73_.2
        have ml3 := lz3.ext fc73_.2
        have ml4 := lz4.ext fc73_.2
        have ml5 := lz5.ext fc73_.2
        have ml6 := lz6.ext fc73_.2
        have ml7 := lz7.ext fc73_.2
        have ml8 := lz8.ext fc73_.2
        have ml9 := lz9.ext fc73_.2
        have ml10 := lz10.ext fc73_.2
        have ml11 := lz11.ext fc73_.2
        have ml12 := lz12.ext fc73_.2
        have ml13 := lz13.ext fc73_.2
        have ml14 := lz14.ext fc73_.2
        have ml15 := lz15.ext fc73_.2
        have ml16 := lz16.ext fc73_.2
        have ml17 := lz17.ext fc73_.2
        have ml18 := lz18.ext fc73_.2
        have ml19 := lz19.ext fc73_.2
        have ml20 := lz20.ext fc73_.2
        have ml21 := lz21.ext fc73_.2
        have ml22 := lz22.ext fc73_.2
        have ml23 := lz23.ext fc73_.2
        have ml24 := lz24.ext fc73_.2
        have ml25 := lz25.ext fc73_.2
        have ml26 := lz26.ext fc73_.2
        have ml27 := lz27.ext fc73_.2
        have sk417_ : ∀ x ∈ ([] : List Addr), Safe Z own_EL T72_.vm h72_ x := sf0
        refine jc X416_ hx hZ (y := jy22) hown (jk hw 77 rfl) (jk hw 78 rfl) (jk hw 79 rfl) (jk hw 80 rfl) (rm_named0 lL Z a0 hw [] s'_68_ t'_68_ z'_68_ f'_68_ cs u1 u2 u3 u4 n1 n2 n3 n4 t1 t2 t3 t4 va em kv h72_ n0 (Nat.le_trans Z0 K72_.1) fc73_ Scs ncs Sv ml24 ml25 Se ml0 ml1 ml2 ml3 ml4 ml5 ml6 ml7 ml8 ml9 ml10 ml11 ml12 ml13 ml14 ml15 ml16 ml17 ml18 ml19 ml20 ml21 ml22 ml23 fc75_ fc76_ fc77_ fc78_ (by rw [own_eqs]; exact hc263_82_)) e416_ own_pd21 [(.ref s'_68_)] [] (hC at_327) rfl rfl (by rw [hml]; rfl) (by decide) 0 (Nat.le_of_eq rfl) (by decide) (by decide) (by decide : 11 + 2 ≤ _) (by decide : 84 + 5 ≤ _) fun vv418_ T418_ L418_ X418_ hQ418_ => ?_
        obtain ⟨o_418_, rfl, N418_q, p418__0, p418__1, p418__2, p418__3⟩ := hQ418_
        have N418_ := Fr.app N81_ N418_q
        have fc448_ := ml0.keep p418__0
        have K418_ := K72_.trans p418__0 all0
        have Cs418_ : CHr Z own_EL T72_.vm h72_ T72_.vm T418_.heap := CHr.keep p418__0 sk417_ CH72_.1
        have CH418_ := CH72_.trans Cs418_
        have hk418_ := Nat.le_trans hk72_ Cs418_.2.1
        refine jg T418_ mM 331 ll18 [.null, (.ref o_418_)] (fun tT kK => ?_) ?_
        · refine XS.aconstNull X418_.here hx rfl (hC at_330) ?_
          exact kK
        refine jv X418_ hx hZ (y := jy20) hown (jk hw 108 rfl) (jk hw 109 rfl) (jk hw 111 rfl) (jk hw 110 rfl) (jk hw 112 rfl) (jk hw 105 rfl) (rm_ory lL Z a0 hw [] o_418_ u1 T418_.heap n0 (Nat.le_trans Z0 K418_.1) p418__3) p418__2 rfl own_pd13 [.null] [] (hC at_331) rfl rfl (by rw [hml]; rfl) (by decide) 0 (Nat.le_of_eq rfl) (by decide) (by decide) (by decide : 13 + 0 ≤ _) (by decide : 89 + 0 ≤ _) fun vv476_ T476_ L476_ X476_ hQ476_ => ?_
        obtain ⟨rfl, N476_q, p476__0⟩ := hQ476_
        have N476_ := Fr.app N418_ N476_q
        obtain ⟨T477_, X477_, e477_, st477_⟩ := castY X476_ hx hZ hown (jk hw 140 rfl) p476__0 (Ins.self fc448_) (g := (mkF mM 334 ll18 [(.ref u1)])) rfl rfl (hC at_334)
        refine own_fin st477_ ?_
        let ll19 : Array Slot := #[vI p1, vI p2, vJ q3, vS, vI p4, vI kk, vR bA, vI mv, vR b3_, vI (p2 &&& (3 : Int32)), vI nn, vR s'_68_, vR u1, vR u1]
        refine jg T477_ mM 351 ll19 [(.int (1 : Int32))] (fun tT kK => ?_) ?_
        · refine XS.astore X477_.here hx rfl (hC at_337) rfl rfl (l' := ll19) rfl ?_
          refine XS.aload X477_.here hx rfl (hC at_339) rfl rfl ?_
          refine XS.aload X477_.here hx rfl (hC at_341) rfl rfl ?_
          refine Jvm.RoadKit.acmp (g := (mkF mM 343 ll19 [(.ref u1), (.ref u1)])) X477_ hx rfl rfl rfl (pc0 := 343) (pc' := 346) (same := true) rfl (hC at_343) rfl (decide_eq_true rfl) (by decide) (by decide) ?_
          refine XS.iconst X477_.here hx rfl (hC at_346) ?_
          refine XS.goto X477_.here hx rfl (pc0 := 347) (pc' := 351) rfl (hC at_347) (by decide) (by decide) ?_
          exact kK
        obtain ⟨fs, hr, hrun, hended, hE1, hE2, hE3, hE4⟩ := X477_.leaveW hS72_ (own_hk e477_ hk418_) (v := some (.int (1 : Int32))) (fun h => by rw [Bd.returns] at h; cases h)
        refine ⟨_, _, ?_, hrun, hended, _, _, rfl, ?_, own_CHe (T := T477_) (vm1 := T477_.vm) hh e477_ (CH418_.trans (CHv.at X477_ hZ (own_EW hw) CH418_.1)), hE1, hE2, hE3, hE4.mono (by decide) (by decide)⟩
        · show Steps pP.tables eE below (T477_.setTop (mkF mM 351 ll19 [(.int (1 : Int32))])) _
          exact retN X477_ hx (t := .boolean) Bd.returns (by simp) (hC at_351) hr
        · show Q_rm0 Z p1 p2 q3 p4 cs fv u1 u2 u3 u4 n1 n2 n3 n4 t1 t2 t3 t4 va em kv h0 n0 _ T477_.heap _
          rw [e477_]
          exact ⟨rfl, N476_⟩
    by_cases hc187_478_ : (p2 &&& (3 : Int32)) = (0 : Int32)
    · refine jg T61_ mM 192 ll7 [(.ref bA)] (fun tT kK => ?_) ?_
      · refine XS.ifNo X61_.here hx rfl (hC at_187) rfl ((if0 _ _).trans (teq (hc187_478_ : (p2 &&& (3 : Int32)) = (0 : Int32))).2) ?_
        refine XS.aload X61_.here hx rfl (hC at_190) rfl rfl ?_
        exact kK
      refine jv X61_ hx hZ (y := jy1) hown (jk hw 14 rfl) (jk hw 15 rfl) (jk hw 17 rfl) (jk hw 16 rfl) (jk hw 18 rfl) (jk hw 2 rfl) (rm_slen lL Z a0 hw [] bA tb zb fb cs h61_ n0 (Nat.le_trans Z0 K61_.1) fc62_ Scs ncs fc63_ fc65_ fc64_ fc66_) fc63_ e61_ own_pd10 [] [] (hC at_192) rfl rfl (by rw [hml]; rfl) (by decide) 0 (Nat.le_of_eq rfl) (by decide) (by decide) (by decide : 3 + 0 ≤ _) (by decide : 40 + 0 ≤ _) fun vv479_ T479_ L479_ X479_ hQ479_ => ?_
      obtain ⟨rfl, N479_q, p479__0⟩ := hQ479_
      have N479_ := Fr.app N61_ N479_q
      let ll20 : Array Slot := #[vI p1, vI p2, vJ q3, vS, vI p4, vI kk, vR bA, vI mv, vR b3_, vI (p2 &&& (3 : Int32)), vI zb, vU, vU, vU]
      refine jg T479_ mM 244 ll20 [] (fun tT kK => ?_) ?_
      · refine XS.istore X479_.here hx rfl (hC at_195) rfl (l' := ll20) rfl ?_
        refine XS.goto X479_.here hx rfl (pc0 := 197) (pc' := 244) rfl (hC at_197) (by decide) (by decide) ?_
        exact kK
      exact jp67_ zb _ _ _ _ _  (X479_.more (by decide) (by decide)) p479__0 K61_ hSj1_ hk61_ hZ hown CH61_ fc62_ U61_  N479_
    · refine jg T61_ mM 203 ll7 [(.int (1 : Int32)), (.int (p2 &&& (3 : Int32)))] (fun tT kK => ?_) ?_
      · refine XS.ifYes X61_.here hx rfl (pc0 := 187) (pc' := 200) rfl (hC at_187) rfl ((if0 _ _).trans (feq (hc187_478_ : ¬ ((p2 &&& (3 : Int32)) = (0 : Int32)))).2) (by decide) (by decide) ?_
        refine XS.iload X61_.here hx rfl (hC at_200) rfl ?_
        refine XS.iconst X61_.here hx rfl (hC at_202) ?_
        exact kK
      by_cases hc203_480_ : (p2 &&& (3 : Int32)) = (1 : Int32)
      · refine jg T61_ mM 208 ll7 [(.ref bA)] (fun tT kK => ?_) ?_
        · refine XS.icmpNo X61_.here hx rfl (hC at_203) rfl (teq (hc203_480_ : (p2 &&& (3 : Int32)) = (1 : Int32))).2 ?_
          refine XS.aload X61_.here hx rfl (hC at_206) rfl rfl ?_
          exact kK
        refine jv X61_ hx hZ (y := jy1) hown (jk hw 14 rfl) (jk hw 15 rfl) (jk hw 17 rfl) (jk hw 16 rfl) (jk hw 18 rfl) (jk hw 2 rfl) (rm_slen lL Z a0 hw [] bA tb zb fb cs h61_ n0 (Nat.le_trans Z0 K61_.1) fc62_ Scs ncs fc63_ fc65_ fc64_ fc66_) fc63_ e61_ own_pd10 [] [] (hC at_208) rfl rfl (by rw [hml]; rfl) (by decide) 0 (Nat.le_of_eq rfl) (by decide) (by decide) (by decide : 3 + 0 ≤ _) (by decide : 40 + 0 ≤ _) fun vv481_ T481_ L481_ X481_ hQ481_ => ?_
        obtain ⟨rfl, N481_q, p481__0⟩ := hQ481_
        have N481_ := Fr.app N61_ N481_q
        let ll21 : Array Slot := #[vI p1, vI p2, vJ q3, vS, vI p4, vI kk, vR bA, vI mv, vR b3_, vI (p2 &&& (3 : Int32)), vI (zb - (1 : Int32)), vU, vU, vU]
        refine jg T481_ mM 244 ll21 [] (fun tT kK => ?_) ?_
        · refine XS.iconst X481_.here hx rfl (hC at_211) ?_
          refine XS.isub X481_.here hx rfl (hC at_212) rfl ?_
          refine XS.istore X481_.here hx rfl (hC at_213) rfl (l' := ll21) rfl ?_
          refine XS.goto X481_.here hx rfl (pc0 := 215) (pc' := 244) rfl (hC at_215) (by decide) (by decide) ?_
          exact kK
        exact jp67_ (zb - (1 : Int32)) _ _ _ _ _  (X481_.more (by decide) (by decide)) p481__0 K61_ hSj1_ hk61_ hZ hown CH61_ fc62_ U61_  N481_
      · refine jg T61_ mM 221 ll7 [(.int (2 : Int32)), (.int (p2 &&& (3 : Int32)))] (fun tT kK => ?_) ?_
        · refine XS.icmpYes X61_.here hx rfl (pc0 := 203) (pc' := 218) rfl (hC at_203) rfl (feq (hc203_480_ : ¬ ((p2 &&& (3 : Int32)) = (1 : Int32)))).2 (by decide) (by decide) ?_
          refine XS.iload X61_.here hx rfl (hC at_218) rfl ?_
          refine XS.iconst X61_.here hx rfl (hC at_220) ?_
          exact kK
        by_cases hc221_482_ : (p2 &&& (3 : Int32)) = (2 : Int32)
        · refine jg T61_ mM 226 ll7 [(.ref bA)] (fun tT kK => ?_) ?_
          · refine XS.icmpNo X61_.here hx rfl (hC at_221) rfl (teq (hc221_482_ : (p2 &&& (3 : Int32)) = (2 : Int32))).2 ?_
            refine XS.aload X61_.here hx rfl (hC at_224) rfl rfl ?_
            exact kK
          refine jv X61_ hx hZ (y := jy1) hown (jk hw 14 rfl) (jk hw 15 rfl) (jk hw 17 rfl) (jk hw 16 rfl) (jk hw 18 rfl) (jk hw 2 rfl) (rm_slen lL Z a0 hw [] bA tb zb fb cs h61_ n0 (Nat.le_trans Z0 K61_.1) fc62_ Scs ncs fc63_ fc65_ fc64_ fc66_) fc63_ e61_ own_pd10 [] [] (hC at_226) rfl rfl (by rw [hml]; rfl) (by decide) 0 (Nat.le_of_eq rfl) (by decide) (by decide) (by decide : 3 + 0 ≤ _) (by decide : 40 + 0 ≤ _) fun vv483_ T483_ L483_ X483_ hQ483_ => ?_
          obtain ⟨rfl, N483_q, p483__0⟩ := hQ483_
          have N483_ := Fr.app N61_ N483_q
          let ll22 : Array Slot := #[vI p1, vI p2, vJ q3, vS, vI p4, vI kk, vR bA, vI mv, vR b3_, vI (p2 &&& (3 : Int32)), vI (zb + (1 : Int32)), vU, vU, vU]
          refine jg T483_ mM 244 ll22 [] (fun tT kK => ?_) ?_
          · refine XS.iconst X483_.here hx rfl (hC at_229) ?_
            refine XS.iadd X483_.here hx rfl (hC at_230) rfl ?_
            refine XS.istore X483_.here hx rfl (hC at_231) rfl (l' := ll22) rfl ?_
            show Steps pP.tables eE below (T483_.setTop (mkF mM 233 ll22 [])) tT
            refine XS.goto X483_.here hx rfl (pc0 := 233) (pc' := 244) rfl (hC at_233) (by decide) (by decide) ?_
            exact kK
          exact jp67_ (zb + (1 : Int32)) _ _ _ _ _  (X483_.more (by decide) (by decide)) p483__0 K61_ hSj1_ hk61_ hZ hown CH61_ fc62_ U61_  N483_
        · let ll23 : Array Slot := #[vI p1, vI p2, vJ q3, vS, vI p4, vI kk, vR bA, vI mv, vR b3_, vI (p2 &&& (3 : Int32)), vI (((p2.toUInt32 >>> ((2 : Int32) &&& 31).toUInt32).toInt32) &&& (7 : Int32)), vU, vU, vU]
          refine jg T61_ mM 244 ll23 [] (fun tT kK => ?_) ?_
          · refine XS.icmpYes X61_.here hx rfl (pc0 := 221) (pc' := 236) rfl (hC at_221) rfl (feq (hc221_482_ : ¬ ((p2 &&& (3 : Int32)) = (2 : Int32)))).2 (by decide) (by decide) ?_
            refine XS.iloadN X61_.here hx rfl (hC at_236) rfl ?_
            refine XS.iconst X61_.here hx rfl (hC at_237) ?_
            refine XS.iushr X61_.here hx rfl (hC at_238) rfl ?_
            refine XS.bipush X61_.here hx rfl (hC at_239) ?_
            show Steps pP.tables eE below (T61_.setTop (mkF mM 241 ll7 [(.int (7 : Int32)), (.int ((p2.toUInt32 >>> ((2 : Int32) &&& 31).toUInt32).toInt32))])) tT
            refine XS.iand X61_.here hx rfl (hC at_241) rfl ?_
            refine XS.istore X61_.here hx rfl (hC at_242) rfl (l' := ll23) rfl ?_
            exact kK
          exact jp67_ (((p2.toUInt32 >>> ((2 : Int32) &&& 31).toUInt32).toInt32) &&& (7 : Int32)) _ _ _ _ _  (X61_.more (by decide) (by decide)) e61_ K61_ hSj1_ hk61_ hZ hown CH61_ fc62_ U61_  N61_
  by_cases hc10_484_ : kk = (0 : Int32)
  · refine jg s₁ mM 13 ll3 [] (fun tT kK => ?_) ?_
    · refine XS.ifNo X0.here hx rfl (hC at_10) rfl ((if0 _ _).trans (teq (hc10_484_ : kk = (0 : Int32))).2) ?_
      exact kK
    obtain ⟨a485_, T485_, h485_, k1485_, b485_, kc485_, X485_, e485_, E485_, hS485_, hk485_, hZ, hown, Ea485_, Fc485_, Fv485_, Vb485_, la485_, lb485_, Cr485_, -, sfn485_, st485_⟩ := ldcCH X0 hx hZ hown (jk hw 1 rfl) (own_wS hw) e0 hS0 hk0 (own_EW hw) (EL := own_EL) (List.mem_of_getElem? (i := 0) rfl) CH0.1 (vs := [(.int (98 : Int32)), (.int (114 : Int32)), (.int (117 : Int32)), (.int (116 : Int32)), (.int (101 : Int32))]) (z := (5 : Int32)) ⟨by decide, by rfl⟩ (by decide) (by decide) (g := (mkF mM 13 ll3 [])) rfl (hC at_13) (n := 20) (by decide) (by decide) (by decide) (by decide)
    have fc486_ := Oo.ext E485_
    have K485_ := K0.ext E485_
    have CH485_ := CH0.trans Cr485_
    have Tb485_ : own_T Z h485_ b485_ .byte (5 : Int32) (own_li [(98 : Int32), (114 : Int32), (117 : Int32), (116 : Int32), (101 : Int32)]) := own_at_T (xs := [(98 : Int32), (114 : Int32), (117 : Int32), (116 : Int32), (101 : Int32)]) Vb485_
    refine own_fin st485_ ?_
    refine jg T485_ mM 42 ll3 [(.ref a485_)] (fun tT kK => ?_) ?_
    · refine XS.goto X485_.here hx rfl (pc0 := 15) (pc' := 42) rfl (hC at_15) (by decide) (by decide) ?_
      exact kK
    exact jp1_ a485_ b485_ (5 : Int32) (own_li [(98 : Int32), (114 : Int32), (117 : Int32), (116 : Int32), (101 : Int32)]) _ _ _ _ _  (X485_.more (by decide) (by decide)) e485_ K485_ hS485_ hk485_ hZ hown CH485_ fc486_ Ea485_ Fc485_ Fv485_ Tb485_  N0
  · refine jg s₁ mM 21 ll3 [(.int (1 : Int32)), (.int kk)] (fun tT kK => ?_) ?_
    · refine XS.ifYes X0.here hx rfl (pc0 := 10) (pc' := 18) rfl (hC at_10) rfl ((if0 _ _).trans (feq (hc10_484_ : ¬ (kk = (0 : Int32)))).2) (by decide) (by decide) ?_
      refine XS.iload X0.here hx rfl (hC at_18) rfl ?_
      refine XS.iconst X0.here hx rfl (hC at_20) ?_
      exact kK
    by_cases hc21_487_ : kk = (1 : Int32)
    · refine jg s₁ mM 24 ll3 [] (fun tT kK => ?_) ?_
      · refine XS.icmpNo X0.here hx rfl (hC at_21) rfl (teq (hc21_487_ : kk = (1 : Int32))).2 ?_
        exact kK
      obtain ⟨a488_, T488_, h488_, k1488_, b488_, kc488_, X488_, e488_, E488_, hS488_, hk488_, hZ, hown, Ea488_, Fc488_, Fv488_, Vb488_, la488_, lb488_, Cr488_, -, sfn488_, st488_⟩ := ldcCH X0 hx hZ hown (jk hw 74 rfl) (own_wS hw) e0 hS0 hk0 (own_EW hw) (EL := own_EL) (List.mem_of_getElem? (i := 2) rfl) CH0.1 (vs := [(.int (107 : Int32)), (.int (109 : Int32)), (.int (112 : Int32))]) (z := (3 : Int32)) ⟨by decide, by rfl⟩ (by decide) (by decide) (g := (mkF mM 24 ll3 [])) rfl (hC at_24) (n := 12) (by decide) (by decide) (by decide) (by decide)
      have fc489_ := Oo.ext E488_
      have K488_ := K0.ext E488_
      have CH488_ := CH0.trans Cr488_
      have Tb488_ : own_T Z h488_ b488_ .byte (3 : Int32) (own_li [(107 : Int32), (109 : Int32), (112 : Int32)]) := own_at_T (xs := [(107 : Int32), (109 : Int32), (112 : Int32)]) Vb488_
      refine own_fin st488_ ?_
      refine jg T488_ mM 42 ll3 [(.ref a488_)] (fun tT kK => ?_) ?_
      · refine XS.goto X488_.here hx rfl (pc0 := 26) (pc' := 42) rfl (hC at_26) (by decide) (by decide) ?_
        exact kK
      exact jp1_ a488_ b488_ (3 : Int32) (own_li [(107 : Int32), (109 : Int32), (112 : Int32)]) _ _ _ _ _  (X488_.more (by decide) (by decide)) e488_ K488_ hS488_ hk488_ hZ hown CH488_ fc489_ Ea488_ Fc488_ Fv488_ Tb488_  N0
    · refine jg s₁ mM 32 ll3 [(.int (2 : Int32)), (.int kk)] (fun tT kK => ?_) ?_
      · refine XS.icmpYes X0.here hx rfl (pc0 := 21) (pc' := 29) rfl (hC at_21) rfl (feq (hc21_487_ : ¬ (kk = (1 : Int32)))).2 (by decide) (by decide) ?_
        refine XS.iload X0.here hx rfl (hC at_29) rfl ?_
        refine XS.iconst X0.here hx rfl (hC at_31) ?_
        exact kK
      by_cases hc32_490_ : kk = (2 : Int32)
      · refine jg s₁ mM 35 ll3 [] (fun tT kK => ?_) ?_
        · refine XS.icmpNo X0.here hx rfl (hC at_32) rfl (teq (hc32_490_ : kk = (2 : Int32))).2 ?_
          exact kK
        obtain ⟨a491_, T491_, h491_, k1491_, b491_, kc491_, X491_, e491_, E491_, hS491_, hk491_, hZ, hown, Ea491_, Fc491_, Fv491_, Vb491_, la491_, lb491_, Cr491_, -, sfn491_, st491_⟩ := ldcCH X0 hx hZ hown (jk hw 75 rfl) (own_wS hw) e0 hS0 hk0 (own_EW hw) (EL := own_EL) (List.mem_of_getElem? (i := 3) rfl) CH0.1 (vs := [(.int (98 : Int32)), (.int (109 : Int32))]) (z := (2 : Int32)) ⟨by decide, by rfl⟩ (by decide) (by decide) (g := (mkF mM 35 ll3 [])) rfl (hC at_35) (n := 8) (by decide) (by decide) (by decide) (by decide)
        have fc492_ := Oo.ext E491_
        have K491_ := K0.ext E491_
        have CH491_ := CH0.trans Cr491_
        have Tb491_ : own_T Z h491_ b491_ .byte (2 : Int32) (own_li [(98 : Int32), (109 : Int32)]) := own_at_T (xs := [(98 : Int32), (109 : Int32)]) Vb491_
        refine own_fin st491_ ?_
        refine jg T491_ mM 42 ll3 [(.ref a491_)] (fun tT kK => ?_) ?_
        · refine XS.goto X491_.here hx rfl (pc0 := 37) (pc' := 42) rfl (hC at_37) (by decide) (by decide) ?_
          exact kK
        exact jp1_ a491_ b491_ (2 : Int32) (own_li [(98 : Int32), (109 : Int32)]) _ _ _ _ _  (X491_.more (by decide) (by decide)) e491_ K491_ hS491_ hk491_ hZ hown CH491_ fc492_ Ea491_ Fc491_ Fv491_ Tb491_  N0
      · refine jg s₁ mM 40 ll3 [] (fun tT kK => ?_) ?_
        · refine XS.icmpYes X0.here hx rfl (pc0 := 32) (pc' := 40) rfl (hC at_32) rfl (feq (hc32_490_ : ¬ (kk = (2 : Int32)))).2 (by decide) (by decide) ?_
          exact kK
        obtain ⟨a493_, T493_, h493_, k1493_, b493_, kc493_, X493_, e493_, E493_, hS493_, hk493_, hZ, hown, Ea493_, Fc493_, Fv493_, Vb493_, la493_, lb493_, Cr493_, -, sfn493_, st493_⟩ := ldcCH X0 hx hZ hown (jk hw 76 rfl) (own_wS hw) e0 hS0 hk0 (own_EW hw) (EL := own_EL) (List.mem_of_getElem? (i := 4) rfl) CH0.1 (vs := [(.int (116 : Int32)), (.int (119 : Int32)), (.int (111 : Int32)), (.int (45 : Int32)), (.int (119 : Int32)), (.int (97 : Int32)), (.int (121 : Int32))]) (z := (7 : Int32)) ⟨by decide, by rfl⟩ (by decide) (by decide) (g := (mkF mM 40 ll3 [])) rfl (hC at_40) (n := 28) (by decide) (by decide) (by decide) (by decide)
        have fc494_ := Oo.ext E493_
        have K493_ := K0.ext E493_
        have CH493_ := CH0.trans Cr493_
        have Tb493_ : own_T Z h493_ b493_ .byte (7 : Int32) (own_li [(116 : Int32), (119 : Int32), (111 : Int32), (45 : Int32), (119 : Int32), (97 : Int32), (121 : Int32)]) := own_at_T (xs := [(116 : Int32), (119 : Int32), (111 : Int32), (45 : Int32), (119 : Int32), (97 : Int32), (121 : Int32)]) Vb493_
        refine own_fin st493_ ?_
        exact jp1_ a493_ b493_ (7 : Int32) (own_li [(116 : Int32), (119 : Int32), (111 : Int32), (45 : Int32), (119 : Int32), (97 : Int32), (121 : Int32)]) _ _ _ _ _  (X493_.more (by decide) (by decide)) e493_ K493_ hS493_ hk493_ hZ hown CH493_ fc494_ Ea493_ Fc493_ Fv493_ Tb493_  N0
theorem own_ord {args : Array Value} {s : State} {t : Term} {x : Addr} {C n d : String} {k : Int32} (ev : t.eval args s none [] s = some (.ref x)) (h : (Jvm.Cond.eq (Jvm.Term.field t C n d) (Jvm.Term.int k)).value args s none s [] = some true) : s.fieldOf? x C n d = some (.int k) := by
  have e := fld_at (C := C) (n := n) (dd := d) ev
  have e2 : (Jvm.Term.int k).eval args s none [] s = some (.int k) := Term.int_eval k
  cases hf : s.fieldOf? x C n d with
  | none => simp [Cond.value, e, hf] at h
  | some w => cases w <;> simp [Cond.value, e, e2, hf] at h ⊢; exact h
theorem own_el {args : Array Value} {s : State} {t : Term} {x : Addr} {cl : Cell} {ty : FieldType} {j k : Int32} (ev : t.eval args s none [] s = some (.ref x)) (A : Arr s s.heap x cl ty) (h : (Jvm.Cond.eq (Jvm.Term.elem t (Jvm.Term.int j)) (Jvm.Term.int k)).value args s none s [] = some true) (hj : ¬ j < 0) : cl.slots[j.toNatClampNeg]? = some (.int k) := by
  have e := elem_f ev (Term.int_eval (args := args) (s := s) (first := s) (o := none) (idx := []) j) (IntBox.arrayAt_of A.1 A.2.1 A.2.2) hj
  have e2 : (Jvm.Term.int k).eval args s none [] s = some (.int k) := Term.int_eval k
  cases hf : cl.slots[j.toNatClampNeg]? with
  | none => simp [Cond.value, e, hf] at h
  | some w => cases w <;> simp [Cond.value, e, e2, hf] at h ⊢; exact h
theorem own_elr {args : Array Value} {s : State} {t u : Term} {x y : Addr} {cl : Cell} {ty : FieldType} {j : Int32} (ev : t.eval args s none [] s = some (.ref x)) (A : Arr s s.heap x cl ty) (eu : u.eval args s none [] s = some (.ref y)) (h : (Jvm.Cond.eq (Jvm.Term.elem t (Jvm.Term.int j)) u).value args s none s [] = some true) (hj : ¬ j < 0) : cl.slots[j.toNatClampNeg]? = some (.ref y) := by
  have e := elem_f ev (Term.int_eval (args := args) (s := s) (first := s) (o := none) (idx := []) j) (IntBox.arrayAt_of A.1 A.2.1 A.2.2) hj
  cases hf : cl.slots[j.toNatClampNeg]? with
  | none => simp [Cond.value, e, hf] at h
  | some w => cases w <;> simp [Cond.value, e, eu, hf] at h ⊢; exact h
theorem own_ncs0 {args : Array Value} {s : State} {t : Term} {cs : Int32} (ev : t.eval args s none [] s = some (.int cs)) (h : (Jvm.Cond.not (Jvm.Cond.eq t (Jvm.Term.int (0 : Int32)))).value args s none s [] = some true) : ¬ (cs = (0 : Int32)) := fun q => by
  have e2 : (Jvm.Term.int (0 : Int32)).eval args s none [] s = some (.int 0) := Term.int_eval 0
  subst q
  simp [Cond.value, ev, e2] at h
theorem own_sub : ∀ p ∈ own_EL, p ∈ consts_1 := by decide
set_option maxRecDepth 65536 in
set_option maxHeartbeats 40000000 in
theorem comes_1 {Post : Tables → Env → Array Value → State → Outcome → State → Prop} (hpost : ∀ tb e args s v u, (limb_1_1.after args s (.returned v) u = true ∧ limb_1_2.after args s (.returned v) u = true ∧ True) → ReturnedEndW s (.returned v) u (Jvm.fieldLocs frame_1_writes args s ++ Jvm.arrayLocs frame_1_arrays args s ++ Jvm.staticLocs frame_1_statics s) 32 5312 → Post tb e args s (.returned v) u) :
    ArmFor flags0 classFile x code maxLocals ret World_1 tables_1 room_1 Calls_1 rest_1 Pre_1 Post := by
  intro l hfl _ _ p e ha hc hk s m args below hf hA hF happ hP
  obtain ⟨hcalls, hrest, hpre⟩ := hP
  obtain ⟨-, -, -, hnamed, -, -, -, hat⟩ := (Spec.applies_iff hf).mp happ
  obtain ⟨hg, hn⟩ := and_e (Cond.before_iff.mp (show (Jvm.Cond.and given_1 narrow_1).before args s = true from hpre))
  obtain ⟨gg1, gg2⟩ := and_e hg
  obtain ⟨gg3, gg4⟩ := and_e gg2
  obtain ⟨gg5, gg6⟩ := and_e gg4
  obtain ⟨gg7, gg8⟩ := and_e gg6
  obtain ⟨w0, w1, w2, w3, rfl⟩ : ∃ w0 w1 w2 w3 : Value, args = #[w0, w1, w2, w3] := by
    have hs : args.size = 4 := by simpa [Cond.value, given_1] using gg1
    obtain ⟨L⟩ := args
    match L, hs with
    | [w0, w1, w2, w3], _ => exact ⟨w0, w1, w2, w3, rfl⟩
  have hw := fun d (hd : d ∈ tables_1) => atoms_spec (ws := Jvm.Cond.code x code maxLocals ret :: tables_1) hat d (List.mem_cons_of_mem _ hd)
  have hfit : Fit s := fun {y c} hc i hi => by
    obtain ⟨ha, rfl⟩ := Array.getElem?_eq_some_iff.mp hc
    have q := List.all_eq_true.mp ((Array.all_eq_true_iff_forall_mem.mp hF) _ (Array.getElem_mem ha)) i (List.mem_range.mpr hi)
    simpa [Array.getElem?_eq_getElem hi] using q
  obtain ⟨hsets, hown0⟩ := atoms_of _ (rest_1_c_eq ▸ (show rest_1_c.before _ s = true from hrest))
  have hr0 := Cond.before_iff.mp hown0
  obtain ⟨i0, ei0⟩ := is_v gg3
  obtain rfl : w0 = (.int i0) := Option.some.inj ei0
  obtain ⟨i1, ei1⟩ := is_v gg5
  obtain rfl : w1 = (.int i1) := Option.some.inj ei1
  obtain ⟨i2, ei2⟩ := isL_v gg7
  obtain rfl : w2 = (.long i2) := Option.some.inj ei2
  obtain ⟨i3, ei3⟩ := is_v gg8
  obtain rfl : w3 = (.int i3) := Option.some.inj ei3
  obtain ⟨gg9, gg10⟩ := and_e hn
  obtain ⟨gg11, gg12⟩ := and_e gg10
  obtain ⟨gg13, gg14⟩ := and_e gg12
  obtain ⟨gg15, gg16⟩ := and_e gg14
  obtain ⟨gg17, gg18⟩ := and_e gg16
  obtain ⟨gg19, gg20⟩ := and_e gg18
  obtain ⟨gg21, gg22⟩ := and_e gg20
  obtain ⟨gg23, gg24⟩ := and_e gg22
  obtain ⟨gg25, gg26⟩ := and_e gg24
  obtain ⟨gg27, gg28⟩ := and_e gg26
  obtain ⟨gg29, gg30⟩ := and_e gg28
  obtain ⟨gg31, gg32⟩ := and_e gg30
  obtain ⟨gg33, gg34⟩ := and_e gg32
  obtain ⟨gg35, gg36⟩ := and_e gg34
  obtain ⟨gg37, gg38⟩ := and_e gg36
  obtain ⟨gg39, gg40⟩ := and_e gg38
  obtain ⟨gg41, gg42⟩ := and_e gg40
  obtain ⟨gg43, gg44⟩ := and_e gg42
  obtain ⟨gg45, gg46⟩ := and_e gg44
  obtain ⟨gg47, gg48⟩ := and_e gg46
  obtain ⟨gg49, gg50⟩ := and_e gg48
  obtain ⟨gg51, gg52⟩ := and_e gg50
  obtain ⟨gg53, gg54⟩ := and_e gg52
  obtain ⟨gg55, gg56⟩ := and_e gg54
  obtain ⟨gg57, gg58⟩ := and_e gg56
  obtain ⟨gg59, gg60⟩ := and_e gg58
  obtain ⟨gg61, gg62⟩ := and_e gg60
  obtain ⟨gg63, gg64⟩ := and_e gg62
  obtain ⟨gg65, gg66⟩ := and_e gg64
  obtain ⟨gg67, gg68⟩ := and_e gg66
  obtain ⟨gg69, gg70⟩ := and_e gg68
  obtain ⟨gg71, gg72⟩ := and_e gg70
  obtain ⟨gg73, gg74⟩ := and_e gg72
  obtain ⟨gg75, gg76⟩ := and_e gg74
  obtain ⟨gg77, gg78⟩ := and_e gg76
  obtain ⟨gg79, gg80⟩ := and_e gg78
  obtain ⟨gg81, gg82⟩ := and_e gg80
  obtain ⟨gg83, gg84⟩ := and_e gg82
  obtain ⟨gg85, gg86⟩ := and_e gg84
  obtain ⟨gg87, gg88⟩ := and_e gg86
  obtain ⟨gg89, gg90⟩ := and_e gg88
  obtain ⟨gg91, gg92⟩ := and_e gg90
  obtain ⟨gg93, gg94⟩ := and_e gg92
  obtain ⟨cs, evcs⟩ := is_v (Cond.before_iff.mp (hsets _ (List.mem_of_getElem? (i := 1) rfl)))
  have hcs := Sta.start evcs (Or.inl (hsets _ (List.mem_of_getElem? (i := 0) rfl)))
  have hncs : ¬ (cs = (0 : Int32)) := own_ncs0 evcs (Cond.before_iff.mp (hsets _ (List.mem_of_getElem? (i := 2) rfl)))
  obtain ⟨fv, evfv, hrfv⟩ := isR_v (Cond.before_iff.mp (hsets _ (List.mem_of_getElem? (i := 8) rfl)))
  have hfv := Sta.start evfv (Or.inl (hsets _ (List.mem_of_getElem? (i := 7) rfl)))
  obtain ⟨u1, evu1⟩ := exa_v gg15
  have su1 := Sta.start evu1 (Or.inr ⟨(jk hw 79 rfl), (jk hw 93 rfl)⟩)
  have eu1 := Exa.start evu1 gg15
  obtain ⟨n1, evn1⟩ := exa_v gg31
  have fu1 := Fld.start ((fld_at evu1).symm.trans evn1)
  have en1 := Exa.start evn1 gg31
  have fc1 := Fld.start (own_ord evn1 gg33)
  obtain ⟨t1, evt1⟩ := arr_v gg35
  have fv1 := Fld.start ((fld_at evn1).symm.trans evt1)
  obtain ⟨cl1, A1⟩ := Arr.start evt1 gg35
  obtain ⟨za1, zb1⟩ := IntBox.length_fwd (Cond.before_iff.mpr gg37) evt1 A1.1 A1.2.1 A1.2.2
  have Tt1 := own_at_T (xs := [(98 : Int32), (114 : Int32), (117 : Int32), (116 : Int32), (101 : Int32)]) (Arv.start (vs := [.int (98 : Int32), .int (114 : Int32), .int (117 : Int32), .int (116 : Int32), .int (101 : Int32)]) (dv := .int (0 : Int32)) hfit A1 za1 zb1 (by decide) (by decide) ⟨own_el evt1 A1 gg73 (by decide), own_el evt1 A1 gg75 (by decide), own_el evt1 A1 gg77 (by decide), own_el evt1 A1 gg79 (by decide), own_el evt1 A1 gg81 (by decide), trivial⟩)
  obtain ⟨u2, evu2⟩ := exa_v gg19
  have su2 := Sta.start evu2 (Or.inr ⟨(jk hw 79 rfl), (jk hw 94 rfl)⟩)
  have eu2 := Exa.start evu2 gg19
  obtain ⟨n2, evn2⟩ := exa_v gg39
  have fu2 := Fld.start ((fld_at evu2).symm.trans evn2)
  have en2 := Exa.start evn2 gg39
  have fc2 := Fld.start (own_ord evn2 gg41)
  obtain ⟨t2, evt2⟩ := arr_v gg43
  have fv2 := Fld.start ((fld_at evn2).symm.trans evt2)
  obtain ⟨cl2, A2⟩ := Arr.start evt2 gg43
  obtain ⟨za2, zb2⟩ := IntBox.length_fwd (Cond.before_iff.mpr gg45) evt2 A2.1 A2.2.1 A2.2.2
  have Tt2 := own_at_T (xs := [(107 : Int32), (109 : Int32), (112 : Int32)]) (Arv.start (vs := [.int (107 : Int32), .int (109 : Int32), .int (112 : Int32)]) (dv := .int (0 : Int32)) hfit A2 za2 zb2 (by decide) (by decide) ⟨own_el evt2 A2 gg63 (by decide), own_el evt2 A2 gg65 (by decide), own_el evt2 A2 gg67 (by decide), trivial⟩)
  obtain ⟨u3, evu3⟩ := exa_v gg23
  have su3 := Sta.start evu3 (Or.inr ⟨(jk hw 79 rfl), (jk hw 95 rfl)⟩)
  have eu3 := Exa.start evu3 gg23
  obtain ⟨n3, evn3⟩ := exa_v gg47
  have fu3 := Fld.start ((fld_at evu3).symm.trans evn3)
  have en3 := Exa.start evn3 gg47
  have fc3 := Fld.start (own_ord evn3 gg49)
  obtain ⟨t3, evt3⟩ := arr_v gg51
  have fv3 := Fld.start ((fld_at evn3).symm.trans evt3)
  obtain ⟨cl3, A3⟩ := Arr.start evt3 gg51
  obtain ⟨za3, zb3⟩ := IntBox.length_fwd (Cond.before_iff.mpr gg53) evt3 A3.1 A3.2.1 A3.2.2
  have Tt3 := own_at_T (xs := [(98 : Int32), (109 : Int32)]) (Arv.start (vs := [.int (98 : Int32), .int (109 : Int32)]) (dv := .int (0 : Int32)) hfit A3 za3 zb3 (by decide) (by decide) ⟨own_el evt3 A3 gg69 (by decide), own_el evt3 A3 gg71 (by decide), trivial⟩)
  obtain ⟨u4, evu4⟩ := exa_v gg27
  have su4 := Sta.start evu4 (Or.inr ⟨(jk hw 79 rfl), (jk hw 96 rfl)⟩)
  have eu4 := Exa.start evu4 gg27
  obtain ⟨n4, evn4⟩ := exa_v gg55
  have fu4 := Fld.start ((fld_at evu4).symm.trans evn4)
  have en4 := Exa.start evn4 gg55
  have fc4 := Fld.start (own_ord evn4 gg57)
  obtain ⟨t4, evt4⟩ := arr_v gg59
  have fv4 := Fld.start ((fld_at evn4).symm.trans evt4)
  obtain ⟨cl4, A4⟩ := Arr.start evt4 gg59
  obtain ⟨za4, zb4⟩ := IntBox.length_fwd (Cond.before_iff.mpr gg61) evt4 A4.1 A4.2.1 A4.2.2
  have Tt4 := own_at_T (xs := [(116 : Int32), (119 : Int32), (111 : Int32), (45 : Int32), (119 : Int32), (97 : Int32), (121 : Int32)]) (Arv.start (vs := [.int (116 : Int32), .int (119 : Int32), .int (111 : Int32), .int (45 : Int32), .int (119 : Int32), .int (97 : Int32), .int (121 : Int32)]) (dv := .int (0 : Int32)) hfit A4 za4 zb4 (by decide) (by decide) ⟨own_el evt4 A4 gg83 (by decide), own_el evt4 A4 gg85 (by decide), own_el evt4 A4 gg87 (by decide), own_el evt4 A4 gg89 (by decide), own_el evt4 A4 gg91 (by decide), own_el evt4 A4 gg93 (by decide), own_el evt4 A4 gg94 (by decide), trivial⟩)
  obtain ⟨va, evva⟩ := arr_v gg9
  have sva := Sta.start evva (Or.inr ⟨(jk hw 79 rfl), (jk hw 85 rfl)⟩)
  have eva := Exa.start evva gg11
  obtain ⟨clv, Av⟩ := Arr.start evva gg9
  obtain ⟨zav, zbv⟩ := IntBox.length_fwd (Cond.before_iff.mpr gg13) evva Av.1 Av.2.1 Av.2.2
  have Vva := Arv.start (vs := [.ref u1, .ref u2, .ref u3, .ref u4]) (dv := .null) hfit Av zav zbv (by decide) rfl ⟨own_elr evva Av evu1 gg17 (by decide), own_elr evva Av evu2 gg21 (by decide), own_elr evva Av evu3 gg25 (by decide), own_elr evva Av evu4 gg29 (by decide), trivial⟩
  obtain ⟨em, evem⟩ := exa_v (Cond.before_iff.mp (hsets _ (List.mem_of_getElem? (i := 11) rfl)))
  have sem := Sta.start evem (Or.inl (hsets _ (List.mem_of_getElem? (i := 10) rfl)))
  have eem := Exa.start evem (Cond.before_iff.mp (hsets _ (List.mem_of_getElem? (i := 11) rfl)))
  have fem := Fld.start ((fld_at evem).symm.trans (null_v (Cond.before_iff.mp (hsets _ (List.mem_of_getElem? (i := 12) rfl)))))
  obtain ⟨n, o, h1, h2, h3, _, L, rfl, ⟨rfl, N⟩, -, hq⟩ := rm0 l s _ hw tables_1 i0 i1 i2 i3 cs fv u1 u2 u3 u4 n1 n2 n3 n4 t1 t2 t3 t4 va em clv.cls s.heap s.heap.size (Nat.le_refl _) (Old.start s) hcs hncs hfv hrfv su1 su2 su3 su4 sva sem eu1 fu1 en1 fv1 fc1 Tt1 eu2 fu2 en2 fv2 fc2 Tt2 eu3 fu3 en3 fv3 fc3 Tt3 eu4 fu4 en4 fv4 fc4 Tt4 Vva eva eem fem p e ha hc hk s m _ below hf ((Spec.applies_iff_loose hf).mp happ).1 ⟨rfl, State.Warmed39.refl s, rfl, CHv.start (own_EW hw) (fun p hp => hcalls.1 p (own_sub p hp)) (hsets _ (List.mem_of_getElem? (i := 2) rfl)) (jk hw 4 rfl) (jk hw 3 rfl), fun _ q => nomatch q⟩ trivial
  refine ⟨n, _, h1, h2, h3, hpost _ _ _ _ _ _ ⟨Cond.after_iff.mpr rfl, Cond.after_iff.mpr (eq_i res_at (Term.int_eval (1)) rfl), trivial⟩ ⟨hq.1, hq.2.1, hq.2.2.1, (hq.2.2.2.sift fun y hy => Or.inr (N y hy)).mono (by decide) (by decide)⟩⟩
theorem main_1_1 : Claimed_1_1 := comes_1 fun _ _ _ _ _ _ h hF => ⟨h.1, hF⟩
theorem main_1_2 : Claimed_1_2 := comes_1 fun _ _ _ _ _ _ h hF => ⟨h.2.1, hF⟩
end Jvm.Pilot.@@N@@
namespace Jvm.Pilot.@@N@@
open Jvm Jvm.ClassFile Sem Op Lib Jvm.Free Jvm.Stand Jvm.Pilot.@@N@@.Jvm.D
/-! MADE BY PROGRAM (witnessworld.py) out of the Statement's table words and the real class files: 24 classes; the members and pool entries that the words name. The judged class is class 1, her method 1. -/
namespace start1
open Jvm.ClassFile
def u (s : String) : CpInfo := .utf8 (stringToUtf16 s)
/-- a pool by its gaps: so many unusable entries, then the entry; so many at the end -/
def gap : Nat → List CpInfo → List CpInfo
  | 0, r => r
  | n + 1, r => .unusable :: gap n r
def poolList (es : List (Nat × CpInfo)) (last : Nat) : List CpInfo := es.foldr (fun e r => gap e.1 (e.2 :: r)) (gap last [])
def pool (es : List (Nat × CpInfo)) (last : Nat) : Array CpInfo := ⟨poolList es last⟩
def fileOf (pool : Array CpInfo) (this : Nat) (attrs : Array Attribute := #[]) (ms : Array MethodInfo := #[]) (fl : Nat := 33) (sup : Nat := 0) (ifs : Array Nat := #[]) (fds : Array FieldInfo := #[]) : ClassFile where
  minorVersion := 0
  majorVersion := 65
  constantPool := pool
  accessFlags := fl
  thisClass := this
  superClass := sup
  interfaces := ifs
  fields := fds
  methods := ms
  attributes := attrs
def plain (name : String) (sup : Option ClassId) : Class where
  name := name
  kind := .ordinary
  loader := none
  accessFlags := 33
  super := sup
  interfaces := #[]
  cf := none
  fields := #[]
  methods := #[]
  instanceTypes := #[]
  staticTypes := #[]
  resolved := #[]
  callSites := []
  init := .initialized
  statics := none
  mirror := none

def pool0 : Array CpInfo := pool [(5, u "<init>"), (0, u "()V"), (1, .class_ 10), (1, u "java/lang/Object"), (85, u "clone"), (0, u "()Ljava/lang/Object;")] 26

def k0c0 : Code := { maxStack := 0, maxLocals := 1, code := object_method_1_code, exceptionTable := #[], attributes := #[] }
def k0m0 : Method := { name := "<init>", desc := "()V", sig := { parameters := [], returnType := none }, accessFlags := 1, code := some k0c0 }
def k0m1 : Method := { name := "clone", desc := "()Ljava/lang/Object;", sig := { parameters := [], returnType := some (.object "java/lang/Object") }, accessFlags := 260, code := none }
/-- java/lang/Object -/
def k0 : Class := { plain "java/lang/Object" none with
  accessFlags := 33
  interfaces := #[]
  cf := some (fileOf pool0 8 #[] #[{ accessFlags := 1, nameIndex := 5, descriptorIndex := 6, attributes := #[] }, { accessFlags := 260, nameIndex := 96, descriptorIndex := 97, attributes := #[] }] 33 0 #[] #[])
  fields := #[]
  methods := #[k0m0, k0m1]
  instanceTypes := #[]
  staticTypes := #[]
  resolved := Array.replicate 124 none
  statics := none }

def pool1 : Array CpInfo := pool [(2, .class_ 4), (1, u "java/lang/Object"), (0, u "<init>"), (0, u "()V"), (0, .integer 2147483647), (0, .string 9), (0, u "brute"), (0, .string 11), (0, u "kmp"), (0, .string 13), (0, u "bm"), (0, .string 15), (0, u "two-way"), (0, .methodref 17 18), (0, .class_ 19), (0, .nameAndType 20 21), (0, u "com/example/needlework/needlework/AlgorithmNamedPinLaw"), (0, u "at"), (0, u "(Ljava/lang/String;IJI)C"), (0, .methodref 23 24), (0, .class_ 25), (0, .nameAndType 26 27), (0, u "java/lang/String"), (0, u "length"), (0, u "()I"), (0, .methodref 17 29), (0, .nameAndType 30 31), (0, u "str"), (0, u "(I[C)Ljava/lang/String;"), (0, .methodref 23 33), (0, .nameAndType 34 35), (0, u "equals"), (0, u "(Ljava/lang/Object;)Z"), (0, .fieldref 37 38), (0, .class_ 39), (0, .nameAndType 40 41), (0, u "com/example/needlework/needlework/Algorithm"), (0, u "BRUTE"), (0, u "Lcom/example/needlework/needlework/Algorithm;"), (0, .fieldref 37 43), (0, .nameAndType 44 41), (0, u "KMP"), (0, .fieldref 37 46), (0, .nameAndType 47 41), (0, u "BM"), (0, .fieldref 37 49), (0, .nameAndType 50 41), (0, u "TWO_WAY"), (0, .methodref 37 52), (0, .nameAndType 53 54), (0, u "named"), (0, u "(Ljava/lang/String;)Ljava/util/Optional;"), (0, .methodref 56 57), (0, .class_ 58), (0, .nameAndType 59 60), (0, u "java/util/Optional"), (0, u "orElse"), (0, u "(Ljava/lang/Object;)Ljava/lang/Object;"), (0, .long 255), (1, .methodref 23 64), (0, .nameAndType 65 66), (0, u "charAt"), (0, u "(I)C"), (0, .methodref 23 68), (0, .nameAndType 5 69), (0, u "([C)V"), (2, u "law"), (0, u "(IIJI)Z")] 5

def k1m0 : Method := { name := "<init>", desc := "()V", sig := { parameters := [], returnType := none }, accessFlags := 1, code := none }
def k1c1 : Code := { maxStack := 7, maxLocals := 14, code := code, exceptionTable := #[], attributes := #[] }
def k1m1 : Method := { name := "law", desc := "(IIJI)Z", sig := { parameters := [.int, .int, .long, .int], returnType := some .boolean }, accessFlags := 9, code := some k1c1 }
def k1c2 : Code := { maxStack := 4, maxLocals := 5, code := method_3_code, exceptionTable := #[], attributes := #[] }
def k1m2 : Method := { name := "at", desc := "(Ljava/lang/String;IJI)C", sig := { parameters := [(.object "java/lang/String"), .int, .long, .int], returnType := some .char }, accessFlags := 10, code := some k1c2 }
def k1c3 : Code := { maxStack := 7, maxLocals := 2, code := method_4_code, exceptionTable := #[], attributes := #[] }
def k1m3 : Method := { name := "str", desc := "(I[C)Ljava/lang/String;", sig := { parameters := [.int, (.array .char)], returnType := some (.object "java/lang/String") }, accessFlags := 10, code := some k1c3 }
/-- com/example/needlework/needlework/AlgorithmNamedPinLaw -/
def k1 : Class := { plain "com/example/needlework/needlework/AlgorithmNamedPinLaw" (some 0) with
  accessFlags := 49
  interfaces := #[]
  cf := some (fileOf pool1 17 #[] #[{ accessFlags := 1, nameIndex := 5, descriptorIndex := 6, attributes := #[] }, { accessFlags := 9, nameIndex := 72, descriptorIndex := 73, attributes := #[] }, { accessFlags := 10, nameIndex := 20, descriptorIndex := 21, attributes := #[] }, { accessFlags := 10, nameIndex := 30, descriptorIndex := 31, attributes := #[] }] 49 2 #[] #[])
  fields := #[]
  methods := #[k1m0, k1m1, k1m2, k1m3]
  instanceTypes := #[]
  staticTypes := #[]
  resolved := Array.replicate 79 none
  statics := none }

def pool2 : Array CpInfo := pool [(1, .class_ 2), (0, u "java/io/Serializable"), (0, .class_ 4), (0, u "java/lang/Object")] 2

/-- java/io/Serializable -/
def k2 : Class := { plain "java/io/Serializable" (some 0) with
  accessFlags := 1537
  interfaces := #[]
  cf := some (fileOf pool2 1 #[] #[] 1537 3 #[] #[])
  fields := #[]
  methods := #[]
  instanceTypes := #[]
  staticTypes := #[]
  resolved := Array.replicate 7 none
  statics := none }

def pool3 : Array CpInfo := pool [(1, .class_ 2), (0, u "java/lang/Comparable"), (0, .class_ 4), (0, u "java/lang/Object")] 7

/-- java/lang/Comparable -/
def k3 : Class := { plain "java/lang/Comparable" (some 0) with
  accessFlags := 1537
  interfaces := #[]
  cf := some (fileOf pool3 1 #[] #[] 1537 3 #[] #[])
  fields := #[]
  methods := #[]
  instanceTypes := #[]
  staticTypes := #[]
  resolved := Array.replicate 12 none
  statics := none }

def pool4 : Array CpInfo := pool [(2, .class_ 4), (1, u "java/lang/CharSequence"), (42, .class_ 48), (0, u "java/lang/CharSequence$1CodePointIterator"), (10, .class_ 60), (0, u "java/lang/CharSequence$1CharIterator"), (5, .class_ 67), (0, u "java/lang/Object")] 63

/-- java/lang/CharSequence -/
def k4 : Class := { plain "java/lang/CharSequence" (some 0) with
  accessFlags := 1537
  interfaces := #[]
  cf := some (fileOf pool4 2 #[.nestMembers #[47, 59]] #[] 1537 66 #[] #[])
  fields := #[]
  methods := #[]
  instanceTypes := #[]
  staticTypes := #[]
  resolved := Array.replicate 131 none
  statics := none }

def pool5 : Array CpInfo := pool [(1, .class_ 2), (0, u "java/lang/constant/Constable"), (0, .class_ 4), (0, u "java/lang/Object")] 6

/-- java/lang/constant/Constable -/
def k5 : Class := { plain "java/lang/constant/Constable" (some 0) with
  accessFlags := 1537
  interfaces := #[]
  cf := some (fileOf pool5 1 #[] #[] 1537 3 #[] #[])
  fields := #[]
  methods := #[]
  instanceTypes := #[]
  staticTypes := #[]
  resolved := Array.replicate 11 none
  statics := none }

def pool6 : Array CpInfo := pool [(1, .class_ 2), (0, u "java/lang/constant/ConstantDesc"), (0, .class_ 4), (0, u "java/lang/Object")] 32

/-- java/lang/constant/ConstantDesc -/
def k6 : Class := { plain "java/lang/constant/ConstantDesc" (some 0) with
  accessFlags := 1537
  interfaces := #[]
  cf := some (fileOf pool6 1 #[] #[] 1537 3 #[] #[])
  fields := #[]
  methods := #[]
  instanceTypes := #[]
  staticTypes := #[]
  resolved := Array.replicate 37 none
  statics := none }

def pool7 : Array CpInfo := pool [(1, .methodref 2 3), (0, .class_ 4), (0, .nameAndType 5 6), (0, u "java/lang/Object"), (0, u "<init>"), (0, u "()V"), (0, .string 8), (0, u ""), (0, .fieldref 10 11), (0, .class_ 12), (0, .nameAndType 13 14), (0, u "java/lang/String"), (0, u "value"), (0, u "[B"), (0, .fieldref 10 16), (0, .nameAndType 17 18), (0, u "coder"), (0, u "B"), (2, u "hash"), (0, u "I"), (2, u "hashIsZero"), (0, u "Z"), (0, .methodref 10 28), (0, .nameAndType 5 29), (0, u "([CIILjava/lang/Void;)V"), (8, .fieldref 10 39), (0, .nameAndType 40 26), (0, u "COMPACT_STRINGS"), (1, .class_ 44), (1, u "java/lang/StringUTF16"), (0, u "compress"), (1, .methodref 42 48), (0, .nameAndType 49 50), (0, u "coderFromArrayLen"), (0, u "([BI)B"), (56, .class_ 109), (1, u "java/lang/StringLatin1"), (32, u "()Z"), (34, .methodref 42 178), (0, .nameAndType 45 179), (0, u "([CII)[B"), (154, u "()I"), (0, .methodref 10 336), (0, .nameAndType 17 337), (0, u "()B"), (25, u "([BI)C"), (27, u "(II)V"), (35, u "(I)C"), (64, .methodref 10 493), (0, .nameAndType 494 142), (0, u "isLatin1"), (0, .methodref 107 496), (0, .nameAndType 497 363), (0, u "charAt"), (3, u "checkIndex"), (5, u "length"), (33, .methodref 107 542), (0, .nameAndType 543 544), (0, u "equals"), (0, u "([B[B)Z"), (28, u "(Ljava/lang/Object;)Z"), (1, .class_ 576), (0, u "java/lang/CharSequence"), (22, u "CASE_INSENSITIVE_ORDER"), (0, u "Ljava/util/Comparator;"), (409, u "([C)V"), (42, .fieldref 1054 1055), (0, .class_ 1056), (0, .nameAndType 1057 1058), (0, u "jdk/internal/util/Preconditions"), (0, u "SIOOBE_FORMATTER"), (0, u "Ljava/util/function/BiFunction;"), (0, .methodref 1054 1060), (0, .nameAndType 501 1061), (0, u "(IILjava/util/function/BiFunction;)I"), (39, u "serialPersistentFields"), (0, u "[Ljava/io/ObjectStreamField;"), (0, .class_ 1104), (0, u "java/lang/String$CaseInsensitiveComparator"), (1, .class_ 1107), (0, u "java/io/Serializable"), (0, .class_ 1109), (0, u "java/lang/Comparable"), (0, .class_ 1111), (0, u "java/lang/constant/Constable"), (0, .class_ 1113), (0, u "java/lang/constant/ConstantDesc"), (2, u "serialVersionUID"), (0, u "J"), (3, u "REPL"), (0, u "C"), (2, u "LATIN1"), (1, u "UTF16")] 323

def k7m0 : Method := { name := "<init>", desc := "()V", sig := { parameters := [], returnType := none }, accessFlags := 1, code := none }
def k7c1 : Code := { maxStack := 5, maxLocals := 2, code := jdk_42_method_3_code, exceptionTable := #[], attributes := #[] }
def k7m1 : Method := { name := "<init>", desc := "([C)V", sig := { parameters := [(.array .char)], returnType := none }, accessFlags := 1, code := some k7c1 }
def k7c2 : Code := { maxStack := 2, maxLocals := 1, code := jdk_42_method_54_code, exceptionTable := #[], attributes := #[] }
def k7m2 : Method := { name := "length", desc := "()I", sig := { parameters := [], returnType := some .int }, accessFlags := 1, code := some k7c2 }
def k7c3 : Code := { maxStack := 2, maxLocals := 2, code := jdk_42_method_56_code, exceptionTable := #[], attributes := #[] }
def k7m3 : Method := { name := "charAt", desc := "(I)C", sig := { parameters := [.int], returnType := some .char }, accessFlags := 1, code := some k7c3 }
def k7c4 : Code := { maxStack := 2, maxLocals := 3, code := jdk_42_method_66_code, exceptionTable := #[], attributes := #[] }
def k7m4 : Method := { name := "equals", desc := "(Ljava/lang/Object;)Z", sig := { parameters := [(.object "java/lang/Object")], returnType := some .boolean }, accessFlags := 1, code := some k7c4 }
def k7c5 : Code := { maxStack := 4, maxLocals := 6, code := jdk_42_method_149_code, exceptionTable := #[], attributes := #[] }
def k7m5 : Method := { name := "<init>", desc := "([CIILjava/lang/Void;)V", sig := { parameters := [(.array .char), .int, .int, (.object "java/lang/Void")], returnType := none }, accessFlags := 2, code := some k7c5 }
def k7c6 : Code := { maxStack := 1, maxLocals := 1, code := jdk_42_method_152_code, exceptionTable := #[], attributes := #[] }
def k7m6 : Method := { name := "coder", desc := "()B", sig := { parameters := [], returnType := some .byte }, accessFlags := 0, code := some k7c6 }
def k7c7 : Code := { maxStack := 1, maxLocals := 1, code := jdk_42_method_154_code, exceptionTable := #[], attributes := #[] }
def k7m7 : Method := { name := "isLatin1", desc := "()Z", sig := { parameters := [], returnType := some .boolean }, accessFlags := 0, code := some k7c7 }
def k7c8 : Code := { maxStack := 3, maxLocals := 2, code := jdk_42_method_155_code, exceptionTable := #[], attributes := #[] }
def k7m8 : Method := { name := "checkIndex", desc := "(II)V", sig := { parameters := [.int, .int], returnType := none }, accessFlags := 8, code := some k7c8 }
/-- java/lang/String -/
def k7 : Class := { plain "java/lang/String" (some 0) with
  accessFlags := 49
  interfaces := #[2, 3, 4, 5, 6]
  cf := some (fileOf pool7 10 #[.nestMembers #[1103]] #[{ accessFlags := 1, nameIndex := 5, descriptorIndex := 6, attributes := #[] }, { accessFlags := 1, nameIndex := 5, descriptorIndex := 1010, attributes := #[] }, { accessFlags := 1, nameIndex := 507, descriptorIndex := 334, attributes := #[] }, { accessFlags := 1, nameIndex := 497, descriptorIndex := 427, attributes := #[] }, { accessFlags := 1, nameIndex := 543, descriptorIndex := 573, attributes := #[] }, { accessFlags := 2, nameIndex := 5, descriptorIndex := 29, attributes := #[] }, { accessFlags := 0, nameIndex := 17, descriptorIndex := 337, attributes := #[] }, { accessFlags := 0, nameIndex := 494, descriptorIndex := 142, attributes := #[] }, { accessFlags := 8, nameIndex := 501, descriptorIndex := 391, attributes := #[] }] 49 2 #[1106, 1108, 575, 1110, 1112] #[{ accessFlags := 18, nameIndex := 13, descriptorIndex := 14, attributes := #[] }, { accessFlags := 18, nameIndex := 17, descriptorIndex := 18, attributes := #[] }, { accessFlags := 2, nameIndex := 21, descriptorIndex := 22, attributes := #[] }, { accessFlags := 2, nameIndex := 25, descriptorIndex := 26, attributes := #[] }, { accessFlags := 26, nameIndex := 1116, descriptorIndex := 1117, attributes := #[] }, { accessFlags := 24, nameIndex := 40, descriptorIndex := 26, attributes := #[] }, { accessFlags := 26, nameIndex := 1101, descriptorIndex := 1102, attributes := #[] }, { accessFlags := 26, nameIndex := 1121, descriptorIndex := 1122, attributes := #[] }, { accessFlags := 25, nameIndex := 599, descriptorIndex := 600, attributes := #[] }, { accessFlags := 24, nameIndex := 1125, descriptorIndex := 18, attributes := #[] }, { accessFlags := 24, nameIndex := 1127, descriptorIndex := 18, attributes := #[] }])
  fields := #[{ name := "value", type := (.array .byte), accessFlags := 18, slot := 0, constantValue := 0 }, { name := "coder", type := .byte, accessFlags := 18, slot := 1, constantValue := 0 }, { name := "hash", type := .int, accessFlags := 2, slot := 2, constantValue := 0 }, { name := "hashIsZero", type := .boolean, accessFlags := 2, slot := 3, constantValue := 0 }, { name := "serialVersionUID", type := .long, accessFlags := 26, slot := 0, constantValue := 0 }, { name := "COMPACT_STRINGS", type := .boolean, accessFlags := 24, slot := 1, constantValue := 0 }, { name := "serialPersistentFields", type := (.array (.object "java/io/ObjectStreamField")), accessFlags := 26, slot := 2, constantValue := 0 }, { name := "REPL", type := .char, accessFlags := 26, slot := 3, constantValue := 0 }, { name := "CASE_INSENSITIVE_ORDER", type := (.object "java/util/Comparator"), accessFlags := 25, slot := 4, constantValue := 0 }, { name := "LATIN1", type := .byte, accessFlags := 24, slot := 5, constantValue := 0 }, { name := "UTF16", type := .byte, accessFlags := 24, slot := 6, constantValue := 0 }]
  methods := #[k7m0, k7m1, k7m2, k7m3, k7m4, k7m5, k7m6, k7m7, k7m8]
  instanceTypes := #[(.array .byte), .byte, .int, .boolean]
  staticTypes := #[.long, .boolean, (.array (.object "java/io/ObjectStreamField")), .char, (.object "java/util/Comparator"), .byte, .byte]
  resolved := Array.replicate 1451 none
  statics := some 0 }

def pool8 : Array CpInfo := pool [(1, .class_ 2), (0, u "java/lang/String"), (1, .class_ 6), (1, u "java/lang/Object"), (0, u "<init>"), (0, u "()V"), (0, .methodref 1 10), (0, .nameAndType 11 12), (0, u "checkIndex"), (0, u "(II)V"), (1, .class_ 16), (1, u "java/lang/StringLatin1"), (36, u "([BI)C"), (67, u "$assertionsDisabled"), (0, u "Z"), (98, .class_ 223), (1, u "java/lang/StringLatin1$LinesSpliterator"), (28, u "charAt"), (28, u "equals"), (0, u "([B[B)Z"), (107, .class_ 391), (0, u "java/lang/StringLatin1$CharsSpliterator")] 3

def k8m0 : Method := { name := "<init>", desc := "()V", sig := { parameters := [], returnType := none }, accessFlags := 0, code := none }
def k8c1 : Code := { maxStack := 2, maxLocals := 2, code := jdk_43_method_2_code, exceptionTable := #[], attributes := #[] }
def k8m1 : Method := { name := "charAt", desc := "([BI)C", sig := { parameters := [(.array .byte), .int], returnType := some .char }, accessFlags := 9, code := some k8c1 }
def k8c2 : Code := { maxStack := 3, maxLocals := 3, code := jdk_43_method_13_code, exceptionTable := #[], attributes := #[] }
def k8m2 : Method := { name := "equals", desc := "([B[B)Z", sig := { parameters := [(.array .byte), (.array .byte)], returnType := some .boolean }, accessFlags := 9, code := some k8c2 }
/-- java/lang/StringLatin1 -/
def k8 : Class := { plain "java/lang/StringLatin1" (some 0) with
  accessFlags := 48
  interfaces := #[]
  cf := some (fileOf pool8 14 #[.nestMembers #[390, 221]] #[{ accessFlags := 0, nameIndex := 7, descriptorIndex := 8, attributes := #[] }, { accessFlags := 9, nameIndex := 252, descriptorIndex := 53, attributes := #[] }, { accessFlags := 9, nameIndex := 281, descriptorIndex := 282, attributes := #[] }] 48 4 #[] #[{ accessFlags := 4120, nameIndex := 121, descriptorIndex := 122, attributes := #[] }])
  fields := #[{ name := "$assertionsDisabled", type := .boolean, accessFlags := 4120, slot := 0, constantValue := 0 }]
  methods := #[k8m0, k8m1, k8m2]
  instanceTypes := #[]
  staticTypes := #[.boolean]
  resolved := Array.replicate 395 none
  statics := none }

def pool9 : Array CpInfo := pool [(2, .class_ 4), (1, u "java/lang/Object"), (0, u "<init>"), (0, u "()V"), (17, .class_ 26), (1, u "jdk/internal/util/Preconditions"), (6, u "checkIndex"), (21, .class_ 56), (0, u "jdk/internal/util/Preconditions$4"), (57, .class_ 115), (0, u "jdk/internal/util/Preconditions$1"), (7, u "SIOOBE_FORMATTER"), (0, u "Ljava/util/function/BiFunction;"), (0, .class_ 126), (0, u "jdk/internal/util/Preconditions$2"), (3, u "AIOOBE_FORMATTER"), (0, .class_ 132), (0, u "jdk/internal/util/Preconditions$3"), (3, u "IOOBE_FORMATTER"), (41, u "(IILjava/util/function/BiFunction;)I")] 15

def k9m0 : Method := { name := "<init>", desc := "()V", sig := { parameters := [], returnType := none }, accessFlags := 1, code := none }
def k9c1 : Code := { maxStack := 3, maxLocals := 3, code := jdk_41_method_11_code, exceptionTable := #[], attributes := #[] }
def k9m1 : Method := { name := "checkIndex", desc := "(IILjava/util/function/BiFunction;)I", sig := { parameters := [.int, .int, (.object "java/util/function/BiFunction")], returnType := some .int }, accessFlags := 9, code := some k9c1 }
/-- jdk/internal/util/Preconditions -/
def k9 : Class := { plain "jdk/internal/util/Preconditions" (some 0) with
  accessFlags := 33
  interfaces := #[]
  cf := some (fileOf pool9 24 #[.nestMembers #[55, 131, 125, 114]] #[{ accessFlags := 1, nameIndex := 5, descriptorIndex := 6, attributes := #[] }, { accessFlags := 9, nameIndex := 33, descriptorIndex := 178, attributes := #[] }] 33 2 #[] #[{ accessFlags := 25, nameIndex := 123, descriptorIndex := 124, attributes := #[] }, { accessFlags := 25, nameIndex := 130, descriptorIndex := 124, attributes := #[] }, { accessFlags := 25, nameIndex := 136, descriptorIndex := 124, attributes := #[] }])
  fields := #[{ name := "SIOOBE_FORMATTER", type := (.object "java/util/function/BiFunction"), accessFlags := 25, slot := 0, constantValue := 0 }, { name := "AIOOBE_FORMATTER", type := (.object "java/util/function/BiFunction"), accessFlags := 25, slot := 1, constantValue := 0 }, { name := "IOOBE_FORMATTER", type := (.object "java/util/function/BiFunction"), accessFlags := 25, slot := 2, constantValue := 0 }]
  methods := #[k9m0, k9m1]
  instanceTypes := #[]
  staticTypes := #[(.object "java/util/function/BiFunction"), (.object "java/util/function/BiFunction"), (.object "java/util/function/BiFunction")]
  resolved := Array.replicate 194 none
  statics := some 1 }

def pool10 : Array CpInfo := pool [(2, .class_ 4), (1, u "java/lang/Enum"), (0, u "name"), (0, u "Ljava/lang/String;"), (2, u "ordinal"), (0, u "I"), (1, .class_ 14), (1, u "java/lang/Object"), (4, u "hash"), (86, .class_ 108), (1, u "java/lang/Enum$EnumDesc"), (2, .class_ 112), (0, u "java/lang/constant/Constable"), (0, .class_ 114), (0, u "java/lang/Comparable"), (0, .class_ 116), (0, u "java/io/Serializable")] 87

/-- java/lang/Enum -/
def k10 : Class := { plain "java/lang/Enum" (some 0) with
  accessFlags := 1057
  interfaces := #[5, 3, 2]
  cf := some (fileOf pool10 2 #[.nestMembers #[106]] #[] 1057 12 #[111, 113, 115] #[{ accessFlags := 18, nameIndex := 5, descriptorIndex := 6, attributes := #[] }, { accessFlags := 18, nameIndex := 9, descriptorIndex := 10, attributes := #[] }, { accessFlags := 2, nameIndex := 19, descriptorIndex := 10, attributes := #[] }])
  fields := #[{ name := "name", type := (.object "java/lang/String"), accessFlags := 18, slot := 0, constantValue := 0 }, { name := "ordinal", type := .int, accessFlags := 18, slot := 1, constantValue := 0 }, { name := "hash", type := .int, accessFlags := 2, slot := 2, constantValue := 0 }]
  methods := #[]
  instanceTypes := #[(.object "java/lang/String"), .int, .int]
  staticTypes := #[]
  resolved := Array.replicate 204 none
  statics := none }

def pool11 : Array CpInfo := pool [(1, .class_ 2), (0, u "com/example/needlework/needlework/Algorithm"), (2, u "BRUTE"), (0, u "Lcom/example/needlework/needlework/Algorithm;"), (2, u "KMP"), (2, u "BM"), (2, u "TWO_WAY"), (0, .fieldref 1 17), (0, .nameAndType 18 19), (0, u "$VALUES"), (0, u "[Lcom/example/needlework/needlework/Algorithm;"), (0, .methodref 21 22), (0, .class_ 19), (0, .nameAndType 23 24), (0, u "clone"), (0, u "()Ljava/lang/Object;"), (1, .class_ 28), (1, u "java/lang/Enum"), (6, .fieldref 1 36), (0, .nameAndType 37 38), (0, u "shortName"), (0, u "Ljava/lang/String;"), (2, u "searcher"), (0, u "Ljava/util/function/Function;"), (0, .methodref 1 44), (0, .nameAndType 45 46), (0, u "values"), (0, u "()[Lcom/example/needlework/needlework/Algorithm;"), (0, .methodref 48 49), (0, .class_ 50), (0, .nameAndType 51 52), (0, u "java/lang/String"), (0, u "equals"), (0, u "(Ljava/lang/Object;)Z"), (0, .methodref 54 55), (0, .class_ 56), (0, .nameAndType 57 58), (0, u "java/util/Optional"), (0, u "of"), (0, u "(Ljava/lang/Object;)Ljava/util/Optional;"), (0, .methodref 54 60), (0, .nameAndType 61 62), (0, u "empty"), (0, u "()Ljava/util/Optional;"), (39, u "named"), (0, u "(Ljava/lang/String;)Ljava/util/Optional;")] 44

def k11c0 : Code := { maxStack := 1, maxLocals := 0, code := prog_1_method_1_code, exceptionTable := #[], attributes := #[] }
def k11m0 : Method := { name := "values", desc := "()[Lcom/example/needlework/needlework/Algorithm;", sig := { parameters := [], returnType := some (.array (.object "com/example/needlework/needlework/Algorithm")) }, accessFlags := 9, code := some k11c0 }
def k11c1 : Code := { maxStack := 2, maxLocals := 5, code := prog_1_method_4_code, exceptionTable := #[], attributes := #[] }
def k11m1 : Method := { name := "named", desc := "(Ljava/lang/String;)Ljava/util/Optional;", sig := { parameters := [(.object "java/lang/String")], returnType := some (.object "java/util/Optional") }, accessFlags := 9, code := some k11c1 }
/-- com/example/needlework/needlework/Algorithm -/
def k11 : Class := { plain "com/example/needlework/needlework/Algorithm" (some 10) with
  accessFlags := 16433
  interfaces := #[]
  cf := some (fileOf pool11 1 #[] #[{ accessFlags := 9, nameIndex := 45, descriptorIndex := 46, attributes := #[] }, { accessFlags := 9, nameIndex := 102, descriptorIndex := 103, attributes := #[] }] 16433 26 #[] #[{ accessFlags := 16409, nameIndex := 5, descriptorIndex := 6, attributes := #[] }, { accessFlags := 16409, nameIndex := 9, descriptorIndex := 6, attributes := #[] }, { accessFlags := 16409, nameIndex := 12, descriptorIndex := 6, attributes := #[] }, { accessFlags := 16409, nameIndex := 15, descriptorIndex := 6, attributes := #[] }, { accessFlags := 18, nameIndex := 37, descriptorIndex := 38, attributes := #[] }, { accessFlags := 18, nameIndex := 41, descriptorIndex := 42, attributes := #[] }, { accessFlags := 4122, nameIndex := 18, descriptorIndex := 19, attributes := #[] }])
  fields := #[{ name := "BRUTE", type := (.object "com/example/needlework/needlework/Algorithm"), accessFlags := 16409, slot := 0, constantValue := 0 }, { name := "KMP", type := (.object "com/example/needlework/needlework/Algorithm"), accessFlags := 16409, slot := 1, constantValue := 0 }, { name := "BM", type := (.object "com/example/needlework/needlework/Algorithm"), accessFlags := 16409, slot := 2, constantValue := 0 }, { name := "TWO_WAY", type := (.object "com/example/needlework/needlework/Algorithm"), accessFlags := 16409, slot := 3, constantValue := 0 }, { name := "shortName", type := (.object "java/lang/String"), accessFlags := 18, slot := 3, constantValue := 0 }, { name := "searcher", type := (.object "java/util/function/Function"), accessFlags := 18, slot := 4, constantValue := 0 }, { name := "$VALUES", type := (.array (.object "com/example/needlework/needlework/Algorithm")), accessFlags := 4122, slot := 4, constantValue := 0 }]
  methods := #[k11m0, k11m1]
  instanceTypes := #[(.object "java/lang/String"), .int, .int, (.object "java/lang/String"), (.object "java/util/function/Function")]
  staticTypes := #[(.object "com/example/needlework/needlework/Algorithm"), (.object "com/example/needlework/needlework/Algorithm"), (.object "com/example/needlework/needlework/Algorithm"), (.object "com/example/needlework/needlework/Algorithm"), (.array (.object "com/example/needlework/needlework/Algorithm"))]
  resolved := Array.replicate 148 none
  statics := some 2 }

def pool12 : Array CpInfo := pool [(1, .class_ 2), (0, u "java/lang/Cloneable"), (0, .class_ 4), (0, u "java/lang/Object")] 2

/-- java/lang/Cloneable -/
def k12 : Class := { plain "java/lang/Cloneable" (some 0) with
  accessFlags := 1537
  interfaces := #[]
  cf := some (fileOf pool12 1 #[] #[] 1537 3 #[] #[])
  fields := #[]
  methods := #[]
  instanceTypes := #[]
  staticTypes := #[]
  resolved := Array.replicate 7 none
  statics := none }

def pool13 : Array CpInfo := pool [(1, .fieldref 2 3), (0, .class_ 4), (0, .nameAndType 5 6), (0, u "java/util/Optional"), (0, u "EMPTY"), (0, u "Ljava/util/Optional;"), (0, .methodref 8 9), (0, .class_ 10), (0, .nameAndType 11 12), (0, u "java/lang/Object"), (0, u "<init>"), (0, u "()V"), (0, .fieldref 2 14), (0, .nameAndType 15 16), (0, u "value"), (0, u "Ljava/lang/Object;"), (0, .methodref 18 19), (0, .class_ 20), (0, .nameAndType 21 22), (0, u "java/util/Objects"), (0, u "requireNonNull"), (0, u "(Ljava/lang/Object;)Ljava/lang/Object;"), (0, .methodref 2 24), (0, .nameAndType 11 25), (0, u "(Ljava/lang/Object;)V"), (29, u "empty"), (0, u "()Ljava/util/Optional;"), (8, u "(Ljava/lang/Object;)Ljava/util/Optional;"), (16, u "of"), (82, u "orElse")] 21

def k13c0 : Code := { maxStack := 1, maxLocals := 1, code := jdk_32_method_1_code, exceptionTable := #[], attributes := #[] }
def k13m0 : Method := { name := "empty", desc := "()Ljava/util/Optional;", sig := { parameters := [], returnType := some (.object "java/util/Optional") }, accessFlags := 9, code := some k13c0 }
def k13c1 : Code := { maxStack := 2, maxLocals := 2, code := jdk_32_method_2_code, exceptionTable := #[], attributes := #[] }
def k13m1 : Method := { name := "<init>", desc := "(Ljava/lang/Object;)V", sig := { parameters := [(.object "java/lang/Object")], returnType := none }, accessFlags := 2, code := some k13c1 }
def k13c2 : Code := { maxStack := 3, maxLocals := 1, code := jdk_32_method_3_code, exceptionTable := #[], attributes := #[] }
def k13m2 : Method := { name := "of", desc := "(Ljava/lang/Object;)Ljava/util/Optional;", sig := { parameters := [(.object "java/lang/Object")], returnType := some (.object "java/util/Optional") }, accessFlags := 9, code := some k13c2 }
def k13c3 : Code := { maxStack := 1, maxLocals := 2, code := jdk_32_method_15_code, exceptionTable := #[], attributes := #[] }
def k13m3 : Method := { name := "orElse", desc := "(Ljava/lang/Object;)Ljava/lang/Object;", sig := { parameters := [(.object "java/lang/Object")], returnType := some (.object "java/lang/Object") }, accessFlags := 1, code := some k13c3 }
/-- java/util/Optional -/
def k13 : Class := { plain "java/util/Optional" (some 0) with
  accessFlags := 49
  interfaces := #[]
  cf := some (fileOf pool13 2 #[] #[{ accessFlags := 9, nameIndex := 55, descriptorIndex := 56, attributes := #[] }, { accessFlags := 2, nameIndex := 11, descriptorIndex := 25, attributes := #[] }, { accessFlags := 9, nameIndex := 82, descriptorIndex := 65, attributes := #[] }, { accessFlags := 1, nameIndex := 165, descriptorIndex := 22, attributes := #[] }] 49 8 #[] #[{ accessFlags := 26, nameIndex := 5, descriptorIndex := 6, attributes := #[] }, { accessFlags := 18, nameIndex := 15, descriptorIndex := 16, attributes := #[] }])
  fields := #[{ name := "EMPTY", type := (.object "java/util/Optional"), accessFlags := 26, slot := 0, constantValue := 0 }, { name := "value", type := (.object "java/lang/Object"), accessFlags := 18, slot := 0, constantValue := 0 }]
  methods := #[k13m0, k13m1, k13m2, k13m3]
  instanceTypes := #[(.object "java/lang/Object")]
  staticTypes := #[(.object "java/util/Optional")]
  resolved := Array.replicate 187 none
  statics := some 3 }

def pool14 : Array CpInfo := pool [(6, .class_ 8), (1, u "java/lang/Object"), (0, u "<init>"), (0, u "()V"), (1, .class_ 14), (1, u "java/lang/StringUTF16"), (31, u "$assertionsDisabled"), (0, u "Z"), (13, u "HI_BYTE_SHIFT"), (0, u "I"), (2, u "LO_BYTE_SHIFT"), (49, .methodref 12 116), (0, .nameAndType 117 118), (0, u "compress"), (0, u "([CI[BII)I"), (3, u "([CII)[B"), (138, u "coderFromArrayLen"), (0, u "([BI)B"), (106, .class_ 371), (1, u "java/lang/StringUTF16$LinesSpliterator"), (58, u "MAX_LENGTH"), (196, .class_ 628), (0, u "java/lang/StringUTF16$CodePointsSpliterator"), (0, .class_ 630), (0, u "java/lang/StringUTF16$CharsSpliterator")] 4

def k14m0 : Method := { name := "<init>", desc := "()V", sig := { parameters := [], returnType := none }, accessFlags := 0, code := none }
def k14c1 : Code := { maxStack := 2, maxLocals := 2, code := jdk_52_method_15_code, exceptionTable := #[], attributes := #[] }
def k14m1 : Method := { name := "coderFromArrayLen", desc := "([BI)B", sig := { parameters := [(.array .byte), .int], returnType := some .byte }, accessFlags := 8, code := some k14c1 }
def k14c2 : Code := { maxStack := 5, maxLocals := 6, code := jdk_52_method_16_code, exceptionTable := #[], attributes := #[] }
def k14m2 : Method := { name := "compress", desc := "([CII)[B", sig := { parameters := [(.array .char), .int, .int], returnType := some (.array .byte) }, accessFlags := 9, code := some k14c2 }
def k14c3 : Code := { maxStack := 3, maxLocals := 7, code := jdk_52_method_21_code, exceptionTable := #[], attributes := #[] }
def k14m3 : Method := { name := "compress", desc := "([CI[BII)I", sig := { parameters := [(.array .char), .int, (.array .byte), .int, .int], returnType := some .int }, accessFlags := 9, code := some k14c3 }
/-- java/lang/StringUTF16 -/
def k14 : Class := { plain "java/lang/StringUTF16" (some 0) with
  accessFlags := 48
  interfaces := #[]
  cf := some (fileOf pool14 12 #[.nestMembers #[627, 629, 369]] #[{ accessFlags := 0, nameIndex := 9, descriptorIndex := 10, attributes := #[] }, { accessFlags := 8, nameIndex := 261, descriptorIndex := 262, attributes := #[] }, { accessFlags := 9, nameIndex := 117, descriptorIndex := 122, attributes := #[] }, { accessFlags := 9, nameIndex := 117, descriptorIndex := 118, attributes := #[] }] 48 6 #[] #[{ accessFlags := 26, nameIndex := 61, descriptorIndex := 62, attributes := #[] }, { accessFlags := 26, nameIndex := 65, descriptorIndex := 62, attributes := #[] }, { accessFlags := 24, nameIndex := 430, descriptorIndex := 62, attributes := #[] }, { accessFlags := 4120, nameIndex := 46, descriptorIndex := 47, attributes := #[] }])
  fields := #[{ name := "HI_BYTE_SHIFT", type := .int, accessFlags := 26, slot := 0, constantValue := 0 }, { name := "LO_BYTE_SHIFT", type := .int, accessFlags := 26, slot := 1, constantValue := 0 }, { name := "MAX_LENGTH", type := .int, accessFlags := 24, slot := 2, constantValue := 0 }, { name := "$assertionsDisabled", type := .boolean, accessFlags := 4120, slot := 3, constantValue := 0 }]
  methods := #[k14m0, k14m1, k14m2, k14m3]
  instanceTypes := #[]
  staticTypes := #[.int, .int, .int, .boolean]
  resolved := Array.replicate 635 none
  statics := none }

def pool15 : Array CpInfo := pool [(2, .class_ 4), (1, u "java/lang/Object"), (0, u "<init>"), (0, u "()V"), (35, .class_ 44), (1, u "java/util/Objects"), (0, u "requireNonNull"), (0, u "(Ljava/lang/Object;)Ljava/lang/Object;")] 137

def k15m0 : Method := { name := "<init>", desc := "()V", sig := { parameters := [], returnType := none }, accessFlags := 2, code := none }
def k15c1 : Code := { maxStack := 2, maxLocals := 1, code := jdk_31_method_10_code, exceptionTable := #[], attributes := #[] }
def k15m1 : Method := { name := "requireNonNull", desc := "(Ljava/lang/Object;)Ljava/lang/Object;", sig := { parameters := [(.object "java/lang/Object")], returnType := some (.object "java/lang/Object") }, accessFlags := 9, code := some k15c1 }
/-- java/util/Objects -/
def k15 : Class := { plain "java/util/Objects" (some 0) with
  accessFlags := 49
  interfaces := #[]
  cf := some (fileOf pool15 42 #[] #[{ accessFlags := 2, nameIndex := 5, descriptorIndex := 6, attributes := #[] }, { accessFlags := 9, nameIndex := 45, descriptorIndex := 46, attributes := #[] }] 49 2 #[] #[])
  fields := #[]
  methods := #[k15m0, k15m1]
  instanceTypes := #[]
  staticTypes := #[]
  resolved := Array.replicate 184 none
  statics := none }

def pool16 : Array CpInfo := pool [(9, u "<init>"), (6, .class_ 18), (1, u "java/lang/Object"), (0, u "()V"), (1, .class_ 23), (1, u "jdk/internal/util/ArraysSupport"), (0, u "LOG2_ARRAY_LONG_INDEX_SCALE"), (0, u "I"), (2, u "U"), (0, u "Ljdk/internal/misc/Unsafe;"), (8, u "BIG_ENDIAN"), (0, u "Z"), (8, u "LOG2_BYTE_BIT_SIZE"), (4, u "LOG2_ARRAY_INT_INDEX_SCALE"), (54, u "JLA"), (0, u "Ljdk/internal/access/JavaLangAccess;"), (11, u "LOG2_ARRAY_BOOLEAN_INDEX_SCALE"), (9, u "LOG2_ARRAY_BYTE_INDEX_SCALE"), (5, u "LOG2_ARRAY_CHAR_INDEX_SCALE"), (5, u "LOG2_ARRAY_SHORT_INDEX_SCALE"), (18, u "LOG2_ARRAY_FLOAT_INDEX_SCALE"), (24, u "LOG2_ARRAY_DOUBLE_INDEX_SCALE"), (89, u "T_BOOLEAN"), (2, u "T_CHAR"), (1, u "T_FLOAT"), (1, u "T_DOUBLE"), (1, u "T_BYTE"), (1, u "T_SHORT"), (1, u "T_INT"), (1, u "T_LONG"), (1, u "SOFT_MAX_ARRAY_LENGTH")] 83

def k16m0 : Method := { name := "<init>", desc := "()V", sig := { parameters := [], returnType := none }, accessFlags := 2, code := none }
/-- jdk/internal/util/ArraysSupport -/
def k16 : Class := { plain "jdk/internal/util/ArraysSupport" (some 0) with
  accessFlags := 33
  interfaces := #[]
  cf := some (fileOf pool16 21 #[] #[{ accessFlags := 2, nameIndex := 9, descriptorIndex := 19, attributes := #[] }] 33 16 #[] #[{ accessFlags := 24, nameIndex := 28, descriptorIndex := 29, attributes := #[] }, { accessFlags := 26, nameIndex := 38, descriptorIndex := 39, attributes := #[] }, { accessFlags := 25, nameIndex := 121, descriptorIndex := 25, attributes := #[] }, { accessFlags := 25, nameIndex := 131, descriptorIndex := 25, attributes := #[] }, { accessFlags := 25, nameIndex := 137, descriptorIndex := 25, attributes := #[] }, { accessFlags := 25, nameIndex := 143, descriptorIndex := 25, attributes := #[] }, { accessFlags := 25, nameIndex := 53, descriptorIndex := 25, attributes := #[] }, { accessFlags := 25, nameIndex := 24, descriptorIndex := 25, attributes := #[] }, { accessFlags := 25, nameIndex := 162, descriptorIndex := 25, attributes := #[] }, { accessFlags := 25, nameIndex := 187, descriptorIndex := 25, attributes := #[] }, { accessFlags := 26, nameIndex := 48, descriptorIndex := 25, attributes := #[] }, { accessFlags := 25, nameIndex := 277, descriptorIndex := 25, attributes := #[] }, { accessFlags := 25, nameIndex := 280, descriptorIndex := 25, attributes := #[] }, { accessFlags := 25, nameIndex := 282, descriptorIndex := 25, attributes := #[] }, { accessFlags := 25, nameIndex := 284, descriptorIndex := 25, attributes := #[] }, { accessFlags := 25, nameIndex := 286, descriptorIndex := 25, attributes := #[] }, { accessFlags := 25, nameIndex := 288, descriptorIndex := 25, attributes := #[] }, { accessFlags := 25, nameIndex := 290, descriptorIndex := 25, attributes := #[] }, { accessFlags := 25, nameIndex := 292, descriptorIndex := 25, attributes := #[] }, { accessFlags := 26, nameIndex := 108, descriptorIndex := 109, attributes := #[] }, { accessFlags := 25, nameIndex := 294, descriptorIndex := 25, attributes := #[] }])
  fields := #[{ name := "U", type := (.object "jdk/internal/misc/Unsafe"), accessFlags := 24, slot := 0, constantValue := 0 }, { name := "BIG_ENDIAN", type := .boolean, accessFlags := 26, slot := 1, constantValue := 0 }, { name := "LOG2_ARRAY_BOOLEAN_INDEX_SCALE", type := .int, accessFlags := 25, slot := 2, constantValue := 0 }, { name := "LOG2_ARRAY_BYTE_INDEX_SCALE", type := .int, accessFlags := 25, slot := 3, constantValue := 0 }, { name := "LOG2_ARRAY_CHAR_INDEX_SCALE", type := .int, accessFlags := 25, slot := 4, constantValue := 0 }, { name := "LOG2_ARRAY_SHORT_INDEX_SCALE", type := .int, accessFlags := 25, slot := 5, constantValue := 0 }, { name := "LOG2_ARRAY_INT_INDEX_SCALE", type := .int, accessFlags := 25, slot := 6, constantValue := 0 }, { name := "LOG2_ARRAY_LONG_INDEX_SCALE", type := .int, accessFlags := 25, slot := 7, constantValue := 0 }, { name := "LOG2_ARRAY_FLOAT_INDEX_SCALE", type := .int, accessFlags := 25, slot := 8, constantValue := 0 }, { name := "LOG2_ARRAY_DOUBLE_INDEX_SCALE", type := .int, accessFlags := 25, slot := 9, constantValue := 0 }, { name := "LOG2_BYTE_BIT_SIZE", type := .int, accessFlags := 26, slot := 10, constantValue := 0 }, { name := "T_BOOLEAN", type := .int, accessFlags := 25, slot := 11, constantValue := 0 }, { name := "T_CHAR", type := .int, accessFlags := 25, slot := 12, constantValue := 0 }, { name := "T_FLOAT", type := .int, accessFlags := 25, slot := 13, constantValue := 0 }, { name := "T_DOUBLE", type := .int, accessFlags := 25, slot := 14, constantValue := 0 }, { name := "T_BYTE", type := .int, accessFlags := 25, slot := 15, constantValue := 0 }, { name := "T_SHORT", type := .int, accessFlags := 25, slot := 16, constantValue := 0 }, { name := "T_INT", type := .int, accessFlags := 25, slot := 17, constantValue := 0 }, { name := "T_LONG", type := .int, accessFlags := 25, slot := 18, constantValue := 0 }, { name := "JLA", type := (.object "jdk/internal/access/JavaLangAccess"), accessFlags := 26, slot := 19, constantValue := 0 }, { name := "SOFT_MAX_ARRAY_LENGTH", type := .int, accessFlags := 25, slot := 20, constantValue := 0 }]
  methods := #[k16m0]
  instanceTypes := #[]
  staticTypes := #[(.object "jdk/internal/misc/Unsafe"), .boolean, .int, .int, .int, .int, .int, .int, .int, .int, .int, .int, .int, .int, .int, .int, .int, .int, .int, (.object "jdk/internal/access/JavaLangAccess"), .int]
  resolved := Array.replicate 378 none
  statics := none }

/-- the primitive byte -/
def k17 : Class := { plain "byte" none with kind := .primitive 'B', accessFlags := 0x411 }
/-- [B -/
def k18 : Class := { plain "[B" (some 0) with kind := .array 17 .byte, interfaces := #[12, 2], accessFlags := 1041 }

/-- the primitive char -/
def k19 : Class := { plain "char" none with kind := .primitive 'C', accessFlags := 0x411 }
/-- [C -/
def k20 : Class := { plain "[C" (some 0) with kind := .array 19 .char, interfaces := #[12, 2], accessFlags := 1041 }

/-- the primitive int -/
def k21 : Class := { plain "int" none with kind := .primitive 'I', accessFlags := 0x411 }
/-- [I -/
def k22 : Class := { plain "[I" (some 0) with kind := .array 21 .int, interfaces := #[12, 2], accessFlags := 1041 }

/-- [Lcom/example/needlework/needlework/Algorithm; -/
def k23 : Class := { plain "[Lcom/example/needlework/needlework/Algorithm;" (some 0) with kind := .array 11 (.object "com/example/needlework/needlework/Algorithm"), interfaces := #[12, 2], accessFlags := 1041 }

def heap : Heap := #[{ cls := 7, slots := #[.long 0, .int 1, .null, .int 0, .null, .int 0, .int 0], vm := .statics 7 },
  { cls := 9, slots := #[.null, .null, .null], vm := .statics 9 },
  { cls := 11, slots := #[.ref 5, .ref 6, .ref 7, .ref 8, .ref 4], vm := .statics 11 },
  { cls := 13, slots := #[.ref 17], vm := .statics 13 },
  { cls := 23, slots := #[.ref 5, .ref 6, .ref 7, .ref 8], vm := .none },
  { cls := 11, slots := #[.null, .int 0, .int 0, .ref 9, .null], vm := .none },
  { cls := 11, slots := #[.null, .int 1, .int 0, .ref 10, .null], vm := .none },
  { cls := 11, slots := #[.null, .int 2, .int 0, .ref 11, .null], vm := .none },
  { cls := 11, slots := #[.null, .int 3, .int 0, .ref 12, .null], vm := .none },
  { cls := 7, slots := #[.ref 13, .int 0, .int 0, .int 0], vm := .none },
  { cls := 7, slots := #[.ref 14, .int 0, .int 0, .int 0], vm := .none },
  { cls := 7, slots := #[.ref 15, .int 0, .int 0, .int 0], vm := .none },
  { cls := 7, slots := #[.ref 16, .int 0, .int 0, .int 0], vm := .none },
  { cls := 18, slots := #[.int 98, .int 114, .int 117, .int 116, .int 101], vm := .none },
  { cls := 18, slots := #[.int 107, .int 109, .int 112], vm := .none },
  { cls := 18, slots := #[.int 98, .int 109], vm := .none },
  { cls := 18, slots := #[.int 116, .int 119, .int 111, .int 45, .int 119, .int 97, .int 121], vm := .none },
  { cls := 13, slots := #[.null], vm := .none }]
def classes : Array Class := #[k0, k1, k2, k3, k4, k5, k6, k7, k8, k9, k10, k11, k12, k13, k14, k15, k16, k17, k18, k19, k20, k21, k22, k23]
def interned : List (Array UInt16 × Addr) := []
def slotsUsed : Nat := 74
def theMethod : MethodId := ⟨1, 1⟩
def args0 : Array Value := #[.int 5, .int 5, .long 5, .int 5]
def aboutOver (below : List Frame) : State where
  vm := { classes := classes, interned := interned.toArray }
  heap := heap
  slotsUsed := slotsUsed
  threads := #[{ frames := .invoking theMethod args0 :: below }]
def below0 : List Frame := [.native { method := ⟨0, 0⟩, args := #[] }]
def about1 : State := aboutOver below0
def p0 : Program := .bare "" "" ""
def e0 : Env := launch0.env 0 0 0
theorem w_frames : about1.frames = Frame.invoking theMethod args0 :: below0 := rfl
set_option maxRecDepth 65536 in
theorem w_args : argsFit about1.vm theMethod args0 = true := by decide +kernel
set_option maxRecDepth 65536 in
theorem w_heap : heapFits about1 = true := by decide +kernel
set_option maxRecDepth 65536 in
theorem w_runnable : about1.curStatus? = some .runnable := by decide +kernel
set_option maxRecDepth 65536 in
theorem w_alone : about1.alone = true := by decide +kernel
set_option maxRecDepth 65536 in
theorem w_named : about1.methodNamed? x = some theMethod := by decide +kernel
set_option maxRecDepth 65536 in
theorem w_hears : about1.hears theMethod below0 = true := by decide +kernel
set_option maxRecDepth 65536 in
theorem w_ripe : about1.ripe theMethod args0 below0 = true := by decide +kernel
theorem w_running : about1.status = .running := rfl
set_option maxRecDepth 65536 in
theorem w_room : about1.hasRoom e0.platform room_1 = true :=
  launch0.hasRoom_least _ room_1 (by decide +kernel) (by decide +kernel) (by decide +kernel) (by decide +kernel) (by decide +kernel) (by decide +kernel)
theorem allAtoms_all (ts : List Jvm.Cond) (a : Array Jvm.Value) (st : Jvm.State) : (allAtoms ts).before a st = ts.all (fun c => c.before a st) := by
  induction ts with
  | nil => rfl
  | cons c t ih =>
    show (Jvm.Cond.and c (allAtoms t)).before a st = _
    rw [Jvm.Cond.before_and, ih, List.all_cons]
def words1 : List Jvm.Cond := Jvm.Cond.code x code maxLocals ret :: tables_1
/-- a 'code' word, met by the world's own term for the bytes: nothing is compared byte by byte -/
theorem code_word {y : MethodName} {bytes : ByteArray} {mx : Nat} {rt : Option FieldType} {a : Array Value} {s : State} {m : MethodId} {meth : Method} {c : Code} (h1 : s.methodNamed? y = some m) (h2 : s.vm.method? m = some meth) (h3 : meth.code = some c) (h4 : c.code = bytes)
    (h5 : (c.maxLocals == mx && c.exceptionTable.isEmpty && decide (c.maxStack ≤ mostOperands) && decide (meth.sig.returnType = rt) && !meth.locks && decide (parseMethodDescriptor y.desc = some meth.sig)) = true) : (Jvm.Cond.code y bytes mx rt).before a s = true := by
  simp only [Bool.and_eq_true, beq_iff_eq, Bool.not_eq_true', decide_eq_true_eq] at h5
  obtain ⟨⟨⟨⟨⟨g1, g2⟩, g3⟩, g4⟩, g5⟩, g6⟩ := h5
  simp [Cond.before, Cond.holds, Cond.value, h1, h2, h3, h4, g1, g2, g3, g4, g5, g6]
def isCode : Jvm.Cond → Bool
  | .code _ _ _ _ => true
  | _ => false
theorem all_split {L : List Jvm.Cond} {P : Jvm.Cond → Bool} (h1 : L.all (fun c => isCode c || P c) = true) (h2 : ∀ c ∈ L.filter isCode, P c = true) : L.all P = true := by
  refine List.all_eq_true.mpr fun c hc => ?_
  have h := List.all_eq_true.mp h1 c hc
  rcases Bool.eq_false_or_eq_true (isCode c) with hi | hi
  · exact h2 c (List.mem_filter.mpr ⟨hc, hi⟩)
  · simpa [hi] using h
set_option maxRecDepth 65536 in
theorem w_c0 : (Jvm.Cond.code x code maxLocals ret).before args0 about1 = true := code_word (m := ⟨1, 1⟩) (meth := k1m1) (c := k1c1) (by decide +kernel) rfl rfl rfl (by decide +kernel)
set_option maxRecDepth 65536 in
theorem w_c1 : (Jvm.Cond.code ({ cls := "com/example/needlework/needlework/AlgorithmNamedPinLaw", name := "at", desc := "(Ljava/lang/String;IJI)C" } : Jvm.MethodName) method_3_code (5 : Nat) (Option.some Jvm.ClassFile.FieldType.char)).before args0 about1 = true := code_word (m := ⟨1, 2⟩) (meth := k1m2) (c := k1c2) (by decide +kernel) rfl rfl rfl (by decide +kernel)
set_option maxRecDepth 65536 in
theorem w_c2 : (Jvm.Cond.code ({ cls := "java/lang/String", name := "length", desc := "()I" } : Jvm.MethodName) jdk_42_method_54_code (1 : Nat) (Option.some Jvm.ClassFile.FieldType.int)).before args0 about1 = true := code_word (m := ⟨7, 2⟩) (meth := k7m2) (c := k7c2) (by decide +kernel) rfl rfl rfl (by decide +kernel)
set_option maxRecDepth 65536 in
theorem w_c3 : (Jvm.Cond.code ({ cls := "java/lang/String", name := "coder", desc := "()B" } : Jvm.MethodName) jdk_42_method_152_code (1 : Nat) (Option.some Jvm.ClassFile.FieldType.byte)).before args0 about1 = true := code_word (m := ⟨7, 6⟩) (meth := k7m6) (c := k7c6) (by decide +kernel) rfl rfl rfl (by decide +kernel)
set_option maxRecDepth 65536 in
theorem w_c4 : (Jvm.Cond.code ({ cls := "java/lang/String", name := "charAt", desc := "(I)C" } : Jvm.MethodName) jdk_42_method_56_code (2 : Nat) (Option.some Jvm.ClassFile.FieldType.char)).before args0 about1 = true := code_word (m := ⟨7, 3⟩) (meth := k7m3) (c := k7c3) (by decide +kernel) rfl rfl rfl (by decide +kernel)
set_option maxRecDepth 65536 in
theorem w_c5 : (Jvm.Cond.code ({ cls := "java/lang/String", name := "isLatin1", desc := "()Z" } : Jvm.MethodName) jdk_42_method_154_code (1 : Nat) (Option.some Jvm.ClassFile.FieldType.boolean)).before args0 about1 = true := code_word (m := ⟨7, 7⟩) (meth := k7m7) (c := k7c7) (by decide +kernel) rfl rfl rfl (by decide +kernel)
set_option maxRecDepth 65536 in
theorem w_c6 : (Jvm.Cond.code ({ cls := "java/lang/StringLatin1", name := "charAt", desc := "([BI)C" } : Jvm.MethodName) jdk_43_method_2_code (2 : Nat) (Option.some Jvm.ClassFile.FieldType.char)).before args0 about1 = true := code_word (m := ⟨8, 1⟩) (meth := k8m1) (c := k8c1) (by decide +kernel) rfl rfl rfl (by decide +kernel)
set_option maxRecDepth 65536 in
theorem w_c7 : (Jvm.Cond.code ({ cls := "java/lang/String", name := "checkIndex", desc := "(II)V" } : Jvm.MethodName) jdk_42_method_155_code (2 : Nat) (Option.none : Option Jvm.ClassFile.FieldType)).before args0 about1 = true := code_word (m := ⟨7, 8⟩) (meth := k7m8) (c := k7c8) (by decide +kernel) rfl rfl rfl (by decide +kernel)
set_option maxRecDepth 65536 in
theorem w_c8 : (Jvm.Cond.code ({ cls := "jdk/internal/util/Preconditions", name := "checkIndex", desc := "(IILjava/util/function/BiFunction;)I" } : Jvm.MethodName) jdk_41_method_11_code (3 : Nat) (Option.some Jvm.ClassFile.FieldType.int)).before args0 about1 = true := code_word (m := ⟨9, 1⟩) (meth := k9m1) (c := k9c1) (by decide +kernel) rfl rfl rfl (by decide +kernel)
set_option maxRecDepth 65536 in
theorem w_c9 : (Jvm.Cond.code ({ cls := "com/example/needlework/needlework/AlgorithmNamedPinLaw", name := "str", desc := "(I[C)Ljava/lang/String;" } : Jvm.MethodName) method_4_code (2 : Nat) (Option.some (Jvm.ClassFile.FieldType.object "java/lang/String"))).before args0 about1 = true := code_word (m := ⟨1, 3⟩) (meth := k1m3) (c := k1c3) (by decide +kernel) rfl rfl rfl (by decide +kernel)
set_option maxRecDepth 65536 in
theorem w_c10 : (Jvm.Cond.code ({ cls := "java/lang/String", name := "<init>", desc := "([C)V" } : Jvm.MethodName) jdk_42_method_3_code (2 : Nat) (Option.none : Option Jvm.ClassFile.FieldType)).before args0 about1 = true := code_word (m := ⟨7, 1⟩) (meth := k7m1) (c := k7c1) (by decide +kernel) rfl rfl rfl (by decide +kernel)
set_option maxRecDepth 65536 in
theorem w_c11 : (Jvm.Cond.code ({ cls := "java/lang/String", name := "<init>", desc := "([CIILjava/lang/Void;)V" } : Jvm.MethodName) jdk_42_method_149_code (6 : Nat) (Option.none : Option Jvm.ClassFile.FieldType)).before args0 about1 = true := code_word (m := ⟨7, 5⟩) (meth := k7m5) (c := k7c5) (by decide +kernel) rfl rfl rfl (by decide +kernel)
set_option maxRecDepth 65536 in
theorem w_c12 : (Jvm.Cond.code ({ cls := "java/lang/Object", name := "<init>", desc := "()V" } : Jvm.MethodName) object_method_1_code (1 : Nat) (Option.none : Option Jvm.ClassFile.FieldType)).before args0 about1 = true := code_word (m := ⟨0, 0⟩) (meth := k0m0) (c := k0c0) (by decide +kernel) rfl rfl rfl (by decide +kernel)
set_option maxRecDepth 65536 in
theorem w_c13 : (Jvm.Cond.code ({ cls := "java/lang/String", name := "equals", desc := "(Ljava/lang/Object;)Z" } : Jvm.MethodName) jdk_42_method_66_code (3 : Nat) (Option.some Jvm.ClassFile.FieldType.boolean)).before args0 about1 = true := code_word (m := ⟨7, 4⟩) (meth := k7m4) (c := k7c4) (by decide +kernel) rfl rfl rfl (by decide +kernel)
set_option maxRecDepth 65536 in
theorem w_c14 : (Jvm.Cond.code ({ cls := "java/lang/StringLatin1", name := "equals", desc := "([B[B)Z" } : Jvm.MethodName) jdk_43_method_13_code (3 : Nat) (Option.some Jvm.ClassFile.FieldType.boolean)).before args0 about1 = true := code_word (m := ⟨8, 2⟩) (meth := k8m2) (c := k8c2) (by decide +kernel) rfl rfl rfl (by decide +kernel)
set_option maxRecDepth 65536 in
theorem w_c15 : (Jvm.Cond.code ({ cls := "com/example/needlework/needlework/Algorithm", name := "named", desc := "(Ljava/lang/String;)Ljava/util/Optional;" } : Jvm.MethodName) prog_1_method_4_code (5 : Nat) (Option.some (Jvm.ClassFile.FieldType.object "java/util/Optional"))).before args0 about1 = true := code_word (m := ⟨11, 1⟩) (meth := k11m1) (c := k11c1) (by decide +kernel) rfl rfl rfl (by decide +kernel)
set_option maxRecDepth 65536 in
theorem w_c16 : (Jvm.Cond.code ({ cls := "com/example/needlework/needlework/Algorithm", name := "values", desc := "()[Lcom/example/needlework/needlework/Algorithm;" } : Jvm.MethodName) prog_1_method_1_code (0 : Nat) (Option.some (Jvm.ClassFile.FieldType.array (Jvm.ClassFile.FieldType.object "com/example/needlework/needlework/Algorithm")))).before args0 about1 = true := code_word (m := ⟨11, 0⟩) (meth := k11m0) (c := k11c0) (by decide +kernel) rfl rfl rfl (by decide +kernel)
set_option maxRecDepth 65536 in
theorem w_c17 : (Jvm.Cond.code ({ cls := "java/util/Optional", name := "empty", desc := "()Ljava/util/Optional;" } : Jvm.MethodName) jdk_32_method_1_code (1 : Nat) (Option.some (Jvm.ClassFile.FieldType.object "java/util/Optional"))).before args0 about1 = true := code_word (m := ⟨13, 0⟩) (meth := k13m0) (c := k13c0) (by decide +kernel) rfl rfl rfl (by decide +kernel)
set_option maxRecDepth 65536 in
theorem w_c18 : (Jvm.Cond.code ({ cls := "java/util/Optional", name := "orElse", desc := "(Ljava/lang/Object;)Ljava/lang/Object;" } : Jvm.MethodName) jdk_32_method_15_code (2 : Nat) (Option.some (Jvm.ClassFile.FieldType.object "java/lang/Object"))).before args0 about1 = true := code_word (m := ⟨13, 3⟩) (meth := k13m3) (c := k13c3) (by decide +kernel) rfl rfl rfl (by decide +kernel)
set_option maxRecDepth 65536 in
theorem w_c19 : (Jvm.Cond.code ({ cls := "java/lang/StringUTF16", name := "compress", desc := "([CII)[B" } : Jvm.MethodName) jdk_52_method_16_code (6 : Nat) (Option.some (Jvm.ClassFile.FieldType.array Jvm.ClassFile.FieldType.byte))).before args0 about1 = true := code_word (m := ⟨14, 2⟩) (meth := k14m2) (c := k14c2) (by decide +kernel) rfl rfl rfl (by decide +kernel)
set_option maxRecDepth 65536 in
theorem w_c20 : (Jvm.Cond.code ({ cls := "java/lang/StringUTF16", name := "compress", desc := "([CI[BII)I" } : Jvm.MethodName) jdk_52_method_21_code (7 : Nat) (Option.some Jvm.ClassFile.FieldType.int)).before args0 about1 = true := code_word (m := ⟨14, 3⟩) (meth := k14m3) (c := k14c3) (by decide +kernel) rfl rfl rfl (by decide +kernel)
set_option maxRecDepth 65536 in
theorem w_c21 : (Jvm.Cond.code ({ cls := "java/lang/StringUTF16", name := "coderFromArrayLen", desc := "([BI)B" } : Jvm.MethodName) jdk_52_method_15_code (2 : Nat) (Option.some Jvm.ClassFile.FieldType.byte)).before args0 about1 = true := code_word (m := ⟨14, 1⟩) (meth := k14m1) (c := k14c1) (by decide +kernel) rfl rfl rfl (by decide +kernel)
set_option maxRecDepth 65536 in
theorem w_c22 : (Jvm.Cond.code ({ cls := "java/util/Optional", name := "of", desc := "(Ljava/lang/Object;)Ljava/util/Optional;" } : Jvm.MethodName) jdk_32_method_3_code (1 : Nat) (Option.some (Jvm.ClassFile.FieldType.object "java/util/Optional"))).before args0 about1 = true := code_word (m := ⟨13, 2⟩) (meth := k13m2) (c := k13c2) (by decide +kernel) rfl rfl rfl (by decide +kernel)
set_option maxRecDepth 65536 in
theorem w_c23 : (Jvm.Cond.code ({ cls := "java/util/Objects", name := "requireNonNull", desc := "(Ljava/lang/Object;)Ljava/lang/Object;" } : Jvm.MethodName) jdk_31_method_10_code (1 : Nat) (Option.some (Jvm.ClassFile.FieldType.object "java/lang/Object"))).before args0 about1 = true := code_word (m := ⟨15, 1⟩) (meth := k15m1) (c := k15c1) (by decide +kernel) rfl rfl rfl (by decide +kernel)
set_option maxRecDepth 65536 in
theorem w_c24 : (Jvm.Cond.code ({ cls := "java/util/Optional", name := "<init>", desc := "(Ljava/lang/Object;)V" } : Jvm.MethodName) jdk_32_method_2_code (2 : Nat) (Option.none : Option Jvm.ClassFile.FieldType)).before args0 about1 = true := code_word (m := ⟨13, 1⟩) (meth := k13m1) (c := k13c1) (by decide +kernel) rfl rfl rfl (by decide +kernel)
def codes1 : List Jvm.Cond := [Jvm.Cond.code x code maxLocals ret, Jvm.Cond.code ({ cls := "com/example/needlework/needlework/AlgorithmNamedPinLaw", name := "at", desc := "(Ljava/lang/String;IJI)C" } : Jvm.MethodName) method_3_code (5 : Nat) (Option.some Jvm.ClassFile.FieldType.char), Jvm.Cond.code ({ cls := "java/lang/String", name := "length", desc := "()I" } : Jvm.MethodName) jdk_42_method_54_code (1 : Nat) (Option.some Jvm.ClassFile.FieldType.int), Jvm.Cond.code ({ cls := "java/lang/String", name := "coder", desc := "()B" } : Jvm.MethodName) jdk_42_method_152_code (1 : Nat) (Option.some Jvm.ClassFile.FieldType.byte), Jvm.Cond.code ({ cls := "java/lang/String", name := "charAt", desc := "(I)C" } : Jvm.MethodName) jdk_42_method_56_code (2 : Nat) (Option.some Jvm.ClassFile.FieldType.char), Jvm.Cond.code ({ cls := "java/lang/String", name := "isLatin1", desc := "()Z" } : Jvm.MethodName) jdk_42_method_154_code (1 : Nat) (Option.some Jvm.ClassFile.FieldType.boolean), Jvm.Cond.code ({ cls := "java/lang/StringLatin1", name := "charAt", desc := "([BI)C" } : Jvm.MethodName) jdk_43_method_2_code (2 : Nat) (Option.some Jvm.ClassFile.FieldType.char), Jvm.Cond.code ({ cls := "java/lang/String", name := "checkIndex", desc := "(II)V" } : Jvm.MethodName) jdk_42_method_155_code (2 : Nat) (Option.none : Option Jvm.ClassFile.FieldType), Jvm.Cond.code ({ cls := "jdk/internal/util/Preconditions", name := "checkIndex", desc := "(IILjava/util/function/BiFunction;)I" } : Jvm.MethodName) jdk_41_method_11_code (3 : Nat) (Option.some Jvm.ClassFile.FieldType.int), Jvm.Cond.code ({ cls := "com/example/needlework/needlework/AlgorithmNamedPinLaw", name := "str", desc := "(I[C)Ljava/lang/String;" } : Jvm.MethodName) method_4_code (2 : Nat) (Option.some (Jvm.ClassFile.FieldType.object "java/lang/String")), Jvm.Cond.code ({ cls := "java/lang/String", name := "<init>", desc := "([C)V" } : Jvm.MethodName) jdk_42_method_3_code (2 : Nat) (Option.none : Option Jvm.ClassFile.FieldType), Jvm.Cond.code ({ cls := "java/lang/String", name := "<init>", desc := "([CIILjava/lang/Void;)V" } : Jvm.MethodName) jdk_42_method_149_code (6 : Nat) (Option.none : Option Jvm.ClassFile.FieldType), Jvm.Cond.code ({ cls := "java/lang/Object", name := "<init>", desc := "()V" } : Jvm.MethodName) object_method_1_code (1 : Nat) (Option.none : Option Jvm.ClassFile.FieldType), Jvm.Cond.code ({ cls := "java/lang/String", name := "equals", desc := "(Ljava/lang/Object;)Z" } : Jvm.MethodName) jdk_42_method_66_code (3 : Nat) (Option.some Jvm.ClassFile.FieldType.boolean), Jvm.Cond.code ({ cls := "java/lang/StringLatin1", name := "equals", desc := "([B[B)Z" } : Jvm.MethodName) jdk_43_method_13_code (3 : Nat) (Option.some Jvm.ClassFile.FieldType.boolean), Jvm.Cond.code ({ cls := "com/example/needlework/needlework/Algorithm", name := "named", desc := "(Ljava/lang/String;)Ljava/util/Optional;" } : Jvm.MethodName) prog_1_method_4_code (5 : Nat) (Option.some (Jvm.ClassFile.FieldType.object "java/util/Optional")), Jvm.Cond.code ({ cls := "com/example/needlework/needlework/Algorithm", name := "values", desc := "()[Lcom/example/needlework/needlework/Algorithm;" } : Jvm.MethodName) prog_1_method_1_code (0 : Nat) (Option.some (Jvm.ClassFile.FieldType.array (Jvm.ClassFile.FieldType.object "com/example/needlework/needlework/Algorithm"))), Jvm.Cond.code ({ cls := "java/util/Optional", name := "empty", desc := "()Ljava/util/Optional;" } : Jvm.MethodName) jdk_32_method_1_code (1 : Nat) (Option.some (Jvm.ClassFile.FieldType.object "java/util/Optional")), Jvm.Cond.code ({ cls := "java/util/Optional", name := "orElse", desc := "(Ljava/lang/Object;)Ljava/lang/Object;" } : Jvm.MethodName) jdk_32_method_15_code (2 : Nat) (Option.some (Jvm.ClassFile.FieldType.object "java/lang/Object")), Jvm.Cond.code ({ cls := "java/lang/StringUTF16", name := "compress", desc := "([CII)[B" } : Jvm.MethodName) jdk_52_method_16_code (6 : Nat) (Option.some (Jvm.ClassFile.FieldType.array Jvm.ClassFile.FieldType.byte)), Jvm.Cond.code ({ cls := "java/lang/StringUTF16", name := "compress", desc := "([CI[BII)I" } : Jvm.MethodName) jdk_52_method_21_code (7 : Nat) (Option.some Jvm.ClassFile.FieldType.int), Jvm.Cond.code ({ cls := "java/lang/StringUTF16", name := "coderFromArrayLen", desc := "([BI)B" } : Jvm.MethodName) jdk_52_method_15_code (2 : Nat) (Option.some Jvm.ClassFile.FieldType.byte), Jvm.Cond.code ({ cls := "java/util/Optional", name := "of", desc := "(Ljava/lang/Object;)Ljava/util/Optional;" } : Jvm.MethodName) jdk_32_method_3_code (1 : Nat) (Option.some (Jvm.ClassFile.FieldType.object "java/util/Optional")), Jvm.Cond.code ({ cls := "java/util/Objects", name := "requireNonNull", desc := "(Ljava/lang/Object;)Ljava/lang/Object;" } : Jvm.MethodName) jdk_31_method_10_code (1 : Nat) (Option.some (Jvm.ClassFile.FieldType.object "java/lang/Object")), Jvm.Cond.code ({ cls := "java/util/Optional", name := "<init>", desc := "(Ljava/lang/Object;)V" } : Jvm.MethodName) jdk_32_method_2_code (2 : Nat) (Option.none : Option Jvm.ClassFile.FieldType)]
set_option maxRecDepth 65536 in
theorem codes_eq : words1.filter isCode = codes1 := rfl
theorem w_codes : ∀ c ∈ words1.filter isCode, c.before args0 about1 = true := by
  rw [codes_eq]
  intro c hc
  simp only [codes1, List.mem_cons, List.not_mem_nil, or_false] at hc
  rcases hc with rfl | rfl | rfl | rfl | rfl | rfl | rfl | rfl | rfl | rfl | rfl | rfl | rfl | rfl | rfl | rfl | rfl | rfl | rfl | rfl | rfl | rfl | rfl | rfl | rfl
  · exact w_c0
  · exact w_c1
  · exact w_c2
  · exact w_c3
  · exact w_c4
  · exact w_c5
  · exact w_c6
  · exact w_c7
  · exact w_c8
  · exact w_c9
  · exact w_c10
  · exact w_c11
  · exact w_c12
  · exact w_c13
  · exact w_c14
  · exact w_c15
  · exact w_c16
  · exact w_c17
  · exact w_c18
  · exact w_c19
  · exact w_c20
  · exact w_c21
  · exact w_c22
  · exact w_c23
  · exact w_c24
set_option maxRecDepth 65536 in
theorem w_t1 : (words1.take 24).all (fun c => isCode c || c.before args0 about1) = true := by decide +kernel
set_option maxRecDepth 65536 in
theorem w_t2 : ((words1.drop 24).take 24).all (fun c => isCode c || c.before args0 about1) = true := by decide +kernel
set_option maxRecDepth 65536 in
theorem w_t3 : (((words1.drop 24).drop 24).take 24).all (fun c => isCode c || c.before args0 about1) = true := by decide +kernel
set_option maxRecDepth 65536 in
theorem w_t4 : ((((words1.drop 24).drop 24).drop 24).take 24).all (fun c => isCode c || c.before args0 about1) = true := by decide +kernel
set_option maxRecDepth 65536 in
theorem w_t5 : (((((words1.drop 24).drop 24).drop 24).drop 24).take 24).all (fun c => isCode c || c.before args0 about1) = true := by decide +kernel
set_option maxRecDepth 65536 in
theorem w_t6 : ((((((words1.drop 24).drop 24).drop 24).drop 24).drop 24).take 24).all (fun c => isCode c || c.before args0 about1) = true := by decide +kernel
set_option maxRecDepth 65536 in
theorem w_t7 : ((((((words1.drop 24).drop 24).drop 24).drop 24).drop 24).drop 24).all (fun c => isCode c || c.before args0 about1) = true := by decide +kernel
theorem w_tables : (allAtoms (Jvm.Cond.code x code maxLocals ret :: tables_1)).before args0 about1 = true := by
  rw [allAtoms_all]
  show words1.all (fun c => c.before args0 about1) = true
  refine all_split ?_ w_codes
  rw [← List.take_append_drop 24 words1, List.all_append, w_t1, ← List.take_append_drop 24 (words1.drop 24), List.all_append, w_t2, ← List.take_append_drop 24 ((words1.drop 24).drop 24), List.all_append, w_t3, ← List.take_append_drop 24 (((words1.drop 24).drop 24).drop 24), List.all_append, w_t4, ← List.take_append_drop 24 ((((words1.drop 24).drop 24).drop 24).drop 24), List.all_append, w_t5, ← List.take_append_drop 24 (((((words1.drop 24).drop 24).drop 24).drop 24).drop 24), List.all_append, w_t6, w_t7]
  rfl
set_option maxRecDepth 65536 in
theorem w_rest : rest_1_c.before args0 about1 = true := by decide +kernel
set_option maxRecDepth 65536 in
theorem w_case : (Jvm.Cond.and given_1 narrow_1).before args0 about1 = true := by decide +kernel
set_option maxRecDepth 65536 in
theorem w_consts : constsHeld consts_1 about1 := Jvm.Lit.constsHeldB_iff.mp (by decide +kernel)
theorem w_applies : (headSpec (Jvm.Cond.code x code maxLocals ret :: tables_1) room_1).applies x e0.platform about1 = true :=
  (Spec.applies_iff w_frames).mpr ⟨w_running, w_runnable, w_alone, w_named, w_hears, w_ripe, w_room, w_tables⟩
theorem atStart : AtStart classFile x code maxLocals ret World_1 tables_1 room_1 Calls_1 rest_1 Pre_1 launch0 p0 e0 about1 theMethod args0 below0 :=
  ⟨lists_1, trivial, launch0.admits_env _ _ _, launch0.least_env, fairChoices_fair.cas, fairChoices_fair.clock, w_frames, w_args, w_heap, w_applies, ⟨w_consts, trivial⟩, w_rest, w_case⟩
end start1
theorem witness_1 : WitnessClaimed_1 := ⟨start1.p0, start1.e0, start1.about1, start1.theMethod, start1.args0, start1.below0, start1.atStart⟩
end Jvm.Pilot.@@N@@
