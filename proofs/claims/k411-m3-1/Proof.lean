import JvmDerived
import JvmDerived.Pilot.@@N@@Statement
import JvmDerived.Pilot.@@N@@Code
set_option linter.unusedVariables false
set_option linter.unusedSimpArgs false
namespace Jvm.OwnWalk
open Sem ClassFile Op Lib Jvm.Stand Jvm.Free Jvm.LawKit Jvm.RoadKit
/-- from t the run comes to an end of which P holds -/
def Win (tb : Tables) (e : Env) (below : List Frame) (P : State → Outcome → Prop) (t : State) : Prop :=
  ∃ s₂ o, Steps tb e below t s₂ ∧ s₂.status = .running ∧ Ended s₂ below o ∧ P s₂ o
theorem Win.go {tb : Tables} {e : Env} {below : List Frame} {P : State → Outcome → Prop} {t t' : State} (st : ∀ z, Steps tb e below t' z → Steps tb e below t z) (w : Win tb e below P t') : Win tb e below P t := by
  obtain ⟨s2, o, h, r⟩ := w; exact ⟨s2, o, st _ h, r⟩
theorem Win.come {tb : Tables} {e : Env} {below : List Frame} {P : State → Outcome → Prop} {t t' : State} (st : Steps tb e below t t') (w : Win tb e below P t') : Win tb e below P t := by
  obtain ⟨s2, o, h, r⟩ := w; exact ⟨s2, o, st.trans h, r⟩
/-- the body has returned v with the heap h, L written -/
def PostQ (s : State) (Q : Option Value → Heap → List Loc → Prop) (C S : Nat) (u : State) (o : Outcome) : Prop := ∃ v L, o = .returned v ∧ Q v u.heap L ∧ FrameEnd s o u L C S
section Ret
variable {p : Program} {l : Launch} {e : Env} {R : Room} {s : State} {m : MethodId} {args : Array Value} {below : List Frame} {meth : Method} {c : Code} {T : State} {locs : List Loc} {cells slots : Nat} {h : Heap} {Q : Option Value → Heap → List Loc → Prop} {C S : Nat}
theorem retI' (X : Stand p l e R s m args below meth c T locs cells slots) (hx : p.tables.exec = Jvm.exec) {pc : Nat} {Ls : Array Slot} {z : Int32} {rest : List Value} (hret : meth.sig.returnType = some .int) (hd : decode c.code pc = .ok (.ireturn, 1)) {fs : List Frame}
    (hl : ∀ (f : JFrame) (acts : List Action), f.method = m → f.locked = none → f.entered = [] → (doReturn e (T.setTop f) acts (some (.int z))).1 = T.setFrames fs) : Steps p.tables e below (T.setTop (mkF m pc Ls (.int z :: rest))) (T.setFrames fs) := by
  have hm' : T.vm.method? m = some meth := X.method'
  have hn : narrow .int (.int z) = .int z := rfl
  show Steps p.tables e below (T.setTop { method := m, pc := pc, locals := Ls, stack := _ :: rest, locked := none }) _
  jvm_step X.here [X.here.top, hx, hd, hm', hret, hn]
  first | (intro acts; rw [hl _ acts rfl rfl rfl]) | rw [hl _ _ rfl rfl rfl]
  exact Steps.refl _
theorem retA' (X : Stand p l e R s m args below meth c T locs cells slots) (hx : p.tables.exec = Jvm.exec) {pc : Nat} {Ls : Array Slot} {w : Value} {t : FieldType} (hret : meth.sig.returnType = some t) (ht : t.isReference = true) (hv : w.isRef = true) (hd : decode c.code pc = .ok (.areturn, 1)) {fs : List Frame}
    (hl : ∀ (f : JFrame) (acts : List Action), f.method = m → f.locked = none → f.entered = [] → (doReturn e (T.setTop f) acts (some w)).1 = T.setFrames fs) : Steps p.tables e below (T.setTop (mkF m pc Ls [w])) (T.setFrames fs) := by
  have hm' : T.vm.method? m = some meth := X.method'
  show Steps p.tables e below (T.setTop { method := m, pc := pc, locals := Ls, stack := [w], locked := none }) _
  jvm_step X.here [X.here.top, hx, hd, hm', hret, hv, ht]
  first | (intro acts; rw [hl _ acts rfl rfl rfl]) | rw [hl _ _ rfl rfl rfl]
  exact Steps.refl _
theorem winI (X : Stand p l e R s m args below meth c T locs cells slots) (hx : p.tables.exec = Jvm.exec) (hlk : meth.locks = false) (eT : T.heap = h) {pc : Nat} {Ls : Array Slot} {z : Int32} {rest : List Value} (hret : meth.sig.returnType = some .int) (hd : decode c.code pc = .ok (.ireturn, 1))
    (hc : cells ≤ C) (hs : slots ≤ S) (hQ : Q (some (.int z)) h locs) : Win p.tables e below (PostQ s Q C S) (T.setTop (mkF m pc Ls (.int z :: rest))) := by
  subst eT
  obtain ⟨fs, hr, hrun, hended, hW, hsame⟩ := X.leave (v := some (.int z)) (fun h => by rw [hret] at h; cases h) hlk
  exact ⟨_, _, retI' X hx hret hd hr, hrun, hended, _, _, rfl, hQ, ⟨_, rfl⟩, hW, hsame.mono hc hs⟩
theorem winN (X : Stand p l e R s m args below meth c T locs cells slots) (hx : p.tables.exec = Jvm.exec) (hlk : meth.locks = false) (eT : T.heap = h) {pc : Nat} {Ls : Array Slot} {z z' : Int32} {rest : List Value} {t : FieldType} (hret : meth.sig.returnType = some t) (ht : t = .boolean ∨ t = .byte ∨ t = .char ∨ t = .short) (hd : decode c.code pc = .ok (.ireturn, 1))
    (hc : cells ≤ C) (hs : slots ≤ S) (hz : nar t z = z') (hQ : Q (some (.int z')) h locs) : Win p.tables e below (PostQ s Q C S) (T.setTop (mkF m pc Ls (.int z :: rest))) := by
  subst eT hz
  obtain ⟨fs, hr, hrun, hended, hW, hsame⟩ := X.leave (v := some (.int (nar t z))) (fun h => by rw [hret] at h; cases h) hlk
  exact ⟨_, _, retN X hx hret ht hd hr, hrun, hended, _, _, rfl, hQ, ⟨_, rfl⟩, hW, hsame.mono hc hs⟩
theorem winL (X : Stand p l e R s m args below meth c T locs cells slots) (hx : p.tables.exec = Jvm.exec) (hlk : meth.locks = false) (eT : T.heap = h) {pc : Nat} {Ls : Array Slot} {z : Int64} (hret : meth.sig.returnType = some .long) (hd : decode c.code pc = .ok (.lreturn, 1))
    (hc : cells ≤ C) (hs : slots ≤ S) (hQ : Q (some (.long z)) h locs) : Win p.tables e below (PostQ s Q C S) (T.setTop (mkF m pc Ls [.long z])) := by
  subst eT
  obtain ⟨fs, hr, hrun, hended, hW, hsame⟩ := X.leave (v := some (.long z)) (fun h => by rw [hret] at h; cases h) hlk
  exact ⟨_, _, X.lreturnOut hx hret hd hr, hrun, hended, _, _, rfl, hQ, ⟨_, rfl⟩, hW, hsame.mono hc hs⟩
theorem winA (X : Stand p l e R s m args below meth c T locs cells slots) (hx : p.tables.exec = Jvm.exec) (hlk : meth.locks = false) (eT : T.heap = h) {pc : Nat} {Ls : Array Slot} {w : Value} {t : FieldType} (hret : meth.sig.returnType = some t) (ht : t.isReference = true) (hv : w.isRef = true) (hd : decode c.code pc = .ok (.areturn, 1))
    (hc : cells ≤ C) (hs : slots ≤ S) (hQ : Q (some w) h locs) : Win p.tables e below (PostQ s Q C S) (T.setTop (mkF m pc Ls [w])) := by
  subst eT
  obtain ⟨fs, hr, hrun, hended, hW, hsame⟩ := X.leave (v := some w) (fun h => by rw [hret] at h; cases h) hlk
  exact ⟨_, _, retA' X hx hret ht hv hd hr, hrun, hended, _, _, rfl, hQ, ⟨_, rfl⟩, hW, hsame.mono hc hs⟩
theorem winV (X : Stand p l e R s m args below meth c T locs cells slots) (hx : p.tables.exec = Jvm.exec) (hlk : meth.locks = false) (eT : T.heap = h) {pc : Nat} {Ls : Array Slot} (hret : meth.sig.returnType = none) (hd : decode c.code pc = .ok (.return_, 1))
    (hc : cells ≤ C) (hs : slots ≤ S) (hQ : Q none h locs) : Win p.tables e below (PostQ s Q C S) (T.setTop (mkF m pc Ls [])) := by
  subst eT
  obtain ⟨fs, hr, hrun, hended, hW, hsame⟩ := X.leave (v := none) (fun _ => rfl) hlk
  exact ⟨_, _, X.returnOut hx hret hd hr, hrun, hended, _, _, rfl, hQ, ⟨_, rfl⟩, hW, hsame.mono hc hs⟩
def PostQW (s : State) (Q : Option Value → Heap → List Loc → Prop) (C S : Nat) (u : State) (o : Outcome) : Prop := ∃ v L, o = .returned v ∧ Q v u.heap L ∧ ReturnedEndW s o u L C S
theorem winNW {vm0 : Vm} {k0 : Nat} (hS : s.Since vm0 k0) (hk : k0 ≤ h.size) (X : Stand p l e R (s.setVm vm0) m args below meth c T locs cells slots) (hx : p.tables.exec = Jvm.exec) (hlk : meth.locks = false) (eT : T.heap = h) {pc : Nat} {Ls : Array Slot} {z z' : Int32} {rest : List Value} {t : FieldType} (hret : meth.sig.returnType = some t) (ht : t = .boolean ∨ t = .byte ∨ t = .char ∨ t = .short) (hd : decode c.code pc = .ok (.ireturn, 1))
    (hc : cells ≤ C) (hs : slots ≤ S) (hz : nar t z = z') (hQ : Q (some (.int z')) h locs) : Win p.tables e below (PostQW s Q C S) (T.setTop (mkF m pc Ls (.int z :: rest))) := by
  subst eT hz
  obtain ⟨fs, hr, hrun, hended, h1, h2, h3, h4⟩ := X.leaveW hS hk (v := some (.int (nar t z))) (fun h => by rw [hret] at h; cases h) hlk
  exact ⟨_, _, retN X hx hret ht hd hr, hrun, hended, _, _, rfl, hQ, ⟨_, rfl⟩, h2, h3, h4.mono hc hs⟩
end Ret
section Steps
variable {tb : Tables} [Ours tb] {e : Env} {below : List Frame} {P : State → Outcome → Prop} {T : State} {m : MethodId} {c : Code} {pc pc' : Nat} {ls : Array Slot} {st : List Value}
theorem s_iloadN {k : Fin 4} {v : Int32} (h : At T m c below) (hx : tb.exec = Jvm.exec) (hd : decode c.code pc = .ok (.iload_n k, 1)) (hp : pc + 1 = pc') (hl : ls[k.val]? = some (.val (.int v))) (w : Win tb e below P (T.setTop (mkF m pc' ls (.int v :: st)))) : Win tb e below P (T.setTop (mkF m pc ls st)) := by
  subst hp; exact Win.go (fun _ k => XS.iloadN h hx rfl hd hl k) w
theorem s_iload {k : Nat} {v : Int32} (h : At T m c below) (hx : tb.exec = Jvm.exec) (hd : decode c.code pc = .ok (.iload k, 2)) (hp : pc + 2 = pc') (hl : ls[k]? = some (.val (.int v))) (w : Win tb e below P (T.setTop (mkF m pc' ls (.int v :: st)))) : Win tb e below P (T.setTop (mkF m pc ls st)) := by
  subst hp; exact Win.go (fun _ k => XS.iload h hx rfl hd hl k) w
theorem s_lloadN {k : Fin 4} {v : Int64} (h : At T m c below) (hx : tb.exec = Jvm.exec) (hd : decode c.code pc = .ok (.lload_n k, 1)) (hp : pc + 1 = pc') (hl : ls[k.val]? = some (.val (.long v))) (w : Win tb e below P (T.setTop (mkF m pc' ls (.long v :: st)))) : Win tb e below P (T.setTop (mkF m pc ls st)) := by
  subst hp; exact Win.go (fun _ k => XS.lloadN h hx rfl hd hl k) w
theorem s_lload {k : Nat} {v : Int64} (h : At T m c below) (hx : tb.exec = Jvm.exec) (hd : decode c.code pc = .ok (.lload k, 2)) (hp : pc + 2 = pc') (hl : ls[k]? = some (.val (.long v))) (w : Win tb e below P (T.setTop (mkF m pc' ls (.long v :: st)))) : Win tb e below P (T.setTop (mkF m pc ls st)) := by
  subst hp; exact Win.go (fun _ k => XS.lload h hx rfl hd hl k) w
theorem s_aloadN {k : Fin 4} {v : Value} (h : At T m c below) (hx : tb.exec = Jvm.exec) (hd : decode c.code pc = .ok (.aload_n k, 1)) (hp : pc + 1 = pc') (hl : ls[k.val]? = some (.val v)) (hv : v.isRef = true) (w : Win tb e below P (T.setTop (mkF m pc' ls (v :: st)))) : Win tb e below P (T.setTop (mkF m pc ls st)) := by
  subst hp; exact Win.go (fun _ k => XS.aloadN h hx rfl hd hl hv k) w
theorem s_aload {k : Nat} {v : Value} (h : At T m c below) (hx : tb.exec = Jvm.exec) (hd : decode c.code pc = .ok (.aload k, 2)) (hp : pc + 2 = pc') (hl : ls[k]? = some (.val v)) (hv : v.isRef = true) (w : Win tb e below P (T.setTop (mkF m pc' ls (v :: st)))) : Win tb e below P (T.setTop (mkF m pc ls st)) := by
  subst hp; exact Win.go (fun _ k => XS.aload h hx rfl hd hl hv k) w
theorem s_iadd {x y : Int32} (h : At T m c below) (hx : tb.exec = Jvm.exec) (hd : decode c.code pc = .ok (.iadd, 1)) (hp : pc + 1 = pc') (w : Win tb e below P (T.setTop (mkF m pc' ls (.int (x + y) :: st)))) : Win tb e below P (T.setTop (mkF m pc ls (.int y :: .int x :: st))) := by
  subst hp; exact Win.go (fun _ k => XS.iadd h hx rfl hd rfl k) w
theorem s_isub {x y : Int32} (h : At T m c below) (hx : tb.exec = Jvm.exec) (hd : decode c.code pc = .ok (.isub, 1)) (hp : pc + 1 = pc') (w : Win tb e below P (T.setTop (mkF m pc' ls (.int (x - y) :: st)))) : Win tb e below P (T.setTop (mkF m pc ls (.int y :: .int x :: st))) := by
  subst hp; exact Win.go (fun _ k => XS.isub h hx rfl hd rfl k) w
theorem s_imul {x y : Int32} (h : At T m c below) (hx : tb.exec = Jvm.exec) (hd : decode c.code pc = .ok (.imul, 1)) (hp : pc + 1 = pc') (w : Win tb e below P (T.setTop (mkF m pc' ls (.int (x * y) :: st)))) : Win tb e below P (T.setTop (mkF m pc ls (.int y :: .int x :: st))) := by
  subst hp; exact Win.go (fun _ k => XS.imul h hx rfl hd rfl k) w
theorem s_iand {x y : Int32} (h : At T m c below) (hx : tb.exec = Jvm.exec) (hd : decode c.code pc = .ok (.iand, 1)) (hp : pc + 1 = pc') (w : Win tb e below P (T.setTop (mkF m pc' ls (.int (x &&& y) :: st)))) : Win tb e below P (T.setTop (mkF m pc ls (.int y :: .int x :: st))) := by
  subst hp; exact Win.go (fun _ k => XS.iand h hx rfl hd rfl k) w
theorem s_ior {x y : Int32} (h : At T m c below) (hx : tb.exec = Jvm.exec) (hd : decode c.code pc = .ok (.ior, 1)) (hp : pc + 1 = pc') (w : Win tb e below P (T.setTop (mkF m pc' ls (.int (x ||| y) :: st)))) : Win tb e below P (T.setTop (mkF m pc ls (.int y :: .int x :: st))) := by
  subst hp; exact Win.go (fun _ k => XS.ior h hx rfl hd rfl k) w
theorem s_ixor {x y : Int32} (h : At T m c below) (hx : tb.exec = Jvm.exec) (hd : decode c.code pc = .ok (.ixor, 1)) (hp : pc + 1 = pc') (w : Win tb e below P (T.setTop (mkF m pc' ls (.int (x ^^^ y) :: st)))) : Win tb e below P (T.setTop (mkF m pc ls (.int y :: .int x :: st))) := by
  subst hp; exact Win.go (fun _ k => XS.ixor h hx rfl hd rfl k) w
theorem s_ladd {x y : Int64} (h : At T m c below) (hx : tb.exec = Jvm.exec) (hd : decode c.code pc = .ok (.ladd, 1)) (hp : pc + 1 = pc') (w : Win tb e below P (T.setTop (mkF m pc' ls (.long (x + y) :: st)))) : Win tb e below P (T.setTop (mkF m pc ls (.long y :: .long x :: st))) := by
  subst hp; exact Win.go (fun _ k => XS.ladd h hx rfl hd rfl k) w
theorem s_lsub {x y : Int64} (h : At T m c below) (hx : tb.exec = Jvm.exec) (hd : decode c.code pc = .ok (.lsub, 1)) (hp : pc + 1 = pc') (w : Win tb e below P (T.setTop (mkF m pc' ls (.long (x - y) :: st)))) : Win tb e below P (T.setTop (mkF m pc ls (.long y :: .long x :: st))) := by
  subst hp; exact Win.go (fun _ k => XS.lsub h hx rfl hd rfl k) w
theorem s_lmul {x y : Int64} (h : At T m c below) (hx : tb.exec = Jvm.exec) (hd : decode c.code pc = .ok (.lmul, 1)) (hp : pc + 1 = pc') (w : Win tb e below P (T.setTop (mkF m pc' ls (.long (x * y) :: st)))) : Win tb e below P (T.setTop (mkF m pc ls (.long y :: .long x :: st))) := by
  subst hp; exact Win.go (fun _ k => XS.lmul h hx rfl hd rfl k) w
theorem s_land {x y : Int64} (h : At T m c below) (hx : tb.exec = Jvm.exec) (hd : decode c.code pc = .ok (.land, 1)) (hp : pc + 1 = pc') (w : Win tb e below P (T.setTop (mkF m pc' ls (.long (x &&& y) :: st)))) : Win tb e below P (T.setTop (mkF m pc ls (.long y :: .long x :: st))) := by
  subst hp; exact Win.go (fun _ k => XS.land h hx rfl hd rfl k) w
theorem s_lor {x y : Int64} (h : At T m c below) (hx : tb.exec = Jvm.exec) (hd : decode c.code pc = .ok (.lor, 1)) (hp : pc + 1 = pc') (w : Win tb e below P (T.setTop (mkF m pc' ls (.long (x ||| y) :: st)))) : Win tb e below P (T.setTop (mkF m pc ls (.long y :: .long x :: st))) := by
  subst hp; exact Win.go (fun _ k => XS.lor h hx rfl hd rfl k) w
theorem s_lxor {x y : Int64} (h : At T m c below) (hx : tb.exec = Jvm.exec) (hd : decode c.code pc = .ok (.lxor, 1)) (hp : pc + 1 = pc') (w : Win tb e below P (T.setTop (mkF m pc' ls (.long (x ^^^ y) :: st)))) : Win tb e below P (T.setTop (mkF m pc ls (.long y :: .long x :: st))) := by
  subst hp; exact Win.go (fun _ k => XS.lxor h hx rfl hd rfl k) w
theorem s_iconst {i : Int} {z : Int32} (h : At T m c below) (hx : tb.exec = Jvm.exec) (hd : decode c.code pc = .ok (.iconst i, 1)) (hp : pc + 1 = pc') (hz : Int32.ofInt i = z) (w : Win tb e below P (T.setTop (mkF m pc' ls (.int z :: st)))) : Win tb e below P (T.setTop (mkF m pc ls st)) := by
  subst hp hz; exact Win.go (fun _ k => XS.iconst h hx rfl hd k) w
theorem s_bipush {i : Int} {z : Int32} (h : At T m c below) (hx : tb.exec = Jvm.exec) (hd : decode c.code pc = .ok (.bipush i, 2)) (hp : pc + 2 = pc') (hz : (Int8.ofInt i).toInt32 = z) (w : Win tb e below P (T.setTop (mkF m pc' ls (.int z :: st)))) : Win tb e below P (T.setTop (mkF m pc ls st)) := by
  subst hp hz; exact Win.go (fun _ k => XS.bipush h hx rfl hd k) w
theorem s_sipush {i : Int} {z : Int32} (h : At T m c below) (hx : tb.exec = Jvm.exec) (hd : decode c.code pc = .ok (.sipush i, 3)) (hp : pc + 3 = pc') (hz : (Int16.ofInt i).toInt32 = z) (w : Win tb e below P (T.setTop (mkF m pc' ls (.int z :: st)))) : Win tb e below P (T.setTop (mkF m pc ls st)) := by
  subst hp hz; exact Win.go (fun _ k => XS.sipush h hx rfl hd k) w
theorem s_lconst {i : Fin 2} {z : Int64} (h : At T m c below) (hx : tb.exec = Jvm.exec) (hd : decode c.code pc = .ok (.lconst i, 1)) (hp : pc + 1 = pc') (hz : Int64.ofNat i = z) (w : Win tb e below P (T.setTop (mkF m pc' ls (.long z :: st)))) : Win tb e below P (T.setTop (mkF m pc ls st)) := by
  subst hp hz; exact Win.go (fun _ k => XS.lconst h hx rfl hd k) w
theorem s_goto {o : Int} (h : At T m c below) (hx : tb.exec = Jvm.exec) (hd : decode c.code pc = .ok (.goto o, 3)) (ho : 0 ≤ (pc : Int) + o) (hp : ((pc : Int) + o).toNat = pc') (w : Win tb e below P (T.setTop (mkF m pc' ls st))) : Win tb e below P (T.setTop (mkF m pc ls st)) := by
  exact Win.go (fun _ k => XS.goto h hx rfl rfl hd ho hp k) w
theorem s_icmpYes {cd : ClassFile.Cond} {o : Int} {x y : Int32} (h : At T m c below) (hx : tb.exec = Jvm.exec) (hd : decode c.code pc = .ok (.if_icmp cd o, 3)) (hc : if_icmp.holds cd x y = true) (ho : 0 ≤ (pc : Int) + o) (hp : ((pc : Int) + o).toNat = pc') (w : Win tb e below P (T.setTop (mkF m pc' ls st))) : Win tb e below P (T.setTop (mkF m pc ls (.int y :: .int x :: st))) := by
  exact Win.go (fun _ k => XS.icmpYes h hx rfl rfl hd rfl hc ho hp k) w
theorem s_icmpNo {cd : ClassFile.Cond} {o : Int} {x y : Int32} (h : At T m c below) (hx : tb.exec = Jvm.exec) (hd : decode c.code pc = .ok (.if_icmp cd o, 3)) (hp : pc + 3 = pc') (hc : if_icmp.holds cd x y = false) (w : Win tb e below P (T.setTop (mkF m pc' ls st))) : Win tb e below P (T.setTop (mkF m pc ls (.int y :: .int x :: st))) := by
  subst hp; exact Win.go (fun _ k => XS.icmpNo h hx rfl hd rfl hc k) w
theorem s_ifYes {cd : ClassFile.Cond} {o : Int} {x : Int32} (h : At T m c below) (hx : tb.exec = Jvm.exec) (hd : decode c.code pc = .ok (.ifCond cd o, 3)) (hc : ifCond.holds cd x = true) (ho : 0 ≤ (pc : Int) + o) (hp : ((pc : Int) + o).toNat = pc') (w : Win tb e below P (T.setTop (mkF m pc' ls st))) : Win tb e below P (T.setTop (mkF m pc ls (.int x :: st))) := by
  exact Win.go (fun _ k => XS.ifYes h hx rfl rfl hd rfl hc ho hp k) w
theorem s_ifNo {cd : ClassFile.Cond} {o : Int} {x : Int32} (h : At T m c below) (hx : tb.exec = Jvm.exec) (hd : decode c.code pc = .ok (.ifCond cd o, 3)) (hp : pc + 3 = pc') (hc : ifCond.holds cd x = false) (w : Win tb e below P (T.setTop (mkF m pc' ls st))) : Win tb e below P (T.setTop (mkF m pc ls (.int x :: st))) := by
  subst hp; exact Win.go (fun _ k => XS.ifNo h hx rfl hd rfl hc k) w
theorem s_lcmp {x y : Int64} (h : At T m c below) (hx : tb.exec = Jvm.exec) (hd : decode c.code pc = .ok (.lcmp, 1)) (hp : pc + 1 = pc') (w : Win tb e below P (T.setTop (mkF m pc' ls (.int (lcmpW x y) :: st)))) : Win tb e below P (T.setTop (mkF m pc ls (.long y :: .long x :: st))) := by
  subst hp; exact Win.go (fun _ k => XS.lcmp h hx rfl hd rfl k) w
theorem s_istore {k : Nat} {x : Int32} {l' : Array Slot} (h : At T m c below) (hx : tb.exec = Jvm.exec) (hd : decode c.code pc = .ok (.istore k, 2)) (hp : pc + 2 = pc') (hl : storeLocals ls k (.int x) = some l') (w : Win tb e below P (T.setTop (mkF m pc' l' st))) : Win tb e below P (T.setTop (mkF m pc ls (.int x :: st))) := by
  subst hp; exact Win.go (fun _ k => XS.istore h hx rfl hd rfl hl k) w
theorem s_istoreN {k : Fin 4} {x : Int32} {l' : Array Slot} (h : At T m c below) (hx : tb.exec = Jvm.exec) (hd : decode c.code pc = .ok (.istore_n k, 1)) (hp : pc + 1 = pc') (hl : storeLocals ls k.val (.int x) = some l') (w : Win tb e below P (T.setTop (mkF m pc' l' st))) : Win tb e below P (T.setTop (mkF m pc ls (.int x :: st))) := by
  subst hp; exact Win.go (fun _ k => XS.istoreN h hx rfl hd rfl hl k) w
theorem s_lstore {k : Nat} {x : Int64} {l' : Array Slot} (h : At T m c below) (hx : tb.exec = Jvm.exec) (hd : decode c.code pc = .ok (.lstore k, 2)) (hp : pc + 2 = pc') (hl : storeLocals ls k (.long x) = some l') (w : Win tb e below P (T.setTop (mkF m pc' l' st))) : Win tb e below P (T.setTop (mkF m pc ls (.long x :: st))) := by
  subst hp; exact Win.go (fun _ k => XS.lstore h hx rfl hd rfl hl k) w
theorem s_lstoreN {k : Fin 4} {x : Int64} {l' : Array Slot} (h : At T m c below) (hx : tb.exec = Jvm.exec) (hd : decode c.code pc = .ok (.lstore_n k, 1)) (hp : pc + 1 = pc') (hl : storeLocals ls k.val (.long x) = some l') (w : Win tb e below P (T.setTop (mkF m pc' l' st))) : Win tb e below P (T.setTop (mkF m pc ls (.long x :: st))) := by
  subst hp; exact Win.go (fun _ k => XS.lstoreN h hx rfl hd rfl hl k) w
theorem s_astore {k : Nat} {x : Value} {l' : Array Slot} (h : At T m c below) (hx : tb.exec = Jvm.exec) (hd : decode c.code pc = .ok (.astore k, 2)) (hp : pc + 2 = pc') (hv : x.isRef = true) (hl : storeLocals ls k x = some l') (w : Win tb e below P (T.setTop (mkF m pc' l' st))) : Win tb e below P (T.setTop (mkF m pc ls (x :: st))) := by
  subst hp; exact Win.go (fun _ k => XS.astore h hx rfl hd rfl hv hl k) w
theorem s_astoreN {k : Fin 4} {x : Value} {l' : Array Slot} (h : At T m c below) (hx : tb.exec = Jvm.exec) (hd : decode c.code pc = .ok (.astore_n k, 1)) (hp : pc + 1 = pc') (hv : x.isRef = true) (hl : storeLocals ls k.val x = some l') (w : Win tb e below P (T.setTop (mkF m pc' l' st))) : Win tb e below P (T.setTop (mkF m pc ls (x :: st))) := by
  subst hp; exact Win.go (fun _ k => XS.astoreN h hx rfl hd rfl hv hl k) w
theorem s_dup {x : Value} (h : At T m c below) (hx : tb.exec = Jvm.exec) (hd : decode c.code pc = .ok (.dup, 1)) (hp : pc + 1 = pc') (hc : x.category = 1) (w : Win tb e below P (T.setTop (mkF m pc' ls (x :: x :: st)))) : Win tb e below P (T.setTop (mkF m pc ls (x :: st))) := by
  subst hp; exact Win.go (fun _ k => XS.dup h hx rfl hd rfl hc k) w
end Steps
/-- an array of ints by its places: place j holds f j -/
def AF (Z : State) (h : Heap) (a : Addr) (ty : FieldType) (n : Nat) (f : Int → Int32) : Prop := ∃ cl : Cell, Arr Z h a cl ty ∧ cl.slots.size = n ∧ ∀ j : Int32, 0 ≤ j.toInt → j.toInt < n → cl.slots[j.toNatClampNeg]? = some (.int (f j.toInt))
section AFs
variable {Z : State} {h h' : Heap} {a b : Addr} {ty : FieldType} {n : Nat} {f : Int → Int32} {ws : List Addr} {sl : Nat} {v : Value}
theorem AF.lt (F : AF Z h a ty n f) : a < h.size := by obtain ⟨c, A, -⟩ := F; exact A.lt
theorem AF.ext (F : AF Z h a ty n f) (E : Ext h h') : AF Z h' a ty n f := by obtain ⟨c, A, r⟩ := F; exact ⟨c, A.ext E, r⟩
theorem AF.other (F : AF Z h b ty n f) (W : Wr h h' a sl v) (q : b ≠ a) : AF Z h' b ty n f := by obtain ⟨c, A, r⟩ := F; exact ⟨c, A.other W q, r⟩
theorem AF.keep (F : AF Z h a ty n f) (K : Keep h h' ws) (q : a ∉ ws) : AF Z h' a ty n f := by obtain ⟨c, A, r⟩ := F; exact ⟨c, ⟨K.2.1 a c A.1 q, A.2⟩, r⟩
theorem AF.inb {c : Cell} {j : Int32} (S : c.slots.size = n) (q : 0 ≤ j.toInt ∧ j.toInt < n) : ¬ (j < 0 ∨ c.slots.size ≤ j.toNatClampNeg) := by
  rw [S, Int32.lt_iff_toInt_lt]; have e0 : (0 : Int32).toInt = 0 := rfl
  simp only [Int32.toNatClampNeg]; omega
def updF (f : Int → Int32) (j : Int) (v : Int32) : Int → Int32 := fun i => if i = j then v else f i
theorem updF_hit (f : Int → Int32) (j : Int) (v : Int32) : updF f j v j = v := if_pos rfl
theorem updF_miss {f : Int → Int32} {i j : Int} {v : Int32} (q : i ≠ j) : updF f j v i = f i := if_neg q
theorem AF.set {cl : Cell} {j v : Int32} (A : Arr Z h a cl ty) (S : cl.slots.size = n) (G : ∀ j : Int32, 0 ≤ j.toInt → j.toInt < n → cl.slots[j.toNatClampNeg]? = some (.int (f j.toInt))) (W : Wr h h' a j.toNatClampNeg (.int v)) (q : 0 ≤ j.toInt ∧ j.toInt < n) : AF Z h' a ty n (updF f j.toInt v) := by
  have e0 : (0 : Int32).toInt = 0 := rfl
  refine ⟨_, A.same W, by rw [sz_set]; exact S, fun k h0 h1 => ?_⟩
  by_cases e : k = j
  · subst e; rw [get_hit (AF.inb S q) rfl, updF_hit]
  · rw [get_miss (by rw [Int32.lt_iff_toInt_lt]; omega) (by rw [Int32.lt_iff_toInt_lt]; omega) e, updF_miss (fun z => e (Int32.toInt_inj.mp z))]; exact G k h0 h1
theorem AF.zero {k : ClassId} {z : Int32} (F : Arv Z h a k ty z [] (.int 0)) (q : z.toNatClampNeg = n) : AF Z h a ty n (fun _ => 0) := by
  obtain ⟨c, A, -, S, -, H, -⟩ := F
  refine ⟨c, A, S.trans q, fun j h0 h1 => ?_⟩
  have e : j.toNatClampNeg = j.toInt.toNat := rfl
  exact H _ (by rw [S, q, e]; omega)
theorem AF.ex {k : ClassId} {z : Int32} {vs : List Value} {dv : Value} (F : Arv Z h a k .byte z vs dv) (q : z.toNatClampNeg = n) : ∃ f, AF Z h a .byte n f := by
  obtain ⟨c, A, -, S, -, H, G⟩ := F
  refine ⟨fun i => match c.slots[i.toNat]? with | some (.int x) => x | _ => 0, c, A, S.trans q, fun j h0 h1 => ?_⟩
  have e : j.toNatClampNeg = j.toInt.toNat := rfl
  have hj : j.toInt.toNat < c.slots.size := by rw [S, q]; omega
  have e1 := H _ hj
  have e2 := G _ hj
  show c.slots[j.toInt.toNat]? = some (.int (match c.slots[j.toInt.toNat]? with | some (.int x) => x | _ => 0))
  cases hv : vs.getD j.toInt.toNat dv <;> rw [hv] at e1 e2 <;> first | (rw [e1]; done) | (exact absurd e2 (by simp [fits]))
/-- a byte array of length z -/
def BA (Z : State) (h : Heap) (a : Addr) (z : Int32) : Prop := ∃ (k : ClassId) (vs : List Value), Arv Z h a k .byte z vs (.int 0)
variable {z : Int32}
theorem BA.lt (F : BA Z h a z) : a < h.size := by obtain ⟨_, _, A⟩ := F; exact A.lt
theorem BA.ext (F : BA Z h a z) (E : Ext h h') : BA Z h' a z := by obtain ⟨k, vs, A⟩ := F; exact ⟨k, vs, A.ext E⟩
theorem BA.other (F : BA Z h b z) (W : Wr h h' a sl v) (q : b ≠ a) : BA Z h' b z := by obtain ⟨k, vs, A⟩ := F; exact ⟨k, vs, A.other W q⟩
theorem BA.keep (F : BA Z h a z) (K : Keep h h' ws) (q : a ∉ ws) : BA Z h' a z := by obtain ⟨k, vs, A⟩ := F; exact ⟨k, vs, A.keep K q⟩
theorem cpBA {p : Program} {l : Launch} {e : Env} {R : Room} {s : State} {m : MethodId} {args : Array Value} {below : List Frame} {meth : Method} {c : Code} {T : State} {locs : List Loc} {cells slots : Nat}
    (X : Stand p l e R s m args below meth c T locs cells slots) (hx : p.tables.exec = Jvm.exec) (hZ : Z.Warmed39 s.vm) {a0 : Array Value} {own : String} {index : Nat} (hown : s.vm.findClass own = some m.cls)
    (w1 : (Cond.methodLink own index Jvm.Stand.acN).before a0 Z = true) (w2 : (Cond.native Jvm.Stand.acN).before a0 Z = true) (w3 : (Cond.static Jvm.Stand.acN).before a0 Z = true) (w4 : (Cond.initialized "java/lang/System").before a0 Z = true) (eT : T.heap = h)
    {z' sp dp nn : Int32} (A : BA Z h a z) (B : BA Z h b z') (h1 : 0 ≤ sp.toInt) (h2 : 0 ≤ dp.toInt) (h3 : 0 ≤ nn.toInt) (h4 : sp.toInt + nn.toInt ≤ z.toInt) (h5 : dp.toInt + nn.toInt ≤ z'.toInt) {n0 : Nat} (N : Fr n0 locs) (ge : n0 ≤ b)
    {g : JFrame} (hg : g.method = m) (hsize : g.locals.size = c.maxLocals) {rest : List Value} (hs : g.stack = .int nn :: .int dp :: .ref b :: .int sp :: .ref a :: rest) (hd : decode c.code g.pc = .ok (.invokestatic index, 3))
    (hf : 1 ≤ R.frames) {W : Nat} (hW : 2 * g.monitorRoom + (rest.map fun v => v.category).sum ≤ W) (hlo : W + (nativeFrameWords "java/lang/System" "arraycopy" 5 + 11) ≤ R.locals) :
    ∃ T' h' L, Stand p l e R s m args below meth c T' L cells slots ∧ T'.heap = h' ∧ Fr n0 L ∧ Keep h h' [b] ∧ BA Z h' b z' ∧
      ∀ target, Steps p.tables e below (T'.setTop { g with pc := g.pc + 3, stack := rest }) target → Steps p.tables e below (T.setTop g) target := by
  have e0 : (0 : Int32).toInt = 0 := rfl
  obtain ⟨k, vs, A⟩ := A
  obtain ⟨k', vd, B⟩ := B
  have B' := B.pad (pad_rep vd (.int 0) z'.toNatClampNeg)
  obtain ⟨T', h', L, X', e', N', K, B2, st⟩ := cpA X hx hZ hown w1 w2 w3 w4 eT A B' (Or.inl ⟨rfl, rfl⟩) (by rw [Int32.lt_iff_toInt_lt]; omega) (by rw [Int32.lt_iff_toInt_lt]; omega) (by rw [Int32.lt_iff_toInt_lt]; omega) (by simp only [Int32.toNatClampNeg]; omega) (by simp only [Int32.toNatClampNeg]; omega) rfl (by simp only [List.length_append, List.length_replicate, Int32.toNatClampNeg]; omega) N ge hg hsize hs hd hf hW hlo
  exact ⟨T', h', L, X', e', N', K, ⟨k', _, B2⟩, st⟩
end AFs
theorem own_selPriv {s : State} {args : Array Value} {y y' : MethodName} (hn : y.cls = y'.cls) (w : (Cond.selects y'.cls y' y').before args s = true) (hpriv : s.PrivateAt y) (hinst : (Cond.instanceMethod y).before args s = true) (hy : y.cls ≠ "java/lang/invoke/MethodHandle" ∧ y.cls ≠ "java/lang/invoke/VarHandle") : (Cond.selects y.cls y y).before args s = true := by
  obtain ⟨c, r, m, h1, -, h3, -, k, h5, h6⟩ := Cond.selects_spec w
  have h7 := findClass_of_methodNamed h3
  cases h1.symm.trans h7
  exact selects_self_of_private (by rw [hn]; exact h7) h5 h6 hpriv hinst hy
theorem own_lremEq (x y : Int64) : x - (x / y) * y = x % y := by
  refine Int64.toInt_inj.mp ?_
  have h1 := rng64 (x % y)
  have e : x.toInt - x.toInt.tdiv y.toInt * y.toInt = (x % y).toInt := by rw [Int64.toInt_mod, Int.tmod_def, Int.mul_comm]
  rw [Int64.toInt_sub, Int64.toInt_mul, Int64.toInt_div, Int.bmod_mul_bmod, Int.sub_bmod_bmod, e]
  exact Int.bmod_eq_of_le_mul_two (by omega) (by omega)
theorem lremM {p : Program} {l : Launch} {e : Env} {R : Room} {s : State} {m : MethodId} {args : Array Value} {below : List Frame} {meth : Method} {c : Code} {T : State} {locs : List Loc} {cells slots : Nat} {g : JFrame} {target : State} (X : Stand p l e R s m args below meth c T locs cells slots) (hx : p.tables.exec = Jvm.exec) (hg : g.method = m) {x y : Int64} {rest : List Value} (hd : decode c.code g.pc = .ok (.lrem, 1)) (hs : g.stack = .long y :: .long x :: rest) (hy : y ≠ 0)
    (hr : Steps p.tables e below (T.setTop { g with pc := g.pc + 1, stack := .long (x % y) :: rest }) target) : Steps p.tables e below (T.setTop g) target :=
  XS.lrem X.here hx hg hd hs hy (by rw [own_lremEq]; exact hr)
/-! comparisons by the numbers -/
theorem tltI {x y : Int32} (h : x.toInt < y.toInt) : if_icmp.holds .lt x y = true ∧ if_icmp.holds .ge x y = false ∧ if_icmp.holds .gt y x = true ∧ if_icmp.holds .le y x = false := tlt (Int32.lt_iff_toInt_lt.mpr h)
theorem fltI {x y : Int32} (h : ¬ x.toInt < y.toInt) : if_icmp.holds .lt x y = false ∧ if_icmp.holds .ge x y = true ∧ if_icmp.holds .gt y x = false ∧ if_icmp.holds .le y x = true := flt (fun q => h (Int32.lt_iff_toInt_lt.mp q))
theorem teqI {x y : Int32} (h : x.toInt = y.toInt) : if_icmp.holds .eq x y = true ∧ if_icmp.holds .ne x y = false := teq (Int32.toInt_inj.mp h)
theorem feqI {x y : Int32} (h : ¬ x.toInt = y.toInt) : if_icmp.holds .eq x y = false ∧ if_icmp.holds .ne x y = true := feq (fun q => h (congrArg _ q))
theorem tltZ {x y : Int32} (h : x.toInt < y.toInt) : (y = 0 → ifCond.holds .lt x = true ∧ ifCond.holds .ge x = false) ∧ (x = 0 → ifCond.holds .gt y = true ∧ ifCond.holds .le y = false) :=
  ⟨fun q => by subst q; exact ⟨(if0 _ _).trans (tltI h).1, (if0 _ _).trans (tltI h).2.1⟩, fun q => by subst q; exact ⟨(if0 _ _).trans (tltI h).2.2.1, (if0 _ _).trans (tltI h).2.2.2⟩⟩
theorem tltL {x y : Int64} (h : x.toInt < y.toInt) : ifCond.holds .lt (lcmpW x y) = true ∧ ifCond.holds .ge (lcmpW x y) = false ∧ ifCond.holds .gt (lcmpW y x) = true ∧ ifCond.holds .le (lcmpW y x) = false :=
  have h' := Int64.lt_iff_toInt_lt.mpr h
  ⟨(if0 _ _).trans (tlt ((lw_lt x y).mpr h')).1, (if0 _ _).trans (tlt ((lw_lt x y).mpr h')).2.1, (if0 _ _).trans (tlt ((lw_gt y x).mpr h')).2.2.1, (if0 _ _).trans (tlt ((lw_gt y x).mpr h')).2.2.2⟩
theorem fltL {x y : Int64} (h : ¬ x.toInt < y.toInt) : ifCond.holds .lt (lcmpW x y) = false ∧ ifCond.holds .ge (lcmpW x y) = true ∧ ifCond.holds .gt (lcmpW y x) = false ∧ ifCond.holds .le (lcmpW y x) = true :=
  have h1 : ¬ lcmpW x y < 0 := fun q => h (Int64.lt_iff_toInt_lt.mp ((lw_lt x y).mp q))
  have h2 : ¬ 0 < lcmpW y x := fun q => h (Int64.lt_iff_toInt_lt.mp ((lw_gt y x).mp q))
  ⟨(if0 _ _).trans (flt h1).1, (if0 _ _).trans (flt h1).2.1, (if0 _ _).trans (flt h2).2.2.1, (if0 _ _).trans (flt h2).2.2.2⟩
theorem teqL {x y : Int64} (h : x.toInt = y.toInt) : ifCond.holds .eq (lcmpW x y) = true ∧ ifCond.holds .ne (lcmpW x y) = false :=
  have h' := (lw_eq x y).mpr (Int64.toInt_inj.mp h)
  ⟨(if0 _ _).trans (teq h').1, (if0 _ _).trans (teq h').2⟩
theorem feqL {x y : Int64} (h : ¬ x.toInt = y.toInt) : ifCond.holds .eq (lcmpW x y) = false ∧ ifCond.holds .ne (lcmpW x y) = true :=
  have h' : ¬ lcmpW x y = 0 := fun q => h (congrArg _ ((lw_eq x y).mp q))
  ⟨(if0 _ _).trans (feq h').1, (if0 _ _).trans (feq h').2⟩
end Jvm.OwnWalk
namespace Jvm.Pilot.@@N@@
open Jvm Jvm.ClassFile Sem Op Lib Jvm.Free Jvm.Stand Jvm.LawKit Jvm.RoadKit Bundle Jvm.OwnWalk Jvm.Pilot.@@N@@.Jvm.D
theorem own_frEq {n0 : Nat} {L L' : List Loc} (h : L = L') (F : Fr n0 L') : Fr n0 L := h ▸ F
theorem own_clr {f : Int → Int32} {r q z : Int32} {k : Int} (h4 : ∀ j : Int, r.toInt ≤ j → j < q.toInt → ¬ (f j).toInt = 27) (h : (z.toInt = 1 ∧ (¬ (r.toInt ≤ k ∧ k < q.toInt ∧ (f k).toInt = 27))) ∨ (z.toInt = 0 ∧ ¬ (¬ (r.toInt ≤ k ∧ k < q.toInt ∧ (f k).toInt = 27)))) (hz : z.toInt = (0 : Int)) : False := by
  rcases h with ⟨h, _⟩ | ⟨_, h⟩
  · rw [hz] at h; exact absurd h (by decide)
  · exact h fun ⟨a, b, c⟩ => h4 k a b c
theorem own_fe {a b r n : Int} (ha : 0 ≤ a ∧ a ≤ 8) (hb : 0 ≤ b ∧ b ≤ 8) (h1 : r ≤ a ∧ r ≤ b ∧ (r = a ∨ r = b)) (h2 : a ≤ n ∧ b ≤ n ∧ (n = a ∨ n = b)) : 0 ≤ r ∧ r ≤ n ∧ n ≤ 8 := by omega
theorem own_rr {r n q : Int} (h : 0 ≤ r ∧ r ≤ n ∧ n ≤ 8) (h1 : r ≤ q) (h2 : q < n) : 0 ≤ q ∧ q < 8 := by omega
theorem own_nine (p v : Int32) (h : ((p &&& (2147483647 : Int32)) % (9 : Int32)) = v) : 0 ≤ v.toInt ∧ v.toInt ≤ 8 := by
  have h1 := c_and p 2147483647 (by decide)
  have h2 := (c_irem (p &&& (2147483647 : Int32)) 9 9 rfl).1 h1.1
  rw [h] at h2; clear h
  have h3 := h1.1; clear h1
  omega
theorem d1_0 : decode method_3_code 0 = .ok (.iload_n 2, 1) := by decide +kernel
theorem d1_1 : decode method_3_code 1 = .ok (.iload_n 3, 1) := by decide +kernel
theorem d1_2 : decode method_3_code 2 = .ok (.iushr, 1) := by decide +kernel
theorem d1_3 : decode method_3_code 3 = .ok (.iconst 1, 1) := by decide +kernel
theorem d1_4 : decode method_3_code 4 = .ok (.iand, 1) := by decide +kernel
theorem d1_5 : decode method_3_code 5 = .ok (.ifCond .eq 6, 3) := by decide +kernel
theorem d1_8 : decode method_3_code 8 = .ok (.bipush 27, 2) := by decide +kernel
theorem d1_10 : decode method_3_code 10 = .ok (.ireturn, 1) := by decide +kernel
theorem d1_11 : decode method_3_code 11 = .ok (.lload_n 0, 1) := by decide +kernel
theorem d1_12 : decode method_3_code 12 = .ok (.bipush 8, 2) := by decide +kernel
theorem d1_14 : decode method_3_code 14 = .ok (.iload_n 3, 1) := by decide +kernel
theorem d1_15 : decode method_3_code 15 = .ok (.imul, 1) := by decide +kernel
theorem d1_16 : decode method_3_code 16 = .ok (.lushr, 1) := by decide +kernel
theorem d1_17 : decode method_3_code 17 = .ok (.l2i, 1) := by decide +kernel
theorem d1_18 : decode method_3_code 18 = .ok (.i2b, 1) := by decide +kernel
theorem d1_19 : decode method_3_code 19 = .ok (.ireturn, 1) := by decide +kernel
theorem pn_1 : plainName "com/example/renkei/renkei/Iso2022WalkFirstEscPinLaw" = true := by first | (simp [plainName, overriddenIn]; done) | decide +kernel
theorem ef_1 (m : MethodId) (q0 : Int64) (p1 : Int32) (p2 : Int32) : entryFrame m #[(.long q0), (.int p1), (.int p2)] 4 = mkF m 0 #[.val (.long q0), .second, .val (.int p1), .val (.int p2)] [] := by first | (simp [entryFrame, mkF, argsToLocals, Value.category]; done) | rfl
def Q1 (Z : State) (q0 : Int64) (p1 : Int32) (p2 : Int32) (h0 : Heap) (n0 : Nat) (v : Option Value) (h : Heap) (L : List Loc) : Prop := Fr n0 L ∧ h = h0 ∧ (∃ z : Int32, v = some (.int z) ∧ (True))
set_option maxRecDepth 65536 in
set_option maxHeartbeats 40000000 in
theorem rm1 (l : Launch) (Z : State) (a0 : Array Value) (hw : ∀ d ∈ tables_1, d.before a0 Z = true) (ws : List Jvm.Cond) (q0 : Int64) (p1 : Int32) (p2 : Int32) (h0 : Heap) (n0 : Nat) (Zs : n0 ≤ h0.size) :
    MetFree l (⟨"com/example/renkei/renkei/Iso2022WalkFirstEscPinLaw", "pick", "(JII)B"⟩ : MethodName) (head1 (Jvm.Cond.code (⟨"com/example/renkei/renkei/Iso2022WalkFirstEscPinLaw", "pick", "(JII)B"⟩ : MethodName) method_3_code 4 (some .byte) :: ws) ({ frames := 0, cells := 0, slots := 0, locals := 0 } : Room)) (fun as' U => as' = #[(.long q0), (.int p1), (.int p2)] ∧ Z.Warmed39 U.vm ∧ U.heap = h0) (fun _ _ _ _ _ => True) (fun _ U o U' => ∃ v L, o = .returned v ∧ Q1 Z q0 p1 p2 h0 n0 v U'.heap L ∧ FrameEnd U o U' L ({ frames := 0, cells := 0, slots := 0, locals := 0 } : Room).cells ({ frames := 0, cells := 0, slots := 0, locals := 0 } : Room).slots) := by
  refine MetFree.of_bodySF (plainFor_of_name pn_1) hisR ?_
  intro p e s m args below meth c s₁ Bd hml0 hP hK
  obtain ⟨rfl, hZ, hh⟩ := hP
  have hx := Bd.exec
  have hby := Bd.bytes
  have hml : c.maxLocals = 4 := hml0
  have hown : s.vm.findClass "com/example/renkei/renkei/Iso2022WalkFirstEscPinLaw" = some m.cls := findClass_of_methodNamed Bd.named
  have hnm := (name_of_methodNamed Bd.named Bd.method).1
  have hlk : meth.locks = false := Bd.notSynchronized
  have X0 : Stand p l e ({ frames := 0, cells := 0, slots := 0, locals := 0 } : Room) s m #[(.long q0), (.int p1), (.int p2)] below meth c s₁ [] 0 0 := Stand.of_body Bd
  have e0 : s₁.heap = h0 := by rw [← hh, Bd.state]; rfl
  have Nf := Fr.nil n0
  refine (?_ : Win p.tables e below (PostQ s (Q1 Z q0 p1 p2 h0 n0) ({ frames := 0, cells := 0, slots := 0, locals := 0 } : Room).cells ({ frames := 0, cells := 0, slots := 0, locals := 0 } : Room).slots) (s₁.setTop (entryFrame m #[(.long q0), (.int p1), (.int p2)] 4)))
  rw [ef_1]
  show Win p.tables e below _ (s₁.setTop (mkF m 0 #[.val (.long q0), .second, .val (.int p1), .val (.int p2)] []))
  refine s_iloadN (pc' := 1) X0.here hx (hb hby d1_0) rfl rfl ?_
  refine s_iloadN (pc' := 2) X0.here hx (hb hby d1_1) rfl rfl ?_
  refine Win.go (fun _ k => XT.iushr X0.here hx rfl (hb hby d1_2) rfl k) ?_
  show Win p.tables e below _ (s₁.setTop (mkF m 3 #[.val (.long q0), .second, .val (.int p1), .val (.int p2)] [(.int (XT.ushr p1 p2))]))
  refine s_iconst (pc' := 4) (z := (1 : Int32)) X0.here hx (hb hby d1_3) rfl rfl ?_
  refine s_iand (pc' := 5) X0.here hx (hb hby d1_4) rfl ?_
  by_cases hc5 : (((XT.ushr p1 p2) &&& (1 : Int32))).toInt = (0 : Int)
  · skip
    refine s_ifYes (pc' := 11) X0.here hx (hb hby d1_5) ((if0 _ _).trans (teqI (x := ((XT.ushr p1 p2) &&& (1 : Int32))) (y := (0 : Int32)) hc5).1) (by decide) (by decide) ?_
    refine s_lloadN (pc' := 12) X0.here hx (hb hby d1_11) rfl rfl ?_
    refine s_bipush (pc' := 14) (z := (8 : Int32)) X0.here hx (hb hby d1_12) rfl rfl ?_
    refine s_iloadN (pc' := 15) X0.here hx (hb hby d1_14) rfl rfl ?_
    refine s_imul (pc' := 16) X0.here hx (hb hby d1_15) rfl ?_
    refine Win.go (fun _ k => XT.lushr X0.here hx rfl (hb hby d1_16) rfl k) ?_
    show Win p.tables e below _ (s₁.setTop (mkF m 17 #[.val (.long q0), .second, .val (.int p1), .val (.int p2)] [(.long (XT.ushrL q0 ((8 : Int32) * p2)))]))
    refine Win.go (fun _ k => XS.l2i X0.here hx rfl (hb hby d1_17) rfl k) ?_
    show Win p.tables e below _ (s₁.setTop (mkF m 18 #[.val (.long q0), .second, .val (.int p1), .val (.int p2)] [(.int ((XT.ushrL q0 ((8 : Int32) * p2)).toInt32))]))
    refine Win.go (fun _ k => XS.i2b X0.here hx rfl (hb hby d1_18) rfl k) ?_
    show Win p.tables e below _ (s₁.setTop (mkF m 19 #[.val (.long q0), .second, .val (.int p1), .val (.int p2)] [(.int (((XT.ushrL q0 ((8 : Int32) * p2)).toInt32).toInt8.toInt32))]))
    refine winN X0 hx hlk e0 (t := .byte) Bd.returns (by simp) (hb hby d1_19) (by decide) (by decide) rfl ?_
    exact ⟨Nf, rfl, _, rfl, trivial⟩
  · skip
    refine s_ifNo (pc' := 8) X0.here hx (hb hby d1_5) rfl ((if0 _ _).trans (feqI (x := ((XT.ushr p1 p2) &&& (1 : Int32))) (y := (0 : Int32)) hc5).1) ?_
    refine s_bipush (pc' := 10) (z := (27 : Int32)) X0.here hx (hb hby d1_8) rfl rfl ?_
    refine winN X0 hx hlk e0 (t := .byte) Bd.returns (by simp) (hb hby d1_10) (by decide) (by decide) (z' := (27 : Int32)) rfl ?_
    exact ⟨Nf, rfl, _, rfl, trivial⟩
theorem d2_0 : decode jdk_29_method_69_code 0 = .ok (.iload_n 0, 1) := by decide +kernel
theorem d2_1 : decode jdk_29_method_69_code 1 = .ok (.iload_n 1, 1) := by decide +kernel
theorem d2_2 : decode jdk_29_method_69_code 2 = .ok (.if_icmp .gt 7, 3) := by decide +kernel
theorem d2_5 : decode jdk_29_method_69_code 5 = .ok (.iload_n 0, 1) := by decide +kernel
theorem d2_6 : decode jdk_29_method_69_code 6 = .ok (.goto 4, 3) := by decide +kernel
theorem d2_9 : decode jdk_29_method_69_code 9 = .ok (.iload_n 1, 1) := by decide +kernel
theorem d2_10 : decode jdk_29_method_69_code 10 = .ok (.ireturn, 1) := by decide +kernel
theorem ef_2 (m : MethodId) (a : Int32) (b : Int32) : entryFrame m #[(.int a), (.int b)] 2 = mkF m 0 #[.val (.int a), .val (.int b)] [] := by first | (simp [entryFrame, mkF, argsToLocals, Value.category]; done) | rfl
def Q2 (Z : State) (a : Int32) (b : Int32) (h0 : Heap) (n0 : Nat) (v : Option Value) (h : Heap) (L : List Loc) : Prop := Fr n0 L ∧ h = h0 ∧ (∃ z : Int32, v = some (.int z) ∧ (z.toInt ≤ a.toInt ∧ z.toInt ≤ b.toInt ∧ (z.toInt = a.toInt ∨ z.toInt = b.toInt)))
set_option maxRecDepth 65536 in
set_option maxHeartbeats 40000000 in
theorem rm2 (l : Launch) (Z : State) (a0 : Array Value) (hw : ∀ d ∈ tables_1, d.before a0 Z = true) (ws : List Jvm.Cond) (a : Int32) (b : Int32) (h0 : Heap) (n0 : Nat) (Zs : n0 ≤ h0.size) :
    MetFree l (⟨"java/lang/Math", "min", "(II)I"⟩ : MethodName) (head1 (Jvm.Cond.code (⟨"java/lang/Math", "min", "(II)I"⟩ : MethodName) jdk_29_method_69_code 2 (some .int) :: ws) ({ frames := 0, cells := 0, slots := 0, locals := 0 } : Room)) (fun as' U => as' = #[(.int a), (.int b)] ∧ Z.Warmed39 U.vm ∧ U.heap = h0) (fun _ _ _ _ _ => True) (fun _ U o U' => ∃ v L, o = .returned v ∧ Q2 Z a b h0 n0 v U'.heap L ∧ FrameEnd U o U' L ({ frames := 0, cells := 0, slots := 0, locals := 0 } : Room).cells ({ frames := 0, cells := 0, slots := 0, locals := 0 } : Room).slots) := by
  refine MetFree.of_bodySF (Jvm.Free.JP.mathPlain rfl (by decide +kernel)) hisR ?_
  intro p e s m args below meth c s₁ Bd hml0 hP hK
  obtain ⟨rfl, hZ, hh⟩ := hP
  have hx := Bd.exec
  have hby := Bd.bytes
  have hml : c.maxLocals = 2 := hml0
  have hown : s.vm.findClass "java/lang/Math" = some m.cls := findClass_of_methodNamed Bd.named
  have hnm := (name_of_methodNamed Bd.named Bd.method).1
  have hlk : meth.locks = false := Bd.notSynchronized
  have X0 : Stand p l e ({ frames := 0, cells := 0, slots := 0, locals := 0 } : Room) s m #[(.int a), (.int b)] below meth c s₁ [] 0 0 := Stand.of_body Bd
  have e0 : s₁.heap = h0 := by rw [← hh, Bd.state]; rfl
  have Nf := Fr.nil n0
  refine (?_ : Win p.tables e below (PostQ s (Q2 Z a b h0 n0) ({ frames := 0, cells := 0, slots := 0, locals := 0 } : Room).cells ({ frames := 0, cells := 0, slots := 0, locals := 0 } : Room).slots) (s₁.setTop (entryFrame m #[(.int a), (.int b)] 2)))
  rw [ef_2]
  show Win p.tables e below _ (s₁.setTop (mkF m 0 #[.val (.int a), .val (.int b)] []))
  refine s_iloadN (pc' := 1) X0.here hx (hb hby d2_0) rfl rfl ?_
  refine s_iloadN (pc' := 2) X0.here hx (hb hby d2_1) rfl rfl ?_
  by_cases hc2 : (b).toInt < (a).toInt
  · skip
    refine s_icmpYes (pc' := 9) X0.here hx (hb hby d2_2) (tltI (x := b) (y := a) hc2).2.2.1 (by decide) (by decide) ?_
    refine s_iloadN (pc' := 10) X0.here hx (hb hby d2_9) rfl rfl ?_
    refine winI X0 hx hlk e0 Bd.returns (hb hby d2_10) (by decide) (by decide) ?_
    exact ⟨Nf, rfl, _, rfl, by omega⟩
  · skip
    refine s_icmpNo (pc' := 5) X0.here hx (hb hby d2_2) rfl (fltI (x := b) (y := a) hc2).2.2.1 ?_
    refine s_iloadN (pc' := 6) X0.here hx (hb hby d2_5) rfl rfl ?_
    refine s_goto (pc' := 10) X0.here hx (hb hby d2_6) (by decide) (by decide) ?_
    refine winI X0 hx hlk e0 Bd.returns (hb hby d2_10) (by decide) (by decide) ?_
    exact ⟨Nf, rfl, _, rfl, by omega⟩
theorem d3_0 : decode jdk_29_method_65_code 0 = .ok (.iload_n 0, 1) := by decide +kernel
theorem d3_1 : decode jdk_29_method_65_code 1 = .ok (.iload_n 1, 1) := by decide +kernel
theorem d3_2 : decode jdk_29_method_65_code 2 = .ok (.if_icmp .lt 7, 3) := by decide +kernel
theorem d3_5 : decode jdk_29_method_65_code 5 = .ok (.iload_n 0, 1) := by decide +kernel
theorem d3_6 : decode jdk_29_method_65_code 6 = .ok (.goto 4, 3) := by decide +kernel
theorem d3_9 : decode jdk_29_method_65_code 9 = .ok (.iload_n 1, 1) := by decide +kernel
theorem d3_10 : decode jdk_29_method_65_code 10 = .ok (.ireturn, 1) := by decide +kernel
theorem ef_3 (m : MethodId) (a : Int32) (b : Int32) : entryFrame m #[(.int a), (.int b)] 2 = mkF m 0 #[.val (.int a), .val (.int b)] [] := by first | (simp [entryFrame, mkF, argsToLocals, Value.category]; done) | rfl
def Q3 (Z : State) (a : Int32) (b : Int32) (h0 : Heap) (n0 : Nat) (v : Option Value) (h : Heap) (L : List Loc) : Prop := Fr n0 L ∧ h = h0 ∧ (∃ z : Int32, v = some (.int z) ∧ (a.toInt ≤ z.toInt ∧ b.toInt ≤ z.toInt ∧ (z.toInt = a.toInt ∨ z.toInt = b.toInt)))
set_option maxRecDepth 65536 in
set_option maxHeartbeats 40000000 in
theorem rm3 (l : Launch) (Z : State) (a0 : Array Value) (hw : ∀ d ∈ tables_1, d.before a0 Z = true) (ws : List Jvm.Cond) (a : Int32) (b : Int32) (h0 : Heap) (n0 : Nat) (Zs : n0 ≤ h0.size) :
    MetFree l (⟨"java/lang/Math", "max", "(II)I"⟩ : MethodName) (head1 (Jvm.Cond.code (⟨"java/lang/Math", "max", "(II)I"⟩ : MethodName) jdk_29_method_65_code 2 (some .int) :: ws) ({ frames := 0, cells := 0, slots := 0, locals := 0 } : Room)) (fun as' U => as' = #[(.int a), (.int b)] ∧ Z.Warmed39 U.vm ∧ U.heap = h0) (fun _ _ _ _ _ => True) (fun _ U o U' => ∃ v L, o = .returned v ∧ Q3 Z a b h0 n0 v U'.heap L ∧ FrameEnd U o U' L ({ frames := 0, cells := 0, slots := 0, locals := 0 } : Room).cells ({ frames := 0, cells := 0, slots := 0, locals := 0 } : Room).slots) := by
  refine MetFree.of_bodySF (Jvm.Free.JP.mathPlain rfl (by decide +kernel)) hisR ?_
  intro p e s m args below meth c s₁ Bd hml0 hP hK
  obtain ⟨rfl, hZ, hh⟩ := hP
  have hx := Bd.exec
  have hby := Bd.bytes
  have hml : c.maxLocals = 2 := hml0
  have hown : s.vm.findClass "java/lang/Math" = some m.cls := findClass_of_methodNamed Bd.named
  have hnm := (name_of_methodNamed Bd.named Bd.method).1
  have hlk : meth.locks = false := Bd.notSynchronized
  have X0 : Stand p l e ({ frames := 0, cells := 0, slots := 0, locals := 0 } : Room) s m #[(.int a), (.int b)] below meth c s₁ [] 0 0 := Stand.of_body Bd
  have e0 : s₁.heap = h0 := by rw [← hh, Bd.state]; rfl
  have Nf := Fr.nil n0
  refine (?_ : Win p.tables e below (PostQ s (Q3 Z a b h0 n0) ({ frames := 0, cells := 0, slots := 0, locals := 0 } : Room).cells ({ frames := 0, cells := 0, slots := 0, locals := 0 } : Room).slots) (s₁.setTop (entryFrame m #[(.int a), (.int b)] 2)))
  rw [ef_3]
  show Win p.tables e below _ (s₁.setTop (mkF m 0 #[.val (.int a), .val (.int b)] []))
  refine s_iloadN (pc' := 1) X0.here hx (hb hby d3_0) rfl rfl ?_
  refine s_iloadN (pc' := 2) X0.here hx (hb hby d3_1) rfl rfl ?_
  by_cases hc2 : (a).toInt < (b).toInt
  · skip
    refine s_icmpYes (pc' := 9) X0.here hx (hb hby d3_2) (tltI (x := a) (y := b) hc2).1 (by decide) (by decide) ?_
    refine s_iloadN (pc' := 10) X0.here hx (hb hby d3_9) rfl rfl ?_
    refine winI X0 hx hlk e0 Bd.returns (hb hby d3_10) (by decide) (by decide) ?_
    exact ⟨Nf, rfl, _, rfl, by omega⟩
  · skip
    refine s_icmpNo (pc' := 5) X0.here hx (hb hby d3_2) rfl (fltI (x := a) (y := b) hc2).1 ?_
    refine s_iloadN (pc' := 6) X0.here hx (hb hby d3_5) rfl rfl ?_
    refine s_goto (pc' := 10) X0.here hx (hb hby d3_6) (by decide) (by decide) ?_
    refine winI X0 hx hlk e0 Bd.returns (hb hby d3_10) (by decide) (by decide) ?_
    exact ⟨Nf, rfl, _, rfl, by omega⟩
theorem d4_0 : decode prog_36_method_5_code 0 = .ok (.iload_n 1, 1) := by decide +kernel
theorem d4_1 : decode prog_36_method_5_code 1 = .ok (.istore_n 3, 1) := by decide +kernel
theorem d4_2 : decode prog_36_method_5_code 2 = .ok (.iload_n 3, 1) := by decide +kernel
theorem d4_3 : decode prog_36_method_5_code 3 = .ok (.iload_n 2, 1) := by decide +kernel
theorem d4_4 : decode prog_36_method_5_code 4 = .ok (.if_icmp .ge 17, 3) := by decide +kernel
theorem d4_7 : decode prog_36_method_5_code 7 = .ok (.aload_n 0, 1) := by decide +kernel
theorem d4_8 : decode prog_36_method_5_code 8 = .ok (.iload_n 3, 1) := by decide +kernel
theorem d4_9 : decode prog_36_method_5_code 9 = .ok (.baload, 1) := by decide +kernel
theorem d4_10 : decode prog_36_method_5_code 10 = .ok (.bipush 27, 2) := by decide +kernel
theorem d4_12 : decode prog_36_method_5_code 12 = .ok (.if_icmp .eq 9, 3) := by decide +kernel
theorem d4_15 : decode prog_36_method_5_code 15 = .ok (.iinc 3 1, 3) := by decide +kernel
theorem d4_18 : decode prog_36_method_5_code 18 = .ok (.goto (-16), 3) := by decide +kernel
theorem d4_21 : decode prog_36_method_5_code 21 = .ok (.iload_n 3, 1) := by decide +kernel
theorem d4_22 : decode prog_36_method_5_code 22 = .ok (.ireturn, 1) := by decide +kernel
theorem pn_4 : plainName "com/example/renkei/renkei/Iso2022Walk" = true := by first | (simp [plainName, overriddenIn]; done) | decide +kernel
theorem ef_4 (m : MethodId) (a : Addr) (p1 : Int32) (p2 : Int32) : entryFrame m #[(.ref a), (.int p1), (.int p2)] 4 = mkF m 0 #[.val (.ref a), .val (.int p1), .val (.int p2), .unset] [] := by first | (simp [entryFrame, mkF, argsToLocals, Value.category]; done) | rfl
def Q4 (Z : State) (a : Addr) (p1 : Int32) (p2 : Int32) (f : Int → Int32) (h0 : Heap) (n0 : Nat) (v : Option Value) (h : Heap) (L : List Loc) : Prop := Fr n0 L ∧ h = h0 ∧ (∃ z : Int32, v = some (.int z) ∧ (p1.toInt ≤ z.toInt ∧ z.toInt ≤ p2.toInt ∧ (z.toInt < p2.toInt → (f z.toInt).toInt = 27) ∧ ∀ j : Int, p1.toInt ≤ j → j < z.toInt → ¬ (f j).toInt = 27))
set_option maxRecDepth 65536 in
set_option maxHeartbeats 40000000 in
theorem rm4 (l : Launch) (Z : State) (a0 : Array Value) (hw : ∀ d ∈ tables_1, d.before a0 Z = true) (ws : List Jvm.Cond) (a : Addr) (p1 : Int32) (p2 : Int32) (f : Int → Int32) (h0 : Heap) (n0 : Nat) (Zs : n0 ≤ h0.size) (A_a : AF Z h0 a .byte 8 f) (hp : 0 ≤ p1.toInt ∧ p1.toInt ≤ p2.toInt ∧ p2.toInt ≤ 8) :
    MetFree l (⟨"com/example/renkei/renkei/Iso2022Walk", "firstEsc", "([BII)I"⟩ : MethodName) (head1 (Jvm.Cond.code (⟨"com/example/renkei/renkei/Iso2022Walk", "firstEsc", "([BII)I"⟩ : MethodName) prog_36_method_5_code 4 (some .int) :: ws) ({ frames := 0, cells := 0, slots := 0, locals := 0 } : Room)) (fun as' U => as' = #[(.ref a), (.int p1), (.int p2)] ∧ Z.Warmed39 U.vm ∧ U.heap = h0) (fun _ _ _ _ _ => True) (fun _ U o U' => ∃ v L, o = .returned v ∧ Q4 Z a p1 p2 f h0 n0 v U'.heap L ∧ FrameEnd U o U' L ({ frames := 0, cells := 0, slots := 0, locals := 0 } : Room).cells ({ frames := 0, cells := 0, slots := 0, locals := 0 } : Room).slots) := by
  refine MetFree.of_bodySF (plainFor_of_name pn_4) hisR ?_
  intro p e s m args below meth c s₁ Bd hml0 hP hK
  obtain ⟨rfl, hZ, hh⟩ := hP
  have hx := Bd.exec
  have hby := Bd.bytes
  have hml : c.maxLocals = 4 := hml0
  have hown : s.vm.findClass "com/example/renkei/renkei/Iso2022Walk" = some m.cls := findClass_of_methodNamed Bd.named
  have hnm := (name_of_methodNamed Bd.named Bd.method).1
  have hlk : meth.locks = false := Bd.notSynchronized
  have X0 : Stand p l e ({ frames := 0, cells := 0, slots := 0, locals := 0 } : Room) s m #[(.ref a), (.int p1), (.int p2)] below meth c s₁ [] 0 0 := Stand.of_body Bd
  have e0 : s₁.heap = h0 := by rw [← hh, Bd.state]; rfl
  have Nf := Fr.nil n0
  refine (?_ : Win p.tables e below (PostQ s (Q4 Z a p1 p2 f h0 n0) ({ frames := 0, cells := 0, slots := 0, locals := 0 } : Room).cells ({ frames := 0, cells := 0, slots := 0, locals := 0 } : Room).slots) (s₁.setTop (entryFrame m #[(.ref a), (.int p1), (.int p2)] 4)))
  rw [ef_4]
  have lt_a : a < h0.size := A_a.lt
  show Win p.tables e below _ (s₁.setTop (mkF m 0 #[.val (.ref a), .val (.int p1), .val (.int p2), .unset] []))
  refine s_iloadN (pc' := 1) X0.here hx (hb hby d4_0) rfl rfl ?_
  refine s_istoreN (pc' := 2) (l' := #[.val (.ref a), .val (.int p1), .val (.int p2), .val (.int p1)]) X0.here hx (hb hby d4_1) rfl rfl ?_
  have LP2 : ∀ (fuel : Nat) (TL2 : State) (LL2 : List Loc), Stand p l e ({ frames := 0, cells := 0, slots := 0, locals := 0 } : Room) s m #[(.ref a), (.int p1), (.int p2)] below meth c TL2 LL2 0 0 → TL2.heap = h0 → Fr n0 LL2 → ∀ i : Int32, (p1.toInt ≤ i.toInt ∧ i.toInt ≤ p2.toInt ∧ ∀ j : Int, p1.toInt ≤ j → j < i.toInt → ¬ (f j).toInt = 27) → ((p2.toInt - i.toInt).toNat) < fuel → Win p.tables e below (PostQ s (Q4 Z a p1 p2 f h0 n0) ({ frames := 0, cells := 0, slots := 0, locals := 0 } : Room).cells ({ frames := 0, cells := 0, slots := 0, locals := 0 } : Room).slots) (TL2.setTop (mkF m 2 #[.val (.ref a), .val (.int p1), .val (.int p2), .val (.int i)] [])) := by
    intro fuel
    induction fuel with
    | zero => intro _ _ _ _ _ _ _ hfu; exact absurd hfu (Nat.not_lt_zero _)
    | succ fuel ih2 =>
      intro TL2 LL2 XL2 eL2 Nf i hinv2 hfu2
      refine s_iloadN (pc' := 3) XL2.here hx (hb hby d4_2) rfl rfl ?_
      refine s_iloadN (pc' := 4) XL2.here hx (hb hby d4_3) rfl rfl ?_
      by_cases hc4_0 : (i).toInt < (p2).toInt
      · skip
        refine s_icmpNo (pc' := 7) XL2.here hx (hb hby d4_4) rfl (tltI (x := i) (y := p2) hc4_0).2.1 ?_
        obtain ⟨hi1, hi2, hi3⟩ := id hinv2
        refine s_aloadN (pc' := 8) XL2.here hx (hb hby d4_7) rfl rfl rfl ?_
        refine s_iloadN (pc' := 9) XL2.here hx (hb hby d4_8) rfl rfl ?_
        obtain ⟨cl_1, Ar_1, S_1, G_1⟩ := id A_a
        have hb_1 : 0 ≤ (i).toInt ∧ (i).toInt < 8 := by omega
        refine Win.go (fun _ k => XL2.baloadBytes hx (j := i) (v := (.int (f (i).toInt))) (by rw [eL2]; exact Ar_1.1) (State.isArrayOf_alike hZ.alike Ar_1.2.1) Ar_1.2.2 (AF.inb S_1 hb_1) (G_1 _ hb_1.1 hb_1.2) (g := (mkF m 9 #[.val (.ref a), .val (.int p1), .val (.int p2), .val (.int i)] [(.int i), (.ref a)])) rfl rfl (hb hby d4_9) _ k) ?_
        show Win p.tables e below _ (TL2.setTop (mkF m 10 #[.val (.ref a), .val (.int p1), .val (.int p2), .val (.int i)] [(.int (f (i).toInt))]))
        clear Ar_1 S_1 G_1 hb_1
        refine s_bipush (pc' := 12) (z := (27 : Int32)) XL2.here hx (hb hby d4_10) rfl rfl ?_
        by_cases hc12_1 : ((f (i).toInt)).toInt = (27 : Int)
        · skip
          refine s_icmpYes (pc' := 21) XL2.here hx (hb hby d4_12) (teqI (x := (f (i).toInt)) (y := (27 : Int32)) hc12_1).1 (by decide) (by decide) ?_
          refine s_iloadN (pc' := 22) XL2.here hx (hb hby d4_21) rfl rfl ?_
          refine winI XL2 hx hlk eL2 Bd.returns (hb hby d4_22) (by decide) (by decide) ?_
          refine ⟨Nf, rfl, _, rfl, ?_⟩
          exact ⟨by omega, by omega, fun h => by assumption, hi3⟩
        · skip
          refine s_icmpNo (pc' := 15) XL2.here hx (hb hby d4_12) rfl (feqI (x := (f (i).toInt)) (y := (27 : Int32)) hc12_1).1 ?_
          have ei := c_iadd i 1
          have er := rng32 (i + 1)
          have e1 : (1 : Int32).toInt = 1 := rfl
          refine Win.go (fun _ k => XS.iinc XL2.here hx rfl (hb hby d4_15) rfl (l' := #[.val (.ref a), .val (.int p1), .val (.int p2), .val (.int (i + (1 : Int32)))]) rfl k) ?_
          show Win p.tables e below _ (TL2.setTop (mkF m 18 #[.val (.ref a), .val (.int p1), .val (.int p2), .val (.int (i + (1 : Int32)))] []))
          refine s_goto (pc' := 2) XL2.here hx (hb hby d4_18) (by decide) (by decide) ?_
          exact ih2 _ _ XL2 eL2 Nf (i + (1 : Int32)) (by exact ⟨by omega, by omega, fun j h1 h2 => by rcases (by omega : j < i.toInt ∨ j = i.toInt) with q | rfl; exact hinv2.2.2 j h1 q; assumption⟩) (by omega)
      · skip
        refine s_icmpYes (pc' := 21) XL2.here hx (hb hby d4_4) (fltI (x := i) (y := p2) hc4_0).2.1 (by decide) (by decide) ?_
        refine s_iloadN (pc' := 22) XL2.here hx (hb hby d4_21) rfl rfl ?_
        refine winI XL2 hx hlk eL2 Bd.returns (hb hby d4_22) (by decide) (by decide) ?_
        refine ⟨Nf, rfl, _, rfl, ?_⟩
        exact ⟨by omega, by omega, fun h => by omega, hinv2.2.2⟩
  exact LP2 (((p2.toInt - (p1).toInt).toNat) + 1) _ _ X0 e0 Nf p1 (by exact ⟨by omega, by omega, fun j h1 h2 => by omega⟩) (Nat.lt_succ_self _)
theorem d5_0 : decode method_4_code 0 = .ok (.iload_n 1, 1) := by decide +kernel
theorem d5_1 : decode method_4_code 1 = .ok (.iload_n 2, 1) := by decide +kernel
theorem d5_2 : decode method_4_code 2 = .ok (.if_icmp .lt 16, 3) := by decide +kernel
theorem d5_5 : decode method_4_code 5 = .ok (.iload_n 1, 1) := by decide +kernel
theorem d5_6 : decode method_4_code 6 = .ok (.iload_n 3, 1) := by decide +kernel
theorem d5_7 : decode method_4_code 7 = .ok (.if_icmp .ge 11, 3) := by decide +kernel
theorem d5_10 : decode method_4_code 10 = .ok (.aload_n 0, 1) := by decide +kernel
theorem d5_11 : decode method_4_code 11 = .ok (.iload_n 1, 1) := by decide +kernel
theorem d5_12 : decode method_4_code 12 = .ok (.baload, 1) := by decide +kernel
theorem d5_13 : decode method_4_code 13 = .ok (.bipush 27, 2) := by decide +kernel
theorem d5_15 : decode method_4_code 15 = .ok (.if_icmp .eq 7, 3) := by decide +kernel
theorem d5_18 : decode method_4_code 18 = .ok (.iconst 1, 1) := by decide +kernel
theorem d5_19 : decode method_4_code 19 = .ok (.goto 4, 3) := by decide +kernel
theorem d5_22 : decode method_4_code 22 = .ok (.iconst 0, 1) := by decide +kernel
theorem d5_23 : decode method_4_code 23 = .ok (.ireturn, 1) := by decide +kernel
theorem ef_5_0 (m : MethodId) (a : Addr) (p2 : Int32) (p3 : Int32) : entryFrame m #[(.ref a), (.int (0 : Int32)), (.int p2), (.int p3)] 4 = mkF m 0 #[.val (.ref a), .val (.int (0 : Int32)), .val (.int p2), .val (.int p3)] [] := by first | (simp [entryFrame, mkF, argsToLocals, Value.category]; done) | rfl
def Q5_0 (Z : State) (a : Addr) (p2 : Int32) (p3 : Int32) (f : Int → Int32) (h0 : Heap) (n0 : Nat) (v : Option Value) (h : Heap) (L : List Loc) : Prop := Fr n0 L ∧ h = h0 ∧ (∃ z : Int32, v = some (.int z) ∧ ((z.toInt = 1 ∧ (¬ (p2.toInt ≤ 0 ∧ 0 < p3.toInt ∧ (f (0 : Int)).toInt = 27))) ∨ (z.toInt = 0 ∧ ¬ (¬ (p2.toInt ≤ 0 ∧ 0 < p3.toInt ∧ (f (0 : Int)).toInt = 27)))))
set_option maxRecDepth 65536 in
set_option maxHeartbeats 40000000 in
theorem rm5_0 (l : Launch) (Z : State) (a0 : Array Value) (hw : ∀ d ∈ tables_1, d.before a0 Z = true) (ws : List Jvm.Cond) (a : Addr) (p2 : Int32) (p3 : Int32) (f : Int → Int32) (h0 : Heap) (n0 : Nat) (Zs : n0 ≤ h0.size) (A_a : AF Z h0 a .byte 8 f) :
    MetFree l (⟨"com/example/renkei/renkei/Iso2022WalkFirstEscPinLaw", "clear", "([BIII)Z"⟩ : MethodName) (head1 (Jvm.Cond.code (⟨"com/example/renkei/renkei/Iso2022WalkFirstEscPinLaw", "clear", "([BIII)Z"⟩ : MethodName) method_4_code 4 (some .boolean) :: ws) ({ frames := 0, cells := 0, slots := 0, locals := 0 } : Room)) (fun as' U => as' = #[(.ref a), (.int (0 : Int32)), (.int p2), (.int p3)] ∧ Z.Warmed39 U.vm ∧ U.heap = h0) (fun _ _ _ _ _ => True) (fun _ U o U' => ∃ v L, o = .returned v ∧ Q5_0 Z a p2 p3 f h0 n0 v U'.heap L ∧ FrameEnd U o U' L ({ frames := 0, cells := 0, slots := 0, locals := 0 } : Room).cells ({ frames := 0, cells := 0, slots := 0, locals := 0 } : Room).slots) := by
  refine MetFree.of_bodySF (plainFor_of_name pn_1) hisR ?_
  intro p e s m args below meth c s₁ Bd hml0 hP hK
  obtain ⟨rfl, hZ, hh⟩ := hP
  have hx := Bd.exec
  have hby := Bd.bytes
  have hml : c.maxLocals = 4 := hml0
  have hown : s.vm.findClass "com/example/renkei/renkei/Iso2022WalkFirstEscPinLaw" = some m.cls := findClass_of_methodNamed Bd.named
  have hnm := (name_of_methodNamed Bd.named Bd.method).1
  have hlk : meth.locks = false := Bd.notSynchronized
  have X0 : Stand p l e ({ frames := 0, cells := 0, slots := 0, locals := 0 } : Room) s m #[(.ref a), (.int (0 : Int32)), (.int p2), (.int p3)] below meth c s₁ [] 0 0 := Stand.of_body Bd
  have e0 : s₁.heap = h0 := by rw [← hh, Bd.state]; rfl
  have Nf := Fr.nil n0
  refine (?_ : Win p.tables e below (PostQ s (Q5_0 Z a p2 p3 f h0 n0) ({ frames := 0, cells := 0, slots := 0, locals := 0 } : Room).cells ({ frames := 0, cells := 0, slots := 0, locals := 0 } : Room).slots) (s₁.setTop (entryFrame m #[(.ref a), (.int (0 : Int32)), (.int p2), (.int p3)] 4)))
  rw [ef_5_0]
  have lt_a : a < h0.size := A_a.lt
  show Win p.tables e below _ (s₁.setTop (mkF m 0 #[.val (.ref a), .val (.int (0 : Int32)), .val (.int p2), .val (.int p3)] []))
  refine s_iloadN (pc' := 1) X0.here hx (hb hby d5_0) rfl rfl ?_
  refine s_iloadN (pc' := 2) X0.here hx (hb hby d5_1) rfl rfl ?_
  by_cases hc2 : (0 : Int) < (p2).toInt
  · skip
    refine s_icmpYes (pc' := 18) X0.here hx (hb hby d5_2) (tltI (x := (0 : Int32)) (y := p2) hc2).1 (by decide) (by decide) ?_
    refine s_iconst (pc' := 19) (z := (1 : Int32)) X0.here hx (hb hby d5_18) rfl rfl ?_
    refine s_goto (pc' := 23) X0.here hx (hb hby d5_19) (by decide) (by decide) ?_
    refine winN X0 hx hlk e0 (t := .boolean) Bd.returns (by simp) (hb hby d5_23) (by decide) (by decide) (z' := (1 : Int32)) rfl ?_
    refine ⟨Nf, rfl, _, rfl, Or.inl ⟨rfl, ?_⟩⟩
    omega
  · skip
    refine s_icmpNo (pc' := 5) X0.here hx (hb hby d5_2) rfl (fltI (x := (0 : Int32)) (y := p2) hc2).1 ?_
    refine s_iloadN (pc' := 6) X0.here hx (hb hby d5_5) rfl rfl ?_
    refine s_iloadN (pc' := 7) X0.here hx (hb hby d5_6) rfl rfl ?_
    by_cases hc7 : (0 : Int) < (p3).toInt
    · skip
      refine s_icmpNo (pc' := 10) X0.here hx (hb hby d5_7) rfl (tltI (x := (0 : Int32)) (y := p3) hc7).2.1 ?_
      refine s_aloadN (pc' := 11) X0.here hx (hb hby d5_10) rfl rfl rfl ?_
      refine s_iloadN (pc' := 12) X0.here hx (hb hby d5_11) rfl rfl ?_
      obtain ⟨cl_2, Ar_2, S_2, G_2⟩ := id A_a
      have hb_2 : 0 ≤ ((0 : Int32)).toInt ∧ ((0 : Int32)).toInt < 8 := by decide
      refine Win.go (fun _ k => X0.baloadBytes hx (j := (0 : Int32)) (v := (.int (f (0 : Int)))) (by rw [e0]; exact Ar_2.1) (State.isArrayOf_alike hZ.alike Ar_2.2.1) Ar_2.2.2 (AF.inb S_2 hb_2) (G_2 _ hb_2.1 hb_2.2) (g := (mkF m 12 #[.val (.ref a), .val (.int (0 : Int32)), .val (.int p2), .val (.int p3)] [(.int (0 : Int32)), (.ref a)])) rfl rfl (hb hby d5_12) _ k) ?_
      show Win p.tables e below _ (s₁.setTop (mkF m 13 #[.val (.ref a), .val (.int (0 : Int32)), .val (.int p2), .val (.int p3)] [(.int (f (0 : Int)))]))
      clear Ar_2 S_2 G_2 hb_2
      refine s_bipush (pc' := 15) (z := (27 : Int32)) X0.here hx (hb hby d5_13) rfl rfl ?_
      by_cases hc15 : ((f (0 : Int))).toInt = (27 : Int)
      · skip
        refine s_icmpYes (pc' := 22) X0.here hx (hb hby d5_15) (teqI (x := (f (0 : Int))) (y := (27 : Int32)) hc15).1 (by decide) (by decide) ?_
        refine s_iconst (pc' := 23) (z := (0 : Int32)) X0.here hx (hb hby d5_22) rfl rfl ?_
        refine winN X0 hx hlk e0 (t := .boolean) Bd.returns (by simp) (hb hby d5_23) (by decide) (by decide) (z' := (0 : Int32)) rfl ?_
        refine ⟨Nf, rfl, _, rfl, Or.inr ⟨rfl, ?_⟩⟩
        omega
      · skip
        refine s_icmpNo (pc' := 18) X0.here hx (hb hby d5_15) rfl (feqI (x := (f (0 : Int))) (y := (27 : Int32)) hc15).1 ?_
        refine s_iconst (pc' := 19) (z := (1 : Int32)) X0.here hx (hb hby d5_18) rfl rfl ?_
        refine s_goto (pc' := 23) X0.here hx (hb hby d5_19) (by decide) (by decide) ?_
        refine winN X0 hx hlk e0 (t := .boolean) Bd.returns (by simp) (hb hby d5_23) (by decide) (by decide) (z' := (1 : Int32)) rfl ?_
        refine ⟨Nf, rfl, _, rfl, Or.inl ⟨rfl, ?_⟩⟩
        omega
    · skip
      refine s_icmpYes (pc' := 18) X0.here hx (hb hby d5_7) (fltI (x := (0 : Int32)) (y := p3) hc7).2.1 (by decide) (by decide) ?_
      refine s_iconst (pc' := 19) (z := (1 : Int32)) X0.here hx (hb hby d5_18) rfl rfl ?_
      refine s_goto (pc' := 23) X0.here hx (hb hby d5_19) (by decide) (by decide) ?_
      refine winN X0 hx hlk e0 (t := .boolean) Bd.returns (by simp) (hb hby d5_23) (by decide) (by decide) (z' := (1 : Int32)) rfl ?_
      refine ⟨Nf, rfl, _, rfl, Or.inl ⟨rfl, ?_⟩⟩
      omega
theorem ef_5_1 (m : MethodId) (a : Addr) (p2 : Int32) (p3 : Int32) : entryFrame m #[(.ref a), (.int (1 : Int32)), (.int p2), (.int p3)] 4 = mkF m 0 #[.val (.ref a), .val (.int (1 : Int32)), .val (.int p2), .val (.int p3)] [] := by first | (simp [entryFrame, mkF, argsToLocals, Value.category]; done) | rfl
def Q5_1 (Z : State) (a : Addr) (p2 : Int32) (p3 : Int32) (f : Int → Int32) (h0 : Heap) (n0 : Nat) (v : Option Value) (h : Heap) (L : List Loc) : Prop := Fr n0 L ∧ h = h0 ∧ (∃ z : Int32, v = some (.int z) ∧ ((z.toInt = 1 ∧ (¬ (p2.toInt ≤ 1 ∧ 1 < p3.toInt ∧ (f (1 : Int)).toInt = 27))) ∨ (z.toInt = 0 ∧ ¬ (¬ (p2.toInt ≤ 1 ∧ 1 < p3.toInt ∧ (f (1 : Int)).toInt = 27)))))
set_option maxRecDepth 65536 in
set_option maxHeartbeats 40000000 in
theorem rm5_1 (l : Launch) (Z : State) (a0 : Array Value) (hw : ∀ d ∈ tables_1, d.before a0 Z = true) (ws : List Jvm.Cond) (a : Addr) (p2 : Int32) (p3 : Int32) (f : Int → Int32) (h0 : Heap) (n0 : Nat) (Zs : n0 ≤ h0.size) (A_a : AF Z h0 a .byte 8 f) :
    MetFree l (⟨"com/example/renkei/renkei/Iso2022WalkFirstEscPinLaw", "clear", "([BIII)Z"⟩ : MethodName) (head1 (Jvm.Cond.code (⟨"com/example/renkei/renkei/Iso2022WalkFirstEscPinLaw", "clear", "([BIII)Z"⟩ : MethodName) method_4_code 4 (some .boolean) :: ws) ({ frames := 0, cells := 0, slots := 0, locals := 0 } : Room)) (fun as' U => as' = #[(.ref a), (.int (1 : Int32)), (.int p2), (.int p3)] ∧ Z.Warmed39 U.vm ∧ U.heap = h0) (fun _ _ _ _ _ => True) (fun _ U o U' => ∃ v L, o = .returned v ∧ Q5_1 Z a p2 p3 f h0 n0 v U'.heap L ∧ FrameEnd U o U' L ({ frames := 0, cells := 0, slots := 0, locals := 0 } : Room).cells ({ frames := 0, cells := 0, slots := 0, locals := 0 } : Room).slots) := by
  refine MetFree.of_bodySF (plainFor_of_name pn_1) hisR ?_
  intro p e s m args below meth c s₁ Bd hml0 hP hK
  obtain ⟨rfl, hZ, hh⟩ := hP
  have hx := Bd.exec
  have hby := Bd.bytes
  have hml : c.maxLocals = 4 := hml0
  have hown : s.vm.findClass "com/example/renkei/renkei/Iso2022WalkFirstEscPinLaw" = some m.cls := findClass_of_methodNamed Bd.named
  have hnm := (name_of_methodNamed Bd.named Bd.method).1
  have hlk : meth.locks = false := Bd.notSynchronized
  have X0 : Stand p l e ({ frames := 0, cells := 0, slots := 0, locals := 0 } : Room) s m #[(.ref a), (.int (1 : Int32)), (.int p2), (.int p3)] below meth c s₁ [] 0 0 := Stand.of_body Bd
  have e0 : s₁.heap = h0 := by rw [← hh, Bd.state]; rfl
  have Nf := Fr.nil n0
  refine (?_ : Win p.tables e below (PostQ s (Q5_1 Z a p2 p3 f h0 n0) ({ frames := 0, cells := 0, slots := 0, locals := 0 } : Room).cells ({ frames := 0, cells := 0, slots := 0, locals := 0 } : Room).slots) (s₁.setTop (entryFrame m #[(.ref a), (.int (1 : Int32)), (.int p2), (.int p3)] 4)))
  rw [ef_5_1]
  have lt_a : a < h0.size := A_a.lt
  show Win p.tables e below _ (s₁.setTop (mkF m 0 #[.val (.ref a), .val (.int (1 : Int32)), .val (.int p2), .val (.int p3)] []))
  refine s_iloadN (pc' := 1) X0.here hx (hb hby d5_0) rfl rfl ?_
  refine s_iloadN (pc' := 2) X0.here hx (hb hby d5_1) rfl rfl ?_
  by_cases hc2 : (1 : Int) < (p2).toInt
  · skip
    refine s_icmpYes (pc' := 18) X0.here hx (hb hby d5_2) (tltI (x := (1 : Int32)) (y := p2) hc2).1 (by decide) (by decide) ?_
    refine s_iconst (pc' := 19) (z := (1 : Int32)) X0.here hx (hb hby d5_18) rfl rfl ?_
    refine s_goto (pc' := 23) X0.here hx (hb hby d5_19) (by decide) (by decide) ?_
    refine winN X0 hx hlk e0 (t := .boolean) Bd.returns (by simp) (hb hby d5_23) (by decide) (by decide) (z' := (1 : Int32)) rfl ?_
    refine ⟨Nf, rfl, _, rfl, Or.inl ⟨rfl, ?_⟩⟩
    omega
  · skip
    refine s_icmpNo (pc' := 5) X0.here hx (hb hby d5_2) rfl (fltI (x := (1 : Int32)) (y := p2) hc2).1 ?_
    refine s_iloadN (pc' := 6) X0.here hx (hb hby d5_5) rfl rfl ?_
    refine s_iloadN (pc' := 7) X0.here hx (hb hby d5_6) rfl rfl ?_
    by_cases hc7 : (1 : Int) < (p3).toInt
    · skip
      refine s_icmpNo (pc' := 10) X0.here hx (hb hby d5_7) rfl (tltI (x := (1 : Int32)) (y := p3) hc7).2.1 ?_
      refine s_aloadN (pc' := 11) X0.here hx (hb hby d5_10) rfl rfl rfl ?_
      refine s_iloadN (pc' := 12) X0.here hx (hb hby d5_11) rfl rfl ?_
      obtain ⟨cl_3, Ar_3, S_3, G_3⟩ := id A_a
      have hb_3 : 0 ≤ ((1 : Int32)).toInt ∧ ((1 : Int32)).toInt < 8 := by decide
      refine Win.go (fun _ k => X0.baloadBytes hx (j := (1 : Int32)) (v := (.int (f (1 : Int)))) (by rw [e0]; exact Ar_3.1) (State.isArrayOf_alike hZ.alike Ar_3.2.1) Ar_3.2.2 (AF.inb S_3 hb_3) (G_3 _ hb_3.1 hb_3.2) (g := (mkF m 12 #[.val (.ref a), .val (.int (1 : Int32)), .val (.int p2), .val (.int p3)] [(.int (1 : Int32)), (.ref a)])) rfl rfl (hb hby d5_12) _ k) ?_
      show Win p.tables e below _ (s₁.setTop (mkF m 13 #[.val (.ref a), .val (.int (1 : Int32)), .val (.int p2), .val (.int p3)] [(.int (f (1 : Int)))]))
      clear Ar_3 S_3 G_3 hb_3
      refine s_bipush (pc' := 15) (z := (27 : Int32)) X0.here hx (hb hby d5_13) rfl rfl ?_
      by_cases hc15 : ((f (1 : Int))).toInt = (27 : Int)
      · skip
        refine s_icmpYes (pc' := 22) X0.here hx (hb hby d5_15) (teqI (x := (f (1 : Int))) (y := (27 : Int32)) hc15).1 (by decide) (by decide) ?_
        refine s_iconst (pc' := 23) (z := (0 : Int32)) X0.here hx (hb hby d5_22) rfl rfl ?_
        refine winN X0 hx hlk e0 (t := .boolean) Bd.returns (by simp) (hb hby d5_23) (by decide) (by decide) (z' := (0 : Int32)) rfl ?_
        refine ⟨Nf, rfl, _, rfl, Or.inr ⟨rfl, ?_⟩⟩
        omega
      · skip
        refine s_icmpNo (pc' := 18) X0.here hx (hb hby d5_15) rfl (feqI (x := (f (1 : Int))) (y := (27 : Int32)) hc15).1 ?_
        refine s_iconst (pc' := 19) (z := (1 : Int32)) X0.here hx (hb hby d5_18) rfl rfl ?_
        refine s_goto (pc' := 23) X0.here hx (hb hby d5_19) (by decide) (by decide) ?_
        refine winN X0 hx hlk e0 (t := .boolean) Bd.returns (by simp) (hb hby d5_23) (by decide) (by decide) (z' := (1 : Int32)) rfl ?_
        refine ⟨Nf, rfl, _, rfl, Or.inl ⟨rfl, ?_⟩⟩
        omega
    · skip
      refine s_icmpYes (pc' := 18) X0.here hx (hb hby d5_7) (fltI (x := (1 : Int32)) (y := p3) hc7).2.1 (by decide) (by decide) ?_
      refine s_iconst (pc' := 19) (z := (1 : Int32)) X0.here hx (hb hby d5_18) rfl rfl ?_
      refine s_goto (pc' := 23) X0.here hx (hb hby d5_19) (by decide) (by decide) ?_
      refine winN X0 hx hlk e0 (t := .boolean) Bd.returns (by simp) (hb hby d5_23) (by decide) (by decide) (z' := (1 : Int32)) rfl ?_
      refine ⟨Nf, rfl, _, rfl, Or.inl ⟨rfl, ?_⟩⟩
      omega
theorem ef_5_2 (m : MethodId) (a : Addr) (p2 : Int32) (p3 : Int32) : entryFrame m #[(.ref a), (.int (2 : Int32)), (.int p2), (.int p3)] 4 = mkF m 0 #[.val (.ref a), .val (.int (2 : Int32)), .val (.int p2), .val (.int p3)] [] := by first | (simp [entryFrame, mkF, argsToLocals, Value.category]; done) | rfl
def Q5_2 (Z : State) (a : Addr) (p2 : Int32) (p3 : Int32) (f : Int → Int32) (h0 : Heap) (n0 : Nat) (v : Option Value) (h : Heap) (L : List Loc) : Prop := Fr n0 L ∧ h = h0 ∧ (∃ z : Int32, v = some (.int z) ∧ ((z.toInt = 1 ∧ (¬ (p2.toInt ≤ 2 ∧ 2 < p3.toInt ∧ (f (2 : Int)).toInt = 27))) ∨ (z.toInt = 0 ∧ ¬ (¬ (p2.toInt ≤ 2 ∧ 2 < p3.toInt ∧ (f (2 : Int)).toInt = 27)))))
set_option maxRecDepth 65536 in
set_option maxHeartbeats 40000000 in
theorem rm5_2 (l : Launch) (Z : State) (a0 : Array Value) (hw : ∀ d ∈ tables_1, d.before a0 Z = true) (ws : List Jvm.Cond) (a : Addr) (p2 : Int32) (p3 : Int32) (f : Int → Int32) (h0 : Heap) (n0 : Nat) (Zs : n0 ≤ h0.size) (A_a : AF Z h0 a .byte 8 f) :
    MetFree l (⟨"com/example/renkei/renkei/Iso2022WalkFirstEscPinLaw", "clear", "([BIII)Z"⟩ : MethodName) (head1 (Jvm.Cond.code (⟨"com/example/renkei/renkei/Iso2022WalkFirstEscPinLaw", "clear", "([BIII)Z"⟩ : MethodName) method_4_code 4 (some .boolean) :: ws) ({ frames := 0, cells := 0, slots := 0, locals := 0 } : Room)) (fun as' U => as' = #[(.ref a), (.int (2 : Int32)), (.int p2), (.int p3)] ∧ Z.Warmed39 U.vm ∧ U.heap = h0) (fun _ _ _ _ _ => True) (fun _ U o U' => ∃ v L, o = .returned v ∧ Q5_2 Z a p2 p3 f h0 n0 v U'.heap L ∧ FrameEnd U o U' L ({ frames := 0, cells := 0, slots := 0, locals := 0 } : Room).cells ({ frames := 0, cells := 0, slots := 0, locals := 0 } : Room).slots) := by
  refine MetFree.of_bodySF (plainFor_of_name pn_1) hisR ?_
  intro p e s m args below meth c s₁ Bd hml0 hP hK
  obtain ⟨rfl, hZ, hh⟩ := hP
  have hx := Bd.exec
  have hby := Bd.bytes
  have hml : c.maxLocals = 4 := hml0
  have hown : s.vm.findClass "com/example/renkei/renkei/Iso2022WalkFirstEscPinLaw" = some m.cls := findClass_of_methodNamed Bd.named
  have hnm := (name_of_methodNamed Bd.named Bd.method).1
  have hlk : meth.locks = false := Bd.notSynchronized
  have X0 : Stand p l e ({ frames := 0, cells := 0, slots := 0, locals := 0 } : Room) s m #[(.ref a), (.int (2 : Int32)), (.int p2), (.int p3)] below meth c s₁ [] 0 0 := Stand.of_body Bd
  have e0 : s₁.heap = h0 := by rw [← hh, Bd.state]; rfl
  have Nf := Fr.nil n0
  refine (?_ : Win p.tables e below (PostQ s (Q5_2 Z a p2 p3 f h0 n0) ({ frames := 0, cells := 0, slots := 0, locals := 0 } : Room).cells ({ frames := 0, cells := 0, slots := 0, locals := 0 } : Room).slots) (s₁.setTop (entryFrame m #[(.ref a), (.int (2 : Int32)), (.int p2), (.int p3)] 4)))
  rw [ef_5_2]
  have lt_a : a < h0.size := A_a.lt
  show Win p.tables e below _ (s₁.setTop (mkF m 0 #[.val (.ref a), .val (.int (2 : Int32)), .val (.int p2), .val (.int p3)] []))
  refine s_iloadN (pc' := 1) X0.here hx (hb hby d5_0) rfl rfl ?_
  refine s_iloadN (pc' := 2) X0.here hx (hb hby d5_1) rfl rfl ?_
  by_cases hc2 : (2 : Int) < (p2).toInt
  · skip
    refine s_icmpYes (pc' := 18) X0.here hx (hb hby d5_2) (tltI (x := (2 : Int32)) (y := p2) hc2).1 (by decide) (by decide) ?_
    refine s_iconst (pc' := 19) (z := (1 : Int32)) X0.here hx (hb hby d5_18) rfl rfl ?_
    refine s_goto (pc' := 23) X0.here hx (hb hby d5_19) (by decide) (by decide) ?_
    refine winN X0 hx hlk e0 (t := .boolean) Bd.returns (by simp) (hb hby d5_23) (by decide) (by decide) (z' := (1 : Int32)) rfl ?_
    refine ⟨Nf, rfl, _, rfl, Or.inl ⟨rfl, ?_⟩⟩
    omega
  · skip
    refine s_icmpNo (pc' := 5) X0.here hx (hb hby d5_2) rfl (fltI (x := (2 : Int32)) (y := p2) hc2).1 ?_
    refine s_iloadN (pc' := 6) X0.here hx (hb hby d5_5) rfl rfl ?_
    refine s_iloadN (pc' := 7) X0.here hx (hb hby d5_6) rfl rfl ?_
    by_cases hc7 : (2 : Int) < (p3).toInt
    · skip
      refine s_icmpNo (pc' := 10) X0.here hx (hb hby d5_7) rfl (tltI (x := (2 : Int32)) (y := p3) hc7).2.1 ?_
      refine s_aloadN (pc' := 11) X0.here hx (hb hby d5_10) rfl rfl rfl ?_
      refine s_iloadN (pc' := 12) X0.here hx (hb hby d5_11) rfl rfl ?_
      obtain ⟨cl_4, Ar_4, S_4, G_4⟩ := id A_a
      have hb_4 : 0 ≤ ((2 : Int32)).toInt ∧ ((2 : Int32)).toInt < 8 := by decide
      refine Win.go (fun _ k => X0.baloadBytes hx (j := (2 : Int32)) (v := (.int (f (2 : Int)))) (by rw [e0]; exact Ar_4.1) (State.isArrayOf_alike hZ.alike Ar_4.2.1) Ar_4.2.2 (AF.inb S_4 hb_4) (G_4 _ hb_4.1 hb_4.2) (g := (mkF m 12 #[.val (.ref a), .val (.int (2 : Int32)), .val (.int p2), .val (.int p3)] [(.int (2 : Int32)), (.ref a)])) rfl rfl (hb hby d5_12) _ k) ?_
      show Win p.tables e below _ (s₁.setTop (mkF m 13 #[.val (.ref a), .val (.int (2 : Int32)), .val (.int p2), .val (.int p3)] [(.int (f (2 : Int)))]))
      clear Ar_4 S_4 G_4 hb_4
      refine s_bipush (pc' := 15) (z := (27 : Int32)) X0.here hx (hb hby d5_13) rfl rfl ?_
      by_cases hc15 : ((f (2 : Int))).toInt = (27 : Int)
      · skip
        refine s_icmpYes (pc' := 22) X0.here hx (hb hby d5_15) (teqI (x := (f (2 : Int))) (y := (27 : Int32)) hc15).1 (by decide) (by decide) ?_
        refine s_iconst (pc' := 23) (z := (0 : Int32)) X0.here hx (hb hby d5_22) rfl rfl ?_
        refine winN X0 hx hlk e0 (t := .boolean) Bd.returns (by simp) (hb hby d5_23) (by decide) (by decide) (z' := (0 : Int32)) rfl ?_
        refine ⟨Nf, rfl, _, rfl, Or.inr ⟨rfl, ?_⟩⟩
        omega
      · skip
        refine s_icmpNo (pc' := 18) X0.here hx (hb hby d5_15) rfl (feqI (x := (f (2 : Int))) (y := (27 : Int32)) hc15).1 ?_
        refine s_iconst (pc' := 19) (z := (1 : Int32)) X0.here hx (hb hby d5_18) rfl rfl ?_
        refine s_goto (pc' := 23) X0.here hx (hb hby d5_19) (by decide) (by decide) ?_
        refine winN X0 hx hlk e0 (t := .boolean) Bd.returns (by simp) (hb hby d5_23) (by decide) (by decide) (z' := (1 : Int32)) rfl ?_
        refine ⟨Nf, rfl, _, rfl, Or.inl ⟨rfl, ?_⟩⟩
        omega
    · skip
      refine s_icmpYes (pc' := 18) X0.here hx (hb hby d5_7) (fltI (x := (2 : Int32)) (y := p3) hc7).2.1 (by decide) (by decide) ?_
      refine s_iconst (pc' := 19) (z := (1 : Int32)) X0.here hx (hb hby d5_18) rfl rfl ?_
      refine s_goto (pc' := 23) X0.here hx (hb hby d5_19) (by decide) (by decide) ?_
      refine winN X0 hx hlk e0 (t := .boolean) Bd.returns (by simp) (hb hby d5_23) (by decide) (by decide) (z' := (1 : Int32)) rfl ?_
      refine ⟨Nf, rfl, _, rfl, Or.inl ⟨rfl, ?_⟩⟩
      omega
theorem ef_5_3 (m : MethodId) (a : Addr) (p2 : Int32) (p3 : Int32) : entryFrame m #[(.ref a), (.int (3 : Int32)), (.int p2), (.int p3)] 4 = mkF m 0 #[.val (.ref a), .val (.int (3 : Int32)), .val (.int p2), .val (.int p3)] [] := by first | (simp [entryFrame, mkF, argsToLocals, Value.category]; done) | rfl
def Q5_3 (Z : State) (a : Addr) (p2 : Int32) (p3 : Int32) (f : Int → Int32) (h0 : Heap) (n0 : Nat) (v : Option Value) (h : Heap) (L : List Loc) : Prop := Fr n0 L ∧ h = h0 ∧ (∃ z : Int32, v = some (.int z) ∧ ((z.toInt = 1 ∧ (¬ (p2.toInt ≤ 3 ∧ 3 < p3.toInt ∧ (f (3 : Int)).toInt = 27))) ∨ (z.toInt = 0 ∧ ¬ (¬ (p2.toInt ≤ 3 ∧ 3 < p3.toInt ∧ (f (3 : Int)).toInt = 27)))))
set_option maxRecDepth 65536 in
set_option maxHeartbeats 40000000 in
theorem rm5_3 (l : Launch) (Z : State) (a0 : Array Value) (hw : ∀ d ∈ tables_1, d.before a0 Z = true) (ws : List Jvm.Cond) (a : Addr) (p2 : Int32) (p3 : Int32) (f : Int → Int32) (h0 : Heap) (n0 : Nat) (Zs : n0 ≤ h0.size) (A_a : AF Z h0 a .byte 8 f) :
    MetFree l (⟨"com/example/renkei/renkei/Iso2022WalkFirstEscPinLaw", "clear", "([BIII)Z"⟩ : MethodName) (head1 (Jvm.Cond.code (⟨"com/example/renkei/renkei/Iso2022WalkFirstEscPinLaw", "clear", "([BIII)Z"⟩ : MethodName) method_4_code 4 (some .boolean) :: ws) ({ frames := 0, cells := 0, slots := 0, locals := 0 } : Room)) (fun as' U => as' = #[(.ref a), (.int (3 : Int32)), (.int p2), (.int p3)] ∧ Z.Warmed39 U.vm ∧ U.heap = h0) (fun _ _ _ _ _ => True) (fun _ U o U' => ∃ v L, o = .returned v ∧ Q5_3 Z a p2 p3 f h0 n0 v U'.heap L ∧ FrameEnd U o U' L ({ frames := 0, cells := 0, slots := 0, locals := 0 } : Room).cells ({ frames := 0, cells := 0, slots := 0, locals := 0 } : Room).slots) := by
  refine MetFree.of_bodySF (plainFor_of_name pn_1) hisR ?_
  intro p e s m args below meth c s₁ Bd hml0 hP hK
  obtain ⟨rfl, hZ, hh⟩ := hP
  have hx := Bd.exec
  have hby := Bd.bytes
  have hml : c.maxLocals = 4 := hml0
  have hown : s.vm.findClass "com/example/renkei/renkei/Iso2022WalkFirstEscPinLaw" = some m.cls := findClass_of_methodNamed Bd.named
  have hnm := (name_of_methodNamed Bd.named Bd.method).1
  have hlk : meth.locks = false := Bd.notSynchronized
  have X0 : Stand p l e ({ frames := 0, cells := 0, slots := 0, locals := 0 } : Room) s m #[(.ref a), (.int (3 : Int32)), (.int p2), (.int p3)] below meth c s₁ [] 0 0 := Stand.of_body Bd
  have e0 : s₁.heap = h0 := by rw [← hh, Bd.state]; rfl
  have Nf := Fr.nil n0
  refine (?_ : Win p.tables e below (PostQ s (Q5_3 Z a p2 p3 f h0 n0) ({ frames := 0, cells := 0, slots := 0, locals := 0 } : Room).cells ({ frames := 0, cells := 0, slots := 0, locals := 0 } : Room).slots) (s₁.setTop (entryFrame m #[(.ref a), (.int (3 : Int32)), (.int p2), (.int p3)] 4)))
  rw [ef_5_3]
  have lt_a : a < h0.size := A_a.lt
  show Win p.tables e below _ (s₁.setTop (mkF m 0 #[.val (.ref a), .val (.int (3 : Int32)), .val (.int p2), .val (.int p3)] []))
  refine s_iloadN (pc' := 1) X0.here hx (hb hby d5_0) rfl rfl ?_
  refine s_iloadN (pc' := 2) X0.here hx (hb hby d5_1) rfl rfl ?_
  by_cases hc2 : (3 : Int) < (p2).toInt
  · skip
    refine s_icmpYes (pc' := 18) X0.here hx (hb hby d5_2) (tltI (x := (3 : Int32)) (y := p2) hc2).1 (by decide) (by decide) ?_
    refine s_iconst (pc' := 19) (z := (1 : Int32)) X0.here hx (hb hby d5_18) rfl rfl ?_
    refine s_goto (pc' := 23) X0.here hx (hb hby d5_19) (by decide) (by decide) ?_
    refine winN X0 hx hlk e0 (t := .boolean) Bd.returns (by simp) (hb hby d5_23) (by decide) (by decide) (z' := (1 : Int32)) rfl ?_
    refine ⟨Nf, rfl, _, rfl, Or.inl ⟨rfl, ?_⟩⟩
    omega
  · skip
    refine s_icmpNo (pc' := 5) X0.here hx (hb hby d5_2) rfl (fltI (x := (3 : Int32)) (y := p2) hc2).1 ?_
    refine s_iloadN (pc' := 6) X0.here hx (hb hby d5_5) rfl rfl ?_
    refine s_iloadN (pc' := 7) X0.here hx (hb hby d5_6) rfl rfl ?_
    by_cases hc7 : (3 : Int) < (p3).toInt
    · skip
      refine s_icmpNo (pc' := 10) X0.here hx (hb hby d5_7) rfl (tltI (x := (3 : Int32)) (y := p3) hc7).2.1 ?_
      refine s_aloadN (pc' := 11) X0.here hx (hb hby d5_10) rfl rfl rfl ?_
      refine s_iloadN (pc' := 12) X0.here hx (hb hby d5_11) rfl rfl ?_
      obtain ⟨cl_5, Ar_5, S_5, G_5⟩ := id A_a
      have hb_5 : 0 ≤ ((3 : Int32)).toInt ∧ ((3 : Int32)).toInt < 8 := by decide
      refine Win.go (fun _ k => X0.baloadBytes hx (j := (3 : Int32)) (v := (.int (f (3 : Int)))) (by rw [e0]; exact Ar_5.1) (State.isArrayOf_alike hZ.alike Ar_5.2.1) Ar_5.2.2 (AF.inb S_5 hb_5) (G_5 _ hb_5.1 hb_5.2) (g := (mkF m 12 #[.val (.ref a), .val (.int (3 : Int32)), .val (.int p2), .val (.int p3)] [(.int (3 : Int32)), (.ref a)])) rfl rfl (hb hby d5_12) _ k) ?_
      show Win p.tables e below _ (s₁.setTop (mkF m 13 #[.val (.ref a), .val (.int (3 : Int32)), .val (.int p2), .val (.int p3)] [(.int (f (3 : Int)))]))
      clear Ar_5 S_5 G_5 hb_5
      refine s_bipush (pc' := 15) (z := (27 : Int32)) X0.here hx (hb hby d5_13) rfl rfl ?_
      by_cases hc15 : ((f (3 : Int))).toInt = (27 : Int)
      · skip
        refine s_icmpYes (pc' := 22) X0.here hx (hb hby d5_15) (teqI (x := (f (3 : Int))) (y := (27 : Int32)) hc15).1 (by decide) (by decide) ?_
        refine s_iconst (pc' := 23) (z := (0 : Int32)) X0.here hx (hb hby d5_22) rfl rfl ?_
        refine winN X0 hx hlk e0 (t := .boolean) Bd.returns (by simp) (hb hby d5_23) (by decide) (by decide) (z' := (0 : Int32)) rfl ?_
        refine ⟨Nf, rfl, _, rfl, Or.inr ⟨rfl, ?_⟩⟩
        omega
      · skip
        refine s_icmpNo (pc' := 18) X0.here hx (hb hby d5_15) rfl (feqI (x := (f (3 : Int))) (y := (27 : Int32)) hc15).1 ?_
        refine s_iconst (pc' := 19) (z := (1 : Int32)) X0.here hx (hb hby d5_18) rfl rfl ?_
        refine s_goto (pc' := 23) X0.here hx (hb hby d5_19) (by decide) (by decide) ?_
        refine winN X0 hx hlk e0 (t := .boolean) Bd.returns (by simp) (hb hby d5_23) (by decide) (by decide) (z' := (1 : Int32)) rfl ?_
        refine ⟨Nf, rfl, _, rfl, Or.inl ⟨rfl, ?_⟩⟩
        omega
    · skip
      refine s_icmpYes (pc' := 18) X0.here hx (hb hby d5_7) (fltI (x := (3 : Int32)) (y := p3) hc7).2.1 (by decide) (by decide) ?_
      refine s_iconst (pc' := 19) (z := (1 : Int32)) X0.here hx (hb hby d5_18) rfl rfl ?_
      refine s_goto (pc' := 23) X0.here hx (hb hby d5_19) (by decide) (by decide) ?_
      refine winN X0 hx hlk e0 (t := .boolean) Bd.returns (by simp) (hb hby d5_23) (by decide) (by decide) (z' := (1 : Int32)) rfl ?_
      refine ⟨Nf, rfl, _, rfl, Or.inl ⟨rfl, ?_⟩⟩
      omega
theorem ef_5_4 (m : MethodId) (a : Addr) (p2 : Int32) (p3 : Int32) : entryFrame m #[(.ref a), (.int (4 : Int32)), (.int p2), (.int p3)] 4 = mkF m 0 #[.val (.ref a), .val (.int (4 : Int32)), .val (.int p2), .val (.int p3)] [] := by first | (simp [entryFrame, mkF, argsToLocals, Value.category]; done) | rfl
def Q5_4 (Z : State) (a : Addr) (p2 : Int32) (p3 : Int32) (f : Int → Int32) (h0 : Heap) (n0 : Nat) (v : Option Value) (h : Heap) (L : List Loc) : Prop := Fr n0 L ∧ h = h0 ∧ (∃ z : Int32, v = some (.int z) ∧ ((z.toInt = 1 ∧ (¬ (p2.toInt ≤ 4 ∧ 4 < p3.toInt ∧ (f (4 : Int)).toInt = 27))) ∨ (z.toInt = 0 ∧ ¬ (¬ (p2.toInt ≤ 4 ∧ 4 < p3.toInt ∧ (f (4 : Int)).toInt = 27)))))
set_option maxRecDepth 65536 in
set_option maxHeartbeats 40000000 in
theorem rm5_4 (l : Launch) (Z : State) (a0 : Array Value) (hw : ∀ d ∈ tables_1, d.before a0 Z = true) (ws : List Jvm.Cond) (a : Addr) (p2 : Int32) (p3 : Int32) (f : Int → Int32) (h0 : Heap) (n0 : Nat) (Zs : n0 ≤ h0.size) (A_a : AF Z h0 a .byte 8 f) :
    MetFree l (⟨"com/example/renkei/renkei/Iso2022WalkFirstEscPinLaw", "clear", "([BIII)Z"⟩ : MethodName) (head1 (Jvm.Cond.code (⟨"com/example/renkei/renkei/Iso2022WalkFirstEscPinLaw", "clear", "([BIII)Z"⟩ : MethodName) method_4_code 4 (some .boolean) :: ws) ({ frames := 0, cells := 0, slots := 0, locals := 0 } : Room)) (fun as' U => as' = #[(.ref a), (.int (4 : Int32)), (.int p2), (.int p3)] ∧ Z.Warmed39 U.vm ∧ U.heap = h0) (fun _ _ _ _ _ => True) (fun _ U o U' => ∃ v L, o = .returned v ∧ Q5_4 Z a p2 p3 f h0 n0 v U'.heap L ∧ FrameEnd U o U' L ({ frames := 0, cells := 0, slots := 0, locals := 0 } : Room).cells ({ frames := 0, cells := 0, slots := 0, locals := 0 } : Room).slots) := by
  refine MetFree.of_bodySF (plainFor_of_name pn_1) hisR ?_
  intro p e s m args below meth c s₁ Bd hml0 hP hK
  obtain ⟨rfl, hZ, hh⟩ := hP
  have hx := Bd.exec
  have hby := Bd.bytes
  have hml : c.maxLocals = 4 := hml0
  have hown : s.vm.findClass "com/example/renkei/renkei/Iso2022WalkFirstEscPinLaw" = some m.cls := findClass_of_methodNamed Bd.named
  have hnm := (name_of_methodNamed Bd.named Bd.method).1
  have hlk : meth.locks = false := Bd.notSynchronized
  have X0 : Stand p l e ({ frames := 0, cells := 0, slots := 0, locals := 0 } : Room) s m #[(.ref a), (.int (4 : Int32)), (.int p2), (.int p3)] below meth c s₁ [] 0 0 := Stand.of_body Bd
  have e0 : s₁.heap = h0 := by rw [← hh, Bd.state]; rfl
  have Nf := Fr.nil n0
  refine (?_ : Win p.tables e below (PostQ s (Q5_4 Z a p2 p3 f h0 n0) ({ frames := 0, cells := 0, slots := 0, locals := 0 } : Room).cells ({ frames := 0, cells := 0, slots := 0, locals := 0 } : Room).slots) (s₁.setTop (entryFrame m #[(.ref a), (.int (4 : Int32)), (.int p2), (.int p3)] 4)))
  rw [ef_5_4]
  have lt_a : a < h0.size := A_a.lt
  show Win p.tables e below _ (s₁.setTop (mkF m 0 #[.val (.ref a), .val (.int (4 : Int32)), .val (.int p2), .val (.int p3)] []))
  refine s_iloadN (pc' := 1) X0.here hx (hb hby d5_0) rfl rfl ?_
  refine s_iloadN (pc' := 2) X0.here hx (hb hby d5_1) rfl rfl ?_
  by_cases hc2 : (4 : Int) < (p2).toInt
  · skip
    refine s_icmpYes (pc' := 18) X0.here hx (hb hby d5_2) (tltI (x := (4 : Int32)) (y := p2) hc2).1 (by decide) (by decide) ?_
    refine s_iconst (pc' := 19) (z := (1 : Int32)) X0.here hx (hb hby d5_18) rfl rfl ?_
    refine s_goto (pc' := 23) X0.here hx (hb hby d5_19) (by decide) (by decide) ?_
    refine winN X0 hx hlk e0 (t := .boolean) Bd.returns (by simp) (hb hby d5_23) (by decide) (by decide) (z' := (1 : Int32)) rfl ?_
    refine ⟨Nf, rfl, _, rfl, Or.inl ⟨rfl, ?_⟩⟩
    omega
  · skip
    refine s_icmpNo (pc' := 5) X0.here hx (hb hby d5_2) rfl (fltI (x := (4 : Int32)) (y := p2) hc2).1 ?_
    refine s_iloadN (pc' := 6) X0.here hx (hb hby d5_5) rfl rfl ?_
    refine s_iloadN (pc' := 7) X0.here hx (hb hby d5_6) rfl rfl ?_
    by_cases hc7 : (4 : Int) < (p3).toInt
    · skip
      refine s_icmpNo (pc' := 10) X0.here hx (hb hby d5_7) rfl (tltI (x := (4 : Int32)) (y := p3) hc7).2.1 ?_
      refine s_aloadN (pc' := 11) X0.here hx (hb hby d5_10) rfl rfl rfl ?_
      refine s_iloadN (pc' := 12) X0.here hx (hb hby d5_11) rfl rfl ?_
      obtain ⟨cl_6, Ar_6, S_6, G_6⟩ := id A_a
      have hb_6 : 0 ≤ ((4 : Int32)).toInt ∧ ((4 : Int32)).toInt < 8 := by decide
      refine Win.go (fun _ k => X0.baloadBytes hx (j := (4 : Int32)) (v := (.int (f (4 : Int)))) (by rw [e0]; exact Ar_6.1) (State.isArrayOf_alike hZ.alike Ar_6.2.1) Ar_6.2.2 (AF.inb S_6 hb_6) (G_6 _ hb_6.1 hb_6.2) (g := (mkF m 12 #[.val (.ref a), .val (.int (4 : Int32)), .val (.int p2), .val (.int p3)] [(.int (4 : Int32)), (.ref a)])) rfl rfl (hb hby d5_12) _ k) ?_
      show Win p.tables e below _ (s₁.setTop (mkF m 13 #[.val (.ref a), .val (.int (4 : Int32)), .val (.int p2), .val (.int p3)] [(.int (f (4 : Int)))]))
      clear Ar_6 S_6 G_6 hb_6
      refine s_bipush (pc' := 15) (z := (27 : Int32)) X0.here hx (hb hby d5_13) rfl rfl ?_
      by_cases hc15 : ((f (4 : Int))).toInt = (27 : Int)
      · skip
        refine s_icmpYes (pc' := 22) X0.here hx (hb hby d5_15) (teqI (x := (f (4 : Int))) (y := (27 : Int32)) hc15).1 (by decide) (by decide) ?_
        refine s_iconst (pc' := 23) (z := (0 : Int32)) X0.here hx (hb hby d5_22) rfl rfl ?_
        refine winN X0 hx hlk e0 (t := .boolean) Bd.returns (by simp) (hb hby d5_23) (by decide) (by decide) (z' := (0 : Int32)) rfl ?_
        refine ⟨Nf, rfl, _, rfl, Or.inr ⟨rfl, ?_⟩⟩
        omega
      · skip
        refine s_icmpNo (pc' := 18) X0.here hx (hb hby d5_15) rfl (feqI (x := (f (4 : Int))) (y := (27 : Int32)) hc15).1 ?_
        refine s_iconst (pc' := 19) (z := (1 : Int32)) X0.here hx (hb hby d5_18) rfl rfl ?_
        refine s_goto (pc' := 23) X0.here hx (hb hby d5_19) (by decide) (by decide) ?_
        refine winN X0 hx hlk e0 (t := .boolean) Bd.returns (by simp) (hb hby d5_23) (by decide) (by decide) (z' := (1 : Int32)) rfl ?_
        refine ⟨Nf, rfl, _, rfl, Or.inl ⟨rfl, ?_⟩⟩
        omega
    · skip
      refine s_icmpYes (pc' := 18) X0.here hx (hb hby d5_7) (fltI (x := (4 : Int32)) (y := p3) hc7).2.1 (by decide) (by decide) ?_
      refine s_iconst (pc' := 19) (z := (1 : Int32)) X0.here hx (hb hby d5_18) rfl rfl ?_
      refine s_goto (pc' := 23) X0.here hx (hb hby d5_19) (by decide) (by decide) ?_
      refine winN X0 hx hlk e0 (t := .boolean) Bd.returns (by simp) (hb hby d5_23) (by decide) (by decide) (z' := (1 : Int32)) rfl ?_
      refine ⟨Nf, rfl, _, rfl, Or.inl ⟨rfl, ?_⟩⟩
      omega
theorem ef_5_5 (m : MethodId) (a : Addr) (p2 : Int32) (p3 : Int32) : entryFrame m #[(.ref a), (.int (5 : Int32)), (.int p2), (.int p3)] 4 = mkF m 0 #[.val (.ref a), .val (.int (5 : Int32)), .val (.int p2), .val (.int p3)] [] := by first | (simp [entryFrame, mkF, argsToLocals, Value.category]; done) | rfl
def Q5_5 (Z : State) (a : Addr) (p2 : Int32) (p3 : Int32) (f : Int → Int32) (h0 : Heap) (n0 : Nat) (v : Option Value) (h : Heap) (L : List Loc) : Prop := Fr n0 L ∧ h = h0 ∧ (∃ z : Int32, v = some (.int z) ∧ ((z.toInt = 1 ∧ (¬ (p2.toInt ≤ 5 ∧ 5 < p3.toInt ∧ (f (5 : Int)).toInt = 27))) ∨ (z.toInt = 0 ∧ ¬ (¬ (p2.toInt ≤ 5 ∧ 5 < p3.toInt ∧ (f (5 : Int)).toInt = 27)))))
set_option maxRecDepth 65536 in
set_option maxHeartbeats 40000000 in
theorem rm5_5 (l : Launch) (Z : State) (a0 : Array Value) (hw : ∀ d ∈ tables_1, d.before a0 Z = true) (ws : List Jvm.Cond) (a : Addr) (p2 : Int32) (p3 : Int32) (f : Int → Int32) (h0 : Heap) (n0 : Nat) (Zs : n0 ≤ h0.size) (A_a : AF Z h0 a .byte 8 f) :
    MetFree l (⟨"com/example/renkei/renkei/Iso2022WalkFirstEscPinLaw", "clear", "([BIII)Z"⟩ : MethodName) (head1 (Jvm.Cond.code (⟨"com/example/renkei/renkei/Iso2022WalkFirstEscPinLaw", "clear", "([BIII)Z"⟩ : MethodName) method_4_code 4 (some .boolean) :: ws) ({ frames := 0, cells := 0, slots := 0, locals := 0 } : Room)) (fun as' U => as' = #[(.ref a), (.int (5 : Int32)), (.int p2), (.int p3)] ∧ Z.Warmed39 U.vm ∧ U.heap = h0) (fun _ _ _ _ _ => True) (fun _ U o U' => ∃ v L, o = .returned v ∧ Q5_5 Z a p2 p3 f h0 n0 v U'.heap L ∧ FrameEnd U o U' L ({ frames := 0, cells := 0, slots := 0, locals := 0 } : Room).cells ({ frames := 0, cells := 0, slots := 0, locals := 0 } : Room).slots) := by
  refine MetFree.of_bodySF (plainFor_of_name pn_1) hisR ?_
  intro p e s m args below meth c s₁ Bd hml0 hP hK
  obtain ⟨rfl, hZ, hh⟩ := hP
  have hx := Bd.exec
  have hby := Bd.bytes
  have hml : c.maxLocals = 4 := hml0
  have hown : s.vm.findClass "com/example/renkei/renkei/Iso2022WalkFirstEscPinLaw" = some m.cls := findClass_of_methodNamed Bd.named
  have hnm := (name_of_methodNamed Bd.named Bd.method).1
  have hlk : meth.locks = false := Bd.notSynchronized
  have X0 : Stand p l e ({ frames := 0, cells := 0, slots := 0, locals := 0 } : Room) s m #[(.ref a), (.int (5 : Int32)), (.int p2), (.int p3)] below meth c s₁ [] 0 0 := Stand.of_body Bd
  have e0 : s₁.heap = h0 := by rw [← hh, Bd.state]; rfl
  have Nf := Fr.nil n0
  refine (?_ : Win p.tables e below (PostQ s (Q5_5 Z a p2 p3 f h0 n0) ({ frames := 0, cells := 0, slots := 0, locals := 0 } : Room).cells ({ frames := 0, cells := 0, slots := 0, locals := 0 } : Room).slots) (s₁.setTop (entryFrame m #[(.ref a), (.int (5 : Int32)), (.int p2), (.int p3)] 4)))
  rw [ef_5_5]
  have lt_a : a < h0.size := A_a.lt
  show Win p.tables e below _ (s₁.setTop (mkF m 0 #[.val (.ref a), .val (.int (5 : Int32)), .val (.int p2), .val (.int p3)] []))
  refine s_iloadN (pc' := 1) X0.here hx (hb hby d5_0) rfl rfl ?_
  refine s_iloadN (pc' := 2) X0.here hx (hb hby d5_1) rfl rfl ?_
  by_cases hc2 : (5 : Int) < (p2).toInt
  · skip
    refine s_icmpYes (pc' := 18) X0.here hx (hb hby d5_2) (tltI (x := (5 : Int32)) (y := p2) hc2).1 (by decide) (by decide) ?_
    refine s_iconst (pc' := 19) (z := (1 : Int32)) X0.here hx (hb hby d5_18) rfl rfl ?_
    refine s_goto (pc' := 23) X0.here hx (hb hby d5_19) (by decide) (by decide) ?_
    refine winN X0 hx hlk e0 (t := .boolean) Bd.returns (by simp) (hb hby d5_23) (by decide) (by decide) (z' := (1 : Int32)) rfl ?_
    refine ⟨Nf, rfl, _, rfl, Or.inl ⟨rfl, ?_⟩⟩
    omega
  · skip
    refine s_icmpNo (pc' := 5) X0.here hx (hb hby d5_2) rfl (fltI (x := (5 : Int32)) (y := p2) hc2).1 ?_
    refine s_iloadN (pc' := 6) X0.here hx (hb hby d5_5) rfl rfl ?_
    refine s_iloadN (pc' := 7) X0.here hx (hb hby d5_6) rfl rfl ?_
    by_cases hc7 : (5 : Int) < (p3).toInt
    · skip
      refine s_icmpNo (pc' := 10) X0.here hx (hb hby d5_7) rfl (tltI (x := (5 : Int32)) (y := p3) hc7).2.1 ?_
      refine s_aloadN (pc' := 11) X0.here hx (hb hby d5_10) rfl rfl rfl ?_
      refine s_iloadN (pc' := 12) X0.here hx (hb hby d5_11) rfl rfl ?_
      obtain ⟨cl_7, Ar_7, S_7, G_7⟩ := id A_a
      have hb_7 : 0 ≤ ((5 : Int32)).toInt ∧ ((5 : Int32)).toInt < 8 := by decide
      refine Win.go (fun _ k => X0.baloadBytes hx (j := (5 : Int32)) (v := (.int (f (5 : Int)))) (by rw [e0]; exact Ar_7.1) (State.isArrayOf_alike hZ.alike Ar_7.2.1) Ar_7.2.2 (AF.inb S_7 hb_7) (G_7 _ hb_7.1 hb_7.2) (g := (mkF m 12 #[.val (.ref a), .val (.int (5 : Int32)), .val (.int p2), .val (.int p3)] [(.int (5 : Int32)), (.ref a)])) rfl rfl (hb hby d5_12) _ k) ?_
      show Win p.tables e below _ (s₁.setTop (mkF m 13 #[.val (.ref a), .val (.int (5 : Int32)), .val (.int p2), .val (.int p3)] [(.int (f (5 : Int)))]))
      clear Ar_7 S_7 G_7 hb_7
      refine s_bipush (pc' := 15) (z := (27 : Int32)) X0.here hx (hb hby d5_13) rfl rfl ?_
      by_cases hc15 : ((f (5 : Int))).toInt = (27 : Int)
      · skip
        refine s_icmpYes (pc' := 22) X0.here hx (hb hby d5_15) (teqI (x := (f (5 : Int))) (y := (27 : Int32)) hc15).1 (by decide) (by decide) ?_
        refine s_iconst (pc' := 23) (z := (0 : Int32)) X0.here hx (hb hby d5_22) rfl rfl ?_
        refine winN X0 hx hlk e0 (t := .boolean) Bd.returns (by simp) (hb hby d5_23) (by decide) (by decide) (z' := (0 : Int32)) rfl ?_
        refine ⟨Nf, rfl, _, rfl, Or.inr ⟨rfl, ?_⟩⟩
        omega
      · skip
        refine s_icmpNo (pc' := 18) X0.here hx (hb hby d5_15) rfl (feqI (x := (f (5 : Int))) (y := (27 : Int32)) hc15).1 ?_
        refine s_iconst (pc' := 19) (z := (1 : Int32)) X0.here hx (hb hby d5_18) rfl rfl ?_
        refine s_goto (pc' := 23) X0.here hx (hb hby d5_19) (by decide) (by decide) ?_
        refine winN X0 hx hlk e0 (t := .boolean) Bd.returns (by simp) (hb hby d5_23) (by decide) (by decide) (z' := (1 : Int32)) rfl ?_
        refine ⟨Nf, rfl, _, rfl, Or.inl ⟨rfl, ?_⟩⟩
        omega
    · skip
      refine s_icmpYes (pc' := 18) X0.here hx (hb hby d5_7) (fltI (x := (5 : Int32)) (y := p3) hc7).2.1 (by decide) (by decide) ?_
      refine s_iconst (pc' := 19) (z := (1 : Int32)) X0.here hx (hb hby d5_18) rfl rfl ?_
      refine s_goto (pc' := 23) X0.here hx (hb hby d5_19) (by decide) (by decide) ?_
      refine winN X0 hx hlk e0 (t := .boolean) Bd.returns (by simp) (hb hby d5_23) (by decide) (by decide) (z' := (1 : Int32)) rfl ?_
      refine ⟨Nf, rfl, _, rfl, Or.inl ⟨rfl, ?_⟩⟩
      omega
theorem ef_5_6 (m : MethodId) (a : Addr) (p2 : Int32) (p3 : Int32) : entryFrame m #[(.ref a), (.int (6 : Int32)), (.int p2), (.int p3)] 4 = mkF m 0 #[.val (.ref a), .val (.int (6 : Int32)), .val (.int p2), .val (.int p3)] [] := by first | (simp [entryFrame, mkF, argsToLocals, Value.category]; done) | rfl
def Q5_6 (Z : State) (a : Addr) (p2 : Int32) (p3 : Int32) (f : Int → Int32) (h0 : Heap) (n0 : Nat) (v : Option Value) (h : Heap) (L : List Loc) : Prop := Fr n0 L ∧ h = h0 ∧ (∃ z : Int32, v = some (.int z) ∧ ((z.toInt = 1 ∧ (¬ (p2.toInt ≤ 6 ∧ 6 < p3.toInt ∧ (f (6 : Int)).toInt = 27))) ∨ (z.toInt = 0 ∧ ¬ (¬ (p2.toInt ≤ 6 ∧ 6 < p3.toInt ∧ (f (6 : Int)).toInt = 27)))))
set_option maxRecDepth 65536 in
set_option maxHeartbeats 40000000 in
theorem rm5_6 (l : Launch) (Z : State) (a0 : Array Value) (hw : ∀ d ∈ tables_1, d.before a0 Z = true) (ws : List Jvm.Cond) (a : Addr) (p2 : Int32) (p3 : Int32) (f : Int → Int32) (h0 : Heap) (n0 : Nat) (Zs : n0 ≤ h0.size) (A_a : AF Z h0 a .byte 8 f) :
    MetFree l (⟨"com/example/renkei/renkei/Iso2022WalkFirstEscPinLaw", "clear", "([BIII)Z"⟩ : MethodName) (head1 (Jvm.Cond.code (⟨"com/example/renkei/renkei/Iso2022WalkFirstEscPinLaw", "clear", "([BIII)Z"⟩ : MethodName) method_4_code 4 (some .boolean) :: ws) ({ frames := 0, cells := 0, slots := 0, locals := 0 } : Room)) (fun as' U => as' = #[(.ref a), (.int (6 : Int32)), (.int p2), (.int p3)] ∧ Z.Warmed39 U.vm ∧ U.heap = h0) (fun _ _ _ _ _ => True) (fun _ U o U' => ∃ v L, o = .returned v ∧ Q5_6 Z a p2 p3 f h0 n0 v U'.heap L ∧ FrameEnd U o U' L ({ frames := 0, cells := 0, slots := 0, locals := 0 } : Room).cells ({ frames := 0, cells := 0, slots := 0, locals := 0 } : Room).slots) := by
  refine MetFree.of_bodySF (plainFor_of_name pn_1) hisR ?_
  intro p e s m args below meth c s₁ Bd hml0 hP hK
  obtain ⟨rfl, hZ, hh⟩ := hP
  have hx := Bd.exec
  have hby := Bd.bytes
  have hml : c.maxLocals = 4 := hml0
  have hown : s.vm.findClass "com/example/renkei/renkei/Iso2022WalkFirstEscPinLaw" = some m.cls := findClass_of_methodNamed Bd.named
  have hnm := (name_of_methodNamed Bd.named Bd.method).1
  have hlk : meth.locks = false := Bd.notSynchronized
  have X0 : Stand p l e ({ frames := 0, cells := 0, slots := 0, locals := 0 } : Room) s m #[(.ref a), (.int (6 : Int32)), (.int p2), (.int p3)] below meth c s₁ [] 0 0 := Stand.of_body Bd
  have e0 : s₁.heap = h0 := by rw [← hh, Bd.state]; rfl
  have Nf := Fr.nil n0
  refine (?_ : Win p.tables e below (PostQ s (Q5_6 Z a p2 p3 f h0 n0) ({ frames := 0, cells := 0, slots := 0, locals := 0 } : Room).cells ({ frames := 0, cells := 0, slots := 0, locals := 0 } : Room).slots) (s₁.setTop (entryFrame m #[(.ref a), (.int (6 : Int32)), (.int p2), (.int p3)] 4)))
  rw [ef_5_6]
  have lt_a : a < h0.size := A_a.lt
  show Win p.tables e below _ (s₁.setTop (mkF m 0 #[.val (.ref a), .val (.int (6 : Int32)), .val (.int p2), .val (.int p3)] []))
  refine s_iloadN (pc' := 1) X0.here hx (hb hby d5_0) rfl rfl ?_
  refine s_iloadN (pc' := 2) X0.here hx (hb hby d5_1) rfl rfl ?_
  by_cases hc2 : (6 : Int) < (p2).toInt
  · skip
    refine s_icmpYes (pc' := 18) X0.here hx (hb hby d5_2) (tltI (x := (6 : Int32)) (y := p2) hc2).1 (by decide) (by decide) ?_
    refine s_iconst (pc' := 19) (z := (1 : Int32)) X0.here hx (hb hby d5_18) rfl rfl ?_
    refine s_goto (pc' := 23) X0.here hx (hb hby d5_19) (by decide) (by decide) ?_
    refine winN X0 hx hlk e0 (t := .boolean) Bd.returns (by simp) (hb hby d5_23) (by decide) (by decide) (z' := (1 : Int32)) rfl ?_
    refine ⟨Nf, rfl, _, rfl, Or.inl ⟨rfl, ?_⟩⟩
    omega
  · skip
    refine s_icmpNo (pc' := 5) X0.here hx (hb hby d5_2) rfl (fltI (x := (6 : Int32)) (y := p2) hc2).1 ?_
    refine s_iloadN (pc' := 6) X0.here hx (hb hby d5_5) rfl rfl ?_
    refine s_iloadN (pc' := 7) X0.here hx (hb hby d5_6) rfl rfl ?_
    by_cases hc7 : (6 : Int) < (p3).toInt
    · skip
      refine s_icmpNo (pc' := 10) X0.here hx (hb hby d5_7) rfl (tltI (x := (6 : Int32)) (y := p3) hc7).2.1 ?_
      refine s_aloadN (pc' := 11) X0.here hx (hb hby d5_10) rfl rfl rfl ?_
      refine s_iloadN (pc' := 12) X0.here hx (hb hby d5_11) rfl rfl ?_
      obtain ⟨cl_8, Ar_8, S_8, G_8⟩ := id A_a
      have hb_8 : 0 ≤ ((6 : Int32)).toInt ∧ ((6 : Int32)).toInt < 8 := by decide
      refine Win.go (fun _ k => X0.baloadBytes hx (j := (6 : Int32)) (v := (.int (f (6 : Int)))) (by rw [e0]; exact Ar_8.1) (State.isArrayOf_alike hZ.alike Ar_8.2.1) Ar_8.2.2 (AF.inb S_8 hb_8) (G_8 _ hb_8.1 hb_8.2) (g := (mkF m 12 #[.val (.ref a), .val (.int (6 : Int32)), .val (.int p2), .val (.int p3)] [(.int (6 : Int32)), (.ref a)])) rfl rfl (hb hby d5_12) _ k) ?_
      show Win p.tables e below _ (s₁.setTop (mkF m 13 #[.val (.ref a), .val (.int (6 : Int32)), .val (.int p2), .val (.int p3)] [(.int (f (6 : Int)))]))
      clear Ar_8 S_8 G_8 hb_8
      refine s_bipush (pc' := 15) (z := (27 : Int32)) X0.here hx (hb hby d5_13) rfl rfl ?_
      by_cases hc15 : ((f (6 : Int))).toInt = (27 : Int)
      · skip
        refine s_icmpYes (pc' := 22) X0.here hx (hb hby d5_15) (teqI (x := (f (6 : Int))) (y := (27 : Int32)) hc15).1 (by decide) (by decide) ?_
        refine s_iconst (pc' := 23) (z := (0 : Int32)) X0.here hx (hb hby d5_22) rfl rfl ?_
        refine winN X0 hx hlk e0 (t := .boolean) Bd.returns (by simp) (hb hby d5_23) (by decide) (by decide) (z' := (0 : Int32)) rfl ?_
        refine ⟨Nf, rfl, _, rfl, Or.inr ⟨rfl, ?_⟩⟩
        omega
      · skip
        refine s_icmpNo (pc' := 18) X0.here hx (hb hby d5_15) rfl (feqI (x := (f (6 : Int))) (y := (27 : Int32)) hc15).1 ?_
        refine s_iconst (pc' := 19) (z := (1 : Int32)) X0.here hx (hb hby d5_18) rfl rfl ?_
        refine s_goto (pc' := 23) X0.here hx (hb hby d5_19) (by decide) (by decide) ?_
        refine winN X0 hx hlk e0 (t := .boolean) Bd.returns (by simp) (hb hby d5_23) (by decide) (by decide) (z' := (1 : Int32)) rfl ?_
        refine ⟨Nf, rfl, _, rfl, Or.inl ⟨rfl, ?_⟩⟩
        omega
    · skip
      refine s_icmpYes (pc' := 18) X0.here hx (hb hby d5_7) (fltI (x := (6 : Int32)) (y := p3) hc7).2.1 (by decide) (by decide) ?_
      refine s_iconst (pc' := 19) (z := (1 : Int32)) X0.here hx (hb hby d5_18) rfl rfl ?_
      refine s_goto (pc' := 23) X0.here hx (hb hby d5_19) (by decide) (by decide) ?_
      refine winN X0 hx hlk e0 (t := .boolean) Bd.returns (by simp) (hb hby d5_23) (by decide) (by decide) (z' := (1 : Int32)) rfl ?_
      refine ⟨Nf, rfl, _, rfl, Or.inl ⟨rfl, ?_⟩⟩
      omega
theorem ef_5_7 (m : MethodId) (a : Addr) (p2 : Int32) (p3 : Int32) : entryFrame m #[(.ref a), (.int (7 : Int32)), (.int p2), (.int p3)] 4 = mkF m 0 #[.val (.ref a), .val (.int (7 : Int32)), .val (.int p2), .val (.int p3)] [] := by first | (simp [entryFrame, mkF, argsToLocals, Value.category]; done) | rfl
def Q5_7 (Z : State) (a : Addr) (p2 : Int32) (p3 : Int32) (f : Int → Int32) (h0 : Heap) (n0 : Nat) (v : Option Value) (h : Heap) (L : List Loc) : Prop := Fr n0 L ∧ h = h0 ∧ (∃ z : Int32, v = some (.int z) ∧ ((z.toInt = 1 ∧ (¬ (p2.toInt ≤ 7 ∧ 7 < p3.toInt ∧ (f (7 : Int)).toInt = 27))) ∨ (z.toInt = 0 ∧ ¬ (¬ (p2.toInt ≤ 7 ∧ 7 < p3.toInt ∧ (f (7 : Int)).toInt = 27)))))
set_option maxRecDepth 65536 in
set_option maxHeartbeats 40000000 in
theorem rm5_7 (l : Launch) (Z : State) (a0 : Array Value) (hw : ∀ d ∈ tables_1, d.before a0 Z = true) (ws : List Jvm.Cond) (a : Addr) (p2 : Int32) (p3 : Int32) (f : Int → Int32) (h0 : Heap) (n0 : Nat) (Zs : n0 ≤ h0.size) (A_a : AF Z h0 a .byte 8 f) :
    MetFree l (⟨"com/example/renkei/renkei/Iso2022WalkFirstEscPinLaw", "clear", "([BIII)Z"⟩ : MethodName) (head1 (Jvm.Cond.code (⟨"com/example/renkei/renkei/Iso2022WalkFirstEscPinLaw", "clear", "([BIII)Z"⟩ : MethodName) method_4_code 4 (some .boolean) :: ws) ({ frames := 0, cells := 0, slots := 0, locals := 0 } : Room)) (fun as' U => as' = #[(.ref a), (.int (7 : Int32)), (.int p2), (.int p3)] ∧ Z.Warmed39 U.vm ∧ U.heap = h0) (fun _ _ _ _ _ => True) (fun _ U o U' => ∃ v L, o = .returned v ∧ Q5_7 Z a p2 p3 f h0 n0 v U'.heap L ∧ FrameEnd U o U' L ({ frames := 0, cells := 0, slots := 0, locals := 0 } : Room).cells ({ frames := 0, cells := 0, slots := 0, locals := 0 } : Room).slots) := by
  refine MetFree.of_bodySF (plainFor_of_name pn_1) hisR ?_
  intro p e s m args below meth c s₁ Bd hml0 hP hK
  obtain ⟨rfl, hZ, hh⟩ := hP
  have hx := Bd.exec
  have hby := Bd.bytes
  have hml : c.maxLocals = 4 := hml0
  have hown : s.vm.findClass "com/example/renkei/renkei/Iso2022WalkFirstEscPinLaw" = some m.cls := findClass_of_methodNamed Bd.named
  have hnm := (name_of_methodNamed Bd.named Bd.method).1
  have hlk : meth.locks = false := Bd.notSynchronized
  have X0 : Stand p l e ({ frames := 0, cells := 0, slots := 0, locals := 0 } : Room) s m #[(.ref a), (.int (7 : Int32)), (.int p2), (.int p3)] below meth c s₁ [] 0 0 := Stand.of_body Bd
  have e0 : s₁.heap = h0 := by rw [← hh, Bd.state]; rfl
  have Nf := Fr.nil n0
  refine (?_ : Win p.tables e below (PostQ s (Q5_7 Z a p2 p3 f h0 n0) ({ frames := 0, cells := 0, slots := 0, locals := 0 } : Room).cells ({ frames := 0, cells := 0, slots := 0, locals := 0 } : Room).slots) (s₁.setTop (entryFrame m #[(.ref a), (.int (7 : Int32)), (.int p2), (.int p3)] 4)))
  rw [ef_5_7]
  have lt_a : a < h0.size := A_a.lt
  show Win p.tables e below _ (s₁.setTop (mkF m 0 #[.val (.ref a), .val (.int (7 : Int32)), .val (.int p2), .val (.int p3)] []))
  refine s_iloadN (pc' := 1) X0.here hx (hb hby d5_0) rfl rfl ?_
  refine s_iloadN (pc' := 2) X0.here hx (hb hby d5_1) rfl rfl ?_
  by_cases hc2 : (7 : Int) < (p2).toInt
  · skip
    refine s_icmpYes (pc' := 18) X0.here hx (hb hby d5_2) (tltI (x := (7 : Int32)) (y := p2) hc2).1 (by decide) (by decide) ?_
    refine s_iconst (pc' := 19) (z := (1 : Int32)) X0.here hx (hb hby d5_18) rfl rfl ?_
    refine s_goto (pc' := 23) X0.here hx (hb hby d5_19) (by decide) (by decide) ?_
    refine winN X0 hx hlk e0 (t := .boolean) Bd.returns (by simp) (hb hby d5_23) (by decide) (by decide) (z' := (1 : Int32)) rfl ?_
    refine ⟨Nf, rfl, _, rfl, Or.inl ⟨rfl, ?_⟩⟩
    omega
  · skip
    refine s_icmpNo (pc' := 5) X0.here hx (hb hby d5_2) rfl (fltI (x := (7 : Int32)) (y := p2) hc2).1 ?_
    refine s_iloadN (pc' := 6) X0.here hx (hb hby d5_5) rfl rfl ?_
    refine s_iloadN (pc' := 7) X0.here hx (hb hby d5_6) rfl rfl ?_
    by_cases hc7 : (7 : Int) < (p3).toInt
    · skip
      refine s_icmpNo (pc' := 10) X0.here hx (hb hby d5_7) rfl (tltI (x := (7 : Int32)) (y := p3) hc7).2.1 ?_
      refine s_aloadN (pc' := 11) X0.here hx (hb hby d5_10) rfl rfl rfl ?_
      refine s_iloadN (pc' := 12) X0.here hx (hb hby d5_11) rfl rfl ?_
      obtain ⟨cl_9, Ar_9, S_9, G_9⟩ := id A_a
      have hb_9 : 0 ≤ ((7 : Int32)).toInt ∧ ((7 : Int32)).toInt < 8 := by decide
      refine Win.go (fun _ k => X0.baloadBytes hx (j := (7 : Int32)) (v := (.int (f (7 : Int)))) (by rw [e0]; exact Ar_9.1) (State.isArrayOf_alike hZ.alike Ar_9.2.1) Ar_9.2.2 (AF.inb S_9 hb_9) (G_9 _ hb_9.1 hb_9.2) (g := (mkF m 12 #[.val (.ref a), .val (.int (7 : Int32)), .val (.int p2), .val (.int p3)] [(.int (7 : Int32)), (.ref a)])) rfl rfl (hb hby d5_12) _ k) ?_
      show Win p.tables e below _ (s₁.setTop (mkF m 13 #[.val (.ref a), .val (.int (7 : Int32)), .val (.int p2), .val (.int p3)] [(.int (f (7 : Int)))]))
      clear Ar_9 S_9 G_9 hb_9
      refine s_bipush (pc' := 15) (z := (27 : Int32)) X0.here hx (hb hby d5_13) rfl rfl ?_
      by_cases hc15 : ((f (7 : Int))).toInt = (27 : Int)
      · skip
        refine s_icmpYes (pc' := 22) X0.here hx (hb hby d5_15) (teqI (x := (f (7 : Int))) (y := (27 : Int32)) hc15).1 (by decide) (by decide) ?_
        refine s_iconst (pc' := 23) (z := (0 : Int32)) X0.here hx (hb hby d5_22) rfl rfl ?_
        refine winN X0 hx hlk e0 (t := .boolean) Bd.returns (by simp) (hb hby d5_23) (by decide) (by decide) (z' := (0 : Int32)) rfl ?_
        refine ⟨Nf, rfl, _, rfl, Or.inr ⟨rfl, ?_⟩⟩
        omega
      · skip
        refine s_icmpNo (pc' := 18) X0.here hx (hb hby d5_15) rfl (feqI (x := (f (7 : Int))) (y := (27 : Int32)) hc15).1 ?_
        refine s_iconst (pc' := 19) (z := (1 : Int32)) X0.here hx (hb hby d5_18) rfl rfl ?_
        refine s_goto (pc' := 23) X0.here hx (hb hby d5_19) (by decide) (by decide) ?_
        refine winN X0 hx hlk e0 (t := .boolean) Bd.returns (by simp) (hb hby d5_23) (by decide) (by decide) (z' := (1 : Int32)) rfl ?_
        refine ⟨Nf, rfl, _, rfl, Or.inl ⟨rfl, ?_⟩⟩
        omega
    · skip
      refine s_icmpYes (pc' := 18) X0.here hx (hb hby d5_7) (fltI (x := (7 : Int32)) (y := p3) hc7).2.1 (by decide) (by decide) ?_
      refine s_iconst (pc' := 19) (z := (1 : Int32)) X0.here hx (hb hby d5_18) rfl rfl ?_
      refine s_goto (pc' := 23) X0.here hx (hb hby d5_19) (by decide) (by decide) ?_
      refine winN X0 hx hlk e0 (t := .boolean) Bd.returns (by simp) (hb hby d5_23) (by decide) (by decide) (z' := (1 : Int32)) rfl ?_
      refine ⟨Nf, rfl, _, rfl, Or.inl ⟨rfl, ?_⟩⟩
      omega
theorem pd_0 : parseMethodDescriptor "(JII)B" = some ⟨[.long, .int, .int], some .byte⟩ := by decide +kernel
theorem pd_1 : parseMethodDescriptor "(II)I" = some ⟨[.int, .int], some .int⟩ := by decide +kernel
theorem pd_2 : parseMethodDescriptor "([BII)I" = some ⟨[(.array .byte), .int, .int], some .int⟩ := by decide +kernel
theorem pd_3 : parseMethodDescriptor "([BIII)Z" = some ⟨[(.array .byte), .int, .int, .int], some .boolean⟩ := by decide +kernel
theorem ef_0 (m : MethodId) (q0 : Int64) (p1 : Int32) (p2 : Int32) (p3 : Int32) : entryFrame m #[(.long q0), (.int p1), (.int p2), (.int p3)] maxLocals = mkF m 0 #[.val (.long q0), .second, .val (.int p1), .val (.int p2), .val (.int p3), .unset, .unset, .unset, .unset, .unset, .unset] [] := by first | (simp [entryFrame, mkF, argsToLocals, Value.category, maxLocals]; done) | rfl
def Q0 (Z : State) (q0 : Int64) (p1 : Int32) (p2 : Int32) (p3 : Int32) (h0 : Heap) (n0 : Nat) (v : Option Value) (h : Heap) (L : List Loc) : Prop := Fr n0 L ∧ v = some (.int 1)
set_option maxRecDepth 65536 in
set_option maxHeartbeats 40000000 in
theorem rm0 (l : Launch) (Z : State) (a0 : Array Value) (hw : ∀ d ∈ tables_1, d.before a0 Z = true) (ws : List Jvm.Cond) (q0 : Int64) (p1 : Int32) (p2 : Int32) (p3 : Int32) (h0 : Heap) (n0 : Nat) (Zs : n0 ≤ h0.size) :
    MetFree l x (head1 (Jvm.Cond.code x code maxLocals ret :: ws) room_1) (fun as' U => as' = #[(.long q0), (.int p1), (.int p2), (.int p3)] ∧ Z.Warmed39 U.vm ∧ U.heap = h0) (fun _ _ _ _ _ => True) (fun _ U o U' => ∃ v L, o = .returned v ∧ Q0 Z q0 p1 p2 p3 h0 n0 v U'.heap L ∧ FrameEnd U o U' L room_1.cells room_1.slots) := by
  refine MetFree.of_bodySF (plainFor_of_name pn_1) hisR ?_
  intro p e s m args below meth c s₁ Bd hml0 hP hK
  obtain ⟨rfl, hZ, hh⟩ := hP
  have hx := Bd.exec
  have hby := Bd.bytes
  have hml : c.maxLocals = 11 := hml0
  have hown : s.vm.findClass "com/example/renkei/renkei/Iso2022WalkFirstEscPinLaw" = some m.cls := findClass_of_methodNamed Bd.named
  have hnm := (name_of_methodNamed Bd.named Bd.method).1
  have hlk : meth.locks = false := Bd.notSynchronized
  have X0 : Stand p l e room_1 s m #[(.long q0), (.int p1), (.int p2), (.int p3)] below meth c s₁ [] 0 0 := Stand.of_body Bd
  have e0 : s₁.heap = h0 := by rw [← hh, Bd.state]; rfl
  have Nf := Fr.nil n0
  refine (?_ : Win p.tables e below (PostQ s (Q0 Z q0 p1 p2 p3 h0 n0) room_1.cells room_1.slots) (s₁.setTop (entryFrame m #[(.long q0), (.int p1), (.int p2), (.int p3)] maxLocals)))
  rw [ef_0]
  show Win p.tables e below _ (s₁.setTop (mkF m 0 #[.val (.long q0), .second, .val (.int p1), .val (.int p2), .val (.int p3), .unset, .unset, .unset, .unset, .unset, .unset] []))
  refine s_bipush (pc' := 2) (z := (8 : Int32)) X0.here hx (hb hby at_0) rfl rfl ?_
  obtain ⟨T_10, h_10, k_10, X_10, e_10, Ex_10, A_10, EA_10, st_10⟩ := newPE X0 hx hZ (hw _ (List.mem_of_getElem? (i := 0) rfl)) e0 (g := (mkF m 2 #[.val (.long q0), .second, .val (.int p1), .val (.int p2), .val (.int p3), .unset, .unset, .unset, .unset, .unset, .unset] [(.int (8 : Int32))])) rfl (hb hby at_2) rfl (by decide) (cap := 8) (by decide) (by decide) (by decide) (by decide) (ad := "[B") (by decide)
  obtain ⟨b_10, g_10⟩ : ∃ z, z = h0.size := ⟨_, rfl⟩
  have g_b_10 : n0 ≤ b_10 := Nat.le_trans Zs (Nat.le_of_eq g_10.symm)
  rw [← g_10] at A_10 EA_10 st_10
  replace Zs := Nat.le_trans Zs Ex_10.1
  have V_b_10 : Arv Z h_10 b_10 k_10 .byte (8 : Int32) [(.int (0 : Int32)), (.int (0 : Int32)), (.int (0 : Int32)), (.int (0 : Int32)), (.int (0 : Int32)), (.int (0 : Int32)), (.int (0 : Int32)), (.int (0 : Int32))] (.int (0 : Int32)) := (Arv.new A_10 (by decide)).pad (pad_rep [] (.int (0 : Int32)) 8)
  have lt_b_10 := V_b_10.lt
  have E_b_10 := EA_10
  refine Win.go st_10 ?_
  clear st_10 Ex_10 A_10 EA_10 g_10 X0 e0
  show Win p.tables e below _ (T_10.setTop (mkF m 4 #[.val (.long q0), .second, .val (.int p1), .val (.int p2), .val (.int p3), .unset, .unset, .unset, .unset, .unset, .unset] [(.ref b_10)]))
  refine s_astore (pc' := 6) (l' := #[.val (.long q0), .second, .val (.int p1), .val (.int p2), .val (.int p3), .val (.ref b_10), .unset, .unset, .unset, .unset, .unset]) X_10.here hx (hb hby at_4) rfl rfl rfl ?_
  refine s_aload (pc' := 8) X_10.here hx (hb hby at_6) rfl rfl rfl ?_
  refine s_iconst (pc' := 9) (z := (0 : Int32)) X_10.here hx (hb hby at_8) rfl rfl ?_
  refine s_lloadN (pc' := 10) X_10.here hx (hb hby at_9) rfl rfl ?_
  refine s_iloadN (pc' := 11) X_10.here hx (hb hby at_10) rfl rfl ?_
  refine s_iconst (pc' := 12) (z := (0 : Int32)) X_10.here hx (hb hby at_11) rfl rfl ?_
  obtain ⟨_, _, ⟨T_11, L_11, k_11, n_11⟩, -, X_11, ⟨Lc_11, hQ_11, l_11, y_11, z_11⟩, st_11⟩ := Jvm.LawKit.callS X_10 hx (y := (⟨"com/example/renkei/renkei/Iso2022WalkFirstEscPinLaw", "pick", "(JII)B"⟩ : MethodName)) hown (mvT hZ (hw _ (List.mem_of_getElem? (i := 1) rfl))) (mvT hZ (hw _ (List.mem_of_getElem? (i := 2) rfl))) (mvT hZ (hw _ (List.mem_of_getElem? (i := 3) rfl))) (mvT hZ (hw _ (List.mem_of_getElem? (i := 4) rfl))) (by decide) (backOf (W := 2) (rm1 l Z a0 hw [] q0 p1 (0 : Int32) h_10 n0 Zs ) hZ (hw _ (List.mem_of_getElem? (i := 4) rfl)) (hw _ (List.mem_of_getElem? (i := 3) rfl)) (by decide) (by decide)) (g := (mkF m 12 #[.val (.long q0), .second, .val (.int p1), .val (.int p2), .val (.int p3), .val (.ref b_10), .unset, .unset, .unset, .unset, .unset] [(.int (0 : Int32)), (.int p1), (.long q0), (.int (0 : Int32)), (.ref b_10)])) rfl (by rw [hml]; rfl) (argsL := [(.long q0), (.int p1), (.int (0 : Int32))]) (rest := [(.int (0 : Int32)), (.ref b_10)]) (lenOf pd_0 rfl) rfl (by show 2 * 0 + _ ≤ _; exact Nat.le_of_eq rfl) (hb hby at_12) (fun _ _ => ⟨rfl, e_10, (by decide : 1 + 0 ≤ _), (by decide : 8 + 0 ≤ _)⟩)
  dsimp only [Pt.U, Pt.locs, Pt.cells, Pt.slots, Nat.add_zero] at X_11 l_11 y_11 z_11 st_11 hQ_11
  subst y_11 z_11
  obtain ⟨Nq_11, e_11, r_11, rfl, hr_11⟩ := hQ_11
  replace Nf := own_frEq l_11 (Fr.app Nf Nq_11)
  clear l_11
  refine Win.go st_11 ?_
  clear st_11 Nq_11 X_10 e_10
  show Win p.tables e below _ (T_11.setTop (mkF m 15 #[.val (.long q0), .second, .val (.int p1), .val (.int p2), .val (.int p3), .val (.ref b_10), .unset, .unset, .unset, .unset, .unset] [(.int r_11), (.int (0 : Int32)), (.ref b_10)]))
  obtain ⟨cl_12, Ar_12, q_12, S_12, N_12, H_12, G_12⟩ := V_b_10
  obtain ⟨T_12, h_12, X_12, e_12, W_12, st_12⟩ := stB X_11 hx hZ e_11 Ar_12 (j := (0 : Int32)) (inb_of S_12 ⟨by decide, by decide⟩) (g := (mkF m 15 #[.val (.long q0), .second, .val (.int p1), .val (.int p2), .val (.int p3), .val (.ref b_10), .unset, .unset, .unset, .unset, .unset] [(.int r_11), (.int (0 : Int32)), (.ref b_10)])) rfl rfl (hb hby at_15)
  have V_12 := Arv.set Ar_12 q_12 S_12 N_12 H_12 G_12 (fits_nar_byte _) W_12 0 rfl (Nat.le_of_ble_eq_true rfl)
  replace E_b_10 := E_b_10.wr W_12
  replace lt_b_10 := Nat.lt_of_lt_of_le lt_b_10 (Keep.of_wr W_12).1
  replace Zs := Nat.le_trans Zs (Keep.of_wr W_12).1
  replace V_b_10 : Arv Z h_12 b_10 k_10 .byte (8 : Int32) [(.int (nar .byte r_11)), (.int (0 : Int32)), (.int (0 : Int32)), (.int (0 : Int32)), (.int (0 : Int32)), (.int (0 : Int32)), (.int (0 : Int32)), (.int (0 : Int32))] (.int (0 : Int32)) := V_12
  replace Nf := Fr.snoc X_12 Nf g_b_10
  refine Win.go st_12 ?_
  clear st_12 W_12 V_12 Ar_12 q_12 S_12 N_12 H_12 G_12 X_11 e_11
  show Win p.tables e below _ (T_12.setTop (mkF m 16 #[.val (.long q0), .second, .val (.int p1), .val (.int p2), .val (.int p3), .val (.ref b_10), .unset, .unset, .unset, .unset, .unset] []))
  refine s_aload (pc' := 18) X_12.here hx (hb hby at_16) rfl rfl rfl ?_
  refine s_iconst (pc' := 19) (z := (1 : Int32)) X_12.here hx (hb hby at_18) rfl rfl ?_
  refine s_lloadN (pc' := 20) X_12.here hx (hb hby at_19) rfl rfl ?_
  refine s_iloadN (pc' := 21) X_12.here hx (hb hby at_20) rfl rfl ?_
  refine s_iconst (pc' := 22) (z := (1 : Int32)) X_12.here hx (hb hby at_21) rfl rfl ?_
  obtain ⟨_, _, ⟨T_13, L_13, k_13, n_13⟩, -, X_13, ⟨Lc_13, hQ_13, l_13, y_13, z_13⟩, st_13⟩ := Jvm.LawKit.callS X_12 hx (y := (⟨"com/example/renkei/renkei/Iso2022WalkFirstEscPinLaw", "pick", "(JII)B"⟩ : MethodName)) hown (mvT hZ (hw _ (List.mem_of_getElem? (i := 1) rfl))) (mvT hZ (hw _ (List.mem_of_getElem? (i := 2) rfl))) (mvT hZ (hw _ (List.mem_of_getElem? (i := 3) rfl))) (mvT hZ (hw _ (List.mem_of_getElem? (i := 4) rfl))) (by decide) (backOf (W := 2) (rm1 l Z a0 hw [] q0 p1 (1 : Int32) h_12 n0 Zs ) hZ (hw _ (List.mem_of_getElem? (i := 4) rfl)) (hw _ (List.mem_of_getElem? (i := 3) rfl)) (by decide) (by decide)) (g := (mkF m 22 #[.val (.long q0), .second, .val (.int p1), .val (.int p2), .val (.int p3), .val (.ref b_10), .unset, .unset, .unset, .unset, .unset] [(.int (1 : Int32)), (.int p1), (.long q0), (.int (1 : Int32)), (.ref b_10)])) rfl (by rw [hml]; rfl) (argsL := [(.long q0), (.int p1), (.int (1 : Int32))]) (rest := [(.int (1 : Int32)), (.ref b_10)]) (lenOf pd_0 rfl) rfl (by show 2 * 0 + _ ≤ _; exact Nat.le_of_eq rfl) (hb hby at_22) (fun _ _ => ⟨rfl, e_12, (by decide : 1 + 0 ≤ _), (by decide : 8 + 0 ≤ _)⟩)
  dsimp only [Pt.U, Pt.locs, Pt.cells, Pt.slots, Nat.add_zero] at X_13 l_13 y_13 z_13 st_13 hQ_13
  subst y_13 z_13
  obtain ⟨Nq_13, e_13, r_13, rfl, hr_13⟩ := hQ_13
  replace Nf := own_frEq l_13 (Fr.app Nf Nq_13)
  clear l_13
  refine Win.go st_13 ?_
  clear st_13 Nq_13 X_12 e_12
  show Win p.tables e below _ (T_13.setTop (mkF m 25 #[.val (.long q0), .second, .val (.int p1), .val (.int p2), .val (.int p3), .val (.ref b_10), .unset, .unset, .unset, .unset, .unset] [(.int r_13), (.int (1 : Int32)), (.ref b_10)]))
  obtain ⟨cl_14, Ar_14, q_14, S_14, N_14, H_14, G_14⟩ := V_b_10
  obtain ⟨T_14, h_14, X_14, e_14, W_14, st_14⟩ := stB X_13 hx hZ e_13 Ar_14 (j := (1 : Int32)) (inb_of S_14 ⟨by decide, by decide⟩) (g := (mkF m 25 #[.val (.long q0), .second, .val (.int p1), .val (.int p2), .val (.int p3), .val (.ref b_10), .unset, .unset, .unset, .unset, .unset] [(.int r_13), (.int (1 : Int32)), (.ref b_10)])) rfl rfl (hb hby at_25)
  have V_14 := Arv.set Ar_14 q_14 S_14 N_14 H_14 G_14 (fits_nar_byte _) W_14 1 rfl (Nat.le_of_ble_eq_true rfl)
  replace E_b_10 := E_b_10.wr W_14
  replace lt_b_10 := Nat.lt_of_lt_of_le lt_b_10 (Keep.of_wr W_14).1
  replace Zs := Nat.le_trans Zs (Keep.of_wr W_14).1
  replace V_b_10 : Arv Z h_14 b_10 k_10 .byte (8 : Int32) [(.int (nar .byte r_11)), (.int (nar .byte r_13)), (.int (0 : Int32)), (.int (0 : Int32)), (.int (0 : Int32)), (.int (0 : Int32)), (.int (0 : Int32)), (.int (0 : Int32))] (.int (0 : Int32)) := V_14
  replace Nf := Fr.snoc X_14 Nf g_b_10
  refine Win.go st_14 ?_
  clear st_14 W_14 V_14 Ar_14 q_14 S_14 N_14 H_14 G_14 X_13 e_13
  show Win p.tables e below _ (T_14.setTop (mkF m 26 #[.val (.long q0), .second, .val (.int p1), .val (.int p2), .val (.int p3), .val (.ref b_10), .unset, .unset, .unset, .unset, .unset] []))
  refine s_aload (pc' := 28) X_14.here hx (hb hby at_26) rfl rfl rfl ?_
  refine s_iconst (pc' := 29) (z := (2 : Int32)) X_14.here hx (hb hby at_28) rfl rfl ?_
  refine s_lloadN (pc' := 30) X_14.here hx (hb hby at_29) rfl rfl ?_
  refine s_iloadN (pc' := 31) X_14.here hx (hb hby at_30) rfl rfl ?_
  refine s_iconst (pc' := 32) (z := (2 : Int32)) X_14.here hx (hb hby at_31) rfl rfl ?_
  obtain ⟨_, _, ⟨T_15, L_15, k_15, n_15⟩, -, X_15, ⟨Lc_15, hQ_15, l_15, y_15, z_15⟩, st_15⟩ := Jvm.LawKit.callS X_14 hx (y := (⟨"com/example/renkei/renkei/Iso2022WalkFirstEscPinLaw", "pick", "(JII)B"⟩ : MethodName)) hown (mvT hZ (hw _ (List.mem_of_getElem? (i := 1) rfl))) (mvT hZ (hw _ (List.mem_of_getElem? (i := 2) rfl))) (mvT hZ (hw _ (List.mem_of_getElem? (i := 3) rfl))) (mvT hZ (hw _ (List.mem_of_getElem? (i := 4) rfl))) (by decide) (backOf (W := 2) (rm1 l Z a0 hw [] q0 p1 (2 : Int32) h_14 n0 Zs ) hZ (hw _ (List.mem_of_getElem? (i := 4) rfl)) (hw _ (List.mem_of_getElem? (i := 3) rfl)) (by decide) (by decide)) (g := (mkF m 32 #[.val (.long q0), .second, .val (.int p1), .val (.int p2), .val (.int p3), .val (.ref b_10), .unset, .unset, .unset, .unset, .unset] [(.int (2 : Int32)), (.int p1), (.long q0), (.int (2 : Int32)), (.ref b_10)])) rfl (by rw [hml]; rfl) (argsL := [(.long q0), (.int p1), (.int (2 : Int32))]) (rest := [(.int (2 : Int32)), (.ref b_10)]) (lenOf pd_0 rfl) rfl (by show 2 * 0 + _ ≤ _; exact Nat.le_of_eq rfl) (hb hby at_32) (fun _ _ => ⟨rfl, e_14, (by decide : 1 + 0 ≤ _), (by decide : 8 + 0 ≤ _)⟩)
  dsimp only [Pt.U, Pt.locs, Pt.cells, Pt.slots, Nat.add_zero] at X_15 l_15 y_15 z_15 st_15 hQ_15
  subst y_15 z_15
  obtain ⟨Nq_15, e_15, r_15, rfl, hr_15⟩ := hQ_15
  replace Nf := own_frEq l_15 (Fr.app Nf Nq_15)
  clear l_15
  refine Win.go st_15 ?_
  clear st_15 Nq_15 X_14 e_14
  show Win p.tables e below _ (T_15.setTop (mkF m 35 #[.val (.long q0), .second, .val (.int p1), .val (.int p2), .val (.int p3), .val (.ref b_10), .unset, .unset, .unset, .unset, .unset] [(.int r_15), (.int (2 : Int32)), (.ref b_10)]))
  obtain ⟨cl_16, Ar_16, q_16, S_16, N_16, H_16, G_16⟩ := V_b_10
  obtain ⟨T_16, h_16, X_16, e_16, W_16, st_16⟩ := stB X_15 hx hZ e_15 Ar_16 (j := (2 : Int32)) (inb_of S_16 ⟨by decide, by decide⟩) (g := (mkF m 35 #[.val (.long q0), .second, .val (.int p1), .val (.int p2), .val (.int p3), .val (.ref b_10), .unset, .unset, .unset, .unset, .unset] [(.int r_15), (.int (2 : Int32)), (.ref b_10)])) rfl rfl (hb hby at_35)
  have V_16 := Arv.set Ar_16 q_16 S_16 N_16 H_16 G_16 (fits_nar_byte _) W_16 2 rfl (Nat.le_of_ble_eq_true rfl)
  replace E_b_10 := E_b_10.wr W_16
  replace lt_b_10 := Nat.lt_of_lt_of_le lt_b_10 (Keep.of_wr W_16).1
  replace Zs := Nat.le_trans Zs (Keep.of_wr W_16).1
  replace V_b_10 : Arv Z h_16 b_10 k_10 .byte (8 : Int32) [(.int (nar .byte r_11)), (.int (nar .byte r_13)), (.int (nar .byte r_15)), (.int (0 : Int32)), (.int (0 : Int32)), (.int (0 : Int32)), (.int (0 : Int32)), (.int (0 : Int32))] (.int (0 : Int32)) := V_16
  replace Nf := Fr.snoc X_16 Nf g_b_10
  refine Win.go st_16 ?_
  clear st_16 W_16 V_16 Ar_16 q_16 S_16 N_16 H_16 G_16 X_15 e_15
  show Win p.tables e below _ (T_16.setTop (mkF m 36 #[.val (.long q0), .second, .val (.int p1), .val (.int p2), .val (.int p3), .val (.ref b_10), .unset, .unset, .unset, .unset, .unset] []))
  refine s_aload (pc' := 38) X_16.here hx (hb hby at_36) rfl rfl rfl ?_
  refine s_iconst (pc' := 39) (z := (3 : Int32)) X_16.here hx (hb hby at_38) rfl rfl ?_
  refine s_lloadN (pc' := 40) X_16.here hx (hb hby at_39) rfl rfl ?_
  refine s_iloadN (pc' := 41) X_16.here hx (hb hby at_40) rfl rfl ?_
  refine s_iconst (pc' := 42) (z := (3 : Int32)) X_16.here hx (hb hby at_41) rfl rfl ?_
  obtain ⟨_, _, ⟨T_17, L_17, k_17, n_17⟩, -, X_17, ⟨Lc_17, hQ_17, l_17, y_17, z_17⟩, st_17⟩ := Jvm.LawKit.callS X_16 hx (y := (⟨"com/example/renkei/renkei/Iso2022WalkFirstEscPinLaw", "pick", "(JII)B"⟩ : MethodName)) hown (mvT hZ (hw _ (List.mem_of_getElem? (i := 1) rfl))) (mvT hZ (hw _ (List.mem_of_getElem? (i := 2) rfl))) (mvT hZ (hw _ (List.mem_of_getElem? (i := 3) rfl))) (mvT hZ (hw _ (List.mem_of_getElem? (i := 4) rfl))) (by decide) (backOf (W := 2) (rm1 l Z a0 hw [] q0 p1 (3 : Int32) h_16 n0 Zs ) hZ (hw _ (List.mem_of_getElem? (i := 4) rfl)) (hw _ (List.mem_of_getElem? (i := 3) rfl)) (by decide) (by decide)) (g := (mkF m 42 #[.val (.long q0), .second, .val (.int p1), .val (.int p2), .val (.int p3), .val (.ref b_10), .unset, .unset, .unset, .unset, .unset] [(.int (3 : Int32)), (.int p1), (.long q0), (.int (3 : Int32)), (.ref b_10)])) rfl (by rw [hml]; rfl) (argsL := [(.long q0), (.int p1), (.int (3 : Int32))]) (rest := [(.int (3 : Int32)), (.ref b_10)]) (lenOf pd_0 rfl) rfl (by show 2 * 0 + _ ≤ _; exact Nat.le_of_eq rfl) (hb hby at_42) (fun _ _ => ⟨rfl, e_16, (by decide : 1 + 0 ≤ _), (by decide : 8 + 0 ≤ _)⟩)
  dsimp only [Pt.U, Pt.locs, Pt.cells, Pt.slots, Nat.add_zero] at X_17 l_17 y_17 z_17 st_17 hQ_17
  subst y_17 z_17
  obtain ⟨Nq_17, e_17, r_17, rfl, hr_17⟩ := hQ_17
  replace Nf := own_frEq l_17 (Fr.app Nf Nq_17)
  clear l_17
  refine Win.go st_17 ?_
  clear st_17 Nq_17 X_16 e_16
  show Win p.tables e below _ (T_17.setTop (mkF m 45 #[.val (.long q0), .second, .val (.int p1), .val (.int p2), .val (.int p3), .val (.ref b_10), .unset, .unset, .unset, .unset, .unset] [(.int r_17), (.int (3 : Int32)), (.ref b_10)]))
  obtain ⟨cl_18, Ar_18, q_18, S_18, N_18, H_18, G_18⟩ := V_b_10
  obtain ⟨T_18, h_18, X_18, e_18, W_18, st_18⟩ := stB X_17 hx hZ e_17 Ar_18 (j := (3 : Int32)) (inb_of S_18 ⟨by decide, by decide⟩) (g := (mkF m 45 #[.val (.long q0), .second, .val (.int p1), .val (.int p2), .val (.int p3), .val (.ref b_10), .unset, .unset, .unset, .unset, .unset] [(.int r_17), (.int (3 : Int32)), (.ref b_10)])) rfl rfl (hb hby at_45)
  have V_18 := Arv.set Ar_18 q_18 S_18 N_18 H_18 G_18 (fits_nar_byte _) W_18 3 rfl (Nat.le_of_ble_eq_true rfl)
  replace E_b_10 := E_b_10.wr W_18
  replace lt_b_10 := Nat.lt_of_lt_of_le lt_b_10 (Keep.of_wr W_18).1
  replace Zs := Nat.le_trans Zs (Keep.of_wr W_18).1
  replace V_b_10 : Arv Z h_18 b_10 k_10 .byte (8 : Int32) [(.int (nar .byte r_11)), (.int (nar .byte r_13)), (.int (nar .byte r_15)), (.int (nar .byte r_17)), (.int (0 : Int32)), (.int (0 : Int32)), (.int (0 : Int32)), (.int (0 : Int32))] (.int (0 : Int32)) := V_18
  replace Nf := Fr.snoc X_18 Nf g_b_10
  refine Win.go st_18 ?_
  clear st_18 W_18 V_18 Ar_18 q_18 S_18 N_18 H_18 G_18 X_17 e_17
  show Win p.tables e below _ (T_18.setTop (mkF m 46 #[.val (.long q0), .second, .val (.int p1), .val (.int p2), .val (.int p3), .val (.ref b_10), .unset, .unset, .unset, .unset, .unset] []))
  refine s_aload (pc' := 48) X_18.here hx (hb hby at_46) rfl rfl rfl ?_
  refine s_iconst (pc' := 49) (z := (4 : Int32)) X_18.here hx (hb hby at_48) rfl rfl ?_
  refine s_lloadN (pc' := 50) X_18.here hx (hb hby at_49) rfl rfl ?_
  refine s_iloadN (pc' := 51) X_18.here hx (hb hby at_50) rfl rfl ?_
  refine s_iconst (pc' := 52) (z := (4 : Int32)) X_18.here hx (hb hby at_51) rfl rfl ?_
  obtain ⟨_, _, ⟨T_19, L_19, k_19, n_19⟩, -, X_19, ⟨Lc_19, hQ_19, l_19, y_19, z_19⟩, st_19⟩ := Jvm.LawKit.callS X_18 hx (y := (⟨"com/example/renkei/renkei/Iso2022WalkFirstEscPinLaw", "pick", "(JII)B"⟩ : MethodName)) hown (mvT hZ (hw _ (List.mem_of_getElem? (i := 1) rfl))) (mvT hZ (hw _ (List.mem_of_getElem? (i := 2) rfl))) (mvT hZ (hw _ (List.mem_of_getElem? (i := 3) rfl))) (mvT hZ (hw _ (List.mem_of_getElem? (i := 4) rfl))) (by decide) (backOf (W := 2) (rm1 l Z a0 hw [] q0 p1 (4 : Int32) h_18 n0 Zs ) hZ (hw _ (List.mem_of_getElem? (i := 4) rfl)) (hw _ (List.mem_of_getElem? (i := 3) rfl)) (by decide) (by decide)) (g := (mkF m 52 #[.val (.long q0), .second, .val (.int p1), .val (.int p2), .val (.int p3), .val (.ref b_10), .unset, .unset, .unset, .unset, .unset] [(.int (4 : Int32)), (.int p1), (.long q0), (.int (4 : Int32)), (.ref b_10)])) rfl (by rw [hml]; rfl) (argsL := [(.long q0), (.int p1), (.int (4 : Int32))]) (rest := [(.int (4 : Int32)), (.ref b_10)]) (lenOf pd_0 rfl) rfl (by show 2 * 0 + _ ≤ _; exact Nat.le_of_eq rfl) (hb hby at_52) (fun _ _ => ⟨rfl, e_18, (by decide : 1 + 0 ≤ _), (by decide : 8 + 0 ≤ _)⟩)
  dsimp only [Pt.U, Pt.locs, Pt.cells, Pt.slots, Nat.add_zero] at X_19 l_19 y_19 z_19 st_19 hQ_19
  subst y_19 z_19
  obtain ⟨Nq_19, e_19, r_19, rfl, hr_19⟩ := hQ_19
  replace Nf := own_frEq l_19 (Fr.app Nf Nq_19)
  clear l_19
  refine Win.go st_19 ?_
  clear st_19 Nq_19 X_18 e_18
  show Win p.tables e below _ (T_19.setTop (mkF m 55 #[.val (.long q0), .second, .val (.int p1), .val (.int p2), .val (.int p3), .val (.ref b_10), .unset, .unset, .unset, .unset, .unset] [(.int r_19), (.int (4 : Int32)), (.ref b_10)]))
  obtain ⟨cl_20, Ar_20, q_20, S_20, N_20, H_20, G_20⟩ := V_b_10
  obtain ⟨T_20, h_20, X_20, e_20, W_20, st_20⟩ := stB X_19 hx hZ e_19 Ar_20 (j := (4 : Int32)) (inb_of S_20 ⟨by decide, by decide⟩) (g := (mkF m 55 #[.val (.long q0), .second, .val (.int p1), .val (.int p2), .val (.int p3), .val (.ref b_10), .unset, .unset, .unset, .unset, .unset] [(.int r_19), (.int (4 : Int32)), (.ref b_10)])) rfl rfl (hb hby at_55)
  have V_20 := Arv.set Ar_20 q_20 S_20 N_20 H_20 G_20 (fits_nar_byte _) W_20 4 rfl (Nat.le_of_ble_eq_true rfl)
  replace E_b_10 := E_b_10.wr W_20
  replace lt_b_10 := Nat.lt_of_lt_of_le lt_b_10 (Keep.of_wr W_20).1
  replace Zs := Nat.le_trans Zs (Keep.of_wr W_20).1
  replace V_b_10 : Arv Z h_20 b_10 k_10 .byte (8 : Int32) [(.int (nar .byte r_11)), (.int (nar .byte r_13)), (.int (nar .byte r_15)), (.int (nar .byte r_17)), (.int (nar .byte r_19)), (.int (0 : Int32)), (.int (0 : Int32)), (.int (0 : Int32))] (.int (0 : Int32)) := V_20
  replace Nf := Fr.snoc X_20 Nf g_b_10
  refine Win.go st_20 ?_
  clear st_20 W_20 V_20 Ar_20 q_20 S_20 N_20 H_20 G_20 X_19 e_19
  show Win p.tables e below _ (T_20.setTop (mkF m 56 #[.val (.long q0), .second, .val (.int p1), .val (.int p2), .val (.int p3), .val (.ref b_10), .unset, .unset, .unset, .unset, .unset] []))
  refine s_aload (pc' := 58) X_20.here hx (hb hby at_56) rfl rfl rfl ?_
  refine s_iconst (pc' := 59) (z := (5 : Int32)) X_20.here hx (hb hby at_58) rfl rfl ?_
  refine s_lloadN (pc' := 60) X_20.here hx (hb hby at_59) rfl rfl ?_
  refine s_iloadN (pc' := 61) X_20.here hx (hb hby at_60) rfl rfl ?_
  refine s_iconst (pc' := 62) (z := (5 : Int32)) X_20.here hx (hb hby at_61) rfl rfl ?_
  obtain ⟨_, _, ⟨T_21, L_21, k_21, n_21⟩, -, X_21, ⟨Lc_21, hQ_21, l_21, y_21, z_21⟩, st_21⟩ := Jvm.LawKit.callS X_20 hx (y := (⟨"com/example/renkei/renkei/Iso2022WalkFirstEscPinLaw", "pick", "(JII)B"⟩ : MethodName)) hown (mvT hZ (hw _ (List.mem_of_getElem? (i := 1) rfl))) (mvT hZ (hw _ (List.mem_of_getElem? (i := 2) rfl))) (mvT hZ (hw _ (List.mem_of_getElem? (i := 3) rfl))) (mvT hZ (hw _ (List.mem_of_getElem? (i := 4) rfl))) (by decide) (backOf (W := 2) (rm1 l Z a0 hw [] q0 p1 (5 : Int32) h_20 n0 Zs ) hZ (hw _ (List.mem_of_getElem? (i := 4) rfl)) (hw _ (List.mem_of_getElem? (i := 3) rfl)) (by decide) (by decide)) (g := (mkF m 62 #[.val (.long q0), .second, .val (.int p1), .val (.int p2), .val (.int p3), .val (.ref b_10), .unset, .unset, .unset, .unset, .unset] [(.int (5 : Int32)), (.int p1), (.long q0), (.int (5 : Int32)), (.ref b_10)])) rfl (by rw [hml]; rfl) (argsL := [(.long q0), (.int p1), (.int (5 : Int32))]) (rest := [(.int (5 : Int32)), (.ref b_10)]) (lenOf pd_0 rfl) rfl (by show 2 * 0 + _ ≤ _; exact Nat.le_of_eq rfl) (hb hby at_62) (fun _ _ => ⟨rfl, e_20, (by decide : 1 + 0 ≤ _), (by decide : 8 + 0 ≤ _)⟩)
  dsimp only [Pt.U, Pt.locs, Pt.cells, Pt.slots, Nat.add_zero] at X_21 l_21 y_21 z_21 st_21 hQ_21
  subst y_21 z_21
  obtain ⟨Nq_21, e_21, r_21, rfl, hr_21⟩ := hQ_21
  replace Nf := own_frEq l_21 (Fr.app Nf Nq_21)
  clear l_21
  refine Win.go st_21 ?_
  clear st_21 Nq_21 X_20 e_20
  show Win p.tables e below _ (T_21.setTop (mkF m 65 #[.val (.long q0), .second, .val (.int p1), .val (.int p2), .val (.int p3), .val (.ref b_10), .unset, .unset, .unset, .unset, .unset] [(.int r_21), (.int (5 : Int32)), (.ref b_10)]))
  obtain ⟨cl_22, Ar_22, q_22, S_22, N_22, H_22, G_22⟩ := V_b_10
  obtain ⟨T_22, h_22, X_22, e_22, W_22, st_22⟩ := stB X_21 hx hZ e_21 Ar_22 (j := (5 : Int32)) (inb_of S_22 ⟨by decide, by decide⟩) (g := (mkF m 65 #[.val (.long q0), .second, .val (.int p1), .val (.int p2), .val (.int p3), .val (.ref b_10), .unset, .unset, .unset, .unset, .unset] [(.int r_21), (.int (5 : Int32)), (.ref b_10)])) rfl rfl (hb hby at_65)
  have V_22 := Arv.set Ar_22 q_22 S_22 N_22 H_22 G_22 (fits_nar_byte _) W_22 5 rfl (Nat.le_of_ble_eq_true rfl)
  replace E_b_10 := E_b_10.wr W_22
  replace lt_b_10 := Nat.lt_of_lt_of_le lt_b_10 (Keep.of_wr W_22).1
  replace Zs := Nat.le_trans Zs (Keep.of_wr W_22).1
  replace V_b_10 : Arv Z h_22 b_10 k_10 .byte (8 : Int32) [(.int (nar .byte r_11)), (.int (nar .byte r_13)), (.int (nar .byte r_15)), (.int (nar .byte r_17)), (.int (nar .byte r_19)), (.int (nar .byte r_21)), (.int (0 : Int32)), (.int (0 : Int32))] (.int (0 : Int32)) := V_22
  replace Nf := Fr.snoc X_22 Nf g_b_10
  refine Win.go st_22 ?_
  clear st_22 W_22 V_22 Ar_22 q_22 S_22 N_22 H_22 G_22 X_21 e_21
  show Win p.tables e below _ (T_22.setTop (mkF m 66 #[.val (.long q0), .second, .val (.int p1), .val (.int p2), .val (.int p3), .val (.ref b_10), .unset, .unset, .unset, .unset, .unset] []))
  refine s_aload (pc' := 68) X_22.here hx (hb hby at_66) rfl rfl rfl ?_
  refine s_bipush (pc' := 70) (z := (6 : Int32)) X_22.here hx (hb hby at_68) rfl rfl ?_
  refine s_lloadN (pc' := 71) X_22.here hx (hb hby at_70) rfl rfl ?_
  refine s_iloadN (pc' := 72) X_22.here hx (hb hby at_71) rfl rfl ?_
  refine s_bipush (pc' := 74) (z := (6 : Int32)) X_22.here hx (hb hby at_72) rfl rfl ?_
  obtain ⟨_, _, ⟨T_23, L_23, k_23, n_23⟩, -, X_23, ⟨Lc_23, hQ_23, l_23, y_23, z_23⟩, st_23⟩ := Jvm.LawKit.callS X_22 hx (y := (⟨"com/example/renkei/renkei/Iso2022WalkFirstEscPinLaw", "pick", "(JII)B"⟩ : MethodName)) hown (mvT hZ (hw _ (List.mem_of_getElem? (i := 1) rfl))) (mvT hZ (hw _ (List.mem_of_getElem? (i := 2) rfl))) (mvT hZ (hw _ (List.mem_of_getElem? (i := 3) rfl))) (mvT hZ (hw _ (List.mem_of_getElem? (i := 4) rfl))) (by decide) (backOf (W := 2) (rm1 l Z a0 hw [] q0 p1 (6 : Int32) h_22 n0 Zs ) hZ (hw _ (List.mem_of_getElem? (i := 4) rfl)) (hw _ (List.mem_of_getElem? (i := 3) rfl)) (by decide) (by decide)) (g := (mkF m 74 #[.val (.long q0), .second, .val (.int p1), .val (.int p2), .val (.int p3), .val (.ref b_10), .unset, .unset, .unset, .unset, .unset] [(.int (6 : Int32)), (.int p1), (.long q0), (.int (6 : Int32)), (.ref b_10)])) rfl (by rw [hml]; rfl) (argsL := [(.long q0), (.int p1), (.int (6 : Int32))]) (rest := [(.int (6 : Int32)), (.ref b_10)]) (lenOf pd_0 rfl) rfl (by show 2 * 0 + _ ≤ _; exact Nat.le_of_eq rfl) (hb hby at_74) (fun _ _ => ⟨rfl, e_22, (by decide : 1 + 0 ≤ _), (by decide : 8 + 0 ≤ _)⟩)
  dsimp only [Pt.U, Pt.locs, Pt.cells, Pt.slots, Nat.add_zero] at X_23 l_23 y_23 z_23 st_23 hQ_23
  subst y_23 z_23
  obtain ⟨Nq_23, e_23, r_23, rfl, hr_23⟩ := hQ_23
  replace Nf := own_frEq l_23 (Fr.app Nf Nq_23)
  clear l_23
  refine Win.go st_23 ?_
  clear st_23 Nq_23 X_22 e_22
  show Win p.tables e below _ (T_23.setTop (mkF m 77 #[.val (.long q0), .second, .val (.int p1), .val (.int p2), .val (.int p3), .val (.ref b_10), .unset, .unset, .unset, .unset, .unset] [(.int r_23), (.int (6 : Int32)), (.ref b_10)]))
  obtain ⟨cl_24, Ar_24, q_24, S_24, N_24, H_24, G_24⟩ := V_b_10
  obtain ⟨T_24, h_24, X_24, e_24, W_24, st_24⟩ := stB X_23 hx hZ e_23 Ar_24 (j := (6 : Int32)) (inb_of S_24 ⟨by decide, by decide⟩) (g := (mkF m 77 #[.val (.long q0), .second, .val (.int p1), .val (.int p2), .val (.int p3), .val (.ref b_10), .unset, .unset, .unset, .unset, .unset] [(.int r_23), (.int (6 : Int32)), (.ref b_10)])) rfl rfl (hb hby at_77)
  have V_24 := Arv.set Ar_24 q_24 S_24 N_24 H_24 G_24 (fits_nar_byte _) W_24 6 rfl (Nat.le_of_ble_eq_true rfl)
  replace E_b_10 := E_b_10.wr W_24
  replace lt_b_10 := Nat.lt_of_lt_of_le lt_b_10 (Keep.of_wr W_24).1
  replace Zs := Nat.le_trans Zs (Keep.of_wr W_24).1
  replace V_b_10 : Arv Z h_24 b_10 k_10 .byte (8 : Int32) [(.int (nar .byte r_11)), (.int (nar .byte r_13)), (.int (nar .byte r_15)), (.int (nar .byte r_17)), (.int (nar .byte r_19)), (.int (nar .byte r_21)), (.int (nar .byte r_23)), (.int (0 : Int32))] (.int (0 : Int32)) := V_24
  replace Nf := Fr.snoc X_24 Nf g_b_10
  refine Win.go st_24 ?_
  clear st_24 W_24 V_24 Ar_24 q_24 S_24 N_24 H_24 G_24 X_23 e_23
  show Win p.tables e below _ (T_24.setTop (mkF m 78 #[.val (.long q0), .second, .val (.int p1), .val (.int p2), .val (.int p3), .val (.ref b_10), .unset, .unset, .unset, .unset, .unset] []))
  refine s_aload (pc' := 80) X_24.here hx (hb hby at_78) rfl rfl rfl ?_
  refine s_bipush (pc' := 82) (z := (7 : Int32)) X_24.here hx (hb hby at_80) rfl rfl ?_
  refine s_lloadN (pc' := 83) X_24.here hx (hb hby at_82) rfl rfl ?_
  refine s_iloadN (pc' := 84) X_24.here hx (hb hby at_83) rfl rfl ?_
  refine s_bipush (pc' := 86) (z := (7 : Int32)) X_24.here hx (hb hby at_84) rfl rfl ?_
  obtain ⟨_, _, ⟨T_25, L_25, k_25, n_25⟩, -, X_25, ⟨Lc_25, hQ_25, l_25, y_25, z_25⟩, st_25⟩ := Jvm.LawKit.callS X_24 hx (y := (⟨"com/example/renkei/renkei/Iso2022WalkFirstEscPinLaw", "pick", "(JII)B"⟩ : MethodName)) hown (mvT hZ (hw _ (List.mem_of_getElem? (i := 1) rfl))) (mvT hZ (hw _ (List.mem_of_getElem? (i := 2) rfl))) (mvT hZ (hw _ (List.mem_of_getElem? (i := 3) rfl))) (mvT hZ (hw _ (List.mem_of_getElem? (i := 4) rfl))) (by decide) (backOf (W := 2) (rm1 l Z a0 hw [] q0 p1 (7 : Int32) h_24 n0 Zs ) hZ (hw _ (List.mem_of_getElem? (i := 4) rfl)) (hw _ (List.mem_of_getElem? (i := 3) rfl)) (by decide) (by decide)) (g := (mkF m 86 #[.val (.long q0), .second, .val (.int p1), .val (.int p2), .val (.int p3), .val (.ref b_10), .unset, .unset, .unset, .unset, .unset] [(.int (7 : Int32)), (.int p1), (.long q0), (.int (7 : Int32)), (.ref b_10)])) rfl (by rw [hml]; rfl) (argsL := [(.long q0), (.int p1), (.int (7 : Int32))]) (rest := [(.int (7 : Int32)), (.ref b_10)]) (lenOf pd_0 rfl) rfl (by show 2 * 0 + _ ≤ _; exact Nat.le_of_eq rfl) (hb hby at_86) (fun _ _ => ⟨rfl, e_24, (by decide : 1 + 0 ≤ _), (by decide : 8 + 0 ≤ _)⟩)
  dsimp only [Pt.U, Pt.locs, Pt.cells, Pt.slots, Nat.add_zero] at X_25 l_25 y_25 z_25 st_25 hQ_25
  subst y_25 z_25
  obtain ⟨Nq_25, e_25, r_25, rfl, hr_25⟩ := hQ_25
  replace Nf := own_frEq l_25 (Fr.app Nf Nq_25)
  clear l_25
  refine Win.go st_25 ?_
  clear st_25 Nq_25 X_24 e_24
  show Win p.tables e below _ (T_25.setTop (mkF m 89 #[.val (.long q0), .second, .val (.int p1), .val (.int p2), .val (.int p3), .val (.ref b_10), .unset, .unset, .unset, .unset, .unset] [(.int r_25), (.int (7 : Int32)), (.ref b_10)]))
  obtain ⟨cl_26, Ar_26, q_26, S_26, N_26, H_26, G_26⟩ := V_b_10
  obtain ⟨T_26, h_26, X_26, e_26, W_26, st_26⟩ := stB X_25 hx hZ e_25 Ar_26 (j := (7 : Int32)) (inb_of S_26 ⟨by decide, by decide⟩) (g := (mkF m 89 #[.val (.long q0), .second, .val (.int p1), .val (.int p2), .val (.int p3), .val (.ref b_10), .unset, .unset, .unset, .unset, .unset] [(.int r_25), (.int (7 : Int32)), (.ref b_10)])) rfl rfl (hb hby at_89)
  have V_26 := Arv.set Ar_26 q_26 S_26 N_26 H_26 G_26 (fits_nar_byte _) W_26 7 rfl (Nat.le_of_ble_eq_true rfl)
  replace E_b_10 := E_b_10.wr W_26
  replace lt_b_10 := Nat.lt_of_lt_of_le lt_b_10 (Keep.of_wr W_26).1
  replace Zs := Nat.le_trans Zs (Keep.of_wr W_26).1
  replace V_b_10 : Arv Z h_26 b_10 k_10 .byte (8 : Int32) [(.int (nar .byte r_11)), (.int (nar .byte r_13)), (.int (nar .byte r_15)), (.int (nar .byte r_17)), (.int (nar .byte r_19)), (.int (nar .byte r_21)), (.int (nar .byte r_23)), (.int (nar .byte r_25))] (.int (0 : Int32)) := V_26
  replace Nf := Fr.snoc X_26 Nf g_b_10
  refine Win.go st_26 ?_
  clear st_26 W_26 V_26 Ar_26 q_26 S_26 N_26 H_26 G_26 X_25 e_25
  show Win p.tables e below _ (T_26.setTop (mkF m 90 #[.val (.long q0), .second, .val (.int p1), .val (.int p2), .val (.int p3), .val (.ref b_10), .unset, .unset, .unset, .unset, .unset] []))
  obtain ⟨f, A_b_10⟩ := AF.ex (n := 8) V_b_10 (by decide)
  refine s_iloadN (pc' := 91) X_26.here hx (hb hby at_90) rfl rfl ?_
  refine Win.go (fun _ k => X_26.ldcInt hx hown (mvT hZ (hw _ (List.mem_of_getElem? (i := 5) rfl))) (g := (mkF m 91 #[.val (.long q0), .second, .val (.int p1), .val (.int p2), .val (.int p3), .val (.ref b_10), .unset, .unset, .unset, .unset, .unset] [(.int p2)])) rfl (hb hby at_91) _ k) ?_
  show Win p.tables e below _ (T_26.setTop (mkF m 93 #[.val (.long q0), .second, .val (.int p1), .val (.int p2), .val (.int p3), .val (.ref b_10), .unset, .unset, .unset, .unset, .unset] [(.int (2147483647 : Int32)), (.int p2)]))
  refine s_iand (pc' := 94) X_26.here hx (hb hby at_93) rfl ?_
  refine s_bipush (pc' := 96) (z := (9 : Int32)) X_26.here hx (hb hby at_94) rfl rfl ?_
  refine Win.go (fun _ k => iremM X_26 hx rfl (hb hby at_96) rfl (by decide) k) ?_
  show Win p.tables e below _ (T_26.setTop (mkF m 97 #[.val (.long q0), .second, .val (.int p1), .val (.int p2), .val (.int p3), .val (.ref b_10), .unset, .unset, .unset, .unset, .unset] [(.int ((p2 &&& (2147483647 : Int32)) % (9 : Int32)))]))
  refine s_istore (pc' := 99) (l' := #[.val (.long q0), .second, .val (.int p1), .val (.int p2), .val (.int p3), .val (.ref b_10), .val (.int ((p2 &&& (2147483647 : Int32)) % (9 : Int32))), .unset, .unset, .unset, .unset]) X_26.here hx (hb hby at_97) rfl rfl ?_
  generalize haa : ((p2 &&& (2147483647 : Int32)) % (9 : Int32)) = aa
  show Win p.tables e below _ (T_26.setTop (mkF m 99 #[.val (.long q0), .second, .val (.int p1), .val (.int p2), .val (.int p3), .val (.ref b_10), .val (.int aa), .unset, .unset, .unset, .unset] []))
  have baa := own_nine p2 aa haa
  refine s_iload (pc' := 101) X_26.here hx (hb hby at_99) rfl rfl ?_
  refine Win.go (fun _ k => X_26.ldcInt hx hown (mvT hZ (hw _ (List.mem_of_getElem? (i := 5) rfl))) (g := (mkF m 101 #[.val (.long q0), .second, .val (.int p1), .val (.int p2), .val (.int p3), .val (.ref b_10), .val (.int aa), .unset, .unset, .unset, .unset] [(.int p3)])) rfl (hb hby at_101) _ k) ?_
  show Win p.tables e below _ (T_26.setTop (mkF m 103 #[.val (.long q0), .second, .val (.int p1), .val (.int p2), .val (.int p3), .val (.ref b_10), .val (.int aa), .unset, .unset, .unset, .unset] [(.int (2147483647 : Int32)), (.int p3)]))
  refine s_iand (pc' := 104) X_26.here hx (hb hby at_103) rfl ?_
  refine s_bipush (pc' := 106) (z := (9 : Int32)) X_26.here hx (hb hby at_104) rfl rfl ?_
  refine Win.go (fun _ k => iremM X_26 hx rfl (hb hby at_106) rfl (by decide) k) ?_
  show Win p.tables e below _ (T_26.setTop (mkF m 107 #[.val (.long q0), .second, .val (.int p1), .val (.int p2), .val (.int p3), .val (.ref b_10), .val (.int aa), .unset, .unset, .unset, .unset] [(.int ((p3 &&& (2147483647 : Int32)) % (9 : Int32)))]))
  refine s_istore (pc' := 109) (l' := #[.val (.long q0), .second, .val (.int p1), .val (.int p2), .val (.int p3), .val (.ref b_10), .val (.int aa), .val (.int ((p3 &&& (2147483647 : Int32)) % (9 : Int32))), .unset, .unset, .unset]) X_26.here hx (hb hby at_107) rfl rfl ?_
  generalize hbb : ((p3 &&& (2147483647 : Int32)) % (9 : Int32)) = bb
  show Win p.tables e below _ (T_26.setTop (mkF m 109 #[.val (.long q0), .second, .val (.int p1), .val (.int p2), .val (.int p3), .val (.ref b_10), .val (.int aa), .val (.int bb), .unset, .unset, .unset] []))
  have bbb := own_nine p3 bb hbb
  refine s_iload (pc' := 111) X_26.here hx (hb hby at_109) rfl rfl ?_
  refine s_iload (pc' := 113) X_26.here hx (hb hby at_111) rfl rfl ?_
  obtain ⟨_, _, ⟨T_27, L_27, k_27, n_27⟩, -, X_27, ⟨Lc_27, hQ_27, l_27, y_27, z_27⟩, st_27⟩ := Jvm.LawKit.callS X_26 hx (y := (⟨"java/lang/Math", "min", "(II)I"⟩ : MethodName)) hown (mvT hZ (hw _ (List.mem_of_getElem? (i := 6) rfl))) (mvT hZ (hw _ (List.mem_of_getElem? (i := 7) rfl))) (mvT hZ (hw _ (List.mem_of_getElem? (i := 8) rfl))) (mvT hZ (hw _ (List.mem_of_getElem? (i := 9) rfl))) (by decide) (backOf (W := 0) (rm2 l Z a0 hw [] aa bb h_26 n0 Zs ) hZ (hw _ (List.mem_of_getElem? (i := 9) rfl)) (hw _ (List.mem_of_getElem? (i := 8) rfl)) (by decide) (by decide)) (g := (mkF m 113 #[.val (.long q0), .second, .val (.int p1), .val (.int p2), .val (.int p3), .val (.ref b_10), .val (.int aa), .val (.int bb), .unset, .unset, .unset] [(.int bb), (.int aa)])) rfl (by rw [hml]; rfl) (argsL := [(.int aa), (.int bb)]) (rest := []) (lenOf pd_1 rfl) rfl (by show 2 * 0 + _ ≤ _; exact Nat.le_of_eq rfl) (hb hby at_113) (fun _ _ => ⟨rfl, e_26, (by decide : 1 + 0 ≤ _), (by decide : 8 + 0 ≤ _)⟩)
  dsimp only [Pt.U, Pt.locs, Pt.cells, Pt.slots, Nat.add_zero] at X_27 l_27 y_27 z_27 st_27 hQ_27
  subst y_27 z_27
  obtain ⟨Nq_27, e_27, fr, rfl, hfr⟩ := hQ_27
  replace Nf := own_frEq l_27 (Fr.app Nf Nq_27)
  clear l_27
  refine Win.go st_27 ?_
  clear st_27 Nq_27 X_26 e_26
  show Win p.tables e below _ (T_27.setTop (mkF m 116 #[.val (.long q0), .second, .val (.int p1), .val (.int p2), .val (.int p3), .val (.ref b_10), .val (.int aa), .val (.int bb), .unset, .unset, .unset] [(.int fr)]))
  refine s_istore (pc' := 118) (l' := #[.val (.long q0), .second, .val (.int p1), .val (.int p2), .val (.int p3), .val (.ref b_10), .val (.int aa), .val (.int bb), .val (.int fr), .unset, .unset]) X_27.here hx (hb hby at_116) rfl rfl ?_
  refine s_iload (pc' := 120) X_27.here hx (hb hby at_118) rfl rfl ?_
  refine s_iload (pc' := 122) X_27.here hx (hb hby at_120) rfl rfl ?_
  obtain ⟨_, _, ⟨T_28, L_28, k_28, n_28⟩, -, X_28, ⟨Lc_28, hQ_28, l_28, y_28, z_28⟩, st_28⟩ := Jvm.LawKit.callS X_27 hx (y := (⟨"java/lang/Math", "max", "(II)I"⟩ : MethodName)) hown (mvT hZ (hw _ (List.mem_of_getElem? (i := 10) rfl))) (mvT hZ (hw _ (List.mem_of_getElem? (i := 11) rfl))) (mvT hZ (hw _ (List.mem_of_getElem? (i := 8) rfl))) (mvT hZ (hw _ (List.mem_of_getElem? (i := 12) rfl))) (by decide) (backOf (W := 0) (rm3 l Z a0 hw [] aa bb h_26 n0 Zs ) hZ (hw _ (List.mem_of_getElem? (i := 12) rfl)) (hw _ (List.mem_of_getElem? (i := 8) rfl)) (by decide) (by decide)) (g := (mkF m 122 #[.val (.long q0), .second, .val (.int p1), .val (.int p2), .val (.int p3), .val (.ref b_10), .val (.int aa), .val (.int bb), .val (.int fr), .unset, .unset] [(.int bb), (.int aa)])) rfl (by rw [hml]; rfl) (argsL := [(.int aa), (.int bb)]) (rest := []) (lenOf pd_1 rfl) rfl (by show 2 * 0 + _ ≤ _; exact Nat.le_of_eq rfl) (hb hby at_122) (fun _ _ => ⟨rfl, e_27, (by decide : 1 + 0 ≤ _), (by decide : 8 + 0 ≤ _)⟩)
  dsimp only [Pt.U, Pt.locs, Pt.cells, Pt.slots, Nat.add_zero] at X_28 l_28 y_28 z_28 st_28 hQ_28
  subst y_28 z_28
  obtain ⟨Nq_28, e_28, en, rfl, hen⟩ := hQ_28
  replace Nf := own_frEq l_28 (Fr.app Nf Nq_28)
  clear l_28
  refine Win.go st_28 ?_
  clear st_28 Nq_28 X_27 e_27
  show Win p.tables e below _ (T_28.setTop (mkF m 125 #[.val (.long q0), .second, .val (.int p1), .val (.int p2), .val (.int p3), .val (.ref b_10), .val (.int aa), .val (.int bb), .val (.int fr), .unset, .unset] [(.int en)]))
  refine s_istore (pc' := 127) (l' := #[.val (.long q0), .second, .val (.int p1), .val (.int p2), .val (.int p3), .val (.ref b_10), .val (.int aa), .val (.int bb), .val (.int fr), .val (.int en), .unset]) X_28.here hx (hb hby at_125) rfl rfl ?_
  refine s_aload (pc' := 129) X_28.here hx (hb hby at_127) rfl rfl rfl ?_
  refine s_iload (pc' := 131) X_28.here hx (hb hby at_129) rfl rfl ?_
  have hfe := own_fe baa bbb hfr hen
  refine s_iload (pc' := 133) X_28.here hx (hb hby at_131) rfl rfl ?_
  obtain ⟨_, _, ⟨T_29, L_29, k_29, n_29⟩, -, X_29, ⟨Lc_29, hQ_29, l_29, y_29, z_29⟩, st_29⟩ := Jvm.LawKit.callS X_28 hx (y := (⟨"com/example/renkei/renkei/Iso2022Walk", "firstEsc", "([BII)I"⟩ : MethodName)) hown (mvT hZ (hw _ (List.mem_of_getElem? (i := 13) rfl))) (mvT hZ (hw _ (List.mem_of_getElem? (i := 14) rfl))) (mvT hZ (hw _ (List.mem_of_getElem? (i := 15) rfl))) (mvT hZ (hw _ (List.mem_of_getElem? (i := 16) rfl))) (by decide) (backOf (W := 0) (rm4 l Z a0 hw [] b_10 fr en f h_26 n0 Zs A_b_10 hfe) hZ (hw _ (List.mem_of_getElem? (i := 16) rfl)) (hw _ (List.mem_of_getElem? (i := 15) rfl)) (by decide) (by decide)) (g := (mkF m 133 #[.val (.long q0), .second, .val (.int p1), .val (.int p2), .val (.int p3), .val (.ref b_10), .val (.int aa), .val (.int bb), .val (.int fr), .val (.int en), .unset] [(.int en), (.int fr), (.ref b_10)])) rfl (by rw [hml]; rfl) (argsL := [(.ref b_10), (.int fr), (.int en)]) (rest := []) (lenOf pd_2 rfl) rfl (by show 2 * 0 + _ ≤ _; exact Nat.le_of_eq rfl) (hb hby at_133) (fun _ _ => ⟨rfl, e_28, (by decide : 1 + 0 ≤ _), (by decide : 8 + 0 ≤ _)⟩)
  dsimp only [Pt.U, Pt.locs, Pt.cells, Pt.slots, Nat.add_zero] at X_29 l_29 y_29 z_29 st_29 hQ_29
  subst y_29 z_29
  obtain ⟨Nq_29, e_29, rr, rfl, hrr⟩ := hQ_29
  replace Nf := own_frEq l_29 (Fr.app Nf Nq_29)
  clear l_29
  refine Win.go st_29 ?_
  clear st_29 Nq_29 X_28 e_28
  show Win p.tables e below _ (T_29.setTop (mkF m 136 #[.val (.long q0), .second, .val (.int p1), .val (.int p2), .val (.int p3), .val (.ref b_10), .val (.int aa), .val (.int bb), .val (.int fr), .val (.int en), .unset] [(.int rr)]))
  obtain ⟨hz1, hz2, hz3, hz4⟩ := hrr
  refine s_istore (pc' := 138) (l' := #[.val (.long q0), .second, .val (.int p1), .val (.int p2), .val (.int p3), .val (.ref b_10), .val (.int aa), .val (.int bb), .val (.int fr), .val (.int en), .val (.int rr)]) X_29.here hx (hb hby at_136) rfl rfl ?_
  refine s_iload (pc' := 140) X_29.here hx (hb hby at_138) rfl rfl ?_
  refine s_iload (pc' := 142) X_29.here hx (hb hby at_140) rfl rfl ?_
  by_cases hc142 : (rr).toInt < (fr).toInt
  · skip
    refine s_icmpYes (pc' := 152) X_29.here hx (hb hby at_142) (tltI (x := rr) (y := fr) hc142).1 (by decide) (by decide) ?_
    refine s_iconst (pc' := 153) (z := (0 : Int32)) X_29.here hx (hb hby at_152) rfl rfl ?_
    exfalso
    exact absurd hz1 (Int.not_le.mpr hc142)
  · skip
    refine s_icmpNo (pc' := 145) X_29.here hx (hb hby at_142) rfl (fltI (x := rr) (y := fr) hc142).1 ?_
    refine s_iload (pc' := 147) X_29.here hx (hb hby at_145) rfl rfl ?_
    refine s_iload (pc' := 149) X_29.here hx (hb hby at_147) rfl rfl ?_
    by_cases hc149 : (en).toInt < (rr).toInt
    · skip
      refine s_icmpNo (pc' := 152) X_29.here hx (hb hby at_149) rfl (tltI (x := en) (y := rr) hc149).2.2.2 ?_
      refine s_iconst (pc' := 153) (z := (0 : Int32)) X_29.here hx (hb hby at_152) rfl rfl ?_
      exfalso
      exact absurd hz2 (Int.not_le.mpr hc149)
    · skip
      refine s_icmpYes (pc' := 154) X_29.here hx (hb hby at_149) (fltI (x := en) (y := rr) hc149).2.2.2 (by decide) (by decide) ?_
      refine s_iload (pc' := 156) X_29.here hx (hb hby at_154) rfl rfl ?_
      refine s_iload (pc' := 158) X_29.here hx (hb hby at_156) rfl rfl ?_
      by_cases hc158 : (rr).toInt < (en).toInt
      · skip
        refine s_icmpNo (pc' := 161) X_29.here hx (hb hby at_158) rfl (tltI (x := rr) (y := en) hc158).2.1 ?_
        refine s_aload (pc' := 163) X_29.here hx (hb hby at_161) rfl rfl rfl ?_
        refine s_iload (pc' := 165) X_29.here hx (hb hby at_163) rfl rfl ?_
        obtain ⟨cl_30, Ar_30, S_30, G_30⟩ := id A_b_10
        have hb_30 : 0 ≤ (rr).toInt ∧ (rr).toInt < 8 := by exact own_rr hfe hz1 hc158
        refine Win.go (fun _ k => X_29.baloadBytes hx (j := rr) (v := (.int (f (rr).toInt))) (by rw [e_29]; exact Ar_30.1) (State.isArrayOf_alike hZ.alike Ar_30.2.1) Ar_30.2.2 (AF.inb S_30 hb_30) (G_30 _ hb_30.1 hb_30.2) (g := (mkF m 165 #[.val (.long q0), .second, .val (.int p1), .val (.int p2), .val (.int p3), .val (.ref b_10), .val (.int aa), .val (.int bb), .val (.int fr), .val (.int en), .val (.int rr)] [(.int rr), (.ref b_10)])) rfl rfl (hb hby at_165) _ k) ?_
        show Win p.tables e below _ (T_29.setTop (mkF m 166 #[.val (.long q0), .second, .val (.int p1), .val (.int p2), .val (.int p3), .val (.ref b_10), .val (.int aa), .val (.int bb), .val (.int fr), .val (.int en), .val (.int rr)] [(.int (f (rr).toInt))]))
        clear Ar_30 S_30 G_30 hb_30
        refine s_bipush (pc' := 168) (z := (27 : Int32)) X_29.here hx (hb hby at_166) rfl rfl ?_
        by_cases hc168 : ((f (rr).toInt)).toInt = (27 : Int)
        · skip
          refine s_icmpYes (pc' := 173) X_29.here hx (hb hby at_168) (teqI (x := (f (rr).toInt)) (y := (27 : Int32)) hc168).1 (by decide) (by decide) ?_
          refine s_aload (pc' := 175) X_29.here hx (hb hby at_173) rfl rfl rfl ?_
          refine s_iconst (pc' := 176) (z := (0 : Int32)) X_29.here hx (hb hby at_175) rfl rfl ?_
          refine s_iload (pc' := 178) X_29.here hx (hb hby at_176) rfl rfl ?_
          refine s_iload (pc' := 180) X_29.here hx (hb hby at_178) rfl rfl ?_
          obtain ⟨_, _, ⟨T_31, L_31, k_31, n_31⟩, -, X_31, ⟨Lc_31, hQ_31, l_31, y_31, z_31⟩, st_31⟩ := Jvm.LawKit.callS X_29 hx (y := (⟨"com/example/renkei/renkei/Iso2022WalkFirstEscPinLaw", "clear", "([BIII)Z"⟩ : MethodName)) hown (mvT hZ (hw _ (List.mem_of_getElem? (i := 17) rfl))) (mvT hZ (hw _ (List.mem_of_getElem? (i := 18) rfl))) (mvT hZ (hw _ (List.mem_of_getElem? (i := 3) rfl))) (mvT hZ (hw _ (List.mem_of_getElem? (i := 19) rfl))) (by decide) (backOf (W := 0) (rm5_0 l Z a0 hw [] b_10 fr rr f h_26 n0 Zs A_b_10) hZ (hw _ (List.mem_of_getElem? (i := 19) rfl)) (hw _ (List.mem_of_getElem? (i := 3) rfl)) (by decide) (by decide)) (g := (mkF m 180 #[.val (.long q0), .second, .val (.int p1), .val (.int p2), .val (.int p3), .val (.ref b_10), .val (.int aa), .val (.int bb), .val (.int fr), .val (.int en), .val (.int rr)] [(.int rr), (.int fr), (.int (0 : Int32)), (.ref b_10)])) rfl (by rw [hml]; rfl) (argsL := [(.ref b_10), (.int (0 : Int32)), (.int fr), (.int rr)]) (rest := []) (lenOf pd_3 rfl) rfl (by show 2 * 0 + _ ≤ _; exact Nat.le_of_eq rfl) (hb hby at_180) (fun _ _ => ⟨rfl, e_29, (by decide : 1 + 0 ≤ _), (by decide : 8 + 0 ≤ _)⟩)
          dsimp only [Pt.U, Pt.locs, Pt.cells, Pt.slots, Nat.add_zero] at X_31 l_31 y_31 z_31 st_31 hQ_31
          subst y_31 z_31
          obtain ⟨Nq_31, e_31, c0, rfl, hc0⟩ := hQ_31
          replace Nf := own_frEq l_31 (Fr.app Nf Nq_31)
          clear l_31
          refine Win.go st_31 ?_
          clear st_31 Nq_31 X_29 e_29
          show Win p.tables e below _ (T_31.setTop (mkF m 183 #[.val (.long q0), .second, .val (.int p1), .val (.int p2), .val (.int p3), .val (.ref b_10), .val (.int aa), .val (.int bb), .val (.int fr), .val (.int en), .val (.int rr)] [(.int c0)]))
          by_cases hc183 : (c0).toInt = (0 : Int)
          · skip
            refine s_ifYes (pc' := 283) X_31.here hx (hb hby at_183) ((if0 _ _).trans (teqI (x := c0) (y := (0 : Int32)) hc183).1) (by decide) (by decide) ?_
            refine s_iconst (pc' := 284) (z := (0 : Int32)) X_31.here hx (hb hby at_283) rfl rfl ?_
            exfalso
            exact own_clr hz4 hc0 hc183
          · skip
            refine s_ifNo (pc' := 186) X_31.here hx (hb hby at_183) rfl ((if0 _ _).trans (feqI (x := c0) (y := (0 : Int32)) hc183).1) ?_
            clear hc183 hc0
            refine s_aload (pc' := 188) X_31.here hx (hb hby at_186) rfl rfl rfl ?_
            refine s_iconst (pc' := 189) (z := (1 : Int32)) X_31.here hx (hb hby at_188) rfl rfl ?_
            refine s_iload (pc' := 191) X_31.here hx (hb hby at_189) rfl rfl ?_
            refine s_iload (pc' := 193) X_31.here hx (hb hby at_191) rfl rfl ?_
            obtain ⟨_, _, ⟨T_32, L_32, k_32, n_32⟩, -, X_32, ⟨Lc_32, hQ_32, l_32, y_32, z_32⟩, st_32⟩ := Jvm.LawKit.callS X_31 hx (y := (⟨"com/example/renkei/renkei/Iso2022WalkFirstEscPinLaw", "clear", "([BIII)Z"⟩ : MethodName)) hown (mvT hZ (hw _ (List.mem_of_getElem? (i := 17) rfl))) (mvT hZ (hw _ (List.mem_of_getElem? (i := 18) rfl))) (mvT hZ (hw _ (List.mem_of_getElem? (i := 3) rfl))) (mvT hZ (hw _ (List.mem_of_getElem? (i := 19) rfl))) (by decide) (backOf (W := 0) (rm5_1 l Z a0 hw [] b_10 fr rr f h_26 n0 Zs A_b_10) hZ (hw _ (List.mem_of_getElem? (i := 19) rfl)) (hw _ (List.mem_of_getElem? (i := 3) rfl)) (by decide) (by decide)) (g := (mkF m 193 #[.val (.long q0), .second, .val (.int p1), .val (.int p2), .val (.int p3), .val (.ref b_10), .val (.int aa), .val (.int bb), .val (.int fr), .val (.int en), .val (.int rr)] [(.int rr), (.int fr), (.int (1 : Int32)), (.ref b_10)])) rfl (by rw [hml]; rfl) (argsL := [(.ref b_10), (.int (1 : Int32)), (.int fr), (.int rr)]) (rest := []) (lenOf pd_3 rfl) rfl (by show 2 * 0 + _ ≤ _; exact Nat.le_of_eq rfl) (hb hby at_193) (fun _ _ => ⟨rfl, e_31, (by decide : 1 + 0 ≤ _), (by decide : 8 + 0 ≤ _)⟩)
            dsimp only [Pt.U, Pt.locs, Pt.cells, Pt.slots, Nat.add_zero] at X_32 l_32 y_32 z_32 st_32 hQ_32
            subst y_32 z_32
            obtain ⟨Nq_32, e_32, c1, rfl, hc1⟩ := hQ_32
            replace Nf := own_frEq l_32 (Fr.app Nf Nq_32)
            clear l_32
            refine Win.go st_32 ?_
            clear st_32 Nq_32 X_31 e_31
            show Win p.tables e below _ (T_32.setTop (mkF m 196 #[.val (.long q0), .second, .val (.int p1), .val (.int p2), .val (.int p3), .val (.ref b_10), .val (.int aa), .val (.int bb), .val (.int fr), .val (.int en), .val (.int rr)] [(.int c1)]))
            by_cases hc196 : (c1).toInt = (0 : Int)
            · skip
              refine s_ifYes (pc' := 283) X_32.here hx (hb hby at_196) ((if0 _ _).trans (teqI (x := c1) (y := (0 : Int32)) hc196).1) (by decide) (by decide) ?_
              refine s_iconst (pc' := 284) (z := (0 : Int32)) X_32.here hx (hb hby at_283) rfl rfl ?_
              exfalso
              exact own_clr hz4 hc1 hc196
            · skip
              refine s_ifNo (pc' := 199) X_32.here hx (hb hby at_196) rfl ((if0 _ _).trans (feqI (x := c1) (y := (0 : Int32)) hc196).1) ?_
              clear hc196 hc1
              refine s_aload (pc' := 201) X_32.here hx (hb hby at_199) rfl rfl rfl ?_
              refine s_iconst (pc' := 202) (z := (2 : Int32)) X_32.here hx (hb hby at_201) rfl rfl ?_
              refine s_iload (pc' := 204) X_32.here hx (hb hby at_202) rfl rfl ?_
              refine s_iload (pc' := 206) X_32.here hx (hb hby at_204) rfl rfl ?_
              obtain ⟨_, _, ⟨T_33, L_33, k_33, n_33⟩, -, X_33, ⟨Lc_33, hQ_33, l_33, y_33, z_33⟩, st_33⟩ := Jvm.LawKit.callS X_32 hx (y := (⟨"com/example/renkei/renkei/Iso2022WalkFirstEscPinLaw", "clear", "([BIII)Z"⟩ : MethodName)) hown (mvT hZ (hw _ (List.mem_of_getElem? (i := 17) rfl))) (mvT hZ (hw _ (List.mem_of_getElem? (i := 18) rfl))) (mvT hZ (hw _ (List.mem_of_getElem? (i := 3) rfl))) (mvT hZ (hw _ (List.mem_of_getElem? (i := 19) rfl))) (by decide) (backOf (W := 0) (rm5_2 l Z a0 hw [] b_10 fr rr f h_26 n0 Zs A_b_10) hZ (hw _ (List.mem_of_getElem? (i := 19) rfl)) (hw _ (List.mem_of_getElem? (i := 3) rfl)) (by decide) (by decide)) (g := (mkF m 206 #[.val (.long q0), .second, .val (.int p1), .val (.int p2), .val (.int p3), .val (.ref b_10), .val (.int aa), .val (.int bb), .val (.int fr), .val (.int en), .val (.int rr)] [(.int rr), (.int fr), (.int (2 : Int32)), (.ref b_10)])) rfl (by rw [hml]; rfl) (argsL := [(.ref b_10), (.int (2 : Int32)), (.int fr), (.int rr)]) (rest := []) (lenOf pd_3 rfl) rfl (by show 2 * 0 + _ ≤ _; exact Nat.le_of_eq rfl) (hb hby at_206) (fun _ _ => ⟨rfl, e_32, (by decide : 1 + 0 ≤ _), (by decide : 8 + 0 ≤ _)⟩)
              dsimp only [Pt.U, Pt.locs, Pt.cells, Pt.slots, Nat.add_zero] at X_33 l_33 y_33 z_33 st_33 hQ_33
              subst y_33 z_33
              obtain ⟨Nq_33, e_33, c2, rfl, hc2⟩ := hQ_33
              replace Nf := own_frEq l_33 (Fr.app Nf Nq_33)
              clear l_33
              refine Win.go st_33 ?_
              clear st_33 Nq_33 X_32 e_32
              show Win p.tables e below _ (T_33.setTop (mkF m 209 #[.val (.long q0), .second, .val (.int p1), .val (.int p2), .val (.int p3), .val (.ref b_10), .val (.int aa), .val (.int bb), .val (.int fr), .val (.int en), .val (.int rr)] [(.int c2)]))
              by_cases hc209 : (c2).toInt = (0 : Int)
              · skip
                refine s_ifYes (pc' := 283) X_33.here hx (hb hby at_209) ((if0 _ _).trans (teqI (x := c2) (y := (0 : Int32)) hc209).1) (by decide) (by decide) ?_
                refine s_iconst (pc' := 284) (z := (0 : Int32)) X_33.here hx (hb hby at_283) rfl rfl ?_
                exfalso
                exact own_clr hz4 hc2 hc209
              · skip
                refine s_ifNo (pc' := 212) X_33.here hx (hb hby at_209) rfl ((if0 _ _).trans (feqI (x := c2) (y := (0 : Int32)) hc209).1) ?_
                clear hc209 hc2
                refine s_aload (pc' := 214) X_33.here hx (hb hby at_212) rfl rfl rfl ?_
                refine s_iconst (pc' := 215) (z := (3 : Int32)) X_33.here hx (hb hby at_214) rfl rfl ?_
                refine s_iload (pc' := 217) X_33.here hx (hb hby at_215) rfl rfl ?_
                refine s_iload (pc' := 219) X_33.here hx (hb hby at_217) rfl rfl ?_
                obtain ⟨_, _, ⟨T_34, L_34, k_34, n_34⟩, -, X_34, ⟨Lc_34, hQ_34, l_34, y_34, z_34⟩, st_34⟩ := Jvm.LawKit.callS X_33 hx (y := (⟨"com/example/renkei/renkei/Iso2022WalkFirstEscPinLaw", "clear", "([BIII)Z"⟩ : MethodName)) hown (mvT hZ (hw _ (List.mem_of_getElem? (i := 17) rfl))) (mvT hZ (hw _ (List.mem_of_getElem? (i := 18) rfl))) (mvT hZ (hw _ (List.mem_of_getElem? (i := 3) rfl))) (mvT hZ (hw _ (List.mem_of_getElem? (i := 19) rfl))) (by decide) (backOf (W := 0) (rm5_3 l Z a0 hw [] b_10 fr rr f h_26 n0 Zs A_b_10) hZ (hw _ (List.mem_of_getElem? (i := 19) rfl)) (hw _ (List.mem_of_getElem? (i := 3) rfl)) (by decide) (by decide)) (g := (mkF m 219 #[.val (.long q0), .second, .val (.int p1), .val (.int p2), .val (.int p3), .val (.ref b_10), .val (.int aa), .val (.int bb), .val (.int fr), .val (.int en), .val (.int rr)] [(.int rr), (.int fr), (.int (3 : Int32)), (.ref b_10)])) rfl (by rw [hml]; rfl) (argsL := [(.ref b_10), (.int (3 : Int32)), (.int fr), (.int rr)]) (rest := []) (lenOf pd_3 rfl) rfl (by show 2 * 0 + _ ≤ _; exact Nat.le_of_eq rfl) (hb hby at_219) (fun _ _ => ⟨rfl, e_33, (by decide : 1 + 0 ≤ _), (by decide : 8 + 0 ≤ _)⟩)
                dsimp only [Pt.U, Pt.locs, Pt.cells, Pt.slots, Nat.add_zero] at X_34 l_34 y_34 z_34 st_34 hQ_34
                subst y_34 z_34
                obtain ⟨Nq_34, e_34, c3, rfl, hc3⟩ := hQ_34
                replace Nf := own_frEq l_34 (Fr.app Nf Nq_34)
                clear l_34
                refine Win.go st_34 ?_
                clear st_34 Nq_34 X_33 e_33
                show Win p.tables e below _ (T_34.setTop (mkF m 222 #[.val (.long q0), .second, .val (.int p1), .val (.int p2), .val (.int p3), .val (.ref b_10), .val (.int aa), .val (.int bb), .val (.int fr), .val (.int en), .val (.int rr)] [(.int c3)]))
                by_cases hc222 : (c3).toInt = (0 : Int)
                · skip
                  refine s_ifYes (pc' := 283) X_34.here hx (hb hby at_222) ((if0 _ _).trans (teqI (x := c3) (y := (0 : Int32)) hc222).1) (by decide) (by decide) ?_
                  refine s_iconst (pc' := 284) (z := (0 : Int32)) X_34.here hx (hb hby at_283) rfl rfl ?_
                  exfalso
                  exact own_clr hz4 hc3 hc222
                · skip
                  refine s_ifNo (pc' := 225) X_34.here hx (hb hby at_222) rfl ((if0 _ _).trans (feqI (x := c3) (y := (0 : Int32)) hc222).1) ?_
                  clear hc222 hc3
                  refine s_aload (pc' := 227) X_34.here hx (hb hby at_225) rfl rfl rfl ?_
                  refine s_iconst (pc' := 228) (z := (4 : Int32)) X_34.here hx (hb hby at_227) rfl rfl ?_
                  refine s_iload (pc' := 230) X_34.here hx (hb hby at_228) rfl rfl ?_
                  refine s_iload (pc' := 232) X_34.here hx (hb hby at_230) rfl rfl ?_
                  obtain ⟨_, _, ⟨T_35, L_35, k_35, n_35⟩, -, X_35, ⟨Lc_35, hQ_35, l_35, y_35, z_35⟩, st_35⟩ := Jvm.LawKit.callS X_34 hx (y := (⟨"com/example/renkei/renkei/Iso2022WalkFirstEscPinLaw", "clear", "([BIII)Z"⟩ : MethodName)) hown (mvT hZ (hw _ (List.mem_of_getElem? (i := 17) rfl))) (mvT hZ (hw _ (List.mem_of_getElem? (i := 18) rfl))) (mvT hZ (hw _ (List.mem_of_getElem? (i := 3) rfl))) (mvT hZ (hw _ (List.mem_of_getElem? (i := 19) rfl))) (by decide) (backOf (W := 0) (rm5_4 l Z a0 hw [] b_10 fr rr f h_26 n0 Zs A_b_10) hZ (hw _ (List.mem_of_getElem? (i := 19) rfl)) (hw _ (List.mem_of_getElem? (i := 3) rfl)) (by decide) (by decide)) (g := (mkF m 232 #[.val (.long q0), .second, .val (.int p1), .val (.int p2), .val (.int p3), .val (.ref b_10), .val (.int aa), .val (.int bb), .val (.int fr), .val (.int en), .val (.int rr)] [(.int rr), (.int fr), (.int (4 : Int32)), (.ref b_10)])) rfl (by rw [hml]; rfl) (argsL := [(.ref b_10), (.int (4 : Int32)), (.int fr), (.int rr)]) (rest := []) (lenOf pd_3 rfl) rfl (by show 2 * 0 + _ ≤ _; exact Nat.le_of_eq rfl) (hb hby at_232) (fun _ _ => ⟨rfl, e_34, (by decide : 1 + 0 ≤ _), (by decide : 8 + 0 ≤ _)⟩)
                  dsimp only [Pt.U, Pt.locs, Pt.cells, Pt.slots, Nat.add_zero] at X_35 l_35 y_35 z_35 st_35 hQ_35
                  subst y_35 z_35
                  obtain ⟨Nq_35, e_35, c4, rfl, hc4⟩ := hQ_35
                  replace Nf := own_frEq l_35 (Fr.app Nf Nq_35)
                  clear l_35
                  refine Win.go st_35 ?_
                  clear st_35 Nq_35 X_34 e_34
                  show Win p.tables e below _ (T_35.setTop (mkF m 235 #[.val (.long q0), .second, .val (.int p1), .val (.int p2), .val (.int p3), .val (.ref b_10), .val (.int aa), .val (.int bb), .val (.int fr), .val (.int en), .val (.int rr)] [(.int c4)]))
                  by_cases hc235 : (c4).toInt = (0 : Int)
                  · skip
                    refine s_ifYes (pc' := 283) X_35.here hx (hb hby at_235) ((if0 _ _).trans (teqI (x := c4) (y := (0 : Int32)) hc235).1) (by decide) (by decide) ?_
                    refine s_iconst (pc' := 284) (z := (0 : Int32)) X_35.here hx (hb hby at_283) rfl rfl ?_
                    exfalso
                    exact own_clr hz4 hc4 hc235
                  · skip
                    refine s_ifNo (pc' := 238) X_35.here hx (hb hby at_235) rfl ((if0 _ _).trans (feqI (x := c4) (y := (0 : Int32)) hc235).1) ?_
                    clear hc235 hc4
                    refine s_aload (pc' := 240) X_35.here hx (hb hby at_238) rfl rfl rfl ?_
                    refine s_iconst (pc' := 241) (z := (5 : Int32)) X_35.here hx (hb hby at_240) rfl rfl ?_
                    refine s_iload (pc' := 243) X_35.here hx (hb hby at_241) rfl rfl ?_
                    refine s_iload (pc' := 245) X_35.here hx (hb hby at_243) rfl rfl ?_
                    obtain ⟨_, _, ⟨T_36, L_36, k_36, n_36⟩, -, X_36, ⟨Lc_36, hQ_36, l_36, y_36, z_36⟩, st_36⟩ := Jvm.LawKit.callS X_35 hx (y := (⟨"com/example/renkei/renkei/Iso2022WalkFirstEscPinLaw", "clear", "([BIII)Z"⟩ : MethodName)) hown (mvT hZ (hw _ (List.mem_of_getElem? (i := 17) rfl))) (mvT hZ (hw _ (List.mem_of_getElem? (i := 18) rfl))) (mvT hZ (hw _ (List.mem_of_getElem? (i := 3) rfl))) (mvT hZ (hw _ (List.mem_of_getElem? (i := 19) rfl))) (by decide) (backOf (W := 0) (rm5_5 l Z a0 hw [] b_10 fr rr f h_26 n0 Zs A_b_10) hZ (hw _ (List.mem_of_getElem? (i := 19) rfl)) (hw _ (List.mem_of_getElem? (i := 3) rfl)) (by decide) (by decide)) (g := (mkF m 245 #[.val (.long q0), .second, .val (.int p1), .val (.int p2), .val (.int p3), .val (.ref b_10), .val (.int aa), .val (.int bb), .val (.int fr), .val (.int en), .val (.int rr)] [(.int rr), (.int fr), (.int (5 : Int32)), (.ref b_10)])) rfl (by rw [hml]; rfl) (argsL := [(.ref b_10), (.int (5 : Int32)), (.int fr), (.int rr)]) (rest := []) (lenOf pd_3 rfl) rfl (by show 2 * 0 + _ ≤ _; exact Nat.le_of_eq rfl) (hb hby at_245) (fun _ _ => ⟨rfl, e_35, (by decide : 1 + 0 ≤ _), (by decide : 8 + 0 ≤ _)⟩)
                    dsimp only [Pt.U, Pt.locs, Pt.cells, Pt.slots, Nat.add_zero] at X_36 l_36 y_36 z_36 st_36 hQ_36
                    subst y_36 z_36
                    obtain ⟨Nq_36, e_36, c5, rfl, hc5⟩ := hQ_36
                    replace Nf := own_frEq l_36 (Fr.app Nf Nq_36)
                    clear l_36
                    refine Win.go st_36 ?_
                    clear st_36 Nq_36 X_35 e_35
                    show Win p.tables e below _ (T_36.setTop (mkF m 248 #[.val (.long q0), .second, .val (.int p1), .val (.int p2), .val (.int p3), .val (.ref b_10), .val (.int aa), .val (.int bb), .val (.int fr), .val (.int en), .val (.int rr)] [(.int c5)]))
                    by_cases hc248 : (c5).toInt = (0 : Int)
                    · skip
                      refine s_ifYes (pc' := 283) X_36.here hx (hb hby at_248) ((if0 _ _).trans (teqI (x := c5) (y := (0 : Int32)) hc248).1) (by decide) (by decide) ?_
                      refine s_iconst (pc' := 284) (z := (0 : Int32)) X_36.here hx (hb hby at_283) rfl rfl ?_
                      exfalso
                      exact own_clr hz4 hc5 hc248
                    · skip
                      refine s_ifNo (pc' := 251) X_36.here hx (hb hby at_248) rfl ((if0 _ _).trans (feqI (x := c5) (y := (0 : Int32)) hc248).1) ?_
                      clear hc248 hc5
                      refine s_aload (pc' := 253) X_36.here hx (hb hby at_251) rfl rfl rfl ?_
                      refine s_bipush (pc' := 255) (z := (6 : Int32)) X_36.here hx (hb hby at_253) rfl rfl ?_
                      refine s_iload (pc' := 257) X_36.here hx (hb hby at_255) rfl rfl ?_
                      refine s_iload (pc' := 259) X_36.here hx (hb hby at_257) rfl rfl ?_
                      obtain ⟨_, _, ⟨T_37, L_37, k_37, n_37⟩, -, X_37, ⟨Lc_37, hQ_37, l_37, y_37, z_37⟩, st_37⟩ := Jvm.LawKit.callS X_36 hx (y := (⟨"com/example/renkei/renkei/Iso2022WalkFirstEscPinLaw", "clear", "([BIII)Z"⟩ : MethodName)) hown (mvT hZ (hw _ (List.mem_of_getElem? (i := 17) rfl))) (mvT hZ (hw _ (List.mem_of_getElem? (i := 18) rfl))) (mvT hZ (hw _ (List.mem_of_getElem? (i := 3) rfl))) (mvT hZ (hw _ (List.mem_of_getElem? (i := 19) rfl))) (by decide) (backOf (W := 0) (rm5_6 l Z a0 hw [] b_10 fr rr f h_26 n0 Zs A_b_10) hZ (hw _ (List.mem_of_getElem? (i := 19) rfl)) (hw _ (List.mem_of_getElem? (i := 3) rfl)) (by decide) (by decide)) (g := (mkF m 259 #[.val (.long q0), .second, .val (.int p1), .val (.int p2), .val (.int p3), .val (.ref b_10), .val (.int aa), .val (.int bb), .val (.int fr), .val (.int en), .val (.int rr)] [(.int rr), (.int fr), (.int (6 : Int32)), (.ref b_10)])) rfl (by rw [hml]; rfl) (argsL := [(.ref b_10), (.int (6 : Int32)), (.int fr), (.int rr)]) (rest := []) (lenOf pd_3 rfl) rfl (by show 2 * 0 + _ ≤ _; exact Nat.le_of_eq rfl) (hb hby at_259) (fun _ _ => ⟨rfl, e_36, (by decide : 1 + 0 ≤ _), (by decide : 8 + 0 ≤ _)⟩)
                      dsimp only [Pt.U, Pt.locs, Pt.cells, Pt.slots, Nat.add_zero] at X_37 l_37 y_37 z_37 st_37 hQ_37
                      subst y_37 z_37
                      obtain ⟨Nq_37, e_37, c6, rfl, hc6⟩ := hQ_37
                      replace Nf := own_frEq l_37 (Fr.app Nf Nq_37)
                      clear l_37
                      refine Win.go st_37 ?_
                      clear st_37 Nq_37 X_36 e_36
                      show Win p.tables e below _ (T_37.setTop (mkF m 262 #[.val (.long q0), .second, .val (.int p1), .val (.int p2), .val (.int p3), .val (.ref b_10), .val (.int aa), .val (.int bb), .val (.int fr), .val (.int en), .val (.int rr)] [(.int c6)]))
                      by_cases hc262 : (c6).toInt = (0 : Int)
                      · skip
                        refine s_ifYes (pc' := 283) X_37.here hx (hb hby at_262) ((if0 _ _).trans (teqI (x := c6) (y := (0 : Int32)) hc262).1) (by decide) (by decide) ?_
                        refine s_iconst (pc' := 284) (z := (0 : Int32)) X_37.here hx (hb hby at_283) rfl rfl ?_
                        exfalso
                        exact own_clr hz4 hc6 hc262
                      · skip
                        refine s_ifNo (pc' := 265) X_37.here hx (hb hby at_262) rfl ((if0 _ _).trans (feqI (x := c6) (y := (0 : Int32)) hc262).1) ?_
                        clear hc262 hc6
                        refine s_aload (pc' := 267) X_37.here hx (hb hby at_265) rfl rfl rfl ?_
                        refine s_bipush (pc' := 269) (z := (7 : Int32)) X_37.here hx (hb hby at_267) rfl rfl ?_
                        refine s_iload (pc' := 271) X_37.here hx (hb hby at_269) rfl rfl ?_
                        refine s_iload (pc' := 273) X_37.here hx (hb hby at_271) rfl rfl ?_
                        obtain ⟨_, _, ⟨T_38, L_38, k_38, n_38⟩, -, X_38, ⟨Lc_38, hQ_38, l_38, y_38, z_38⟩, st_38⟩ := Jvm.LawKit.callS X_37 hx (y := (⟨"com/example/renkei/renkei/Iso2022WalkFirstEscPinLaw", "clear", "([BIII)Z"⟩ : MethodName)) hown (mvT hZ (hw _ (List.mem_of_getElem? (i := 17) rfl))) (mvT hZ (hw _ (List.mem_of_getElem? (i := 18) rfl))) (mvT hZ (hw _ (List.mem_of_getElem? (i := 3) rfl))) (mvT hZ (hw _ (List.mem_of_getElem? (i := 19) rfl))) (by decide) (backOf (W := 0) (rm5_7 l Z a0 hw [] b_10 fr rr f h_26 n0 Zs A_b_10) hZ (hw _ (List.mem_of_getElem? (i := 19) rfl)) (hw _ (List.mem_of_getElem? (i := 3) rfl)) (by decide) (by decide)) (g := (mkF m 273 #[.val (.long q0), .second, .val (.int p1), .val (.int p2), .val (.int p3), .val (.ref b_10), .val (.int aa), .val (.int bb), .val (.int fr), .val (.int en), .val (.int rr)] [(.int rr), (.int fr), (.int (7 : Int32)), (.ref b_10)])) rfl (by rw [hml]; rfl) (argsL := [(.ref b_10), (.int (7 : Int32)), (.int fr), (.int rr)]) (rest := []) (lenOf pd_3 rfl) rfl (by show 2 * 0 + _ ≤ _; exact Nat.le_of_eq rfl) (hb hby at_273) (fun _ _ => ⟨rfl, e_37, (by decide : 1 + 0 ≤ _), (by decide : 8 + 0 ≤ _)⟩)
                        dsimp only [Pt.U, Pt.locs, Pt.cells, Pt.slots, Nat.add_zero] at X_38 l_38 y_38 z_38 st_38 hQ_38
                        subst y_38 z_38
                        obtain ⟨Nq_38, e_38, c7, rfl, hc7⟩ := hQ_38
                        replace Nf := own_frEq l_38 (Fr.app Nf Nq_38)
                        clear l_38
                        refine Win.go st_38 ?_
                        clear st_38 Nq_38 X_37 e_37
                        show Win p.tables e below _ (T_38.setTop (mkF m 276 #[.val (.long q0), .second, .val (.int p1), .val (.int p2), .val (.int p3), .val (.ref b_10), .val (.int aa), .val (.int bb), .val (.int fr), .val (.int en), .val (.int rr)] [(.int c7)]))
                        by_cases hc276 : (c7).toInt = (0 : Int)
                        · skip
                          refine s_ifYes (pc' := 283) X_38.here hx (hb hby at_276) ((if0 _ _).trans (teqI (x := c7) (y := (0 : Int32)) hc276).1) (by decide) (by decide) ?_
                          refine s_iconst (pc' := 284) (z := (0 : Int32)) X_38.here hx (hb hby at_283) rfl rfl ?_
                          exfalso
                          exact own_clr hz4 hc7 hc276
                        · skip
                          refine s_ifNo (pc' := 279) X_38.here hx (hb hby at_276) rfl ((if0 _ _).trans (feqI (x := c7) (y := (0 : Int32)) hc276).1) ?_
                          refine s_iconst (pc' := 280) (z := (1 : Int32)) X_38.here hx (hb hby at_279) rfl rfl ?_
                          refine s_goto (pc' := 284) X_38.here hx (hb hby at_280) (by decide) (by decide) ?_
                          refine winN X_38 hx hlk e_38 (t := .boolean) Bd.returns (by simp) (hb hby at_284) (by decide) (by decide) (z' := 1) rfl ⟨Nf, rfl⟩
        · skip
          refine s_icmpNo (pc' := 171) X_29.here hx (hb hby at_168) rfl (feqI (x := (f (rr).toInt)) (y := (27 : Int32)) hc168).1 ?_
          refine s_iconst (pc' := 172) (z := (0 : Int32)) X_29.here hx (hb hby at_171) rfl rfl ?_
          exfalso
          exact hc168 (hz3 hc158)
      · skip
        refine s_icmpYes (pc' := 173) X_29.here hx (hb hby at_158) (fltI (x := rr) (y := en) hc158).2.1 (by decide) (by decide) ?_
        refine s_aload (pc' := 175) X_29.here hx (hb hby at_173) rfl rfl rfl ?_
        refine s_iconst (pc' := 176) (z := (0 : Int32)) X_29.here hx (hb hby at_175) rfl rfl ?_
        refine s_iload (pc' := 178) X_29.here hx (hb hby at_176) rfl rfl ?_
        refine s_iload (pc' := 180) X_29.here hx (hb hby at_178) rfl rfl ?_
        obtain ⟨_, _, ⟨T_39, L_39, k_39, n_39⟩, -, X_39, ⟨Lc_39, hQ_39, l_39, y_39, z_39⟩, st_39⟩ := Jvm.LawKit.callS X_29 hx (y := (⟨"com/example/renkei/renkei/Iso2022WalkFirstEscPinLaw", "clear", "([BIII)Z"⟩ : MethodName)) hown (mvT hZ (hw _ (List.mem_of_getElem? (i := 17) rfl))) (mvT hZ (hw _ (List.mem_of_getElem? (i := 18) rfl))) (mvT hZ (hw _ (List.mem_of_getElem? (i := 3) rfl))) (mvT hZ (hw _ (List.mem_of_getElem? (i := 19) rfl))) (by decide) (backOf (W := 0) (rm5_0 l Z a0 hw [] b_10 fr rr f h_26 n0 Zs A_b_10) hZ (hw _ (List.mem_of_getElem? (i := 19) rfl)) (hw _ (List.mem_of_getElem? (i := 3) rfl)) (by decide) (by decide)) (g := (mkF m 180 #[.val (.long q0), .second, .val (.int p1), .val (.int p2), .val (.int p3), .val (.ref b_10), .val (.int aa), .val (.int bb), .val (.int fr), .val (.int en), .val (.int rr)] [(.int rr), (.int fr), (.int (0 : Int32)), (.ref b_10)])) rfl (by rw [hml]; rfl) (argsL := [(.ref b_10), (.int (0 : Int32)), (.int fr), (.int rr)]) (rest := []) (lenOf pd_3 rfl) rfl (by show 2 * 0 + _ ≤ _; exact Nat.le_of_eq rfl) (hb hby at_180) (fun _ _ => ⟨rfl, e_29, (by decide : 1 + 0 ≤ _), (by decide : 8 + 0 ≤ _)⟩)
        dsimp only [Pt.U, Pt.locs, Pt.cells, Pt.slots, Nat.add_zero] at X_39 l_39 y_39 z_39 st_39 hQ_39
        subst y_39 z_39
        obtain ⟨Nq_39, e_39, c0, rfl, hc0⟩ := hQ_39
        replace Nf := own_frEq l_39 (Fr.app Nf Nq_39)
        clear l_39
        refine Win.go st_39 ?_
        clear st_39 Nq_39 X_29 e_29
        show Win p.tables e below _ (T_39.setTop (mkF m 183 #[.val (.long q0), .second, .val (.int p1), .val (.int p2), .val (.int p3), .val (.ref b_10), .val (.int aa), .val (.int bb), .val (.int fr), .val (.int en), .val (.int rr)] [(.int c0)]))
        by_cases hc183 : (c0).toInt = (0 : Int)
        · skip
          refine s_ifYes (pc' := 283) X_39.here hx (hb hby at_183) ((if0 _ _).trans (teqI (x := c0) (y := (0 : Int32)) hc183).1) (by decide) (by decide) ?_
          refine s_iconst (pc' := 284) (z := (0 : Int32)) X_39.here hx (hb hby at_283) rfl rfl ?_
          exfalso
          exact own_clr hz4 hc0 hc183
        · skip
          refine s_ifNo (pc' := 186) X_39.here hx (hb hby at_183) rfl ((if0 _ _).trans (feqI (x := c0) (y := (0 : Int32)) hc183).1) ?_
          clear hc183 hc0
          refine s_aload (pc' := 188) X_39.here hx (hb hby at_186) rfl rfl rfl ?_
          refine s_iconst (pc' := 189) (z := (1 : Int32)) X_39.here hx (hb hby at_188) rfl rfl ?_
          refine s_iload (pc' := 191) X_39.here hx (hb hby at_189) rfl rfl ?_
          refine s_iload (pc' := 193) X_39.here hx (hb hby at_191) rfl rfl ?_
          obtain ⟨_, _, ⟨T_40, L_40, k_40, n_40⟩, -, X_40, ⟨Lc_40, hQ_40, l_40, y_40, z_40⟩, st_40⟩ := Jvm.LawKit.callS X_39 hx (y := (⟨"com/example/renkei/renkei/Iso2022WalkFirstEscPinLaw", "clear", "([BIII)Z"⟩ : MethodName)) hown (mvT hZ (hw _ (List.mem_of_getElem? (i := 17) rfl))) (mvT hZ (hw _ (List.mem_of_getElem? (i := 18) rfl))) (mvT hZ (hw _ (List.mem_of_getElem? (i := 3) rfl))) (mvT hZ (hw _ (List.mem_of_getElem? (i := 19) rfl))) (by decide) (backOf (W := 0) (rm5_1 l Z a0 hw [] b_10 fr rr f h_26 n0 Zs A_b_10) hZ (hw _ (List.mem_of_getElem? (i := 19) rfl)) (hw _ (List.mem_of_getElem? (i := 3) rfl)) (by decide) (by decide)) (g := (mkF m 193 #[.val (.long q0), .second, .val (.int p1), .val (.int p2), .val (.int p3), .val (.ref b_10), .val (.int aa), .val (.int bb), .val (.int fr), .val (.int en), .val (.int rr)] [(.int rr), (.int fr), (.int (1 : Int32)), (.ref b_10)])) rfl (by rw [hml]; rfl) (argsL := [(.ref b_10), (.int (1 : Int32)), (.int fr), (.int rr)]) (rest := []) (lenOf pd_3 rfl) rfl (by show 2 * 0 + _ ≤ _; exact Nat.le_of_eq rfl) (hb hby at_193) (fun _ _ => ⟨rfl, e_39, (by decide : 1 + 0 ≤ _), (by decide : 8 + 0 ≤ _)⟩)
          dsimp only [Pt.U, Pt.locs, Pt.cells, Pt.slots, Nat.add_zero] at X_40 l_40 y_40 z_40 st_40 hQ_40
          subst y_40 z_40
          obtain ⟨Nq_40, e_40, c1, rfl, hc1⟩ := hQ_40
          replace Nf := own_frEq l_40 (Fr.app Nf Nq_40)
          clear l_40
          refine Win.go st_40 ?_
          clear st_40 Nq_40 X_39 e_39
          show Win p.tables e below _ (T_40.setTop (mkF m 196 #[.val (.long q0), .second, .val (.int p1), .val (.int p2), .val (.int p3), .val (.ref b_10), .val (.int aa), .val (.int bb), .val (.int fr), .val (.int en), .val (.int rr)] [(.int c1)]))
          by_cases hc196 : (c1).toInt = (0 : Int)
          · skip
            refine s_ifYes (pc' := 283) X_40.here hx (hb hby at_196) ((if0 _ _).trans (teqI (x := c1) (y := (0 : Int32)) hc196).1) (by decide) (by decide) ?_
            refine s_iconst (pc' := 284) (z := (0 : Int32)) X_40.here hx (hb hby at_283) rfl rfl ?_
            exfalso
            exact own_clr hz4 hc1 hc196
          · skip
            refine s_ifNo (pc' := 199) X_40.here hx (hb hby at_196) rfl ((if0 _ _).trans (feqI (x := c1) (y := (0 : Int32)) hc196).1) ?_
            clear hc196 hc1
            refine s_aload (pc' := 201) X_40.here hx (hb hby at_199) rfl rfl rfl ?_
            refine s_iconst (pc' := 202) (z := (2 : Int32)) X_40.here hx (hb hby at_201) rfl rfl ?_
            refine s_iload (pc' := 204) X_40.here hx (hb hby at_202) rfl rfl ?_
            refine s_iload (pc' := 206) X_40.here hx (hb hby at_204) rfl rfl ?_
            obtain ⟨_, _, ⟨T_41, L_41, k_41, n_41⟩, -, X_41, ⟨Lc_41, hQ_41, l_41, y_41, z_41⟩, st_41⟩ := Jvm.LawKit.callS X_40 hx (y := (⟨"com/example/renkei/renkei/Iso2022WalkFirstEscPinLaw", "clear", "([BIII)Z"⟩ : MethodName)) hown (mvT hZ (hw _ (List.mem_of_getElem? (i := 17) rfl))) (mvT hZ (hw _ (List.mem_of_getElem? (i := 18) rfl))) (mvT hZ (hw _ (List.mem_of_getElem? (i := 3) rfl))) (mvT hZ (hw _ (List.mem_of_getElem? (i := 19) rfl))) (by decide) (backOf (W := 0) (rm5_2 l Z a0 hw [] b_10 fr rr f h_26 n0 Zs A_b_10) hZ (hw _ (List.mem_of_getElem? (i := 19) rfl)) (hw _ (List.mem_of_getElem? (i := 3) rfl)) (by decide) (by decide)) (g := (mkF m 206 #[.val (.long q0), .second, .val (.int p1), .val (.int p2), .val (.int p3), .val (.ref b_10), .val (.int aa), .val (.int bb), .val (.int fr), .val (.int en), .val (.int rr)] [(.int rr), (.int fr), (.int (2 : Int32)), (.ref b_10)])) rfl (by rw [hml]; rfl) (argsL := [(.ref b_10), (.int (2 : Int32)), (.int fr), (.int rr)]) (rest := []) (lenOf pd_3 rfl) rfl (by show 2 * 0 + _ ≤ _; exact Nat.le_of_eq rfl) (hb hby at_206) (fun _ _ => ⟨rfl, e_40, (by decide : 1 + 0 ≤ _), (by decide : 8 + 0 ≤ _)⟩)
            dsimp only [Pt.U, Pt.locs, Pt.cells, Pt.slots, Nat.add_zero] at X_41 l_41 y_41 z_41 st_41 hQ_41
            subst y_41 z_41
            obtain ⟨Nq_41, e_41, c2, rfl, hc2⟩ := hQ_41
            replace Nf := own_frEq l_41 (Fr.app Nf Nq_41)
            clear l_41
            refine Win.go st_41 ?_
            clear st_41 Nq_41 X_40 e_40
            show Win p.tables e below _ (T_41.setTop (mkF m 209 #[.val (.long q0), .second, .val (.int p1), .val (.int p2), .val (.int p3), .val (.ref b_10), .val (.int aa), .val (.int bb), .val (.int fr), .val (.int en), .val (.int rr)] [(.int c2)]))
            by_cases hc209 : (c2).toInt = (0 : Int)
            · skip
              refine s_ifYes (pc' := 283) X_41.here hx (hb hby at_209) ((if0 _ _).trans (teqI (x := c2) (y := (0 : Int32)) hc209).1) (by decide) (by decide) ?_
              refine s_iconst (pc' := 284) (z := (0 : Int32)) X_41.here hx (hb hby at_283) rfl rfl ?_
              exfalso
              exact own_clr hz4 hc2 hc209
            · skip
              refine s_ifNo (pc' := 212) X_41.here hx (hb hby at_209) rfl ((if0 _ _).trans (feqI (x := c2) (y := (0 : Int32)) hc209).1) ?_
              clear hc209 hc2
              refine s_aload (pc' := 214) X_41.here hx (hb hby at_212) rfl rfl rfl ?_
              refine s_iconst (pc' := 215) (z := (3 : Int32)) X_41.here hx (hb hby at_214) rfl rfl ?_
              refine s_iload (pc' := 217) X_41.here hx (hb hby at_215) rfl rfl ?_
              refine s_iload (pc' := 219) X_41.here hx (hb hby at_217) rfl rfl ?_
              obtain ⟨_, _, ⟨T_42, L_42, k_42, n_42⟩, -, X_42, ⟨Lc_42, hQ_42, l_42, y_42, z_42⟩, st_42⟩ := Jvm.LawKit.callS X_41 hx (y := (⟨"com/example/renkei/renkei/Iso2022WalkFirstEscPinLaw", "clear", "([BIII)Z"⟩ : MethodName)) hown (mvT hZ (hw _ (List.mem_of_getElem? (i := 17) rfl))) (mvT hZ (hw _ (List.mem_of_getElem? (i := 18) rfl))) (mvT hZ (hw _ (List.mem_of_getElem? (i := 3) rfl))) (mvT hZ (hw _ (List.mem_of_getElem? (i := 19) rfl))) (by decide) (backOf (W := 0) (rm5_3 l Z a0 hw [] b_10 fr rr f h_26 n0 Zs A_b_10) hZ (hw _ (List.mem_of_getElem? (i := 19) rfl)) (hw _ (List.mem_of_getElem? (i := 3) rfl)) (by decide) (by decide)) (g := (mkF m 219 #[.val (.long q0), .second, .val (.int p1), .val (.int p2), .val (.int p3), .val (.ref b_10), .val (.int aa), .val (.int bb), .val (.int fr), .val (.int en), .val (.int rr)] [(.int rr), (.int fr), (.int (3 : Int32)), (.ref b_10)])) rfl (by rw [hml]; rfl) (argsL := [(.ref b_10), (.int (3 : Int32)), (.int fr), (.int rr)]) (rest := []) (lenOf pd_3 rfl) rfl (by show 2 * 0 + _ ≤ _; exact Nat.le_of_eq rfl) (hb hby at_219) (fun _ _ => ⟨rfl, e_41, (by decide : 1 + 0 ≤ _), (by decide : 8 + 0 ≤ _)⟩)
              dsimp only [Pt.U, Pt.locs, Pt.cells, Pt.slots, Nat.add_zero] at X_42 l_42 y_42 z_42 st_42 hQ_42
              subst y_42 z_42
              obtain ⟨Nq_42, e_42, c3, rfl, hc3⟩ := hQ_42
              replace Nf := own_frEq l_42 (Fr.app Nf Nq_42)
              clear l_42
              refine Win.go st_42 ?_
              clear st_42 Nq_42 X_41 e_41
              show Win p.tables e below _ (T_42.setTop (mkF m 222 #[.val (.long q0), .second, .val (.int p1), .val (.int p2), .val (.int p3), .val (.ref b_10), .val (.int aa), .val (.int bb), .val (.int fr), .val (.int en), .val (.int rr)] [(.int c3)]))
              by_cases hc222 : (c3).toInt = (0 : Int)
              · skip
                refine s_ifYes (pc' := 283) X_42.here hx (hb hby at_222) ((if0 _ _).trans (teqI (x := c3) (y := (0 : Int32)) hc222).1) (by decide) (by decide) ?_
                refine s_iconst (pc' := 284) (z := (0 : Int32)) X_42.here hx (hb hby at_283) rfl rfl ?_
                exfalso
                exact own_clr hz4 hc3 hc222
              · skip
                refine s_ifNo (pc' := 225) X_42.here hx (hb hby at_222) rfl ((if0 _ _).trans (feqI (x := c3) (y := (0 : Int32)) hc222).1) ?_
                clear hc222 hc3
                refine s_aload (pc' := 227) X_42.here hx (hb hby at_225) rfl rfl rfl ?_
                refine s_iconst (pc' := 228) (z := (4 : Int32)) X_42.here hx (hb hby at_227) rfl rfl ?_
                refine s_iload (pc' := 230) X_42.here hx (hb hby at_228) rfl rfl ?_
                refine s_iload (pc' := 232) X_42.here hx (hb hby at_230) rfl rfl ?_
                obtain ⟨_, _, ⟨T_43, L_43, k_43, n_43⟩, -, X_43, ⟨Lc_43, hQ_43, l_43, y_43, z_43⟩, st_43⟩ := Jvm.LawKit.callS X_42 hx (y := (⟨"com/example/renkei/renkei/Iso2022WalkFirstEscPinLaw", "clear", "([BIII)Z"⟩ : MethodName)) hown (mvT hZ (hw _ (List.mem_of_getElem? (i := 17) rfl))) (mvT hZ (hw _ (List.mem_of_getElem? (i := 18) rfl))) (mvT hZ (hw _ (List.mem_of_getElem? (i := 3) rfl))) (mvT hZ (hw _ (List.mem_of_getElem? (i := 19) rfl))) (by decide) (backOf (W := 0) (rm5_4 l Z a0 hw [] b_10 fr rr f h_26 n0 Zs A_b_10) hZ (hw _ (List.mem_of_getElem? (i := 19) rfl)) (hw _ (List.mem_of_getElem? (i := 3) rfl)) (by decide) (by decide)) (g := (mkF m 232 #[.val (.long q0), .second, .val (.int p1), .val (.int p2), .val (.int p3), .val (.ref b_10), .val (.int aa), .val (.int bb), .val (.int fr), .val (.int en), .val (.int rr)] [(.int rr), (.int fr), (.int (4 : Int32)), (.ref b_10)])) rfl (by rw [hml]; rfl) (argsL := [(.ref b_10), (.int (4 : Int32)), (.int fr), (.int rr)]) (rest := []) (lenOf pd_3 rfl) rfl (by show 2 * 0 + _ ≤ _; exact Nat.le_of_eq rfl) (hb hby at_232) (fun _ _ => ⟨rfl, e_42, (by decide : 1 + 0 ≤ _), (by decide : 8 + 0 ≤ _)⟩)
                dsimp only [Pt.U, Pt.locs, Pt.cells, Pt.slots, Nat.add_zero] at X_43 l_43 y_43 z_43 st_43 hQ_43
                subst y_43 z_43
                obtain ⟨Nq_43, e_43, c4, rfl, hc4⟩ := hQ_43
                replace Nf := own_frEq l_43 (Fr.app Nf Nq_43)
                clear l_43
                refine Win.go st_43 ?_
                clear st_43 Nq_43 X_42 e_42
                show Win p.tables e below _ (T_43.setTop (mkF m 235 #[.val (.long q0), .second, .val (.int p1), .val (.int p2), .val (.int p3), .val (.ref b_10), .val (.int aa), .val (.int bb), .val (.int fr), .val (.int en), .val (.int rr)] [(.int c4)]))
                by_cases hc235 : (c4).toInt = (0 : Int)
                · skip
                  refine s_ifYes (pc' := 283) X_43.here hx (hb hby at_235) ((if0 _ _).trans (teqI (x := c4) (y := (0 : Int32)) hc235).1) (by decide) (by decide) ?_
                  refine s_iconst (pc' := 284) (z := (0 : Int32)) X_43.here hx (hb hby at_283) rfl rfl ?_
                  exfalso
                  exact own_clr hz4 hc4 hc235
                · skip
                  refine s_ifNo (pc' := 238) X_43.here hx (hb hby at_235) rfl ((if0 _ _).trans (feqI (x := c4) (y := (0 : Int32)) hc235).1) ?_
                  clear hc235 hc4
                  refine s_aload (pc' := 240) X_43.here hx (hb hby at_238) rfl rfl rfl ?_
                  refine s_iconst (pc' := 241) (z := (5 : Int32)) X_43.here hx (hb hby at_240) rfl rfl ?_
                  refine s_iload (pc' := 243) X_43.here hx (hb hby at_241) rfl rfl ?_
                  refine s_iload (pc' := 245) X_43.here hx (hb hby at_243) rfl rfl ?_
                  obtain ⟨_, _, ⟨T_44, L_44, k_44, n_44⟩, -, X_44, ⟨Lc_44, hQ_44, l_44, y_44, z_44⟩, st_44⟩ := Jvm.LawKit.callS X_43 hx (y := (⟨"com/example/renkei/renkei/Iso2022WalkFirstEscPinLaw", "clear", "([BIII)Z"⟩ : MethodName)) hown (mvT hZ (hw _ (List.mem_of_getElem? (i := 17) rfl))) (mvT hZ (hw _ (List.mem_of_getElem? (i := 18) rfl))) (mvT hZ (hw _ (List.mem_of_getElem? (i := 3) rfl))) (mvT hZ (hw _ (List.mem_of_getElem? (i := 19) rfl))) (by decide) (backOf (W := 0) (rm5_5 l Z a0 hw [] b_10 fr rr f h_26 n0 Zs A_b_10) hZ (hw _ (List.mem_of_getElem? (i := 19) rfl)) (hw _ (List.mem_of_getElem? (i := 3) rfl)) (by decide) (by decide)) (g := (mkF m 245 #[.val (.long q0), .second, .val (.int p1), .val (.int p2), .val (.int p3), .val (.ref b_10), .val (.int aa), .val (.int bb), .val (.int fr), .val (.int en), .val (.int rr)] [(.int rr), (.int fr), (.int (5 : Int32)), (.ref b_10)])) rfl (by rw [hml]; rfl) (argsL := [(.ref b_10), (.int (5 : Int32)), (.int fr), (.int rr)]) (rest := []) (lenOf pd_3 rfl) rfl (by show 2 * 0 + _ ≤ _; exact Nat.le_of_eq rfl) (hb hby at_245) (fun _ _ => ⟨rfl, e_43, (by decide : 1 + 0 ≤ _), (by decide : 8 + 0 ≤ _)⟩)
                  dsimp only [Pt.U, Pt.locs, Pt.cells, Pt.slots, Nat.add_zero] at X_44 l_44 y_44 z_44 st_44 hQ_44
                  subst y_44 z_44
                  obtain ⟨Nq_44, e_44, c5, rfl, hc5⟩ := hQ_44
                  replace Nf := own_frEq l_44 (Fr.app Nf Nq_44)
                  clear l_44
                  refine Win.go st_44 ?_
                  clear st_44 Nq_44 X_43 e_43
                  show Win p.tables e below _ (T_44.setTop (mkF m 248 #[.val (.long q0), .second, .val (.int p1), .val (.int p2), .val (.int p3), .val (.ref b_10), .val (.int aa), .val (.int bb), .val (.int fr), .val (.int en), .val (.int rr)] [(.int c5)]))
                  by_cases hc248 : (c5).toInt = (0 : Int)
                  · skip
                    refine s_ifYes (pc' := 283) X_44.here hx (hb hby at_248) ((if0 _ _).trans (teqI (x := c5) (y := (0 : Int32)) hc248).1) (by decide) (by decide) ?_
                    refine s_iconst (pc' := 284) (z := (0 : Int32)) X_44.here hx (hb hby at_283) rfl rfl ?_
                    exfalso
                    exact own_clr hz4 hc5 hc248
                  · skip
                    refine s_ifNo (pc' := 251) X_44.here hx (hb hby at_248) rfl ((if0 _ _).trans (feqI (x := c5) (y := (0 : Int32)) hc248).1) ?_
                    clear hc248 hc5
                    refine s_aload (pc' := 253) X_44.here hx (hb hby at_251) rfl rfl rfl ?_
                    refine s_bipush (pc' := 255) (z := (6 : Int32)) X_44.here hx (hb hby at_253) rfl rfl ?_
                    refine s_iload (pc' := 257) X_44.here hx (hb hby at_255) rfl rfl ?_
                    refine s_iload (pc' := 259) X_44.here hx (hb hby at_257) rfl rfl ?_
                    obtain ⟨_, _, ⟨T_45, L_45, k_45, n_45⟩, -, X_45, ⟨Lc_45, hQ_45, l_45, y_45, z_45⟩, st_45⟩ := Jvm.LawKit.callS X_44 hx (y := (⟨"com/example/renkei/renkei/Iso2022WalkFirstEscPinLaw", "clear", "([BIII)Z"⟩ : MethodName)) hown (mvT hZ (hw _ (List.mem_of_getElem? (i := 17) rfl))) (mvT hZ (hw _ (List.mem_of_getElem? (i := 18) rfl))) (mvT hZ (hw _ (List.mem_of_getElem? (i := 3) rfl))) (mvT hZ (hw _ (List.mem_of_getElem? (i := 19) rfl))) (by decide) (backOf (W := 0) (rm5_6 l Z a0 hw [] b_10 fr rr f h_26 n0 Zs A_b_10) hZ (hw _ (List.mem_of_getElem? (i := 19) rfl)) (hw _ (List.mem_of_getElem? (i := 3) rfl)) (by decide) (by decide)) (g := (mkF m 259 #[.val (.long q0), .second, .val (.int p1), .val (.int p2), .val (.int p3), .val (.ref b_10), .val (.int aa), .val (.int bb), .val (.int fr), .val (.int en), .val (.int rr)] [(.int rr), (.int fr), (.int (6 : Int32)), (.ref b_10)])) rfl (by rw [hml]; rfl) (argsL := [(.ref b_10), (.int (6 : Int32)), (.int fr), (.int rr)]) (rest := []) (lenOf pd_3 rfl) rfl (by show 2 * 0 + _ ≤ _; exact Nat.le_of_eq rfl) (hb hby at_259) (fun _ _ => ⟨rfl, e_44, (by decide : 1 + 0 ≤ _), (by decide : 8 + 0 ≤ _)⟩)
                    dsimp only [Pt.U, Pt.locs, Pt.cells, Pt.slots, Nat.add_zero] at X_45 l_45 y_45 z_45 st_45 hQ_45
                    subst y_45 z_45
                    obtain ⟨Nq_45, e_45, c6, rfl, hc6⟩ := hQ_45
                    replace Nf := own_frEq l_45 (Fr.app Nf Nq_45)
                    clear l_45
                    refine Win.go st_45 ?_
                    clear st_45 Nq_45 X_44 e_44
                    show Win p.tables e below _ (T_45.setTop (mkF m 262 #[.val (.long q0), .second, .val (.int p1), .val (.int p2), .val (.int p3), .val (.ref b_10), .val (.int aa), .val (.int bb), .val (.int fr), .val (.int en), .val (.int rr)] [(.int c6)]))
                    by_cases hc262 : (c6).toInt = (0 : Int)
                    · skip
                      refine s_ifYes (pc' := 283) X_45.here hx (hb hby at_262) ((if0 _ _).trans (teqI (x := c6) (y := (0 : Int32)) hc262).1) (by decide) (by decide) ?_
                      refine s_iconst (pc' := 284) (z := (0 : Int32)) X_45.here hx (hb hby at_283) rfl rfl ?_
                      exfalso
                      exact own_clr hz4 hc6 hc262
                    · skip
                      refine s_ifNo (pc' := 265) X_45.here hx (hb hby at_262) rfl ((if0 _ _).trans (feqI (x := c6) (y := (0 : Int32)) hc262).1) ?_
                      clear hc262 hc6
                      refine s_aload (pc' := 267) X_45.here hx (hb hby at_265) rfl rfl rfl ?_
                      refine s_bipush (pc' := 269) (z := (7 : Int32)) X_45.here hx (hb hby at_267) rfl rfl ?_
                      refine s_iload (pc' := 271) X_45.here hx (hb hby at_269) rfl rfl ?_
                      refine s_iload (pc' := 273) X_45.here hx (hb hby at_271) rfl rfl ?_
                      obtain ⟨_, _, ⟨T_46, L_46, k_46, n_46⟩, -, X_46, ⟨Lc_46, hQ_46, l_46, y_46, z_46⟩, st_46⟩ := Jvm.LawKit.callS X_45 hx (y := (⟨"com/example/renkei/renkei/Iso2022WalkFirstEscPinLaw", "clear", "([BIII)Z"⟩ : MethodName)) hown (mvT hZ (hw _ (List.mem_of_getElem? (i := 17) rfl))) (mvT hZ (hw _ (List.mem_of_getElem? (i := 18) rfl))) (mvT hZ (hw _ (List.mem_of_getElem? (i := 3) rfl))) (mvT hZ (hw _ (List.mem_of_getElem? (i := 19) rfl))) (by decide) (backOf (W := 0) (rm5_7 l Z a0 hw [] b_10 fr rr f h_26 n0 Zs A_b_10) hZ (hw _ (List.mem_of_getElem? (i := 19) rfl)) (hw _ (List.mem_of_getElem? (i := 3) rfl)) (by decide) (by decide)) (g := (mkF m 273 #[.val (.long q0), .second, .val (.int p1), .val (.int p2), .val (.int p3), .val (.ref b_10), .val (.int aa), .val (.int bb), .val (.int fr), .val (.int en), .val (.int rr)] [(.int rr), (.int fr), (.int (7 : Int32)), (.ref b_10)])) rfl (by rw [hml]; rfl) (argsL := [(.ref b_10), (.int (7 : Int32)), (.int fr), (.int rr)]) (rest := []) (lenOf pd_3 rfl) rfl (by show 2 * 0 + _ ≤ _; exact Nat.le_of_eq rfl) (hb hby at_273) (fun _ _ => ⟨rfl, e_45, (by decide : 1 + 0 ≤ _), (by decide : 8 + 0 ≤ _)⟩)
                      dsimp only [Pt.U, Pt.locs, Pt.cells, Pt.slots, Nat.add_zero] at X_46 l_46 y_46 z_46 st_46 hQ_46
                      subst y_46 z_46
                      obtain ⟨Nq_46, e_46, c7, rfl, hc7⟩ := hQ_46
                      replace Nf := own_frEq l_46 (Fr.app Nf Nq_46)
                      clear l_46
                      refine Win.go st_46 ?_
                      clear st_46 Nq_46 X_45 e_45
                      show Win p.tables e below _ (T_46.setTop (mkF m 276 #[.val (.long q0), .second, .val (.int p1), .val (.int p2), .val (.int p3), .val (.ref b_10), .val (.int aa), .val (.int bb), .val (.int fr), .val (.int en), .val (.int rr)] [(.int c7)]))
                      by_cases hc276 : (c7).toInt = (0 : Int)
                      · skip
                        refine s_ifYes (pc' := 283) X_46.here hx (hb hby at_276) ((if0 _ _).trans (teqI (x := c7) (y := (0 : Int32)) hc276).1) (by decide) (by decide) ?_
                        refine s_iconst (pc' := 284) (z := (0 : Int32)) X_46.here hx (hb hby at_283) rfl rfl ?_
                        exfalso
                        exact own_clr hz4 hc7 hc276
                      · skip
                        refine s_ifNo (pc' := 279) X_46.here hx (hb hby at_276) rfl ((if0 _ _).trans (feqI (x := c7) (y := (0 : Int32)) hc276).1) ?_
                        refine s_iconst (pc' := 280) (z := (1 : Int32)) X_46.here hx (hb hby at_279) rfl rfl ?_
                        refine s_goto (pc' := 284) X_46.here hx (hb hby at_280) (by decide) (by decide) ?_
                        refine winN X_46 hx hlk e_46 (t := .boolean) Bd.returns (by simp) (hb hby at_284) (by decide) (by decide) (z' := 1) rfl ⟨Nf, rfl⟩
set_option maxRecDepth 65536 in
set_option maxHeartbeats 40000000 in
theorem comes_1 {Post : Tables → Env → Array Value → State → Outcome → State → Prop} (hpost : ∀ tb e args s v u, (limb_1_1.after args s (.returned v) u = true ∧ limb_1_2.after args s (.returned v) u = true ∧ True) → FrameEnd s (.returned v) u (Jvm.fieldLocs frame_1_writes args s ++ Jvm.arrayLocs frame_1_arrays args s ++ Jvm.staticLocs frame_1_statics s) 16 128 → Post tb e args s (.returned v) u) :
    ArmFor flags0 classFile x code maxLocals ret World_1 tables_1 room_1 Calls_1 rest_1 Pre_1 Post := by
  intro l hfl _ _ p e ha hc hk s m args below hf hA hF happ hP
  obtain ⟨hcalls, hrest, hpre⟩ := hP
  obtain ⟨-, -, -, hnamed, -, -, -, hat⟩ := (Spec.applies_iff hf).mp happ
  obtain ⟨hg, hn⟩ := and_e (Cond.before_iff.mp (show (Jvm.Cond.and given_1 narrow_1).before args s = true from hpre))
  obtain ⟨g1, g2⟩ := and_e hg
  obtain ⟨g3, g4⟩ := and_e g2
  obtain ⟨g5, g6⟩ := and_e g4
  obtain ⟨g7, g8⟩ := and_e g6
  obtain ⟨w0, w1, w2, w3, rfl⟩ : ∃ w0 w1 w2 w3 : Value, args = #[w0, w1, w2, w3] := by
    have hs : args.size = 4 := by simpa [Cond.value, given_1] using g1
    obtain ⟨L⟩ := args
    match L, hs with
    | [w0, w1, w2, w3], _ => exact ⟨w0, w1, w2, w3, rfl⟩
  have hw := fun d (hd : d ∈ tables_1) => atoms_spec (ws := Jvm.Cond.code x code maxLocals ret :: tables_1) hat d (List.mem_cons_of_mem _ hd)
  have hfit : Fit s := fun {y c} hc i hi => by
    obtain ⟨ha, rfl⟩ := Array.getElem?_eq_some_iff.mp hc
    have q := List.all_eq_true.mp ((Array.all_eq_true_iff_forall_mem.mp hF) _ (Array.getElem_mem ha)) i (List.mem_range.mpr hi)
    simpa [Array.getElem?_eq_getElem hi] using q
  obtain ⟨i0, ei0⟩ := isL_v g3
  obtain rfl : w0 = (.long i0) := Option.some.inj ei0
  obtain ⟨i1, ei1⟩ := is_v g5
  obtain rfl : w1 = (.int i1) := Option.some.inj ei1
  obtain ⟨i2, ei2⟩ := is_v g7
  obtain rfl : w2 = (.int i2) := Option.some.inj ei2
  obtain ⟨i3, ei3⟩ := is_v g8
  obtain rfl : w3 = (.int i3) := Option.some.inj ei3
  obtain ⟨n, o, h1, h2, h3, _, L, rfl, ⟨N, rfl⟩, hq⟩ := rm0 l s _ hw tables_1 i0 i1 i2 i3 s.heap s.heap.size (Nat.le_refl _) p e ha hc hk s m _ below hf ((Spec.applies_iff_loose hf).mp happ).1 ⟨rfl, State.Warmed39.refl s, rfl⟩ trivial
  refine ⟨n, _, h1, h2, h3, hpost _ _ _ _ _ _ ⟨Cond.after_iff.mpr rfl, Cond.after_iff.mpr (eq_i res_at (Term.int_eval (1)) rfl), trivial⟩ ⟨hq.1, hq.2.1, (hq.2.2.sift fun y hy => Or.inr (N y hy)).mono (by decide) (by decide)⟩⟩
theorem main_1_1 : Claimed_1_1 := comes_1 fun _ _ _ _ _ _ h hF => ⟨h.1, hF⟩
theorem main_1_2 : Claimed_1_2 := comes_1 fun _ _ _ _ _ _ h hF => ⟨h.2.1, hF⟩
end Jvm.Pilot.@@N@@
namespace Jvm.Pilot.@@N@@
open Jvm Jvm.ClassFile Sem Op Lib Jvm.Free Jvm.Stand Jvm.Pilot.@@N@@.Jvm.D
/-! MADE BY PROGRAM (witnessworld.py) out of the Statement's table words and the real class files: 10 classes; the members and pool entries that the words name. The judged class is class 1, her method 1. -/
namespace start1
open Jvm.ClassFile
def u (s : String) : CpInfo := .utf8 (stringToUtf16 s)
/-- a pool by its gaps: so many unusable entries, then the entry; so many at the end -/
def gap : Nat → List CpInfo → List CpInfo
  | 0, r => r
  | n + 1, r => .unusable :: gap n r
def poolList (es : List (Nat × CpInfo)) (last : Nat) : List CpInfo := es.foldr (fun e r => gap e.1 (e.2 :: r)) (gap last [])
def pool (es : List (Nat × CpInfo)) (last : Nat) : Array CpInfo := ⟨poolList es last⟩
def fileOf (pool : Array CpInfo) (this : Nat) (attrs : Array Attribute := #[]) (ms : Array MethodInfo := #[]) (fl : Nat := 33) (sup : Nat := 0) (ifs : Array Nat := #[]) (fds : Array FieldInfo := #[]) : ClassFile where
  minorVersion := 0
  majorVersion := 65
  constantPool := pool
  accessFlags := fl
  thisClass := this
  superClass := sup
  interfaces := ifs
  fields := fds
  methods := ms
  attributes := attrs
def plain (name : String) (sup : Option ClassId) : Class where
  name := name
  kind := .ordinary
  loader := none
  accessFlags := 33
  super := sup
  interfaces := #[]
  cf := none
  fields := #[]
  methods := #[]
  instanceTypes := #[]
  staticTypes := #[]
  resolved := #[]
  callSites := []
  init := .initialized
  statics := none
  mirror := none

def pool0 : Array CpInfo := pool [(5, u "<init>"), (0, u "()V"), (1, .class_ 10), (1, u "java/lang/Object")] 113

def k0m0 : Method := { name := "<init>", desc := "()V", sig := { parameters := [], returnType := none }, accessFlags := 1, code := none }
/-- java/lang/Object -/
def k0 : Class := { plain "java/lang/Object" none with
  accessFlags := 33
  interfaces := #[]
  cf := some (fileOf pool0 8 #[] #[{ accessFlags := 1, nameIndex := 5, descriptorIndex := 6, attributes := #[] }] 33 0 #[] #[])
  fields := #[]
  methods := #[k0m0]
  instanceTypes := #[]
  staticTypes := #[]
  resolved := Array.replicate 124 none
  statics := none }

def pool1 : Array CpInfo := pool [(2, .class_ 4), (1, u "java/lang/Object"), (0, u "<init>"), (0, u "()V"), (0, .methodref 8 9), (0, .class_ 10), (0, .nameAndType 11 12), (0, u "com/example/renkei/renkei/Iso2022WalkFirstEscPinLaw"), (0, u "pick"), (0, u "(JII)B"), (0, .integer 2147483647), (0, .methodref 15 16), (0, .class_ 17), (0, .nameAndType 18 19), (0, u "java/lang/Math"), (0, u "min"), (0, u "(II)I"), (0, .methodref 15 21), (0, .nameAndType 22 19), (0, u "max"), (0, .methodref 24 25), (0, .class_ 26), (0, .nameAndType 27 28), (0, u "com/example/renkei/renkei/Iso2022Walk"), (0, u "firstEsc"), (0, u "([BII)I"), (0, .methodref 8 30), (0, .nameAndType 31 32), (0, u "clear"), (0, u "([BIII)Z"), (2, u "law"), (0, u "(JIII)Z")] 5

def k1m0 : Method := { name := "<init>", desc := "()V", sig := { parameters := [], returnType := none }, accessFlags := 1, code := none }
def k1c1 : Code := { maxStack := 6, maxLocals := 11, code := code, exceptionTable := #[], attributes := #[] }
def k1m1 : Method := { name := "law", desc := "(JIII)Z", sig := { parameters := [.long, .int, .int, .int], returnType := some .boolean }, accessFlags := 9, code := some k1c1 }
def k1c2 : Code := { maxStack := 4, maxLocals := 4, code := method_3_code, exceptionTable := #[], attributes := #[] }
def k1m2 : Method := { name := "pick", desc := "(JII)B", sig := { parameters := [.long, .int, .int], returnType := some .byte }, accessFlags := 10, code := some k1c2 }
def k1c3 : Code := { maxStack := 2, maxLocals := 4, code := method_4_code, exceptionTable := #[], attributes := #[] }
def k1m3 : Method := { name := "clear", desc := "([BIII)Z", sig := { parameters := [(.array .byte), .int, .int, .int], returnType := some .boolean }, accessFlags := 10, code := some k1c3 }
/-- com/example/renkei/renkei/Iso2022WalkFirstEscPinLaw -/
def k1 : Class := { plain "com/example/renkei/renkei/Iso2022WalkFirstEscPinLaw" (some 0) with
  accessFlags := 49
  interfaces := #[]
  cf := some (fileOf pool1 8 #[] #[{ accessFlags := 1, nameIndex := 5, descriptorIndex := 6, attributes := #[] }, { accessFlags := 9, nameIndex := 35, descriptorIndex := 36, attributes := #[] }, { accessFlags := 10, nameIndex := 11, descriptorIndex := 12, attributes := #[] }, { accessFlags := 10, nameIndex := 31, descriptorIndex := 32, attributes := #[] }] 49 2 #[] #[])
  fields := #[]
  methods := #[k1m0, k1m1, k1m2, k1m3]
  instanceTypes := #[]
  staticTypes := #[]
  resolved := Array.replicate 42 none
  statics := none }

def pool2 : Array CpInfo := pool [(1, .class_ 2), (0, u "java/lang/Math"), (1, .class_ 6), (1, u "java/lang/Object"), (0, u "<init>"), (0, u "()V"), (89, .class_ 100), (1, u "java/lang/Math$RandomNumberGeneratorHolder"), (71, u "negativeZeroFloatBits"), (0, u "J"), (2, u "negativeZeroDoubleBits"), (21, u "max"), (2, u "min"), (43, u "$assertionsDisabled"), (0, u "Z"), (88, u "(II)I"), (2, u "twoToTheDoubleScaleDown"), (0, u "D"), (4, u "twoToTheDoubleScaleUp"), (9, u "E"), (3, u "PI"), (2, u "TAU"), (2, u "DEGREES_TO_RADIANS"), (0, u "RADIANS_TO_DEGREES")] 94

def k2m0 : Method := { name := "<init>", desc := "()V", sig := { parameters := [], returnType := none }, accessFlags := 2, code := none }
def k2c1 : Code := { maxStack := 2, maxLocals := 2, code := jdk_29_method_65_code, exceptionTable := #[], attributes := #[] }
def k2m1 : Method := { name := "max", desc := "(II)I", sig := { parameters := [.int, .int], returnType := some .int }, accessFlags := 9, code := some k2c1 }
def k2c2 : Code := { maxStack := 2, maxLocals := 2, code := jdk_29_method_69_code, exceptionTable := #[], attributes := #[] }
def k2m2 : Method := { name := "min", desc := "(II)I", sig := { parameters := [.int, .int], returnType := some .int }, accessFlags := 9, code := some k2c2 }
/-- java/lang/Math -/
def k2 : Class := { plain "java/lang/Math" (some 0) with
  accessFlags := 49
  interfaces := #[]
  cf := some (fileOf pool2 1 #[.nestMembers #[98]] #[{ accessFlags := 2, nameIndex := 7, descriptorIndex := 8, attributes := #[] }, { accessFlags := 9, nameIndex := 198, descriptorIndex := 335, attributes := #[] }, { accessFlags := 9, nameIndex := 201, descriptorIndex := 335, attributes := #[] }] 49 4 #[] #[{ accessFlags := 25, nameIndex := 354, descriptorIndex := 339, attributes := #[] }, { accessFlags := 25, nameIndex := 358, descriptorIndex := 339, attributes := #[] }, { accessFlags := 25, nameIndex := 361, descriptorIndex := 339, attributes := #[] }, { accessFlags := 26, nameIndex := 364, descriptorIndex := 339, attributes := #[] }, { accessFlags := 26, nameIndex := 365, descriptorIndex := 339, attributes := #[] }, { accessFlags := 26, nameIndex := 172, descriptorIndex := 173, attributes := #[] }, { accessFlags := 26, nameIndex := 176, descriptorIndex := 173, attributes := #[] }, { accessFlags := 8, nameIndex := 344, descriptorIndex := 339, attributes := #[] }, { accessFlags := 8, nameIndex := 338, descriptorIndex := 339, attributes := #[] }, { accessFlags := 4120, nameIndex := 245, descriptorIndex := 246, attributes := #[] }])
  fields := #[{ name := "E", type := .double, accessFlags := 25, slot := 0, constantValue := 0 }, { name := "PI", type := .double, accessFlags := 25, slot := 1, constantValue := 0 }, { name := "TAU", type := .double, accessFlags := 25, slot := 2, constantValue := 0 }, { name := "DEGREES_TO_RADIANS", type := .double, accessFlags := 26, slot := 3, constantValue := 0 }, { name := "RADIANS_TO_DEGREES", type := .double, accessFlags := 26, slot := 4, constantValue := 0 }, { name := "negativeZeroFloatBits", type := .long, accessFlags := 26, slot := 5, constantValue := 0 }, { name := "negativeZeroDoubleBits", type := .long, accessFlags := 26, slot := 6, constantValue := 0 }, { name := "twoToTheDoubleScaleUp", type := .double, accessFlags := 8, slot := 7, constantValue := 0 }, { name := "twoToTheDoubleScaleDown", type := .double, accessFlags := 8, slot := 8, constantValue := 0 }, { name := "$assertionsDisabled", type := .boolean, accessFlags := 4120, slot := 9, constantValue := 0 }]
  methods := #[k2m0, k2m1, k2m2]
  instanceTypes := #[]
  staticTypes := #[.double, .double, .double, .double, .double, .long, .long, .double, .double, .boolean]
  resolved := Array.replicate 460 none
  statics := none }

def pool3 : Array CpInfo := pool [(2, .class_ 4), (1, u "java/lang/Object"), (3, .class_ 10), (1, u "com/example/renkei/renkei/Iso2022Walk"), (0, u "at"), (0, u "I"), (2, u "textStart"), (1, .class_ 19), (1, u "com/example/renkei/renkei/Iso2022Walk$Run"), (1, u "Lcom/example/renkei/renkei/Iso2022Walk$Run;"), (2, u "run"), (2, u "unfollowed"), (2, u "bytes"), (0, u "[B"), (2, u "next"), (2, u "end"), (6, u "switchedInto"), (17, u "firstEsc"), (0, u "([BII)I"), (7, u "ESC"), (42, u "TO_SINGLE_BYTES"), (0, u "B"), (2, u "SPELLED_INTERMEDIATES")] 37

def k3c0 : Code := { maxStack := 2, maxLocals := 4, code := prog_36_method_5_code, exceptionTable := #[], attributes := #[] }
def k3m0 : Method := { name := "firstEsc", desc := "([BII)I", sig := { parameters := [(.array .byte), .int, .int], returnType := some .int }, accessFlags := 8, code := some k3c0 }
/-- com/example/renkei/renkei/Iso2022Walk -/
def k3 : Class := { plain "com/example/renkei/renkei/Iso2022Walk" (some 0) with
  accessFlags := 48
  interfaces := #[]
  cf := some (fileOf pool3 8 #[.nestMembers #[17]] #[{ accessFlags := 8, nameIndex := 62, descriptorIndex := 63, attributes := #[] }] 48 2 #[] #[{ accessFlags := 24, nameIndex := 71, descriptorIndex := 115, attributes := #[] }, { accessFlags := 24, nameIndex := 114, descriptorIndex := 31, attributes := #[] }, { accessFlags := 26, nameIndex := 118, descriptorIndex := 12, attributes := #[] }, { accessFlags := 18, nameIndex := 30, descriptorIndex := 31, attributes := #[] }, { accessFlags := 18, nameIndex := 37, descriptorIndex := 12, attributes := #[] }, { accessFlags := 2, nameIndex := 34, descriptorIndex := 12, attributes := #[] }, { accessFlags := 2, nameIndex := 11, descriptorIndex := 12, attributes := #[] }, { accessFlags := 2, nameIndex := 15, descriptorIndex := 12, attributes := #[] }, { accessFlags := 2, nameIndex := 24, descriptorIndex := 21, attributes := #[] }, { accessFlags := 2, nameIndex := 44, descriptorIndex := 12, attributes := #[] }, { accessFlags := 2, nameIndex := 27, descriptorIndex := 12, attributes := #[] }])
  fields := #[{ name := "ESC", type := .byte, accessFlags := 24, slot := 0, constantValue := 0 }, { name := "TO_SINGLE_BYTES", type := (.array .byte), accessFlags := 24, slot := 1, constantValue := 0 }, { name := "SPELLED_INTERMEDIATES", type := .int, accessFlags := 26, slot := 2, constantValue := 0 }, { name := "bytes", type := (.array .byte), accessFlags := 18, slot := 0, constantValue := 0 }, { name := "end", type := .int, accessFlags := 18, slot := 1, constantValue := 0 }, { name := "next", type := .int, accessFlags := 2, slot := 2, constantValue := 0 }, { name := "at", type := .int, accessFlags := 2, slot := 3, constantValue := 0 }, { name := "textStart", type := .int, accessFlags := 2, slot := 4, constantValue := 0 }, { name := "run", type := (.object "com/example/renkei/renkei/Iso2022Walk$Run"), accessFlags := 2, slot := 5, constantValue := 0 }, { name := "switchedInto", type := .int, accessFlags := 2, slot := 6, constantValue := 0 }, { name := "unfollowed", type := .int, accessFlags := 2, slot := 7, constantValue := 0 }]
  methods := #[k3m0]
  instanceTypes := #[(.array .byte), .int, .int, .int, .int, (.object "com/example/renkei/renkei/Iso2022Walk$Run"), .int, .int]
  staticTypes := #[.byte, (.array .byte), .int]
  resolved := Array.replicate 156 none
  statics := none }

def pool4 : Array CpInfo := pool [(1, u "java/lang/Cloneable"), (0, .class_ 1), (0, u "java/lang/Object"), (0, .class_ 3)] 3

/-- java/lang/Cloneable -/
def k4 : Class := { plain "java/lang/Cloneable" (some 0) with
  accessFlags := 1537
  interfaces := #[]
  cf := some (fileOf pool4 2 #[] #[] 1537 4 #[] #[])
  fields := #[]
  methods := #[]
  instanceTypes := #[]
  staticTypes := #[]
  resolved := Array.replicate 8 none
  statics := none }

def pool5 : Array CpInfo := pool [(1, u "java/io/Serializable"), (0, .class_ 1), (0, u "java/lang/Object"), (0, .class_ 3)] 3

/-- java/io/Serializable -/
def k5 : Class := { plain "java/io/Serializable" (some 0) with
  accessFlags := 1537
  interfaces := #[]
  cf := some (fileOf pool5 2 #[] #[] 1537 4 #[] #[])
  fields := #[]
  methods := #[]
  instanceTypes := #[]
  staticTypes := #[]
  resolved := Array.replicate 8 none
  statics := none }

/-- the primitive byte -/
def k6 : Class := { plain "byte" none with kind := .primitive 'B', accessFlags := 0x411 }
/-- [B -/
def k7 : Class := { plain "[B" (some 0) with kind := .array 6 .byte, interfaces := #[4, 5], accessFlags := 1041 }

/-- the primitive int -/
def k8 : Class := { plain "int" none with kind := .primitive 'I', accessFlags := 0x411 }
/-- [I -/
def k9 : Class := { plain "[I" (some 0) with kind := .array 8 .int, interfaces := #[4, 5], accessFlags := 1041 }

def heap : Heap := #[]
def classes : Array Class := #[k0, k1, k2, k3, k4, k5, k6, k7, k8, k9]
def interned : List (Array UInt16 × Addr) := []
def slotsUsed : Nat := 0
def theMethod : MethodId := ⟨1, 1⟩
def args0 : Array Value := #[.long 5, .int 5, .int 5, .int 5]
def aboutOver (below : List Frame) : State where
  vm := { classes := classes, interned := interned.toArray }
  heap := heap
  slotsUsed := slotsUsed
  threads := #[{ frames := .invoking theMethod args0 :: below }]
def below0 : List Frame := [.native { method := ⟨0, 0⟩, args := #[] }]
def about1 : State := aboutOver below0
def p0 : Program := .bare "" "" ""
def e0 : Env := launch0.env 0 0 0
theorem w_frames : about1.frames = Frame.invoking theMethod args0 :: below0 := rfl
set_option maxRecDepth 65536 in
theorem w_args : argsFit about1.vm theMethod args0 = true := by decide +kernel
set_option maxRecDepth 65536 in
theorem w_heap : heapFits about1 = true := by decide +kernel
set_option maxRecDepth 65536 in
theorem w_runnable : about1.curStatus? = some .runnable := by decide +kernel
set_option maxRecDepth 65536 in
theorem w_alone : about1.alone = true := by decide +kernel
set_option maxRecDepth 65536 in
theorem w_named : about1.methodNamed? x = some theMethod := by decide +kernel
set_option maxRecDepth 65536 in
theorem w_hears : about1.hears theMethod below0 = true := by decide +kernel
set_option maxRecDepth 65536 in
theorem w_ripe : about1.ripe theMethod args0 below0 = true := by decide +kernel
theorem w_running : about1.status = .running := rfl
set_option maxRecDepth 65536 in
theorem w_room : about1.hasRoom e0.platform room_1 = true :=
  launch0.hasRoom_least _ room_1 (by decide +kernel) (by decide +kernel) (by decide +kernel) (by decide +kernel) (by decide +kernel) (by decide +kernel)
theorem allAtoms_all (ts : List Jvm.Cond) (a : Array Jvm.Value) (st : Jvm.State) : (allAtoms ts).before a st = ts.all (fun c => c.before a st) := by
  induction ts with
  | nil => rfl
  | cons c t ih =>
    show (Jvm.Cond.and c (allAtoms t)).before a st = _
    rw [Jvm.Cond.before_and, ih, List.all_cons]
def words1 : List Jvm.Cond := Jvm.Cond.code x code maxLocals ret :: tables_1
/-- a 'code' word, met by the world's own term for the bytes: nothing is compared byte by byte -/
theorem code_word {y : MethodName} {bytes : ByteArray} {mx : Nat} {rt : Option FieldType} {a : Array Value} {s : State} {m : MethodId} {meth : Method} {c : Code} (h1 : s.methodNamed? y = some m) (h2 : s.vm.method? m = some meth) (h3 : meth.code = some c) (h4 : c.code = bytes)
    (h5 : (c.maxLocals == mx && c.exceptionTable.isEmpty && decide (c.maxStack ≤ mostOperands) && decide (meth.sig.returnType = rt) && !meth.locks && decide (parseMethodDescriptor y.desc = some meth.sig)) = true) : (Jvm.Cond.code y bytes mx rt).before a s = true := by
  simp only [Bool.and_eq_true, beq_iff_eq, Bool.not_eq_true', decide_eq_true_eq] at h5
  obtain ⟨⟨⟨⟨⟨g1, g2⟩, g3⟩, g4⟩, g5⟩, g6⟩ := h5
  simp [Cond.before, Cond.holds, Cond.value, h1, h2, h3, h4, g1, g2, g3, g4, g5, g6]
def isCode : Jvm.Cond → Bool
  | .code _ _ _ _ => true
  | _ => false
theorem all_split {L : List Jvm.Cond} {P : Jvm.Cond → Bool} (h1 : L.all (fun c => isCode c || P c) = true) (h2 : ∀ c ∈ L.filter isCode, P c = true) : L.all P = true := by
  refine List.all_eq_true.mpr fun c hc => ?_
  have h := List.all_eq_true.mp h1 c hc
  rcases Bool.eq_false_or_eq_true (isCode c) with hi | hi
  · exact h2 c (List.mem_filter.mpr ⟨hc, hi⟩)
  · simpa [hi] using h
set_option maxRecDepth 65536 in
theorem w_c0 : (Jvm.Cond.code x code maxLocals ret).before args0 about1 = true := code_word (m := ⟨1, 1⟩) (meth := k1m1) (c := k1c1) (by decide +kernel) rfl rfl rfl (by decide +kernel)
set_option maxRecDepth 65536 in
theorem w_c1 : (Jvm.Cond.code ({ cls := "com/example/renkei/renkei/Iso2022WalkFirstEscPinLaw", name := "pick", desc := "(JII)B" } : Jvm.MethodName) method_3_code (4 : Nat) (Option.some Jvm.ClassFile.FieldType.byte)).before args0 about1 = true := code_word (m := ⟨1, 2⟩) (meth := k1m2) (c := k1c2) (by decide +kernel) rfl rfl rfl (by decide +kernel)
set_option maxRecDepth 65536 in
theorem w_c2 : (Jvm.Cond.code ({ cls := "java/lang/Math", name := "min", desc := "(II)I" } : Jvm.MethodName) jdk_29_method_69_code (2 : Nat) (Option.some Jvm.ClassFile.FieldType.int)).before args0 about1 = true := code_word (m := ⟨2, 2⟩) (meth := k2m2) (c := k2c2) (by decide +kernel) rfl rfl rfl (by decide +kernel)
set_option maxRecDepth 65536 in
theorem w_c3 : (Jvm.Cond.code ({ cls := "java/lang/Math", name := "max", desc := "(II)I" } : Jvm.MethodName) jdk_29_method_65_code (2 : Nat) (Option.some Jvm.ClassFile.FieldType.int)).before args0 about1 = true := code_word (m := ⟨2, 1⟩) (meth := k2m1) (c := k2c1) (by decide +kernel) rfl rfl rfl (by decide +kernel)
set_option maxRecDepth 65536 in
theorem w_c4 : (Jvm.Cond.code ({ cls := "com/example/renkei/renkei/Iso2022Walk", name := "firstEsc", desc := "([BII)I" } : Jvm.MethodName) prog_36_method_5_code (4 : Nat) (Option.some Jvm.ClassFile.FieldType.int)).before args0 about1 = true := code_word (m := ⟨3, 0⟩) (meth := k3m0) (c := k3c0) (by decide +kernel) rfl rfl rfl (by decide +kernel)
set_option maxRecDepth 65536 in
theorem w_c5 : (Jvm.Cond.code ({ cls := "com/example/renkei/renkei/Iso2022WalkFirstEscPinLaw", name := "clear", desc := "([BIII)Z" } : Jvm.MethodName) method_4_code (4 : Nat) (Option.some Jvm.ClassFile.FieldType.boolean)).before args0 about1 = true := code_word (m := ⟨1, 3⟩) (meth := k1m3) (c := k1c3) (by decide +kernel) rfl rfl rfl (by decide +kernel)
def codes1 : List Jvm.Cond := [Jvm.Cond.code x code maxLocals ret, Jvm.Cond.code ({ cls := "com/example/renkei/renkei/Iso2022WalkFirstEscPinLaw", name := "pick", desc := "(JII)B" } : Jvm.MethodName) method_3_code (4 : Nat) (Option.some Jvm.ClassFile.FieldType.byte), Jvm.Cond.code ({ cls := "java/lang/Math", name := "min", desc := "(II)I" } : Jvm.MethodName) jdk_29_method_69_code (2 : Nat) (Option.some Jvm.ClassFile.FieldType.int), Jvm.Cond.code ({ cls := "java/lang/Math", name := "max", desc := "(II)I" } : Jvm.MethodName) jdk_29_method_65_code (2 : Nat) (Option.some Jvm.ClassFile.FieldType.int), Jvm.Cond.code ({ cls := "com/example/renkei/renkei/Iso2022Walk", name := "firstEsc", desc := "([BII)I" } : Jvm.MethodName) prog_36_method_5_code (4 : Nat) (Option.some Jvm.ClassFile.FieldType.int), Jvm.Cond.code ({ cls := "com/example/renkei/renkei/Iso2022WalkFirstEscPinLaw", name := "clear", desc := "([BIII)Z" } : Jvm.MethodName) method_4_code (4 : Nat) (Option.some Jvm.ClassFile.FieldType.boolean)]
set_option maxRecDepth 65536 in
theorem codes_eq : words1.filter isCode = codes1 := rfl
theorem w_codes : ∀ c ∈ words1.filter isCode, c.before args0 about1 = true := by
  rw [codes_eq]
  intro c hc
  simp only [codes1, List.mem_cons, List.not_mem_nil, or_false] at hc
  rcases hc with rfl | rfl | rfl | rfl | rfl | rfl
  · exact w_c0
  · exact w_c1
  · exact w_c2
  · exact w_c3
  · exact w_c4
  · exact w_c5
set_option maxRecDepth 65536 in
theorem w_t1 : words1.all (fun c => isCode c || c.before args0 about1) = true := by decide +kernel
theorem w_tables : (allAtoms (Jvm.Cond.code x code maxLocals ret :: tables_1)).before args0 about1 = true := by
  rw [allAtoms_all]
  show words1.all (fun c => c.before args0 about1) = true
  refine all_split ?_ w_codes
  rw [w_t1]
set_option maxRecDepth 65536 in
theorem w_case : (Jvm.Cond.and given_1 narrow_1).before args0 about1 = true := by decide +kernel
theorem w_applies : (headSpec (Jvm.Cond.code x code maxLocals ret :: tables_1) room_1).applies x e0.platform about1 = true :=
  (Spec.applies_iff w_frames).mpr ⟨w_running, w_runnable, w_alone, w_named, w_hears, w_ripe, w_room, w_tables⟩
theorem atStart : AtStart classFile x code maxLocals ret World_1 tables_1 room_1 Calls_1 rest_1 Pre_1 launch0 p0 e0 about1 theMethod args0 below0 :=
  ⟨lists_1, trivial, launch0.admits_env _ _ _, launch0.least_env, fairChoices_fair.cas, fairChoices_fair.clock, w_frames, w_args, w_heap, w_applies, trivial, trivial, w_case⟩
end start1
theorem witness_1 : WitnessClaimed_1 := ⟨start1.p0, start1.e0, start1.about1, start1.theMethod, start1.args0, start1.below0, start1.atStart⟩
end Jvm.Pilot.@@N@@
